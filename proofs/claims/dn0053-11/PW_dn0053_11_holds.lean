import PyProof.Rows.All
import Wide.All
import OpenK.AllK
import Wide.FinOn
import PySem.Challenge.RW_dn0053_11
set_option Elab.async false
set_option maxRecDepth 100000
set_option linter.all false
set_option genInjectivity false
set_option genSizeOf false
set_option maxHeartbeats 16000000
open PySem PySem.W PyProof.Rows
namespace Mine
noncomputable section
open _root_.PySem renaming wpAny_bind→ab,wpAny_pure→ah,Value→aq,Addr→ay,starEach→aE,wpAny→aJ,wpAny_holding→aK,keywordEach→aO,Shared→aU,Around→bg,backToKw→bj,model→bD,wpAny_standAt→bT,backTo→b6,mainGlobals→cm,wpAny_mono→cw,compEnvC→cI,foldedSetIterable→dg,builtinsNs→dU,attributeBase→dW,Builtin→ey,wpAny_load→eU,wpAny_newObj_type→eX,wpAny_assign_Name→eY,builtinLookup_eq_fast→fj,wpAny_of_eq→fD,callWith→fJ,Stmt→fK,rawInt→gj,closureFor→gm,Keyword→g0,wpAny_call_entry→g9,intKind→hJ,wpAny_truthy_bool→hZ,swapsWith→iw,operate→ix,wpAny_loadPart→iW,recursionLimit→iX,methodCallForm→i8,wpAny_specialOf→jr,typeLookup_type→jA,wpAny_newFunctionEnv→jB,wpAny_call→jP,letTemporaryGo→j8,isSubtype_type→j9,entryFor_of_tree→ki,assign→kG,wpAny_newList→lg,Comprehension→lj,wpAny_isTrue_Compare1→lP,getAttr→lR,subscripted→lV,checkBoundCall→lW,call_meets→lX,wpAny_isInstance→lY,Arguments→mA,execs→mX,getAttrByItsOwn→mZ,codeAny_of_tree→m6,codeAny_builtin→m7,wpAny_field→m9,compareOp→nc,wpAny_newTuple→n4,wpAny_mkText→n5,typeOf→n6,Flow→oP,codeAny_call_function→oR,typeLookup→oU,codeAmong→oV,methodCallPos→pC,behindInMarks→pD,assignInOrder→pE,wpAny_execs_nil→qq,nsFind→qt,letOwnedTupleGo→qu,getItem→rq,isSubtype→rv,DictEntry→sx,evalArgs→sy,World→sz,wpAny_Call_method→tN,wpAny_Assign_Name→tO,wpAny_attempt→tQ,wpAny_updatePart→tY,wpAny_execs_cons→tZ,wpAny_eqBool_int→t5,keeperOf→vo,ClassData→vt,wpAny_rule→vx,spliced→vy,argsOk→vz,is_none→wW,entryFor→w7,cLine→w8,FuncData→xb,codeAny→xd,cellsFrom→xe,ks_wpAny_isType_cls→zB,sysModules→zI,wpAny_dictEntries→zS,wpAny_Return_some→zT,loadName→Cq,codeAny_func→Cr,callAny→Cs,bindArgs→Ct,noteFrame→CJ,inplaceOp→CK,callGetattribute→CL,wpAny_nsGet→Gi,slot_list_setitem→Gl,type_list_append→Gy,setItem→GD,StrKeys→NB,wpAny_setField→NK,wpAny_seqItems→NL,wpAny_fieldsOf→NN,newTuple→NP,execs_cons→NQ,cStatics→NR,boundAndCalled→NS,aRefKeyMayBeTheNameByArray→NT,FuncBody→NY,wpAny_onRaise→N6,wpAny_comprehension_free→N7,nums_intItems→N9,arm_eval_Call→Oc,wpAny_callSpecial?_slot→Qaf,again→Qag,wpAny_typeOf→Qal,wpAny_Assign_Subscript→Qam,valueAt→Qan,pyIter→Qaq,call_meetsIn→Qav,aRefKeyMayBeTheName_eq→Qax,Fin→Qay,wpAny_letTemporaryGo→QaV,wpAny_alloc→QaW,wpAny_BinOp→QaX,table→QaY,richCompare→QaZ,readyFrames→Qa0,numAt_eq→Qa1,interactive→Qa2,builtinKind→Qa3,bindSpecial→Qa4,binaryOp→Qa5,wpAny_evalPart_some→Qbb,frameOf→Qbc,wpAny_tupleItemsOf→Qbl,wpAny_newTextTuple→Qbm,wpAny_assign_Tuple→Qbn,truthy→Qbo,methodCall→Qbq,hookBefore→Qbs,arm_eval_Attribute→Qbt,wpAny_truthy_list→Qby,wpAny_sequenceKey→Qbz,wpAny_pyIter_list→QbA,wpAny_collect_seq→QbB,evalAll→QbD,codeAny_whileLoop→QbE,Program→QbG,BindsTo→QbJ,wpAny_lookBehind→QbK,wpAny_getItem_of→QbL,wpAny_askSetting→QbM,updateCls→QbN,storeName→QbO,setSlotAt→QbQ,seqItems?→QbR,opaqueClassAbove→QbT,getAttrBy→QbU,checkBuiltinCall→QbW,TriplesOk→QbY,call→Qb0,theTreesLotGoes→Qb7,wpAny_bindName→Qcd,wpAny_Expr_any→Qce,wpAny_Compare1→Qcf,newFunctionEnv→Qck,firstArgMember→Qcm,fastBuiltinOwn→Qcn
open _root_.List renaming mem_append_right→ag,mem_append_left→ao,length_map→ar,getElem?_eq_getElem→au,getElem?_map→aA,map_cons→aB,length_append→aD,range→aF,append_assoc→aH,getD_eq_getElem?_getD→aI,lookup_cons→aP,map_append→aV,toArray→ba,perm_append_comm_assoc→bb,perm_middle→bq,map_map→bt,mem_of_getElem?→bx,length_cons→cj,nodup_cons→cG,getElem?_eq_none→dm,map_congr_left→dD,foldl_append→dE,getElem?_range→dI,find?_cons→dJ,replicate→dM,forIn_cons→ee,sum_cons→ef,size_toArray→eh,pairwise_singleton→ez,filter_cons→eD,length_filter_le→eT,append_nil→fg,mem_cons→fS,mem_of_mem_erase→gu,take_length→gM,length_pos_of_mem→iP,length→iQ,getElem?_append_right→iT,perm_append_comm→iV,flatMap_append→jC,length_take→jD,getElem_mem→jO,map_nil→jS,getElem?_set_self→jT,range_succ→kl,length_set→km,take_add_one→kI,mem_of_mem_take→lh,foldl_cons→mu,mem_cons_self→mC,filter_append→mE,nodup_nil→m8,takeWhile_append_dropWhile→ng,eraseIdx_eq_take_drop_succ→nS,length_singleton→nV,not_mem_nil→nY,any_toArray→nZ,map_take→n7,map_drop→n8,mem_erase_of_ne→n9,getElem?_set_ne→og,count_cons_self→oO,sum_append→oS,forIn_toArray→qo,getElem?_append_left→qB,lookup→rt,any_eq_true→sC,map_set→tP,find?_some→tS,filter_map→tT,forIn_nil→vv,zip_cons_cons→wZ,mem_singleton→w0,find?_isSome→xf,extract→xg,ext_getElem?→xh,map_snd_zip→zF,drop_length→zG,cons_append→zH,of_mem_zip→zM,mem_filter→zN,mem_append→zO,length_zip→zP,length_nil→zQ,take_left→CD,mem_range→CE,drop_left→CF,dropWhile→CG,perm_append_left_iff→CN,pairwise_iff_getElem→CO,mem_of_find?_eq_some→CQ,drop_eq_getElem_cons→Gg,length_erase_of_mem→Gq,head?_dropWhile_not→Gr,contains→Gs,erase_append_right→Gz,take_of_length_le→NF,sublist_cons_self→NG,find?_cons_of_pos→NH,any_map→NJ,findIdx?_toArray→NV,eq_nil_or_concat→NW,mem_cons_of_mem→NZ,forall_mem_cons→N2,filter→N3,erase_cons_head→N4,takeWhile_cons→Od,replicate_succ→Oe,zip_nil_right→Qai,ne_nil_of_mem→Qaj,findIdx?_cons→Qak,pairwise_map→Qaz,nodup_append→QaA,length_range→QaB,idxOf_append→QaC,flatMap_cons→QaD,find?_append→QaE,mem_flatMap→QaL,map_flatMap→QaM,length_drop→QaN,isEmpty_nil→QaO,flatMap_def→QaP,ext_getElem→QaQ,append_inj'→QaR,nil_append→Qa8,idxOf_cons→Qa9,map→Qbg,any_cons→Qbv,sum_nil→QbH,mem_map→QbI,drop→Qcq
open _root_.List.Mem renaming head→aC,tail→aQ
open _root_.Array renaming length_toList→aG,getD_eq_getD_getElem?→eg,getElem?_eq_getElem→gh,toList_append→lU,eraseIdxIfInBounds_eq→pB,toList_push→qD,getElem?_eq_none→tM,toList_eraseIdx→tW,toList_setIfInBounds→Cy,size_map→Cz,any_eq_false'→N5,find?_toList→Qae,toList_zip→QaH,toList_map→QaI,any_toList→QaJ,replicate→QaU
open _root_.Nat renaming le_of_ble_eq_true→aZ,le_refl→cB,zero_le→cM,zero_lt_succ→dN,lt_of_lt_of_le→dX,lt_irrefl→fZ,mul_div_le→f7,le_trans→f9,not_lt_zero→kF,ne_of_lt→lT,cast→qA,le_succ→sr,strongRecOn→tX,add_sub_cancel→w9,zero_add→zC,lt_succ_of_lt→zD,le_of_not_lt→zK,add_sub_cancel_left→ND,le_total→NU,succ_ne_zero→Qa6,lt_succ_self→Qa7,mul_add_mod→Qbe,mul_add_div→Qbf
open _root_.Bool renaming false_eq_true→bp,false_ne_true→gS,eq_iff_iff→tV,not_true→Gv,not_eq_true'→QaG,noConfusion→QaS,and_eq_true→QaT,not_false→Qbj,and_false→Qbk
open _root_.PySem.Sem renaming bind→bR,wp_bind'→QbZ
open _root_.Int renaming toNat_natCast→bY,le_refl→c9,toNat_of_nonneg→eS,add_zero→gf,le_trans→g7,one_mul→j7,le_antisymm→pz,le_of_lt→pG,ofNat→qp,neg_nonneg_of_nonpos→sA,zero_add→tU,add_assoc→w6,le_total→zE,fdiv_eq_ediv_of_nonneg→Gh,mul_assoc→GA,zero_mul→NX,sub_nonneg_of_le→Qaa,neg_mul→Qab,mul_one→Qac,mul_add→Qad,natCast_nonneg→QaF,min_eq_right→Qa',max_eq_right→Qba,min_eq_left→Qbh,max_eq_left→Qbi,mul_nonneg→Qbw,mul_zero→Qb1,mul_comm→Qb2,le_of_eq→Qb3,add_comm→Qb4,lt_succ→Qcb
open _root_.PySem.Heap.SameBut renaming update→cz
open _root_.PySem.Heap renaming get?_update_self→cF,lt_size→eu,get?_push_size→pA,get?_push_ne→ru,size_update→sD,size_push→vw,SameBut→xi,ExtBut→Qb5,nsMap→Qcc
open _root_.Option renaming bind_some→cP,map_some→jR,none_or→k9,isSome_map→mH,getD_some→Qah
open _root_.PySem.Value renaming none→cQ,ref→cV,type→nU,isInt→QbF,bool→QbX,str→Qca
open _root_.List.Perm renaming append_left→dG,refl→dH,swap→fp,cons→mw,trans→sv,symm→Of
open _root_.PySem.BindsTo renaming of_eq→dY,of_defaults→vu
open _root_.False renaming elim→eO
open _root_.Bind renaming bind→fo
open _root_.Option.some renaming inj→fx
open _root_.PySem.F renaming slot_list_append→gv,plainAttrs_list→g8,slot_list_pop→kj,slot_list_insert→lS,type_list_insert→qw,type_list_append→qx,plainAttrs_dict→rr,type_list_pop→sE,slot_dict_get→tL,slot_list_contains→zJ,slot_dict_delitem→zL,slot_list_remove→Cu,slot_dict_values→Cv,slot_list_index→CA,slot_list_clear→CB,entry_list_pop→CM,type_dict_get→Gm,slot_int_rmul→Gn
open _root_.Prod renaming swap→gL,swap_swap→qm,ext→Qbd
open _root_.PySem.Obj renaming data_mapFields→gT,mapSeq→iU,isFreed_of_fields→kH,putNameByArray→mG,putName_eq→qz,mapFields→wY,cls_mapFields→QaK
open _root_.PySem.Challenge renaming rw_dn0053_11→jq,pw_dn0053_11→vq
open _root_.PySem.Calls renaming spliced_cons→jQ,spliced_nil→xc,Name_function_global→Cx,call_function_entry→CH,loadGlobal_global→Gu
open _root_.PySem.W renaming findIn→j',specialIn→lZ,Frag→mz,handedIn→pF,typeIn→tR,methodObj→vm,looks_field→Gk,Looks→Gp,shadowIn→Gw,takerIn→GB,kas_rev→Nz,findObj→NA,tabObj→Qao,makesIn→Qar,alongIn→Qaw,CodeHd→Qbx,takesIn→QbC,plainOver→QbS,emptyDict→QbV,looks_specialIn→Qb8
open _root_.Classical renaming byContradiction→lb
open _root_.List.cons renaming inj→lQ
open _root_.PySem.Code renaming quiet_builtin→mF,builtin→zA
open _root_.ForInStep renaming yield→nX
open _root_.PyProof.Rows renaming subscriptTail_builtin→oQ,Subscript_→vA,IntsAre→Cw,seqEpoch_at→Gj,wpAny_operate'→NM,sortedAll_old→N8,listUpdate_at→Oa,evalArgs_nil3→Ob,subscriptTail_builtinR→Qap,listItems_at→Qas,isTrue_plain→Qat,evalArgs_kw2→Qau,size_push'→Qbp,kwAll_cons→Qbr,sortedAll→QbP,get?_update_seq→Qb9,entry_list_sort→Qb',slot_list_sort→Qcg
open _root_.PyProof renaming noPylong_of_log2→qy
open _root_.PySem.IntMulOk renaming of_left→qC
open _root_.Function renaming comp→vr,comp_def→wX
def Qcs:=@if_neg
def Qct:=@if_pos
def Qcu:=@of_decide_eq_false
def Qcv:=@if_false
section
mutual
inductive TN where
 | v (i:Nat) | c (k:Nat) | a (x y:TN) | s (x y:TN) | m (k:Nat) (x:TN) | t (x:TI) | n (x y:TN) | x (x y:TN) | b (x:TI)
inductive TI where
 | v (i:Nat) | c (k:Nat) | a (x y:TI) | s (x y:TI) | g (x:TI) | m (k:Nat) (x:TI) | k (x:TN) | n (x y:TI) | x (x y:TI)
end
inductive Fm where
 | f | l (x y:TN) | t (x y:TN) | e (x y:TN) | L (x y:TI) | T (x y:TI) | E (x y:TI) | a (p q:Fm) | o (p q:Fm) | n (p:Fm) | i (p q:Fm)
variable (N:List Nat) (I:List Int)
noncomputable def nv:List Nat→Nat→Nat
 | [],_=>0
 | x::_,0=>x
 | _::l,i+1=>nv l i
noncomputable def iv:List Int→Nat→Int
 | [],_=>0
 | x::_,0=>x
 | _::l,i+1=>iv l i
mutual
noncomputable def TN.d:TN→Nat
 | .v i=>nv N i | .c k=>k | .a x y=>x.d+y.d | .s x y=>x.d-y.d | .m k x=>k*x.d | .t x=>x.d.toNat | .n x y=>min x.d y.d | .x x y=>max x.d y.d | .b x=>x.d.natAbs
noncomputable def TI.d:TI→Int
 | .v i=>iv I i | .c k=>qp k | .a x y=>x.d+y.d | .s x y=>x.d-y.d | .g x => - x.d | .m k x=>qp k*x.d | .k x=>qA x.d | .n x y=>min x.d y.d | .x x y=>max x.d y.d
end
def Fm.d:Fm→Prop
 | .f=>False
 | .l x y=>x.d N I≤y.d N I | .t x y=>x.d N I<y.d N I | .e x y=>x.d N I=y.d N I
 | .L x y=>x.d N I≤y.d N I | .T x y=>x.d N I<y.d N I | .E x y=>x.d N I=y.d N I
 | .a p q=>p.d∧q.d | .o p q=>p.d∨q.d | .n p=>¬p.d | .i p q=>p.d→q.d
abbrev Ln:=List Int
noncomputable def k5(k:Nat):Int:=if k=0 then 1 else if k % 2=1 then qA (nv N (k/2)) else iv I (k/2-1)
noncomputable def ev(r:Nat→Int):Nat→Ln→Int
 | _,[]=>0
 | i,c::l=>c*r i+ev r (i+1) l
noncomputable def unit:Nat→Ln
 | 0=>[1]
 | n+1=>0::unit n
noncomputable def gJ(a b:Int):Ln→Ln→Ln
 | [],m=>m.map λy=>b*y
 | x::l,m=>(a*x+b*m.headD 0)::gJ a b l m.tail
abbrev Br:=List Ln×Ln
noncomputable def two(f:Ln→Ln→List Br)(X Y:List Br):List Br:=X.flatMap λx=>Y.flatMap λy=>(f x.2 y.2).map λb=>(x.1++(y.1++b.1),b.2)
noncomputable def one(f:Ln→List Br)(X:List Br):List Br:=X.flatMap λx=>(f x.2).map λb=>(x.1++b.1,b.2)
mutual
noncomputable def TN.l:TN→List Br
 | .v i=>[([unit (2*i+1)],unit (2*i+1))]
 | .c k=>[([],[qp k])]
 | .a x y=>two (λu w=>[([],gJ 1 1 u w)]) x.l y.l
 | .s x y=>two (λu w=>[([gJ 1 (-1) u w],gJ 1 (-1) u w),([gJ (-1) 1 u w],[])]) x.l y.l
 | .m k x=>one (λu=>[([],gJ (qp k) 0 u [])]) x.l
 | .t x=>one (λu=>[([u],u),([gJ (-1) 0 u []],[])]) x.l
 | .n x y=>two (λu w=>[([gJ (-1) 1 u w],u),([gJ 1 (-1) u w],w)]) x.l y.l
 | .x x y=>two (λu w=>[([gJ 1 (-1) u w],u),([gJ (-1) 1 u w],w)]) x.l y.l
 | .b x=>one (λu=>[([u],u),([gJ (-1) 0 u []],gJ (-1) 0 u [])]) x.l
noncomputable def TI.l:TI→List Br
 | .v i=>[([],unit (2*i+2))]
 | .c k=>[([],[qp k])]
 | .a x y=>two (λu w=>[([],gJ 1 1 u w)]) x.l y.l
 | .s x y=>two (λu w=>[([],gJ 1 (-1) u w)]) x.l y.l
 | .g x=>one (λu=>[([],gJ (-1) 0 u [])]) x.l
 | .m k x=>one (λu=>[([],gJ (qp k) 0 u [])]) x.l
 | .k x=>x.l
 | .n x y=>two (λu w=>[([gJ (-1) 1 u w],u),([gJ 1 (-1) u w],w)]) x.l y.l
 | .x x y=>two (λu w=>[([gJ 1 (-1) u w],u),([gJ (-1) 1 u w],w)]) x.l y.l
end
noncomputable def ge(k:Int)(X Y:List Br):List (List Ln):=X.flatMap λx=>Y.map λy=>gJ 1 1 (gJ (-1) 1 x.2 y.2) [-k]::(x.1++y.1)
noncomputable def eq(X Y:List Br):List (List Ln):=X.flatMap λx=>Y.map λy=>gJ (-1) 1 x.2 y.2::gJ 1 (-1) x.2 y.2::(x.1++y.1)
noncomputable def Bz(X Y:List (List Ln)):List (List Ln):=X.flatMap λx=>Y.map λy=>x++y
noncomputable def Fm.p:Fm→Bool→List (List Ln)
 | .f,true=>[] | .f,false=>[[]]
 | .l x y,true=>ge 0 x.l y.l | .l x y,false=>ge 1 y.l x.l
 | .t x y,true=>ge 1 x.l y.l | .t x y,false=>ge 0 y.l x.l
 | .e x y,true=>eq x.l y.l | .e x y,false=>ge 1 x.l y.l++ge 1 y.l x.l
 | .L x y,true=>ge 0 x.l y.l | .L x y,false=>ge 1 y.l x.l
 | .T x y,true=>ge 1 x.l y.l | .T x y,false=>ge 0 y.l x.l
 | .E x y,true=>eq x.l y.l | .E x y,false=>ge 1 x.l y.l++ge 1 y.l x.l
 | .a p q,true=>Bz (p.p true) (q.p true) | .a p q,false=>p.p false++q.p false
 | .o p q,true=>p.p true++q.p true | .o p q,false=>Bz (p.p false) (q.p false)
 | .n p,true=>p.p false | .n p,false=>p.p true
 | .i p q,true=>p.p false++q.p true | .i p q,false=>Bz (p.p true) (q.p false)
noncomputable def rU:Int→Nat
 | .ofNat 0=>0 | .ofNat _=>1 | .negSucc _=>2
noncomputable def cf(k:Nat)(l:Ln):Int:=l.getD k 0
noncomputable def out(k:Nat)(cs:List Ln):List Ln :=
 (cs.filter λl=>rU (cf k l)==0)++(cs.filter λl=>rU (cf k l)==1).flatMap λp=>(cs.filter λl=>rU (cf k l)==2).map λq=>gJ (-(cf k q)) (cf k p) p q
noncomputable def BB:Ln→Bool
 | []=>false
 | c::l=>rU c==2&&l.all λx=>rU x==0
noncomputable def ref:Nat→List Ln→Bool
 | 0,cs=>cs.any BB
 | k+1,cs=>cs.any BB || ref k (out (k+1) cs)
noncomputable def Fm.ok(P:Fm)(n:Nat):Bool:=(P.p false).all (ref n)
variable {N I}{r:Nat→Int}
theorem Y1(a b x m e f:Int):(a*x+b*m)*f+(a*e+b*(r 0))=a*(x*f+e)+b*(m*f+r 0):=by
 rw [Int.add_mul,Qad,Qad,GA,GA,w6,w6,Int.add_left_comm (b*_)]
theorem U1(i:Nat)(m:Ln):ev r i m=m.headD 0*r i+ev r (i+1) m.tail:=by
 cases m with
 | nil=>exact ((gf _).trans (NX _)).symm
 | cons y m=>rfl
variable {a b:Int}
theorem jt(l m:Ln)(i:Nat):ev r i (gJ a b l m)=a*ev r i l+b*ev r i m:=by
 induction l generalizing i m with
 | nil =>
  show _=a*0+_
  rw [Qb1,tU]
  induction m generalizing i with
  | nil=>exact (Qb1 b).symm
  | cons y m ih =>
   show b*y*r i+ev r (i+1) (gJ a b [] m)=b*(y*r i+ev r (i+1) m)
   rw [ih,Qad,GA]
 | cons x l ih =>
  rw [U1 i m];show (a*x+b*m.headD 0)*r i+ev r (i+1) (gJ a b l m.tail)=a*(x*r i+ev r (i+1) l)+_
  rw [ih];exact Y1 (r:=λ_=>_) ..
theorem Ik(k i:Nat):ev r i (unit k)=r (i+k):=by
 induction k generalizing i with
 | zero=>exact (gf _).trans (j7 _)
 | succ k ih =>
  show 0*r i+ev r (i+1) (unit k)=_
  rw [ih,NX,tU,Nat.add_right_comm];rfl
def H(r:Nat→Int)(cs:List Ln):Prop:=∀l∈cs,0≤ev r 0 l
variable {y:List Ln}
theorem H.app{x:List Ln}(h:H r x)(h':H r y):H r (x++y):=λl hl=>(List.mem_append.mp hl).elim (h l) (h' l)
theorem H.cons{x:Ln}(h:0≤ev r 0 x)(h':H r y):H r (x::y):=λl hl=>(List.mem_cons.mp hl).elim (λe=>e▸h) (h' l)
theorem H.nil:H r []:=λl hl=>nomatch hl
def Bs(r:Nat→Int)(X:List Br)(v:Int):Prop:=∃b∈X,H r b.1∧ev r 0 b.2=v
variable {X Y:List Br}{f:Ln→Ln→List Br}{u z:Int}
theorem sL{w:Int}(hX:Bs r X u)(hY:Bs r Y w)(h : ∀l m,ev r 0 l=u→ev r 0 m=w→Bs r (f l m) z):Bs r (two f X Y) z:=by
 obtain ⟨x,hx,jK,tp⟩:=hX;obtain ⟨y,hy,Fc,Y3⟩:=hY;obtain ⟨b,hb,uP,tr⟩:=h _ _ tp Y3;exact ⟨_,List.mem_flatMap.mpr ⟨x,hx,List.mem_flatMap.mpr ⟨y,hy,List.mem_map.mpr ⟨b,hb,rfl⟩⟩⟩,jK.app (Fc.app uP),tr⟩
variable {f:Ln→List Br}
theorem xI(hX:Bs r X u)(h : ∀l,ev r 0 l=u→Bs r (f l) z):Bs r (one f X) z:=by
 obtain ⟨x,hx,jK,tp⟩:=hX;obtain ⟨b,hb,uP,tr⟩:=h _ tp;exact ⟨_,List.mem_flatMap.mpr ⟨x,hx,List.mem_map.mpr ⟨b,hb,rfl⟩⟩,jK.app uP,tr⟩
theorem rV{l:Ln}{v:Int}(h:ev r 0 l=v):Bs r [([],l)] v:=⟨_,.head _,H.nil,h⟩
theorem uQ{l m q:Ln}{v:Int}{p:Ln}(h:0≤ev r 0 l∧ev r 0 m=v∨0≤ev r 0 p∧ev r 0 q=v):Bs r [([l],m),([p],q)] v :=
 h.elim (λh=>⟨_,.head _,H.cons h.1 H.nil,h.2⟩) λh=>⟨_,.tail _ (.head _),H.cons h.1 H.nil,h.2⟩
theorem Ss(i:Nat):k5 N I (2*i+1)=qA (nv N i):=by
 unfold k5;rw [Qcs (Qa6 _),Qbe,Qct rfl,Qbf (dN 1)];rfl
theorem Q8(i:Nat):k5 N I (2*i+2)=iv I i:=by
 unfold k5;rw [Qcs (Qa6 _),Qbe,Qcs Nat.zero_ne_one,Qbf (dN 1)];rfl
theorem JY(u w:Int):1*u+1*w=u+w:=by rw [j7,j7]
theorem Fd(u w:Int):1*u + -1*w=u-w:=by rw [j7,Qab,j7];rfl
theorem BD(u:Int): -1*u+0*0 = -u:=by rw [Qab,j7];exact gf _
theorem sn{w:Int}(h:w≤u):0≤1*u + -1*w:=(Fd u w).symm▸Qaa h
theorem sm{w:Int}(h:u≤w):0 ≤ -1*u+1*w:=Qb4 .. ▸ sn h
theorem WP(u w:Nat):(0≤1*(u:Int) + -1*w∧1*(u:Int) + -1*w=(u-w:Nat))∨(0 ≤ -1*(u:Int)+1*w∧(0:Int)=(u-w:Nat)) :=
 (NU w u).imp (λh=>⟨sn (Int.ofNat_le.mpr h),(Fd _ _).trans (Int.ofNat_sub h).symm⟩) λh=>⟨sm (Int.ofNat_le.mpr h),by rw [Nat.sub_eq_zero_of_le h];rfl⟩
theorem Y4(u:Int):(0≤u∧u=u.toNat)∨(0 ≤ -1*u+0*0∧(0:Int)=u.toNat) :=
 (zE 0 u).imp (λh=>⟨h,(eS h).symm⟩) λh=>⟨(BD u).symm▸sA h,by rw [Int.toNat_of_nonpos h];rfl⟩
theorem Y5(u:Int):(0≤u∧u=u.natAbs)∨(0 ≤ -1*u+0*0 ∧ -1*u+0*0=u.natAbs) :=
 (zE 0 u).imp (λh=>⟨h,(Int.natAbs_of_nonneg h).symm⟩) λh=>⟨(BD u).symm▸sA h,(BD u).trans (Int.ofNat_natAbs_of_nonpos h).symm⟩
theorem JZ(u w:Int):(0 ≤ -1*u+1*w∧u=min u w)∨(0≤1*u + -1*w∧w=min u w) :=
 (zE u w).imp (λh=>⟨sm h,(Qbh h).symm⟩) λh=>⟨sn h,(Qa' h).symm⟩
theorem J0(u w:Int):(0≤1*u + -1*w∧u=max u w)∨(0 ≤ -1*u+1*w∧w=max u w) :=
 (zE w u).imp (λh=>⟨sn h,(Qbi h).symm⟩) λh=>⟨sm h,(Qba h).symm⟩
theorem WQ(u w:Nat):min (u:Int) w=(min u w:Nat):=(NU u w).elim (λh=>by rw [Qbh (Int.ofNat_le.mpr h),Nat.min_eq_left h]) λh=>by rw [Qa' (Int.ofNat_le.mpr h),Nat.min_eq_right h]
theorem WR(u w:Nat):max (u:Int) w=(max u w:Nat):=(NU w u).elim (λh=>by rw [Qbi (Int.ofNat_le.mpr h),Nat.max_eq_left h]) λh=>by rw [Qba (Int.ofNat_le.mpr h),Nat.max_eq_right h]
theorem Mf(k u:Int):k*u+0*0=k*u:=gf _
theorem Mg(k:Nat):ev (k5 N I) 0 [qp k]=qp k:=(gf _).trans (Qac _)
theorem ux(x:TI):Bs (k5 N I) x.l (x.d N I):=by
 refine TI.rec (motive_1:=λx=>Bs (k5 N I) x.l (qA (x.d N I))) (motive_2:=λx=>Bs (k5 N I) x.l (x.d N I)) ?_ ?_ ?_ ?_ ?_ ?_ ?_ ?_ ?_ ?_ ?_ ?_ ?_ ?_ ?_ ?_ ?_ ?_ x
 ·intro i;have e:=(Ik (r:=k5 N I) (2*i+1) 0).trans ((congrArg _ (zC _)).trans (Ss i));exact ⟨_,.head _,H.cons (by rw [e];exact QaF _) H.nil,e⟩
 ·intro k;exact rV (Mg k)
 ·intro x y hx hy;exact sL hx hy λl m h h'=>rV (by rw [jt,h,h'];exact JY _ _)
 ·intro x y hx hy;exact sL hx hy λl m h h'=>uQ (by rw [jt,jt,h,h'];exact WP _ _)
 ·intro k x hx;exact xI hx λl h=>rV (by rw [jt,h];exact Mf _ _)
 ·intro x hx;exact xI hx λl h=>uQ (by rw [jt,h];exact Y4 _)
 ·intro x y hx hy;exact sL hx hy λl m h h'=>uQ (by rw [jt,jt,h,h'];exact WQ _ _▸JZ _ _)
 ·intro x y hx hy;exact sL hx hy λl m h h'=>uQ (by rw [jt,jt,h,h'];exact WR _ _▸J0 _ _)
 ·intro x hx;exact xI hx λl h=>uQ (by rw [jt,h];exact Y5 _)
 ·intro i;exact rV ((Ik (r:=k5 N I) (2*i+2) 0).trans ((congrArg _ (zC _)).trans (Q8 i)))
 ·intro k;exact rV (Mg k)
 ·intro x y hx hy;exact sL hx hy λl m h h'=>rV (by rw [jt,h,h'];exact JY _ _)
 ·intro x y hx hy;exact sL hx hy λl m h h'=>rV (by rw [jt,h,h'];exact Fd _ _)
 ·intro x hx;exact xI hx λl h=>rV (by rw [jt,h];exact BD _)
 ·intro k x hx;exact xI hx λl h=>rV (by rw [jt,h];exact Mf _ _)
 ·intro x hx;exact hx
 ·intro x y hx hy;exact sL hx hy λl m h h'=>uQ (by rw [jt,jt,h,h'];exact JZ _ _)
 ·intro x y hx hy;exact sL hx hy λl m h h'=>uQ (by rw [jt,jt,h,h'];exact J0 _ _)
theorem vY(x:TN):Bs (k5 N I) x.l (qA (x.d N I)):=ux (.k x)
def ji(r:Nat→Int)(X:List (List Ln)):Prop:=∃cs∈X,H r cs
theorem ji.or{X Y:List (List Ln)}(h:ji r X∨ji r Y):ji r (X++Y) :=
 h.elim (λ⟨c,h,h'⟩=>⟨c,ao _ h,h'⟩) λ⟨c,h,h'⟩=>⟨c,ag _ h,h'⟩
theorem ji.and{X Y:List (List Ln)}(h:ji r X∧ji r Y):ji r (Bz X Y) :=
 let ⟨⟨_,a1,a2⟩,_,b1,b2⟩:=h
 ⟨_,List.mem_flatMap.mpr ⟨_,a1,List.mem_map.mpr ⟨_,b1,rfl⟩⟩,a2.app b2⟩
variable {x y:Int}
theorem Y6{k:Int}(h:x+k≤y):0≤1*(-1*x+1*y)+1*(-k*1+0):=by
 rw [j7,j7,gf,Qac,j7,Qab,j7,Qb4 (-x)];exact Qaa (Int.le_sub_left_of_add_le h)
theorem Mh(h:x=y):0 ≤ -1*x+1*y∧0≤1*x + -1*y:=⟨sm (Qb3 h),sn (Qb3 h.symm)⟩
theorem AR{k:Int}(r0:r 0=1)(hx:Bs r X x)(hy:Bs r Y y)(h:x+k≤y):ji r (ge k X Y):=by
 obtain ⟨a,ha,Fe,BE⟩:=hx;obtain ⟨b,hb,uP,tr⟩:=hy;exact ⟨_,List.mem_flatMap.mpr ⟨_,ha,List.mem_map.mpr ⟨_,hb,rfl⟩⟩,H.cons (by rw [jt,jt,BE,tr];show 0≤1*(-1*x+1*y)+1*(-k*r 0+0);rw [r0];exact Y6 h) (Fe.app uP)⟩
theorem Jv(hx:Bs r X x)(hy:Bs r Y y)(h:x=y):ji r (eq X Y):=by
 obtain ⟨a,ha,Fe,BE⟩:=hx;obtain ⟨b,hb,uP,tr⟩:=hy;exact ⟨_,List.mem_flatMap.mpr ⟨_,ha,List.mem_map.mpr ⟨_,hb,rfl⟩⟩,H.cons (by rw [jt,BE,tr];exact (Mh h).1) (H.cons (by rw [jt,BE,tr];exact (Mh h).2) (Fe.app uP))⟩
theorem xY:k5 N I 0=1:=rfl
theorem n0{x y:Nat}(h:x≤y):(x:Int)+0≤y:=(gf _).symm▸Int.ofNat_le.mpr h
theorem n1{x y:Nat}(h:x<y):(x:Int)+1≤y:=Int.ofNat_lt.mpr h
theorem i0(h:x≤y):x+0≤y:=(gf _).symm▸h
theorem gn(x y:TN):(x.d N I≤y.d N I→ji (k5 N I) (ge 0 x.l y.l))∧(x.d N I<y.d N I→ji (k5 N I) (ge 1 x.l y.l)):=⟨λh=>AR xY (vY x) (vY y) (n0 h),λh=>AR xY (vY x) (vY y) (n1 h)⟩
theorem gi(x y:TI):(x.d N I≤y.d N I→ji (k5 N I) (ge 0 x.l y.l))∧(x.d N I<y.d N I→ji (k5 N I) (ge 1 x.l y.l)):=⟨λh=>AR xY (ux x) (ux y) (i0 h),λh=>AR xY (ux x) (ux y) h⟩
theorem U2(P:Fm):(P.d N I→ji (k5 N I) (P.p true))∧(¬P.d N I→ji (k5 N I) (P.p false)):=by
 induction P with
 | f=>exact ⟨λh=>h.elim,λ_=>⟨[],.head _,H.nil⟩⟩
 | l x y=>exact ⟨(gn x y).1,λh=>(gn y x).2 (Nat.lt_of_not_le h)⟩
 | t x y=>exact ⟨(gn x y).2,λh=>(gn y x).1 (zK h)⟩
 | e x y=>exact ⟨λh=>Jv (vY x) (vY y) (congrArg _ h),λh=>ji.or ((Nat.lt_or_gt_of_ne h).imp (gn x y).2 (gn y x).2)⟩
 | L x y=>exact ⟨(gi x y).1,λh=>(gi y x).2 (Int.lt_of_not_ge h)⟩
 | T x y=>exact ⟨(gi x y).2,λh=>(gi y x).1 (Int.not_lt.mp h)⟩
 | E x y=>exact ⟨λh=>Jv (ux x) (ux y) h,λh=>ji.or ((Int.lt_or_gt_of_ne h).imp (gi x y).2 (gi y x).2)⟩
 | a p q hp hq=>exact ⟨λh=>ji.and ⟨hp.1 h.1,hq.1 h.2⟩,λh=>ji.or (Or.imp hp.2 hq.2 (Classical.not_and_iff_not_or_not.mp h))⟩
 | o p q hp hq=>exact ⟨λh=>ji.or (h.imp hp.1 hq.1),λh=>ji.and ⟨hp.2 λe=>h (.inl e),hq.2 λe=>h (.inr e)⟩⟩
 | n p hp=>exact ⟨hp.2,λh=>hp.1 (Classical.not_not.mp h)⟩
 | i p q hp hq=>exact ⟨λh=>ji.or ((Classical.em (p.d N I)).elim (λe=>.inr (hq.1 (h e))) λe=>.inl (hp.2 e)),λh=>ji.and ⟨hp.1 (lb λe=>h λe'=>absurd e' e),hq.2 λe=>h λ_=>e⟩⟩
theorem WS(h:rU x=0):x=0:=by
 match x with
 | .ofNat 0=>rfl
 | .ofNat (n+1)=>cases h
 | .negSucc n=>cases h
theorem WT(h:rU x=1):0≤x:=by
 match x with
 | .ofNat n=>exact QaF n
 | .negSucc n=>cases h
theorem J1(h:rU x=2):x<0:=by
 match x with
 | .ofNat 0=>cases h
 | .ofNat (n+1)=>cases h
 | .negSucc n=>exact Int.negSucc_lt_zero n
theorem Su(l:Ln)(i:Nat)(h:l.all (λx=>rU x==0)=true):ev r i l=0:=by
 induction l generalizing i with
 | nil=>rfl
 | cons x l ih =>
  have h:=Bool.and_eq_true_iff.mp h;show x*r i+ev r (i+1) l=0
  rw [WS (beq_iff_eq.mp h.1),ih _ h.2,NX];rfl
theorem TQ{l:Ln}(r0:r 0=1)(h:BB l=true):ev r 0 l<0:=by
 cases l with
 | nil=>cases h
 | cons c l =>
  have h:=Bool.and_eq_true_iff.mp h;show c*r 0+ev r 1 l<0
  rw [Su l _ h.2,r0,Qac,gf];exact J1 (beq_iff_eq.mp h.1)
variable {cs:List Ln}{k:Nat}
theorem TR(h:H r cs):H r (out k cs):=by
 refine H.app (λl hl=>h l (List.mem_filter.mp hl).1) λl hl=>?_;obtain ⟨p,hp,hl⟩:=List.mem_flatMap.mp hl;obtain ⟨q,hq,rfl⟩:=List.mem_map.mp hl;have hp:=List.mem_filter.mp hp;have hq:=List.mem_filter.mp hq;rw [jt];exact Int.add_nonneg (Qbw (sA (pG (J1 (beq_iff_eq.mp hq.2)))) (h p hp.1)) (Qbw (WT (beq_iff_eq.mp hp.2)) (h q hq.1))
theorem IZ(r0:r 0=1)(h:H r cs)(e:cs.any BB=true):False:=by
 obtain ⟨l,hl,hb⟩:=List.any_eq_true.mp e;exact absurd (h l hl) (Int.not_le.mpr (TQ r0 hb))
theorem TU(r0:r 0=1)(h:H r cs)(e:ref k cs=true):False:=by
 induction k generalizing cs with
 | zero=>exact IZ r0 h e
 | succ k ih=>exact (Bool.or_eq_true_iff.mp e).elim (IZ r0 h) (ih (TR h))
theorem pY{a:Nat}(h:0<k):a<k*(a/k)+k:=Nat.mul_comm .. ▸ Nat.lt_div_mul_add h
theorem fk(N:List Nat)(I:List Int)(P:Fm)(n:Nat)(h:P.ok n=true):P.d N I :=
 lb λe=>let ⟨_,h1,h2⟩:=(U2 P).2 e;TU xY h2 (List.all_eq_true.mp h _ h1)
abbrev TN.A:TN:=.v 0
abbrev TN.B:TN:=.v 1
abbrev TN.C:TN:=.v 2
abbrev TN.D:TN:=.v 3
abbrev TN.F:TN:=.v 4
abbrev TN.G:TN:=.v 5
abbrev TN.H:TN:=.v 6
abbrev TN.J:TN:=.v 7
abbrev TN.K:TN:=.v 8
abbrev TN.M:TN:=.v 9
abbrev TI.A:TI:=.v 0
abbrev TI.B:TI:=.v 1
abbrev TI.C:TI:=.v 2
abbrev TI.D:TI:=.v 3
abbrev TI.F:TI:=.v 4
abbrev TI.G:TI:=.v 5
abbrev TI.H:TI:=.v 6
abbrev TI.J:TI:=.v 7
abbrev TI.K:TI:=.v 8
abbrev TI.M:TI:=.v 9
abbrev TN.Z:TN:=.c 0
abbrev TN.O:TN:=.c 1
abbrev TI.Z:TI:=.c 0
abbrev TI.O:TI:=.c 1
theorem kU(P:Fm)(hh:P.ok 0=true):Fm.d [] [] P:=fk _ _ P 0 hh
theorem jf(P:Fm)(hh:P.ok 2=true){a:Int}:Fm.d [] [a] P:=fk _ _ P 2 hh
theorem dw(P:Fm)(hh:P.ok 4=true){a b:Int}:Fm.d [] [a,b] P:=fk _ _ P 4 hh
theorem dq(P:Fm)(hh:P.ok 6=true){a b c:Int}:Fm.d [] [a,b,c] P:=fk _ _ P 6 hh
theorem ii(P:Fm)(hh:P.ok 8=true){a b c d:Int}:Fm.d [] [a,b,c,d] P:=fk _ _ P 8 hh
variable {c e:Int}
theorem o7(P:Fm)(hh:P.ok 10=true){d:Int}:Fm.d [] [a,b,c,d,e] P:=fk _ _ P 10 hh
variable {f:Int}
theorem v6(P:Fm)(hh:P.ok 12=true){d:Int}:Fm.d [] [a,b,c,d,e,f] P:=fk _ _ P 12 hh
theorem xZ(P:Fm)(hh:P.ok 14=true){d g:Int}:Fm.d [] [a,b,c,d,e,f,g] P:=fk _ _ P 14 hh
theorem bV(P:Fm)(hh:P.ok 1=true){a:Nat}:Fm.d [a] [] P:=fk _ _ P 1 hh
theorem gV(P:Fm)(hh:P.ok 2=true){a:Nat}{b:Int}:Fm.d [a] [b] P:=fk _ _ P 2 hh
theorem ft(P:Fm)(hh:P.ok 4=true){a:Nat}{b c:Int}:Fm.d [a] [b,c] P:=fk _ _ P 4 hh
theorem A8(P:Fm)(hh:P.ok 6=true){a:Nat}{b c d:Int}:Fm.d [a] [b,c,d] P:=fk _ _ P 6 hh
variable {a:Nat}
theorem WU(P:Fm)(hh:P.ok 8=true){d:Int}:Fm.d [a] [b,c,d,e] P:=fk _ _ P 8 hh
theorem WV(P:Fm)(hh:P.ok 10=true){d:Int}:Fm.d [a] [b,c,d,e,f] P:=fk _ _ P 10 hh
theorem bK(P:Fm)(hh:P.ok 3=true){a b:Nat}:Fm.d [a,b] [] P:=fk _ _ P 3 hh
theorem pW(P:Fm)(hh:P.ok 3=true){a b:Nat}{c:Int}:Fm.d [a,b] [c] P:=fk _ _ P 3 hh
theorem kW(P:Fm)(hh:P.ok 4=true){a b:Nat}{c d:Int}:Fm.d [a,b] [c,d] P:=fk _ _ P 4 hh
theorem bB(P:Fm)(hh:P.ok 5=true){a b c:Nat}:Fm.d [a,b,c] [] P:=fk _ _ P 5 hh
variable {b c:Nat}
theorem WW(P:Fm)(hh:P.ok 5=true){d:Int}:Fm.d [a,b,c] [d] P:=fk _ _ P 5 hh
theorem WX(P:Fm)(hh:P.ok 5=true){d:Int}:Fm.d [a,b,c] [d,e] P:=fk _ _ P 5 hh
theorem WY(P:Fm)(hh:P.ok 6=true){d:Int}:Fm.d [a,b,c] [d,e,f] P:=fk _ _ P 6 hh
theorem fy(P:Fm)(hh:P.ok 7=true){d:Nat}:Fm.d [a,b,c,d] [] P:=fk _ _ P 7 hh
theorem rJ(P:Fm)(hh:P.ok 9=true){a b c d e:Nat}:Fm.d [a,b,c,d,e] [] P:=fk _ _ P 9 hh
variable {e:Nat}
theorem WZ(P:Fm)(hh:P.ok 9=true){d:Nat}{g:Int}:Fm.d [a,b,c,d,e] [f,g] P:=fk _ _ P 9 hh
theorem v7(P:Fm)(hh:P.ok 11=true){a b c d e f:Nat}:Fm.d [a,b,c,d,e,f] [] P:=fk _ _ P 11 hh
theorem v8(P:Fm)(hh:P.ok 13=true){d f g:Nat}:Fm.d [a,b,c,d,e,f,g] [] P:=fk _ _ P 13 hh
theorem W0(P:Fm)(hh:P.ok 15=true){d f g h:Nat}:Fm.d [a,b,c,d,e,f,g,h] [] P:=fk _ _ P 15 hh
theorem W1(P:Fm)(hh:P.ok 17=true){d f g h i:Nat}:Fm.d [a,b,c,d,e,f,g,h,i] [] P:=fk _ _ P 17 hh
def z0:= @bK (.i (.t (.s .A .O) .B) (.l .A .B)) rfl
def z1:= @bV (.i (.t .A (.c 9223372036854775808)) (.T (.k .A) (.c 9223372036854775808))) rfl
def z3:= @jf (.i (.L .Z .A) (.i (.L .A (.c 1000000)) (.a (.L (.g (.c 9223372036854775808)) .A) (.T .A (.c 9223372036854775808))))) rfl
def z4:= @gV (.i (.L .A (.k .A)) (.i (.l .A (.c 100000)) (.L .A (.c 1000000)))) rfl
def z5:= @bV (.i (.l .A (.c 100000)) (.l .A (.c 16777216))) rfl
def z6:= @jf (.i (.L .Z .A) (.n (.T .A .Z))) rfl
def z7:= @pW (.i (.L .A (.k .A)) (.i (.e .B .A) (.e (.n (.t .A) .B) (.t .A)))) rfl
def z8:= @bB (.i (.t (.a .A (.a .B .O)) .C) (.t (.a (.a .A .O) .B) .C)) rfl
theorem Y7{x0 x1:Int}:(x0<x1)→((x0≤((x0+x1)/(2:Int)))∧(((x0+x1)/(2:Int))<x1)):=λh=>⟨Int.le_ediv_of_mul_le (by decide) (by rw [Qb2];exact dw (.i (.T .A .B) (.L (.m 2 .A) (.a .A .B))) rfl h),Int.ediv_lt_of_lt_mul (by decide) (by rw [Qb2];exact dw (.i (.T .A .B) (.T (.a .A .B) (.m 2 .B))) rfl h)⟩
def Ff:= @dw (.i (.L .Z .A) (.i (.L .A .B) (.L .Z .B))) rfl
def Mi:= @dw (.i (.L .A .B) (.L .A (.k (.t .B)))) rfl
def Mj:= @dq (.i (.L .A .B) (.i (.L .B .C) (.i (.n (.T .A .C)) (.E .A .B)))) rfl
def Mk:= @kU (.n (.T .Z .Z)) rfl
def Ml:= @bV (.i (.l .A (.c 100000)) (.t .A (.c 9223372036854775808))) rfl
def BF:= @jf (.i (.L .Z .A) (.L .Z .A)) rfl
def Fg:= @bV (.i (.l .A (.c 100000)) (.l .A (.c 100000))) rfl
def Mm:= @gV (.i (.L .A (.k .A)) (.L .A (.k .A))) rfl
def Mn:= @bV (.e .A (.s .A .Z)) rfl
def BG:= @bK (.i (.t .A .B) (.t (.s .B (.a .A .O)) (.s .B .A))) rfl
def BH:= @bK (.i (.t .A .B) (.l (.a .A .O) .B)) rfl
def BI:= @bK (.i (.l .A .B) (.i (.n (.t .A .B)) (.e .A .B))) rfl
def Mo:= @bK (.i (.l (.a .A .B) (.c 100000)) (.l (.a .A .B) (.c 16777216))) rfl
def Mp:= @bB (.i (.l .A (.c 100000)) (.i (.t .B .A) (.i (.l .C .B) (.l .C (.c 100000))))) rfl
def Mq:= @bK (.i (.t .A .B) (.n (.e .A .B))) rfl
variable {x0:Nat}
theorem Y8:(((qA x0:Int)/(3:Int))=(qA (x0/3):Int)):=by lia
theorem Y9:((3*(x0/3))≤x0):=fk [x0,_] [] (.i (.l (.m 3 .B) .A) (.i (.t .A (.a (.m 3 .B) (.c 3))) (.l (.m 3 .B) .A))) 3 rfl (f7 ..) (pY (dN _))
def Mr:= @gV (.i (.E .A (.k .A)) (.L .Z .A)) rfl
def BJ:= @bK (.i (.l .A (.c 1012)) (.i (.l (.m 3 .B) .A) (.l .B (.c 100000)))) rfl
def gR:= @bV (.L .Z (.k .A)) rfl
def Ms:= @bB (.i (.l .A (.c 1012)) (.i (.l (.m 3 .B) .A) (.i (.t .C .B) (.T (.k .C) (.c 9223372036854775808))))) rfl
def yG:= @bK (.i (.n (.t .A .B)) (.l .B .A)) rfl
def Mt:= @bK (.i (.l (.a .A .O) .B) (.l .A .B)) rfl
def wA:= @bK (.i (.t .A .B) (.t .A (.a .B .O))) rfl
def BK:= @bK (.i (.t .A (.a .B .O)) (.i (.n (.t .A .B)) (.e .A .B))) rfl
def yH:= @bV (.t .A (.a .A .O)) rfl
def Fh:= @bK (.i (.t .A .B) (.i (.n (.e .A (.s .B .O))) (.t .A (.s .B .O)))) rfl
def Fi:= @bK (.i (.t .A .B) (.t .A .B)) rfl
def qZ:= @bB (.i (.e (.a .A (.a .B .O)) .C) (.t .A .C)) rfl
def Fj:= @bB (.i (.e (.a .A (.a .B .O)) .C) (.t (.s .A .O) .C)) rfl
def yI:= @bB (.i (.e (.a .A (.a .B .O)) .C) (.e (.a (.a .A .O) .B) .C)) rfl
def Fk:= @bK (.i (.t .A .B) (.a (.l .Z .A) (.t .A .B))) rfl
def Mu:= @bB (.i (.t .A .B) (.i (.t .B .C) (.a (.l .Z .A) (.t .A .C)))) rfl
def J2:= @bB (.i (.t .A .B) (.i (.t .B .C) (.t (.s (.s (.a .Z .C) .O) .B) (.s (.s (.a .Z .C) .O) .A)))) rfl
def J3:= @bB (.i (.t .A .B) (.t (.s (.s (.a .Z .B) .O) .C) .B)) rfl
def J4:= @bK (.i (.t .A (.s (.s (.a .B .O) .O) .Z)) (.t .A .B)) rfl
variable {x2 x3 x5:Nat}
theorem W2{x0 x1:Prop}{x4 x6:Nat}:((((x4+1)-1)-0)≤x5)→(x5<x6)→(x6<(x4+1))→(x0∧(x1∧(x2<x3))):=λa b c=>eO (bB (.i (.l (.s (.s (.a .A .O) .O) .Z) .B) (.i (.t .B .C) (.i (.t .C (.a .A .O)) .f))) rfl a b c)
def J5:= @bB (.i (.t .A (.s (.s .B .O) .C)) (.n (.a (.l (.s .B (.a .C .O)) .A) (.t .A .B)))) rfl
def J6:= @bB (.i (.t .A .B) (.l (.s (.s .B .O) .C) (.s (.s (.a (.s .B (.a .C .O)) .B) .O) .A))) rfl
def J7:= @bK (.l (.s (.s .A .O) .B) (.s .A .O)) rfl
def A9:= @bK (.i (.l (.a .A .O) .B) (.t (.s .B .O) .B)) rfl
def J8:= @bV (.i (.n (.t .Z .A)) (.e .A .Z)) rfl
def Et:= @bB (.i (.t .A (.s (.s (.a .B .O) .O) (.a .C .O))) (.t .A (.s (.s .B .O) .C))) rfl
def Eu:= @bB (.i (.l (.s (.s (.a .A .O) .O) (.a .B .O)) .C) (.l (.s (.s .A .O) .B) .C)) rfl
def J9:= @bK (.i (.t .A .B) (.l .A .B)) rfl
variable {x1:Nat}
theorem W3:(x3<x2)→(x1≤x3)→(¬(x0≥x1))→(((x0+x1)/2)<x2):=fk [x3,x2,x1,x0,_] [] (.i (.l (.m 2 .F) (.a .D .C)) (.i (.t (.a .D .C) (.a (.m 2 .F) (.c 2))) (.i (.t .A .B) (.i (.l .C .A) (.i (.n (.l .C .D)) (.t .F .B)))))) 9 rfl (f7 ..) (pY (dN _))
theorem W4:(¬(x0≥x1))→(x0≤((x0+x1)/2)):=fk [x0,x1,_] [] (.i (.l (.m 2 .C) (.a .A .B)) (.i (.t (.a .A .B) (.a (.m 2 .C) (.c 2))) (.i (.n (.l .B .A)) (.l .A .C)))) 5 rfl (f7 ..) (pY (dN _))
theorem W5:(x1≤x2)→(¬(x0≥x1))→(((x0+x1)/2)≤x2):=fk [x1,x2,x0,_] [] (.i (.l (.m 2 .D) (.a .C .A)) (.i (.t (.a .C .A) (.a (.m 2 .D) (.c 2))) (.i (.l .A .B) (.i (.n (.l .A .C)) (.l .D .B))))) 7 rfl (f7 ..) (pY (dN _))
theorem W6:((x1-x0)≤(x2+1))→((((x0+x1)/2)-x0)≤x2):=fk [x1,x0,x2,_] [] (.i (.l (.m 2 .D) (.a .B .A)) (.i (.t (.a .B .A) (.a (.m 2 .D) (.c 2))) (.i (.l (.s .A .B) (.a .C .O)) (.l (.s .D .B) .C)))) 7 rfl (f7 ..) (pY (dN _))
theorem W7:(((x0+x1)/2)≤x2)→(¬(x2=((x0+x1)/2)))→(((x0+x1)/2)<x2):=fk [x0,x1,x2,_] [] (.i (.l (.m 2 .D) (.a .A .B)) (.i (.t (.a .A .B) (.a (.m 2 .D) (.c 2))) (.i (.l .D .C) (.i (.n (.e .C .D)) (.t .D .C))))) 7 rfl (f7 ..) (pY (dN _))
theorem W8:(¬(x0≥x1))→((((x0+x1)/2)+1)≤x1):=fk [x0,x1,_] [] (.i (.l (.m 2 .C) (.a .A .B)) (.i (.t (.a .A .B) (.a (.m 2 .C) (.c 2))) (.i (.n (.l .B .A)) (.l (.a .C .O) .B)))) 5 rfl (f7 ..) (pY (dN _))
theorem W9:((x0-x1)≤(x2+1))→((x0-(((x1+x0)/2)+1))≤x2):=fk [x0,x1,x2,_] [] (.i (.l (.m 2 .D) (.a .B .A)) (.i (.t (.a .B .A) (.a (.m 2 .D) (.c 2))) (.i (.l (.s .A .B) (.a .C .O)) (.l (.s .A (.a .D .O)) .C)))) 7 rfl (f7 ..) (pY (dN _))
theorem W':(x0<(((x1+x2)/2)+1))→(¬(x0=((x1+x2)/2)))→(x0<((x1+x2)/2)):=fk [x0,x1,x2,_] [] (.i (.l (.m 2 .D) (.a .B .C)) (.i (.t (.a .B .C) (.a (.m 2 .D) (.c 2))) (.i (.t .A (.a .D .O)) (.i (.n (.e .A .D)) (.t .A .D))))) 7 rfl (f7 ..) (pY (dN _))
theorem Xa:(x1≤x2)→(¬(x0≥x1))→(((x0+x1)/2)<x2):=fk [x1,x2,x0,_] [] (.i (.l (.m 2 .D) (.a .C .A)) (.i (.t (.a .C .A) (.a (.m 2 .D) (.c 2))) (.i (.l .A .B) (.i (.n (.l .A .C)) (.t .D .B))))) 7 rfl (f7 ..) (pY (dN _))
def Ev:= @bB (.i (.t .A .B) (.i (.e .B .C) (.t .A .C))) rfl
def Ew:= @bB (.i (.t .A .B) (.i (.t .B (.a .C .O)) (.t (.s .B .O) .C))) rfl
def J':= @bB (.i (.n (.t .A .B)) (.n (.a (.t .A .B) (.l .B .C)))) rfl
def Ba:= @bV (.i (.t .A (.c 2)) (.l .A (.c 16777216))) rfl
def Ka:= @bK (.i (.e .A .B) (.l .A .B)) rfl
def Kb:= @bV (.i (.n (.t .A (.c 2))) (.l (.c 2) .A)) rfl
def Kc:= @bK (.i (.t .A (.c 64)) (.i (.e .B .A) (.t .B (.c 64)))) rfl
def ou:= @bB (.i (.e .A .B) (.i (.t .C .A) (.t .C .B))) rfl
def Kd:= @bV (.i (.n (.t .A (.c 2))) (.t .Z .A)) rfl
def Ke:= @jf (.i (.L .Z .A) (.L (.g (.c 9223372036854775808)) .A)) rfl
def Ex:= @bV (.i (.t .A (.c 64)) (.l .A (.c 100000))) rfl
theorem kb:(x1=x2)→(x0<x2)→(x0<x1):=fk [x1,x2,x0] [] (.i (.e .A .B) (.i (.t .C .B) (.t .C .A))) 5 rfl
def Kf:= @bB (.i (.e .A .B) (.i (.t .B (.c 64)) (.i (.e .C .A) (.l .C (.c 100000))))) rfl
def Bb:= @kU (.L .Z .Z) rfl
def Kg:= @kU (.T .Z (.c 9223372036854775808)) rfl
def Kh:= @bK (.i (.e .A .B) (.i (.t .B (.c 64)) (.l .A (.c 100000)))) rfl
def Ey:= @bV (.l .A (.a .A .O)) rfl
def Ez:= @kU (.t .Z (.c 1000)) rfl
def EA:= @kU (.t .O (.c 1000)) rfl
def Ki:= @kU (.t (.c 2) (.c 1000)) rfl
def jZ:= @bV (.i (.l .A (.c 1000)) (.l .A (.c 100000))) rfl
def Kj:= @bK (.i (.l (.a .A .B) (.c 900)) (.l .B (.c 100000))) rfl
def Kk:= @kU (.l .O (.c 3)) rfl
variable {x4:Prop}
theorem Xb{x3:Prop}{x6:Prop}{x7:Nat}:(x3∧(x4∧((x5≤(x1+x2))∧x6)))→(x7≤(x5+1))→(x0=x7)→(x0≤(x1+(x2+1))):=λh a b=>rJ (.i (.l .A (.a .B .C)) (.i (.l .D (.a .A .O)) (.i (.e .F .D) (.l .F (.a .B (.a .C .O)))))) rfl h.2.2.1 a b
def Kl:= @bB (.i (.l .A (.a .B .C)) (.l (.a .A .O) (.a .B (.a .C .O)))) rfl
def Bc:= @bV (.i (.l .A (.c 10000)) (.l .A (.c 100000))) rfl
def Km:= @bV (.i (.l .A (.c 100000)) (.l (.a .A .O) (.c 16777216))) rfl
def EB:= @bB (.i (.l .A .B) (.l (.a .C .A) (.a .C .B))) rfl
def Kn:= @jf (.i (.T .A .A) .f) rfl
def EC:= @bB (.i (.l (.a .A .B) .C) (.l .A .C)) rfl
def Ko:= @dq (.i (.T .A .B) (.i (.T .C .A) (.T .C .B))) rfl
def Kp:= @bB (.i (.l .A (.c 1000)) (.i (.l .B .C) (.i (.l (.a .C .O) .A) (.l .B (.c 100000))))) rfl
def Kq:= @bV (.i (.l .A (.c 1000)) (.l .A (.a (.c 16777216) .O))) rfl
theorem Xd{x0 x1:Int}:((x0<x1)↔((x0-x1)<(0:Int))):=⟨Int.sub_neg_of_lt,Int.lt_of_sub_neg⟩
def sZ:= @gV (.i (.a (.L .Z .A) (.T .A (.k .A))) (.t (.t .A) .A)) rfl
def ED:= @gV (.i (.l .A (.c 100000)) (.i (.a (.L .Z .A) (.T .A (.k .A))) (.T .A (.c 9223372036854775808)))) rfl
def Kr:= @bV (.i (.l .A (.c 1000)) (.l .A (.c 16777216))) rfl
def x8:= @bV (.i (.l .A (.c 100)) (.l .A (.c 1000))) rfl
def EE:= @bK (.i (.t .A (.c 64)) (.i (.e .B .A) (.l .B (.c 16777216)))) rfl
def Ks:= @bK (.i (.t .A (.c 64)) (.i (.e .B .A) (.l .B (.c 100)))) rfl
def Kt:= @bB (.i (.e .A .B) (.i (.e .C .B) (.e .C .A))) rfl
def EF:= @bK (.i (.t (.a .A .O) (.a .B .O)) (.t .A .B)) rfl
theorem Xe:(x0=(x1+1))→(0<x0):=fk [x0,x1] [] (.i (.e .A (.a .B .O)) (.t .Z .A)) 3 rfl
def Ku:= @bK (.i (.l .A (.c 100000)) (.i (.e .B .A) (.l .B (.c 16777216)))) rfl
def Kv:= @bK (.i (.t .Z .A) (.i (.l .B (.s .A .O)) (.t .B .A))) rfl
def Kw:= @bK (.i (.t .A .B) (.l .A (.s .B .O))) rfl
def Kz:= @gV (.i (.T .A (.k .A)) (.i (.l .A (.c 100000)) (.T .A (.c 9223372036854775808)))) rfl
theorem Xf:(x0≤1000)→(¬(x0>(((2 ^ 63)-1)/8))):=by lia
def KC:= @gV (.i (.E .A (.k .A)) (.e (.t .A) .A)) rfl
def v9:= @dw (.i (.T .A .B) (.L .A .B)) rfl
def x9:= @dw (.i (.n (.T .A .B)) (.L .B .A)) rfl
def EG:= @dq (.i (.n (.T .A .B)) (.i (.L .A .C) (.L .B .C))) rfl
def ya:= @dq (.i (.T .A .B) (.i (.L .B .C) (.T .A .C))) rfl
def EH:= @bK (.i (.l .A .B) (.l .A .B)) rfl
def KD:= @bK (.i (.l (.a .A .O) (.a .B .O)) (.l .A .B)) rfl
def KE:= @dw (.i (.L .A .B) (.n (.T .B .A))) rfl
def KG:= @bV (.l (.a .O (.c 2)) (.a .A (.c 3))) rfl
def EI:= @bB (.i (.l .A .B) (.i (.t .B (.a .A .C)) (.t (.s .B .A) .C))) rfl
def yb:= @bK (.l .A (.a .A .B)) rfl
def KI:= @bB (.i (.l (.a .A .B) .C) (.l .B (.s .C .A))) rfl
def wa:= @bK (.i (.l .A .B) (.L (.k .A) (.k .B))) rfl
def wb:= @bK (.i (.L (.k .A) (.k .B)) (.l .A .B)) rfl
def uH:= @bK (.i (.T (.k .A) (.k .B)) (.t .A .B)) rfl
def yc:= @bB (.i (.t (.a .A (.m 8 (.a .B (.c 9)))) .C) (.t (.a .A (.c 64)) .C)) rfl
def KJ:= @bK (.e (.a (.a .A .O) .B) (.a .A (.a .B .O))) rfl
def KK:= @bV (.l (.a (.c 3) (.c 2)) (.a .A (.c 5))) rfl
def KM:= @bV (.i (.l .A (.c 2000)) (.l .A (.c 100000))) rfl
def KN:= @gV (.i (.l .A (.c 1000)) (.i (.a (.L .Z .A) (.T .A (.k .A))) (.T .A (.c 9223372036854775808)))) rfl
def o8:= @bK (.i (.t .A .B) (.T (.k .A) (.k .B))) rfl
def KO:= @jf (.i (.t (.t .A) (.c 1000)) (.T .A (.c 9223372036854775808))) rfl
def KQ:= @gV (.i (.t (.t .A) .A) (.T .A (.k .A))) rfl
def KR:= @gV (.i (.l .A (.c 1000)) (.i (.t (.t .A) .A) (.T .A (.c 9223372036854775808)))) rfl
def KS:= @bK (.i (.E (.k .A) (.k .B)) (.e .A .B)) rfl
def EJ:= @bV (.l (.a .Z (.c 3)) (.a .A (.c 9))) rfl
def uI:= @bK (.i (.e .A .B) (.i (.l .B (.c 25)) (.l .A (.c 1000)))) rfl
def rK:= @bK (.i (.l .A (.c 25)) (.i (.e .B .A) (.l .B (.c 1000)))) rfl
def Bd:= @rJ (.i (.e (.a (.a .A .B) .C) (.a .A .D)) (.l (.a (.a .A .B) .C) (.a (.a .A .D) .F))) rfl
def KT:= @bK (.i (.l .A (.c 25)) (.i (.l .B .A) (.l .B (.c 1000)))) rfl
def EK:= @v7 (.i (.e .A (.a .B .C)) (.i (.e (.a .C .D) (.a .F .G)) (.e (.a .A .D) (.a (.a .B .F) .G)))) rfl
def EM:= @bV (.l (.a .A .O) (.a .A (.c 9))) rfl
def KU:= @gV (.i (.l .A (.c 25)) (.i (.t (.t .A) .A) (.t (.t .A) (.c 1000)))) rfl
def ye:= @bV (.i (.l .A (.c 25)) (.l .A (.c 1000))) rfl
def KW:= @dw (.L (.n .A .B) .A) rfl
def KX:= @dw (.L .A (.x .A .B)) rfl
def KY:= @pW (.i (.E .A (.k .A)) (.i (.E .A (.k .B)) (.e .A .B))) rfl
def yg:= @dq (.i (.L .A .B) (.i (.L .B .C) (.L .A .C))) rfl
def yh:= @bB (.i (.t .A .B) (.i (.t .C .A) (.t .C .B))) rfl
def Be:= @dw (.i (.a (.L .A (.s .B .O)) (.T (.s .B .O) .B)) (.L .A .B)) rfl
def KZ:= @dw (.i (.n (.L .A .B)) (.L .B (.s .A .O))) rfl
def K0:= @dw (.i (.L .A .B) (.L .A .B)) rfl
def EN:= @dq (.i (.L .A .B) (.i (.T .C .A) (.L .C .B))) rfl
def K1:= @ii (.i (.E .A (.a .B .C)) (.i (.L .C (.s .D .B)) (.L .A .D))) rfl
theorem Xg:(((qA x0:Int)=(qA x1:Int))↔(x0=x1)):=Int.ofNat_inj
def K2:= @dw (.i (.T .A .B) (.L .A (.s .B .O))) rfl
def K3:= @jf (.i (.n (.L .A .A)) .f) rfl
def K4:= @bB (.i (.e .A (.a .B .C)) (.e (.a .A .O) (.a .B (.a .C .O)))) rfl
def EO:= @bB (.i (.e .A (.a .B .C)) (.e .A (.a .B .C))) rfl
def K5:= @bB (.i (.e .A (.a .B .C)) (.e (.a .A .O) (.a (.a .B .O) .C))) rfl
def wc:= @gV (.i (.L .Z .A) (.i (.T .A (.k .A)) (.t (.t .A) .A))) rfl
def K6:= @jf (.i (.L .Z .A) (.E .A (.k (.t .A)))) rfl
def K7:= @dw (.i (.E .A .B) (.L .A .B)) rfl
def K8:= @jf (.i (.L .Z .A) (.E (.k (.t .A)) .A)) rfl
def K9:= @dq (.i (.n (.T .A .B)) (.i (.T .A .C) (.i (.L .C .B) .f))) rfl
def EP:= @dq (.i (.L .A .B) (.i (.L .C .A) (.L .C .B))) rfl
def wd:= @dq (.i (.T .A .B) (.i (.L .C .A) (.L .C .B))) rfl
def La:= @ft (.i (.a (.L .Z .A) (.T .A (.k .A))) (.i (.L .Z .B) (.i (.n (.E .B .A)) (.n (.e (.t .A) (.t .B)))))) rfl
def Lb:= @dw (.E (.s .A .B) (.s .A (.a .B .Z))) rfl
def Lc:= @ft (.i (.a (.L .Z .A) (.T .A (.k .A))) (.i (.n (.E .B .A)) (.i (.L .Z .B) (.n (.e (.t .A) (.t .B)))))) rfl
def Ld:= @dw (.i (.L .A .B) (.T (.s .A .O) .B)) rfl
theorem Xh{x0 x1 x2 x3:Int}{x5:Int}:((0:Int)≤x5)→((-(1:Int))=x5)→((x0≤x1)∧((x1<x2)∧((x3≤x1)∧x4))):=λa b=>eO (jf (.i (.L .Z .A) (.i (.E (.g .O) .A) .f)) rfl a b)
def Le:= @dq (.i (.L (.a .A .B) .C) (.E (.x .C (.a .A .B)) .C)) rfl
def Bf:= @bB (.i (.l .A .B) (.i (.t .C .A) (.t .C .B))) rfl
def Lg:= @ii (.i (.L (.x .A (.a .B .C)) .D) (.L (.a .B .C) .D)) rfl
def we:= @kW (.i (.e .A .B) (.i (.a (.L .Z .A) (.a (.T .A .B) (.T .B (.k .B)))) (.a (.a (.L .Z .A) (.T .A (.k .A))) (.a (.L .Z .B) (.T .B (.k .A)))))) rfl
def Lh:= @gV (.i (.a (.L .Z .A) (.T .A (.k .A))) (.E (.k (.t .A)) .A)) rfl
def Li:= @ft (.i (.a (.L .Z .A) (.a (.T .A .B) (.T .B (.k .A)))) (.t (.t .B) .A)) rfl
def EQ:= @ft (.i (.a (.L .Z .A) (.a (.T .A .B) (.T .B (.k .A)))) (.L .Z .A)) rfl
def rL:= @ft (.i (.a (.L .Z .A) (.a (.T .A .B) (.T .B (.k .A)))) (.L .Z .B)) rfl
def Lj:= @ft (.i (.a (.L .Z .A) (.a (.T .A .B) (.T .B (.k .A)))) (.t (.t (.s (.k .A) .B)) (.t (.s (.k .A) .A)))) rfl
def Lk:= @ft (.i (.a (.L .Z .A) (.a (.T .A .B) (.T .B (.k .A)))) (.T .B (.k .A))) rfl
def yi:= @bK (.i (.l .A (.c 25)) (.i (.e .B .A) (.l .B (.c 100000)))) rfl
def Ll:= @bV (.l (.a (.a .A (.c 2)) (.c 2)) (.a .A (.c 4))) rfl
def rM:= @bV (.i (.l .A (.c 25)) (.l .A (.c 100000))) rfl
def Lm:= @ft (.i (.a (.L .Z .A) (.a (.T .A .B) (.T .B (.k .A)))) (.T .A (.k .A))) rfl
def Lo:= @A8 (.i (.l .A (.c 25)) (.i (.a (.L .Z .A) (.a (.T .A .B) (.T .B (.k .A)))) (.i (.E .B .C) (.T .C (.c 9223372036854775808))))) rfl
def Lp:= @bK (.i (.l .A (.c 25)) (.i (.l .B .A) (.l .B (.c 10000)))) rfl
def ER:= @ft (.i (.l .A (.c 25)) (.i (.a (.L .Z .A) (.a (.T .A .B) (.T .B (.k .A)))) (.T .B (.c 9223372036854775808)))) rfl
def ES:= @ft (.i (.l .A (.c 25)) (.i (.a (.L .Z .A) (.a (.T .A .B) (.T .B (.k .A)))) (.T .A (.c 9223372036854775808)))) rfl
def uJ:= @bK (.i (.l .A (.c 25)) (.i (.t .B .A) (.T (.k .B) (.c 9223372036854775808)))) rfl
theorem Xi:(x1≤(x2*x3))→(x0≤x2)→((x0+x1)≤((x2*x3)+x2)):=λa b=>Nat.add_comm .. ▸ Nat.add_le_add a b
def Lq:= @bB (.i (.l .A (.c 25)) (.i (.e .B .A) (.l (.n .C .B) (.c 25)))) rfl
theorem Xj:(x1≤63)→(x0=(x1+12))→((0<(x0/3))∧((x0/3)≤25)):=fk [x1,x0,_] [] (.i (.l (.m 3 .C) .B) (.i (.t .B (.a (.m 3 .C) (.c 3))) (.i (.l .A (.c 63)) (.i (.e .B (.a .A (.c 12))) (.a (.t .Z .C) (.l .C (.c 25))))))) 5 rfl (f7 ..) (pY (dN _))
def Bg:= @bV (.i (.l .A (.c 50)) (.l .A (.c 100))) rfl
def Lr:= @bV (.l (.a .A .O) (.a .A (.c 10))) rfl
def Ls:= @bV (.l (.a .A (.c 9)) (.a .A (.c 10))) rfl
variable {bC bO bo bw dC dP eL iK kg yJ:Type}{P0:Prop}{lH:bw→Prop}{u0:bw}
theorem fT(h:P0→lH u0): ∀b0,(P0∧b0=u0)→lH b0:=by rintro b0 ⟨p0,rfl⟩;exact h p0
variable {c8:bw→bC→Prop}{u1:bC}
theorem t6(h:c8 u0 u1): ∀b0 b1,(b0=u0∧b1=u1)→c8 b0 b1:=by rintro b0 b1 ⟨rfl,rfl⟩;exact h
theorem PW{P1:Prop}(h:P0→P1→lH u0): ∀b0,(P0∧P1∧b0=u0)→lH b0:=by rintro b0 ⟨p0,p1,rfl⟩;exact h p0 p1
variable {fi:bw→bC→dP→Prop}
theorem Oi{u2:dP}(h:fi u0 u1 u2): ∀b0 b1 b2,(b0=u0∧b1=u1∧b2=u2)→fi b0 b1 b2:=by rintro b0 b1 b2 ⟨rfl,rfl,rfl⟩;exact h
variable {P0:bo→Prop}{u0:bo→bw}
theorem PX(h : ∀a0,P0 a0→lH (u0 a0)): ∀b0,(∃a0,P0 a0∧b0=u0 a0)→lH b0:=by rintro b0 ⟨a0,p0,rfl⟩;exact h a0 p0
variable {u1:bo→bC}
theorem fh(h : ∀a0,c8 (u0 a0) (u1 a0)): ∀b0 b1,(∃a0,b0=u0 a0∧b1=u1 a0)→c8 b0 b1:=by rintro b0 b1 ⟨a0,rfl,rfl⟩;exact h a0
variable {P1:bo→Prop}
theorem Hd(h : ∀a0,P0 a0→P1 a0→lH (u0 a0)): ∀b0,(∃a0,P0 a0∧P1 a0∧b0=u0 a0)→lH b0:=by rintro b0 ⟨a0,p0,p1,rfl⟩;exact h a0 p0 p1
variable {u2:bo→dP}
theorem GI(h : ∀a0,fi (u0 a0) (u1 a0) (u2 a0)): ∀b0 b1 b2,(∃a0,b0=u0 a0∧b1=u1 a0∧b2=u2 a0)→fi b0 b1 b2:=by rintro b0 b1 b2 ⟨a0,rfl,rfl,rfl⟩;exact h a0
variable {u0:bo→bO→bw}
theorem PY(h : ∀a0 a1,lH (u0 a0 a1)): ∀b0,(∃a0 a1,b0=u0 a0 a1)→lH b0:=by rintro b0 ⟨a0,a1,rfl⟩;exact h a0 a1
variable {u1:bo→bO→bC}
theorem CW(h : ∀a0 a1,c8 (u0 a0 a1) (u1 a0 a1)): ∀b0 b1,(∃a0 a1,b0=u0 a0 a1∧b1=u1 a0 a1)→c8 b0 b1:=by rintro b0 b1 ⟨a0,a1,rfl,rfl⟩;exact h a0 a1
variable {P0 P1:bo→bO→Prop}
theorem Dg(h : ∀a0 a1,P0 a0 a1→P1 a0 a1→lH (u0 a0 a1)): ∀b0,(∃a0 a1,P0 a0 a1∧P1 a0 a1∧b0=u0 a0 a1)→lH b0:=by rintro b0 ⟨a0,a1,p0,p1,rfl⟩;exact h a0 a1 p0 p1
theorem zX(h : ∀a0 a1,P0 a0 a1→c8 (u0 a0 a1) (u1 a0 a1)): ∀b0 b1,(∃a0 a1,b0=u0 a0 a1∧P0 a0 a1∧b1=u1 a0 a1)→c8 b0 b1:=by rintro b0 b1 ⟨a0,a1,rfl,p1,rfl⟩;exact h a0 a1 p1
variable {u2:bo→bO→dP}
theorem Oj(h : ∀a0 a1,fi (u0 a0 a1) (u1 a0 a1) (u2 a0 a1)): ∀b0 b1 b2,(∃a0 a1,b0=u0 a0 a1∧b1=u1 a0 a1∧b2=u2 a0 a1)→fi b0 b1 b2:=by rintro b0 b1 b2 ⟨a0,a1,rfl,rfl,rfl⟩;exact h a0 a1
theorem vB(h : ∀a0 a1,P0 a0 a1→P1 a0 a1→c8 (u0 a0 a1) (u1 a0 a1)): ∀b0 b1,(∃a0 a1,b0=u0 a0 a1∧P0 a0 a1∧P1 a0 a1∧b1=u1 a0 a1)→c8 b0 b1:=by rintro b0 b1 ⟨a0,a1,rfl,p1,p2,rfl⟩;exact h a0 a1 p1 p2
variable {P2:bo→bO→Prop}
theorem OC(h : ∀a0 a1,P0 a0 a1→P1 a0 a1→P2 a0 a1→c8 (u0 a0 a1) (u1 a0 a1)): ∀b0 b1,(∃a0 a1,b0=u0 a0 a1∧P0 a0 a1∧P1 a0 a1∧P2 a0 a1∧b1=u1 a0 a1)→c8 b0 b1:=by rintro b0 b1 ⟨a0,a1,rfl,p1,p2,p3,rfl⟩;exact h a0 a1 p1 p2 p3
variable {P3 P4:bo→bO→Prop}
theorem GO(h : ∀a0 a1,P0 a0 a1→P1 a0 a1→P2 a0 a1→P3 a0 a1→P4 a0 a1→c8 (u0 a0 a1) (u1 a0 a1)): ∀b0 b1,(∃a0 a1,P0 a0 a1∧P1 a0 a1∧b0=u0 a0 a1∧P2 a0 a1∧P3 a0 a1∧P4 a0 a1∧b1=u1 a0 a1)→c8 b0 b1:=by rintro b0 b1 ⟨a0,a1,p0,p1,rfl,p3,p4,p5,rfl⟩;exact h a0 a1 p0 p1 p3 p4 p5
variable {u0:bo→bO→dC→bw}{u1:bo→bO→dC→bC}
theorem CY(h : ∀a0 a1 a2,c8 (u0 a0 a1 a2) (u1 a0 a1 a2)): ∀b0 b1,(∃a0 a1 a2,b0=u0 a0 a1 a2∧b1=u1 a0 a1 a2)→c8 b0 b1:=by rintro b0 b1 ⟨a0,a1,a2,rfl,rfl⟩;exact h a0 a1 a2
variable {P0 P1:bo→bO→dC→Prop}
theorem GP(h : ∀a0 a1 a2,P0 a0 a1 a2→P1 a0 a1 a2→c8 (u0 a0 a1 a2) (u1 a0 a1 a2)): ∀b0 b1,(∃a0 a1 a2,b0=u0 a0 a1 a2∧P0 a0 a1 a2∧P1 a0 a1 a2∧b1=u1 a0 a1 a2)→c8 b0 b1:=by rintro b0 b1 ⟨a0,a1,a2,rfl,p1,p2,rfl⟩;exact h a0 a1 a2 p1 p2
variable {u0:bo→bO→dC→eL→bw}{u1:bo→bO→dC→eL→bC}
theorem OD(h : ∀a0 a1 a2 a3,c8 (u0 a0 a1 a2 a3) (u1 a0 a1 a2 a3)): ∀b0 b1,(∃a0 a1 a2 a3,b0=u0 a0 a1 a2 a3∧b1=u1 a0 a1 a2 a3)→c8 b0 b1:=by rintro b0 b1 ⟨a0,a1,a2,a3,rfl,rfl⟩;exact h a0 a1 a2 a3
variable {P0 P1 P2:bo→bO→dC→eL→Prop}
theorem OE(h : ∀a0 a1 a2 a3,P0 a0 a1 a2 a3→P1 a0 a1 a2 a3→P2 a0 a1 a2 a3→c8 (u0 a0 a1 a2 a3) (u1 a0 a1 a2 a3)): ∀b0 b1,(∃a0 a1 a2 a3,b0=u0 a0 a1 a2 a3∧P0 a0 a1 a2 a3∧P1 a0 a1 a2 a3∧P2 a0 a1 a2 a3∧b1=u1 a0 a1 a2 a3)→c8 b0 b1:=by rintro b0 b1 ⟨a0,a1,a2,a3,rfl,p1,p2,p3,rfl⟩;exact h a0 a1 a2 a3 p1 p2 p3
variable {P0 P1:bo→bO→dC→eL→iK→Prop}{u0:bo→bO→dC→eL→iK→bw}{u1:bo→bO→dC→eL→iK→bC}
theorem GQ(h : ∀a0 a1 a2 a3 a4,P0 a0 a1 a2 a3 a4→P1 a0 a1 a2 a3 a4→c8 (u0 a0 a1 a2 a3 a4) (u1 a0 a1 a2 a3 a4)): ∀b0 b1,(∃a0 a1 a2 a3 a4,b0=u0 a0 a1 a2 a3 a4∧P0 a0 a1 a2 a3 a4∧P1 a0 a1 a2 a3 a4∧b1=u1 a0 a1 a2 a3 a4)→c8 b0 b1:=by rintro b0 b1 ⟨a0,a1,a2,a3,a4,rfl,p1,p2,rfl⟩;exact h a0 a1 a2 a3 a4 p1 p2
variable {P0:bo→bO→dC→eL→iK→kg→Prop}{u0:bo→bO→dC→eL→iK→kg→bw}{u1:bo→bO→dC→eL→iK→kg→bC}
theorem OF(h : ∀a0 a1 a2 a3 a4 a5,P0 a0 a1 a2 a3 a4 a5→c8 (u0 a0 a1 a2 a3 a4 a5) (u1 a0 a1 a2 a3 a4 a5)): ∀b0 b1,(∃a0 a1 a2 a3 a4 a5,b0=u0 a0 a1 a2 a3 a4 a5∧P0 a0 a1 a2 a3 a4 a5∧b1=u1 a0 a1 a2 a3 a4 a5)→c8 b0 b1:=by rintro b0 b1 ⟨a0,a1,a2,a3,a4,a5,rfl,p1,rfl⟩;exact h a0 a1 a2 a3 a4 a5 p1
variable {P1:bo→bO→dC→eL→iK→kg→Prop}
theorem OG(h : ∀a0 a1 a2 a3 a4 a5,P0 a0 a1 a2 a3 a4 a5→P1 a0 a1 a2 a3 a4 a5→c8 (u0 a0 a1 a2 a3 a4 a5) (u1 a0 a1 a2 a3 a4 a5)): ∀b0 b1,(∃a0 a1 a2 a3 a4 a5,b0=u0 a0 a1 a2 a3 a4 a5∧P0 a0 a1 a2 a3 a4 a5∧P1 a0 a1 a2 a3 a4 a5∧b1=u1 a0 a1 a2 a3 a4 a5)→c8 b0 b1:=by rintro b0 b1 ⟨a0,a1,a2,a3,a4,a5,rfl,p1,p2,rfl⟩;exact h a0 a1 a2 a3 a4 a5 p1 p2
variable {P2:bo→bO→dC→eL→iK→kg→Prop}
theorem GR(h : ∀a0 a1 a2 a3 a4 a5,P0 a0 a1 a2 a3 a4 a5→P1 a0 a1 a2 a3 a4 a5→P2 a0 a1 a2 a3 a4 a5→c8 (u0 a0 a1 a2 a3 a4 a5) (u1 a0 a1 a2 a3 a4 a5)): ∀b0 b1,(∃a0 a1 a2 a3 a4 a5,b0=u0 a0 a1 a2 a3 a4 a5∧P0 a0 a1 a2 a3 a4 a5∧P1 a0 a1 a2 a3 a4 a5∧P2 a0 a1 a2 a3 a4 a5∧b1=u1 a0 a1 a2 a3 a4 a5)→c8 b0 b1:=by rintro b0 b1 ⟨a0,a1,a2,a3,a4,a5,rfl,p1,p2,p3,rfl⟩;exact h a0 a1 a2 a3 a4 a5 p1 p2 p3
variable {P0 P1 P2:bo→bO→dC→eL→iK→kg→yJ→Prop}{u0:bo→bO→dC→eL→iK→kg→yJ→bw}{u1:bo→bO→dC→eL→iK→kg→yJ→bC}
theorem GS(h : ∀a0 a1 a2 a3 a4 a5 a6,P0 a0 a1 a2 a3 a4 a5 a6→P1 a0 a1 a2 a3 a4 a5 a6→P2 a0 a1 a2 a3 a4 a5 a6→c8 (u0 a0 a1 a2 a3 a4 a5 a6) (u1 a0 a1 a2 a3 a4 a5 a6)): ∀b0 b1,(∃a0 a1 a2 a3 a4 a5 a6,b0=u0 a0 a1 a2 a3 a4 a5 a6∧P0 a0 a1 a2 a3 a4 a5 a6∧P1 a0 a1 a2 a3 a4 a5 a6∧P2 a0 a1 a2 a3 a4 a5 a6∧b1=u1 a0 a1 a2 a3 a4 a5 a6)→c8 b0 b1:=by rintro b0 b1 ⟨a0,a1,a2,a3,a4,a5,a6,rfl,p1,p2,p3,rfl⟩;exact h a0 a1 a2 a3 a4 a5 a6 p1 p2 p3
variable {P0:bC→Prop}{u0:bC→bw}
theorem jE(h : ∀b1,P0 b1→c8 (u0 b1) b1): ∀b0 b1,(b0=u0 b1∧P0 b1)→c8 b0 b1:=by rintro b0 b1 ⟨rfl,p1⟩;exact h b1 p1
theorem He(h : ∀b1,P0 b1→c8 (u0 b1) b1): ∀b0 b1,(P0 b1∧b0=u0 b1)→c8 b0 b1:=by rintro b0 b1 ⟨p0,rfl⟩;exact h b1 p0
variable {u0:bC→bo→bw}
theorem ub(h : ∀b1 a0,c8 (u0 b1 a0) b1): ∀b0 b1,(∃a0,b0=u0 b1 a0)→c8 b0 b1:=by rintro b0 b1 ⟨a0,rfl⟩;exact h b1 a0
variable {P0:bC→bo→Prop}
theorem xk(h : ∀b1 a0,P0 b1 a0→c8 (u0 b1 a0) b1): ∀b0 b1,(∃a0,b0=u0 b1 a0∧P0 b1 a0)→c8 b0 b1:=by rintro b0 b1 ⟨a0,rfl,p1⟩;exact h b1 a0 p1
variable {u2:bC→bo→dP}
theorem OH(h : ∀b1 a0,P0 b1 a0→fi (u0 b1 a0) b1 (u2 b1 a0)): ∀b0 b1 b2,(∃a0,b0=u0 b1 a0∧P0 b1 a0∧b2=u2 b1 a0)→fi b0 b1 b2:=by rintro b0 b1 b2 ⟨a0,rfl,p1,rfl⟩;exact h b1 a0 p1
variable {P0:bC→bo→bO→Prop}{u0:bC→bo→bO→bw}
theorem PZ(h : ∀b1 a0 a1,P0 b1 a0 a1→c8 (u0 b1 a0 a1) b1): ∀b0 b1,(∃a0 a1,b0=u0 b1 a0 a1∧P0 b1 a0 a1)→c8 b0 b1:=by rintro b0 b1 ⟨a0,a1,rfl,p1⟩;exact h b1 a0 a1 p1
variable {P1 P2:bC→bo→bO→Prop}
theorem Qa(h : ∀b1 a0 a1,P0 b1 a0 a1→P1 b1 a0 a1→P2 b1 a0 a1→c8 (u0 b1 a0 a1) b1): ∀b0 b1,(∃a0 a1,P0 b1 a0 a1∧P1 b1 a0 a1∧b0=u0 b1 a0 a1∧P2 b1 a0 a1)→c8 b0 b1:=by rintro b0 b1 ⟨a0,a1,p0,p1,rfl,p3⟩;exact h b1 a0 a1 p0 p1 p3
variable {P0:bC→dP→Prop}{u0:bC→dP→bw}
theorem Qb(h : ∀b1 b2,P0 b1 b2→fi (u0 b1 b2) b1 b2): ∀b0 b1 b2,(b0=u0 b1 b2∧P0 b1 b2)→fi b0 b1 b2:=by rintro b0 b1 b2 ⟨rfl,p1⟩;exact h b1 b2 p1
variable {P0:bC→dP→bo→Prop}{u0:bC→dP→bo→bw}
theorem Qc(h : ∀b1 b2 a0,P0 b1 b2 a0→fi (u0 b1 b2 a0) b1 b2): ∀b0 b1 b2,(∃a0,b0=u0 b1 b2 a0∧P0 b1 b2 a0)→fi b0 b1 b2:=by rintro b0 b1 b2 ⟨a0,rfl,p1⟩;exact h b1 b2 a0 p1
variable {u0:dP→bw}{u1:dP→bC}
theorem vC(h : ∀b2,fi (u0 b2) (u1 b2) b2): ∀b0 b1 b2,(b0=u0 b2∧b1=u1 b2)→fi b0 b1 b2:=by rintro b0 b1 b2 ⟨rfl,rfl⟩;exact h b2
variable {u0:dP→bo→bw}{u1:dP→bo→bC}
theorem GT(h : ∀b2 a0,fi (u0 b2 a0) (u1 b2 a0) b2): ∀b0 b1 b2,(∃a0,b0=u0 b2 a0∧b1=u1 b2 a0)→fi b0 b1 b2:=by rintro b0 b1 b2 ⟨a0,rfl,rfl⟩;exact h b2 a0
variable {P0 P1:dP→bo→bO→Prop}{u0:dP→bo→bO→bw}{u1:dP→bo→bO→bC}
theorem OI(h : ∀b2 a0 a1,P0 b2 a0 a1→P1 b2 a0 a1→fi (u0 b2 a0 a1) (u1 b2 a0 a1) b2): ∀b0 b1 b2,(∃a0 a1,b0=u0 b2 a0 a1∧P0 b2 a0 a1∧P1 b2 a0 a1∧b1=u1 b2 a0 a1)→fi b0 b1 b2:=by rintro b0 b1 b2 ⟨a0,a1,rfl,p1,p2,rfl⟩;exact h b2 a0 a1 p1 p2
variable {u0:dP→bo→bO→dC→bw}{u1:dP→bo→bO→dC→bC}
theorem OJ(h : ∀b2 a0 a1 a2,fi (u0 b2 a0 a1 a2) (u1 b2 a0 a1 a2) b2): ∀b0 b1 b2,(∃a0 a1 a2,b0=u0 b2 a0 a1 a2∧b1=u1 b2 a0 a1 a2)→fi b0 b1 b2:=by rintro b0 b1 b2 ⟨a0,a1,a2,rfl,rfl⟩;exact h b2 a0 a1 a2
variable {P0 P1:dP→bo→bO→dC→Prop}
theorem GV(h : ∀b2 a0 a1 a2,P0 b2 a0 a1 a2→P1 b2 a0 a1 a2→fi (u0 b2 a0 a1 a2) (u1 b2 a0 a1 a2) b2): ∀b0 b1 b2,(∃a0 a1 a2,b0=u0 b2 a0 a1 a2∧P0 b2 a0 a1 a2∧P1 b2 a0 a1 a2∧b1=u1 b2 a0 a1 a2)→fi b0 b1 b2:=by rintro b0 b1 b2 ⟨a0,a1,a2,rfl,p1,p2,rfl⟩;exact h b2 a0 a1 a2 p1 p2
variable {u0:dP→bo→bO→dC→eL→bw}{u1:dP→bo→bO→dC→eL→bC}
theorem OK(h : ∀b2 a0 a1 a2 a3,fi (u0 b2 a0 a1 a2 a3) (u1 b2 a0 a1 a2 a3) b2): ∀b0 b1 b2,(∃a0 a1 a2 a3,b0=u0 b2 a0 a1 a2 a3∧b1=u1 b2 a0 a1 a2 a3)→fi b0 b1 b2:=by rintro b0 b1 b2 ⟨a0,a1,a2,a3,rfl,rfl⟩;exact h b2 a0 a1 a2 a3
variable {P0 P1:dP→bo→bO→dC→eL→Prop}
theorem zY(h : ∀b2 a0 a1 a2 a3,P0 b2 a0 a1 a2 a3→P1 b2 a0 a1 a2 a3→fi (u0 b2 a0 a1 a2 a3) (u1 b2 a0 a1 a2 a3) b2): ∀b0 b1 b2,(∃a0 a1 a2 a3,b0=u0 b2 a0 a1 a2 a3∧b1=u1 b2 a0 a1 a2 a3∧P0 b2 a0 a1 a2 a3∧P1 b2 a0 a1 a2 a3)→fi b0 b1 b2:=by rintro b0 b1 b2 ⟨a0,a1,a2,a3,rfl,rfl,p2,p3⟩;exact h b2 a0 a1 a2 a3 p2 p3
noncomputable def nL{α:Type}:List α→Nat→Option α
 | [],_=>none
 | x::_,0=>some x
 | _::l,i+1=>nL l i
noncomputable def dL{α:Type}:Nat→List α→List α
 | 0,l=>l
 | n+1,l=>dL n l.tail
variable {α:Type}
theorem md{p:α}{L:List α}(n:Nat)(h:p∈dL n L):p∈L:=by
 induction n generalizing L with
 | zero=>exact h
 | succ n ih=>exact List.mem_of_mem_tail (ih h)
theorem iI{α:Sort _}{P:α→Prop}: ∀o,P o→P o:=λ_ h=>h
theorem mi{p:α}{L:List α}(i:Nat)(h:nL L i=some p):p∈L:=by
 induction L generalizing i with
 | nil=>cases h
 | cons x l ih =>
  cases i with
  | zero=>cases h;exact .head _
  | succ i=>exact .tail _ (ih i h)
end
local macro_rules | `(tactic| kst_p) => `(tactic| (intros;with_unfolding_all rfl))
variable {KV:ae→aq→Int→Prop}{kw l binds:List (Str×aq)}{xa a:AV}{so wl d c ta NI it F rl c2 dx ea al acc fa TS ua c1 da C fI:ay}{dQ dK sc firsts early dr Dn w2 js is er win hold rd takes arr u:List Int}{cd:vt}{qf:Pos→Str}{cls ct kV doc mv v1 v2 cq key kv pm:aq}{p' p3 pX p2 py p1 pos apos:Pos}{vs vals first:List aq}{E Q:aq→aU→Prop}{now k lo hi:Int}{t:Sem aq}{fl j ep n B i seen:Nat}{P2 P1 Gx P0:Prop}{o' o:Obj}{name x qual q kn y:Str}{LE L':Nat→ae}{env:Env}{fs:List Env}{ws qs:List (Int×Int)}{expr b:Bool}{h h':Heap}{U σ z ρ c0:Int→Int}{as ys xs res:List AV}{D:List (Int×AV)}{K₂:List aq→aq→ae→Prop}{β α:Type}{dz ps:List (ay×List AV)}{A:bg}{ts args:List (Bool×Sem aq)}{vg:VG}{s:aU}{es:List (Pos×ay)}{g:Gd}{scope:Scope}{K' wG K:aq→ae→Prop}{bF X T Pre Kx L:ae}{st:fK}{φ:Nat→ay}{Pd:Nat→List Int}{elt target e ek ei ex func:Expr}{f:Int×List Int→Int×List Int}{fd:xb}{dom:Int→Prop}{r:Option aq}{R:Result→aU→Prop}{KA:ay→List aq→ae→Prop}{op:Operator}{keywords ip:List (Option Str×Sem aq)}{rest ifs:List Expr}{body:List fK}{cs cl:List (Str×ay)}{mm mg mb:Str→Option aq}{P' P:Obj→Prop}{be:List (Int×aq)}{la:Nat→Int}{KB:List (Str×aq)→ae→Prop}{H₀:(ae→Prop)→Prop}{gens:List lj}{ends:List (Option Int)}{fb:NY}{m:List (Str×AV)}{sl:List (Option aq)}{M:Model}{p:Array Nat}
section
theorem b8(h:P0∧P1)(k:P0→P1→Gx):Gx:=k h.1 h.2
theorem fU(h:P0∧P1∧P2)(k:P0→P1→P2→Gx):Gx:=k h.1 h.2.1 h.2.2
theorem kc{P3:Prop}(h:P0∧P1∧P2∧P3)(k:P0→P1→P2→P3→Gx):Gx:=k h.1 h.2.1 h.2.2.1 h.2.2.2
theorem Xk{P3 P4 P5:Prop}(h:P0∧P1∧P2∧P3∧P4∧P5)(k:P0→P1→P2→P3→P4→P5→Gx):Gx:=k h.1 h.2.1 h.2.2.1 h.2.2.2.1 h.2.2.2.2.1 h.2.2.2.2.2
variable {X0 X1 X2 X3 X4 X5 X6 X7 X8 Xp Xq Xr Xs Xu Xv Xw Y':Sort _}{P0:X0→Prop}
theorem cT(h : ∃a0,P0 a0)(k : ∀a0,P0 a0→Gx):Gx:=h.elim λa0 h=>k a0 h
variable {P1:X0→Prop}
theorem ap(h : ∃a0,P0 a0∧P1 a0)(k : ∀a0,P0 a0→P1 a0→Gx):Gx:=h.elim λa0 h=>k a0 h.1 h.2
variable {P2:X0→Prop}
theorem du(h : ∃a0,P0 a0∧P1 a0∧P2 a0)(k : ∀a0,P0 a0→P1 a0→P2 a0→Gx):Gx:=h.elim λa0 h=>k a0 h.1 h.2.1 h.2.2
theorem qS{P3:X0→Prop}(h : ∃a0,P0 a0∧P1 a0∧P2 a0∧P3 a0)(k : ∀a0,P0 a0→P1 a0→P2 a0→P3 a0→Gx):Gx:=h.elim λa0 h=>k a0 h.1 h.2.1 h.2.2.1 h.2.2.2
theorem ET{P3 P4:X0→Prop}(h : ∃a0,P0 a0∧P1 a0∧P2 a0∧P3 a0∧P4 a0)(k : ∀a0,P0 a0→P1 a0→P2 a0→P3 a0→P4 a0→Gx):Gx:=h.elim λa0 h=>k a0 h.1 h.2.1 h.2.2.1 h.2.2.2.1 h.2.2.2.2
variable {P0:X0→X1→Prop}
theorem s9(h : ∃a0 a1,P0 a0 a1)(k : ∀a0 a1,P0 a0 a1→Gx):Gx:=h.elim λa0 h=>h.elim λa1 h=>k a0 a1 h
variable {P1:X0→X1→Prop}
theorem cp(h : ∃a0 a1,P0 a0 a1∧P1 a0 a1)(k : ∀a0 a1,P0 a0 a1→P1 a0 a1→Gx):Gx:=h.elim λa0 h=>h.elim λa1 h=>k a0 a1 h.1 h.2
variable {P2:X0→X1→Prop}
theorem eQ(h : ∃a0 a1,P0 a0 a1∧P1 a0 a1∧P2 a0 a1)(k : ∀a0 a1,P0 a0 a1→P1 a0 a1→P2 a0 a1→Gx):Gx:=h.elim λa0 h=>h.elim λa1 h=>k a0 a1 h.1 h.2.1 h.2.2
variable {P3:X0→X1→Prop}
theorem tc(h : ∃a0 a1,P0 a0 a1∧P1 a0 a1∧P2 a0 a1∧P3 a0 a1)(k : ∀a0 a1,P0 a0 a1→P1 a0 a1→P2 a0 a1→P3 a0 a1→Gx):Gx:=h.elim λa0 h=>h.elim λa1 h=>k a0 a1 h.1 h.2.1 h.2.2.1 h.2.2.2
variable {P4:X0→X1→Prop}
theorem Bh(h : ∃a0 a1,P0 a0 a1∧P1 a0 a1∧P2 a0 a1∧P3 a0 a1∧P4 a0 a1)(k : ∀a0 a1,P0 a0 a1→P1 a0 a1→P2 a0 a1→P3 a0 a1→P4 a0 a1→Gx):Gx:=h.elim λa0 h=>h.elim λa1 h=>k a0 a1 h.1 h.2.1 h.2.2.1 h.2.2.2.1 h.2.2.2.2
theorem uK{P5:X0→X1→Prop}(h : ∃a0 a1,P0 a0 a1∧P1 a0 a1∧P2 a0 a1∧P3 a0 a1∧P4 a0 a1∧P5 a0 a1)(k : ∀a0 a1,P0 a0 a1→P1 a0 a1→P2 a0 a1→P3 a0 a1→P4 a0 a1→P5 a0 a1→Gx):Gx:=h.elim λa0 h=>h.elim λa1 h=>k a0 a1 h.1 h.2.1 h.2.2.1 h.2.2.2.1 h.2.2.2.2.1 h.2.2.2.2.2
theorem Lu{P5 P6:X0→X1→Prop}(h : ∃a0 a1,P0 a0 a1∧P1 a0 a1∧P2 a0 a1∧P3 a0 a1∧P4 a0 a1∧P5 a0 a1∧P6 a0 a1)(k : ∀a0 a1,P0 a0 a1→P1 a0 a1→P2 a0 a1→P3 a0 a1→P4 a0 a1→P5 a0 a1→P6 a0 a1→Gx):Gx:=h.elim λa0 h=>h.elim λa1 h=>k a0 a1 h.1 h.2.1 h.2.2.1 h.2.2.2.1 h.2.2.2.2.1 h.2.2.2.2.2.1 h.2.2.2.2.2.2
variable {P0:X0→X1→X2→Prop}
theorem yj(h : ∃a0 a1 a2,P0 a0 a1 a2)(k : ∀a0 a1 a2,P0 a0 a1 a2→Gx):Gx:=h.elim λa0 h=>h.elim λa1 h=>h.elim λa2 h=>k a0 a1 a2 h
variable {P1:X0→X1→X2→Prop}
theorem Lv(h : ∃a0 a1 a2,P0 a0 a1 a2∧P1 a0 a1 a2)(k : ∀a0 a1 a2,P0 a0 a1 a2→P1 a0 a1 a2→Gx):Gx:=h.elim λa0 h=>h.elim λa1 h=>h.elim λa2 h=>k a0 a1 a2 h.1 h.2
theorem Lw{P2:X0→X1→X2→Prop}(h : ∃a0 a1 a2,P0 a0 a1 a2∧P1 a0 a1 a2∧P2 a0 a1 a2)(k : ∀a0 a1 a2,P0 a0 a1 a2→P1 a0 a1 a2→P2 a0 a1 a2→Gx):Gx:=h.elim λa0 h=>h.elim λa1 h=>h.elim λa2 h=>k a0 a1 a2 h.1 h.2.1 h.2.2
theorem lF{P2 P3:X0→X1→X2→Prop}(h : ∃a0 a1 a2,P0 a0 a1 a2∧P1 a0 a1 a2∧P2 a0 a1 a2∧P3 a0 a1 a2)(k : ∀a0 a1 a2,P0 a0 a1 a2→P1 a0 a1 a2→P2 a0 a1 a2→P3 a0 a1 a2→Gx):Gx:=h.elim λa0 h=>h.elim λa1 h=>h.elim λa2 h=>k a0 a1 a2 h.1 h.2.1 h.2.2.1 h.2.2.2
variable {P0 P1:X0→X1→X2→X3→Prop}
theorem uL(h : ∃a0 a1 a2 a3,P0 a0 a1 a2 a3∧P1 a0 a1 a2 a3)(k : ∀a0 a1 a2 a3,P0 a0 a1 a2 a3→P1 a0 a1 a2 a3→Gx):Gx:=h.elim λa0 h=>h.elim λa1 h=>h.elim λa2 h=>h.elim λa3 h=>k a0 a1 a2 a3 h.1 h.2
theorem EU{P2 P3:X0→X1→X2→X3→Prop}(h : ∃a0 a1 a2 a3,P0 a0 a1 a2 a3∧P1 a0 a1 a2 a3∧P2 a0 a1 a2 a3∧P3 a0 a1 a2 a3)(k : ∀a0 a1 a2 a3,P0 a0 a1 a2 a3→P1 a0 a1 a2 a3→P2 a0 a1 a2 a3→P3 a0 a1 a2 a3→Gx):Gx:=h.elim λa0 h=>h.elim λa1 h=>h.elim λa2 h=>h.elim λa3 h=>k a0 a1 a2 a3 h.1 h.2.1 h.2.2.1 h.2.2.2
theorem qT{P2 P3 P4:X0→X1→X2→X3→Prop}(h : ∃a0 a1 a2 a3,P0 a0 a1 a2 a3∧P1 a0 a1 a2 a3∧P2 a0 a1 a2 a3∧P3 a0 a1 a2 a3∧P4 a0 a1 a2 a3)(k : ∀a0 a1 a2 a3,P0 a0 a1 a2 a3→P1 a0 a1 a2 a3→P2 a0 a1 a2 a3→P3 a0 a1 a2 a3→P4 a0 a1 a2 a3→Gx):Gx:=h.elim λa0 h=>h.elim λa1 h=>h.elim λa2 h=>h.elim λa3 h=>k a0 a1 a2 a3 h.1 h.2.1 h.2.2.1 h.2.2.2.1 h.2.2.2.2
theorem wf{P0 P1 P2:X0→X1→X2→X3→X4→Prop}(h : ∃a0 a1 a2 a3 a4,P0 a0 a1 a2 a3 a4∧P1 a0 a1 a2 a3 a4∧P2 a0 a1 a2 a3 a4)(k : ∀a0 a1 a2 a3 a4,P0 a0 a1 a2 a3 a4→P1 a0 a1 a2 a3 a4→P2 a0 a1 a2 a3 a4→Gx):Gx:=h.elim λa0 h=>h.elim λa1 h=>h.elim λa2 h=>h.elim λa3 h=>h.elim λa4 h=>k a0 a1 a2 a3 a4 h.1 h.2.1 h.2.2
theorem Xl{P0 P1 P2 P3 P4 P5:X0→X1→X2→X3→X4→Prop}(h : ∃a0 a1 a2 a3 a4,P0 a0 a1 a2 a3 a4∧P1 a0 a1 a2 a3 a4∧P2 a0 a1 a2 a3 a4∧P3 a0 a1 a2 a3 a4∧P4 a0 a1 a2 a3 a4∧P5 a0 a1 a2 a3 a4)(k : ∀a0 a1 a2 a3 a4,P0 a0 a1 a2 a3 a4→P1 a0 a1 a2 a3 a4→P2 a0 a1 a2 a3 a4→P3 a0 a1 a2 a3 a4→P4 a0 a1 a2 a3 a4→P5 a0 a1 a2 a3 a4→Gx):Gx:=h.elim λa0 h=>h.elim λa1 h=>h.elim λa2 h=>h.elim λa3 h=>h.elim λa4 h=>k a0 a1 a2 a3 a4 h.1 h.2.1 h.2.2.1 h.2.2.2.1 h.2.2.2.2.1 h.2.2.2.2.2
theorem Xm{P0 P1 P2 P3:X0→X1→X2→X3→X4→X5→Prop}(h : ∃a0 a1 a2 a3 a4 a5,P0 a0 a1 a2 a3 a4 a5∧P1 a0 a1 a2 a3 a4 a5∧P2 a0 a1 a2 a3 a4 a5∧P3 a0 a1 a2 a3 a4 a5)(k : ∀a0 a1 a2 a3 a4 a5,P0 a0 a1 a2 a3 a4 a5→P1 a0 a1 a2 a3 a4 a5→P2 a0 a1 a2 a3 a4 a5→P3 a0 a1 a2 a3 a4 a5→Gx):Gx:=h.elim λa0 h=>h.elim λa1 h=>h.elim λa2 h=>h.elim λa3 h=>h.elim λa4 h=>h.elim λa5 h=>k a0 a1 a2 a3 a4 a5 h.1 h.2.1 h.2.2.1 h.2.2.2
theorem yk{P0 P1 P2 P3:X0→X1→X2→X3→X4→X5→X6→Prop}(h : ∃a0 a1 a2 a3 a4 a5 a6,P0 a0 a1 a2 a3 a4 a5 a6∧P1 a0 a1 a2 a3 a4 a5 a6∧P2 a0 a1 a2 a3 a4 a5 a6∧P3 a0 a1 a2 a3 a4 a5 a6)(k : ∀a0 a1 a2 a3 a4 a5 a6,P0 a0 a1 a2 a3 a4 a5 a6→P1 a0 a1 a2 a3 a4 a5 a6→P2 a0 a1 a2 a3 a4 a5 a6→P3 a0 a1 a2 a3 a4 a5 a6→Gx):Gx:=h.elim λa0 h=>h.elim λa1 h=>h.elim λa2 h=>h.elim λa3 h=>h.elim λa4 h=>h.elim λa5 h=>h.elim λa6 h=>k a0 a1 a2 a3 a4 a5 a6 h.1 h.2.1 h.2.2.1 h.2.2.2
theorem nu{P0 P1 P2 P3 P4:X0→X1→X2→X3→X4→X5→X6→Prop}(h : ∃a0 a1 a2 a3 a4 a5 a6,P0 a0 a1 a2 a3 a4 a5 a6∧P1 a0 a1 a2 a3 a4 a5 a6∧P2 a0 a1 a2 a3 a4 a5 a6∧P3 a0 a1 a2 a3 a4 a5 a6∧P4 a0 a1 a2 a3 a4 a5 a6)(k : ∀a0 a1 a2 a3 a4 a5 a6,P0 a0 a1 a2 a3 a4 a5 a6→P1 a0 a1 a2 a3 a4 a5 a6→P2 a0 a1 a2 a3 a4 a5 a6→P3 a0 a1 a2 a3 a4 a5 a6→P4 a0 a1 a2 a3 a4 a5 a6→Gx):Gx:=h.elim λa0 h=>h.elim λa1 h=>h.elim λa2 h=>h.elim λa3 h=>h.elim λa4 h=>h.elim λa5 h=>h.elim λa6 h=>k a0 a1 a2 a3 a4 a5 a6 h.1 h.2.1 h.2.2.1 h.2.2.2.1 h.2.2.2.2
theorem Xn{P0 P1 P2 P3 P4:X0→X1→X2→X3→X4→X5→X6→X7→Prop}(h : ∃a0 a1 a2 a3 a4 a5 a6 a7,P0 a0 a1 a2 a3 a4 a5 a6 a7∧P1 a0 a1 a2 a3 a4 a5 a6 a7∧P2 a0 a1 a2 a3 a4 a5 a6 a7∧P3 a0 a1 a2 a3 a4 a5 a6 a7∧P4 a0 a1 a2 a3 a4 a5 a6 a7)(k : ∀a0 a1 a2 a3 a4 a5 a6 a7,P0 a0 a1 a2 a3 a4 a5 a6 a7→P1 a0 a1 a2 a3 a4 a5 a6 a7→P2 a0 a1 a2 a3 a4 a5 a6 a7→P3 a0 a1 a2 a3 a4 a5 a6 a7→P4 a0 a1 a2 a3 a4 a5 a6 a7→Gx):Gx:=h.elim λa0 h=>h.elim λa1 h=>h.elim λa2 h=>h.elim λa3 h=>h.elim λa4 h=>h.elim λa5 h=>h.elim λa6 h=>h.elim λa7 h=>k a0 a1 a2 a3 a4 a5 a6 a7 h.1 h.2.1 h.2.2.1 h.2.2.2.1 h.2.2.2.2
variable {P0 P1:X0→X1→X2→X3→X4→X5→X6→X7→X8→Prop}
theorem Xo(h : ∃a0 a1 a2 a3 a4 a5 a6 a7 a8,P0 a0 a1 a2 a3 a4 a5 a6 a7 a8∧P1 a0 a1 a2 a3 a4 a5 a6 a7 a8)(k : ∀a0 a1 a2 a3 a4 a5 a6 a7 a8,P0 a0 a1 a2 a3 a4 a5 a6 a7 a8→P1 a0 a1 a2 a3 a4 a5 a6 a7 a8→Gx):Gx:=h.elim λa0 h=>h.elim λa1 h=>h.elim λa2 h=>h.elim λa3 h=>h.elim λa4 h=>h.elim λa5 h=>h.elim λa6 h=>h.elim λa7 h=>h.elim λa8 h=>k a0 a1 a2 a3 a4 a5 a6 a7 a8 h.1 h.2
theorem Jw{P2 P3 P4 P5 P6 P7 P8 P9:X0→X1→X2→X3→X4→X5→X6→X7→X8→Prop}(h : ∃a0 a1 a2 a3 a4 a5 a6 a7 a8,P0 a0 a1 a2 a3 a4 a5 a6 a7 a8∧P1 a0 a1 a2 a3 a4 a5 a6 a7 a8∧P2 a0 a1 a2 a3 a4 a5 a6 a7 a8∧P3 a0 a1 a2 a3 a4 a5 a6 a7 a8∧P4 a0 a1 a2 a3 a4 a5 a6 a7 a8∧P5 a0 a1 a2 a3 a4 a5 a6 a7 a8∧P6 a0 a1 a2 a3 a4 a5 a6 a7 a8∧P7 a0 a1 a2 a3 a4 a5 a6 a7 a8∧P8 a0 a1 a2 a3 a4 a5 a6 a7 a8∧P9 a0 a1 a2 a3 a4 a5 a6 a7 a8)(k : ∀a0 a1 a2 a3 a4 a5 a6 a7 a8,P0 a0 a1 a2 a3 a4 a5 a6 a7 a8→P1 a0 a1 a2 a3 a4 a5 a6 a7 a8→P2 a0 a1 a2 a3 a4 a5 a6 a7 a8→P3 a0 a1 a2 a3 a4 a5 a6 a7 a8→P4 a0 a1 a2 a3 a4 a5 a6 a7 a8→P5 a0 a1 a2 a3 a4 a5 a6 a7 a8→P6 a0 a1 a2 a3 a4 a5 a6 a7 a8→P7 a0 a1 a2 a3 a4 a5 a6 a7 a8→P8 a0 a1 a2 a3 a4 a5 a6 a7 a8→P9 a0 a1 a2 a3 a4 a5 a6 a7 a8→Gx):Gx:=h.elim λa0 h=>h.elim λa1 h=>h.elim λa2 h=>h.elim λa3 h=>h.elim λa4 h=>h.elim λa5 h=>h.elim λa6 h=>h.elim λa7 h=>h.elim λa8 h=>k a0 a1 a2 a3 a4 a5 a6 a7 a8 h.1 h.2.1 h.2.2.1 h.2.2.2.1 h.2.2.2.2.1 h.2.2.2.2.2.1 h.2.2.2.2.2.2.1 h.2.2.2.2.2.2.2.1 h.2.2.2.2.2.2.2.2.1 h.2.2.2.2.2.2.2.2.2
theorem U3{P0 P1 P2:X0→X1→X2→X3→X4→X5→X6→X7→X8→Y'→Xp→Xq→Xr→Xs→Xu→Xv→Xw→Prop}(h : ∃a0 a1 a2 a3 a4 a5 a6 a7 a8 a9 pZ p9 qa rW rX rY rZ,P0 a0 a1 a2 a3 a4 a5 a6 a7 a8 a9 pZ p9 qa rW rX rY rZ∧P1 a0 a1 a2 a3 a4 a5 a6 a7 a8 a9 pZ p9 qa rW rX rY rZ∧P2 a0 a1 a2 a3 a4 a5 a6 a7 a8 a9 pZ p9 qa rW rX rY rZ)(k : ∀a0 a1 a2 a3 a4 a5 a6 a7 a8 a9 pZ p9 qa rW rX rY rZ,P0 a0 a1 a2 a3 a4 a5 a6 a7 a8 a9 pZ p9 qa rW rX rY rZ→P1 a0 a1 a2 a3 a4 a5 a6 a7 a8 a9 pZ p9 qa rW rX rY rZ→P2 a0 a1 a2 a3 a4 a5 a6 a7 a8 a9 pZ p9 qa rW rX rY rZ→Gx):Gx:=h.elim λa0 h=>h.elim λa1 h=>h.elim λa2 h=>h.elim λa3 h=>h.elim λa4 h=>h.elim λa5 h=>h.elim λa6 h=>h.elim λa7 h=>h.elim λa8 h=>h.elim λa9 h=>h.elim λpZ h=>h.elim λp9 h=>h.elim λqa h=>h.elim λrW h=>h.elim λrX h=>h.elim λrY h=>h.elim λrZ h=>k a0 a1 a2 a3 a4 a5 a6 a7 a8 a9 pZ p9 qa rW rX rY rZ h.1 h.2.1 h.2.2
inductive AV where
 | int (i:Int)
 | val (v:aq)
def AV.Is(v:aq):AV→Prop
 | .int i=>∃t,v = .int i t
 | .val w=>v=w
theorem AV.cW{v w:aq}(h:AV.Is v (.val w)):v=w:=h
noncomputable abbrev AV.ref(a:ay):AV:=.val (.ref a)
noncomputable abbrev AV.none:AV:=.val .none
noncomputable abbrev AV.bool(b:Bool):AV:=.val (.bool b)
inductive bP:List aq→List AV→Prop
 | nil:bP [] []
 | cons {v a vs xs:_}:AV.Is v a→bP vs xs→bP (v::vs) (a::xs)
namespace bP
theorem length{vs xs}(h:bP vs xs):vs.length=xs.length:=by
 induction h with
 | nil=>rfl
 | cons _ _ ih=>simp [ih]
theorem get{vs xs}(h:bP vs xs): ∀{k:Nat} {a:AV},xs[k]?=some a→∃v,vs[k]?=some v∧AV.Is v a:=by
 induction h with
 | nil=>intro k a e;simp at e
 | cons hv _ ih =>
  intro k a e;cases k with
  | zero=>simp at e;subst e;exact ⟨_,rfl,hv⟩
  | succ k=>simp at e;obtain ⟨v,h1,h2⟩:=ih e;exact ⟨v,by simpa using h1,h2⟩
theorem abZ{vs xs}(h:bP vs xs): ∀{k:Nat} {v:aq},vs[k]?=some v→∃a,xs[k]?=some a∧AV.Is v a:=by
 induction h with
 | nil=>intro k a e;simp at e
 | cons hv _ ih =>
  intro k a e;cases k with
  | zero=>simp at e;subst e;exact ⟨_,rfl,hv⟩
  | succ k=>simp at e;obtain ⟨v,h1,h2⟩:=ih e;exact ⟨v,by simpa using h1,h2⟩
theorem append{vs xs ws ys}(h:bP vs xs)(h':bP ws ys):bP (vs++ws) (xs++ys):=by
 induction h with
 | nil=>exact h'
 | cons hv _ ih=>exact .cons hv ih
theorem snoc{vs xs v a}(h:bP vs xs)(h':AV.Is v a):bP (vs++[v]) (xs++[a]):=h.append (.cons h' .nil)
theorem take{vs xs}(h:bP vs xs)(k:Nat):bP (vs.take k) (xs.take k):=by
 induction h generalizing k with
 | nil=>simp;exact .nil
 | cons hv _ ih=>cases k with
  | zero=>exact .nil
  | succ k=>exact .cons hv (ih k)
theorem drop{vs xs}(h:bP vs xs)(k:Nat):bP (vs.drop k) (xs.drop k):=by
 induction h generalizing k with
 | nil=>simp;exact .nil
 | cons hv ht ih=>cases k with
  | zero=>exact .cons hv ht
  | succ k=>exact ih k
theorem eraseIdx{vs xs}(h:bP vs xs)(k:Nat):bP (vs.eraseIdx k) (xs.eraseIdx k):=by
 induction h generalizing k with
 | nil=>simp;exact .nil
 | cons hv ht ih=>cases k with
  | zero=>exact ht
  | succ k=>exact .cons hv (ih k)
theorem set{vs xs v a}(h:bP vs xs)(k:Nat)(h':AV.Is v a):bP (vs.set k v) (xs.set k a):=by
 induction h generalizing k with
 | nil=>simp;exact .nil
 | cons hv ht ih=>cases k with
  | zero=>exact .cons h' ht
  | succ k=>exact .cons hv (ih k)
theorem ry{vs xs}(h:bP vs (Qbg AV.int xs)):Cw vs xs:=by
 induction xs generalizing vs with
 | nil=>cases h;exact .nil
 | cons x xs ih =>
  cases h with
  | cons hv ht =>
   refine cT hv λt af=>?_;subst af;exact .cons _ _ (ih ht)
theorem Hf{vs xs}(h:Cw vs xs):bP vs (Qbg AV.int xs):=by
 induction h with
 | nil=>exact .nil
 | cons _ _ _ ih=>exact .cons ⟨_,rfl⟩ ih
theorem zero{vs}(h:bP vs []):vs=[]:=by cases h;rfl
theorem one{vs a}(h:bP vs [a]): ∃v,vs=[v]∧AV.Is v a:=by
 cases h with | cons hv ht=>cases ht;exact ⟨_,rfl,hv⟩
theorem two{vs a b}(h:bP vs [a,b]): ∃v w,vs=[v,w]∧AV.Is v a∧AV.Is w b:=by
 cases h with | cons hv ht=>obtain ⟨w,rfl,hw⟩:=one ht;exact ⟨_,_,rfl,hv,hw⟩
theorem U4{vs a b c}(h:bP vs [a,b,c]): ∃u v w,vs=[u,v,w]∧AV.Is u a∧AV.Is v b∧AV.Is w c:=by
 cases h with | cons hv ht=>obtain ⟨v,w,rfl,h1,h2⟩:=two ht;exact ⟨_,_,_,rfl,hv,h1,h2⟩
theorem four{vs a b c d}(h:bP vs [a,b,c,d]): ∃u v w x,vs=[u,v,w,x]∧AV.Is u a∧AV.Is v b∧AV.Is w c∧AV.Is x d:=by
 cases h with | cons hv ht=>obtain ⟨u,v,w,rfl,h1,h2,h3⟩:=U4 ht;exact ⟨_,_,_,_,rfl,hv,h1,h2,h3⟩
end bP
abbrev fN:=ay×(Obj→Prop)
abbrev ae:=List fN
structure Gd where
 prog:QbG
 w:sz
 dB:Heap
 os:OsState
 tabs:List ay
structure St(g:Gd)(L:ae)(s:aU):Prop where
 nodup:(L.map (·.1)).Nodup
 objs : ∀p∈L,∃o,s.heap.get? p.1=some o∧p.2 o
 bound : ∀p∈L,g.dB.objs.size≤p.1∨p.1∈g.tabs
 keep : ∀b o,g.dB.get? b=some o→b∉g.tabs→s.heap.get? b=some o
 last : ∃o,g.dB.get? (g.dB.objs.size-1)=some o∧g.dB.objs.size-1∉g.tabs
 gens:s.gens = #[]
 os:s.os=g.os
 ow:g.dB.NoLimit
 oz:NR∉g.tabs
noncomputable def upd(a:ay)(P:Obj→Prop)(L:ae):ae:=L.map λp=>if p.1=a then (a,P) else p
inductive aw (a:ay) (P P':Obj→Prop):ae→ae→Prop
 | head {r:_}:aw a P P' ((a,P)::r) ((a,P')::r)
 | tail {p r r':_}:aw a P P' r r'→aw a P P' (p::r) (p::r')
theorem aw.mem{a P P' L L'}(h:aw a P P' L L'):(a,P)∈L:=by
 induction h with
 | head=>exact .head _
 | tail _ ih=>exact .tail _ ih
theorem aw.Ly{a P P' L L'}(h:aw a P P' L L'):(a,P')∈L':=by
 induction h with
 | head=>exact .head _
 | tail _ ih=>exact .tail _ ih
theorem GK{a P L}(h:a∉L.map (·.1)):upd a P L=L:=by
 induction L with
 | nil=>rfl
 | cons p r ih =>
  simp only [aB,fS,not_or] at h;have h1:p.1≠a:=λe=>h.1 e.symm
  have:=ih h.2
  unfold upd at this ⊢;rw [aB,Qcs h1,this]
theorem aw.eq{a P P' L L'}(h:aw a P P' L L')(hn:(L.map (·.1)).Nodup):upd a P' L=L':=by
 induction h with
 | head =>
  simp only [aB,cG] at hn
  have:=GK (P:=P') hn.1
  unfold upd at this ⊢;rw [aB,Qct rfl,this]
 | @tail p r r' h ih =>
  simp only [aB,cG] at hn;have h2:p.1≠a:=λe=>hn.1 (List.mem_map.mpr ⟨(a,P),h.mem,e.symm⟩)
  have:=ih hn.2
  unfold upd at this ⊢;rw [aB,Qcs h2,this]
theorem Q9(a P)(L:ae):(upd a P L).map (·.1)=L.map (·.1):=by
 unfold upd;rw [bt];apply dD;intro p _;simp only [vr];split
 ·rename_i e;exact e.symm
 ·rfl
theorem Il{a P}{L:ae}{p:fN}(h:p∈upd a P L):p=(a,P)∨(p∈L∧p.1≠a):=by
 unfold upd at h;refine ap (List.mem_map.mp h) λq hq e=>?_;split at e
 ·exact .inl e.symm
 ·rename_i hn;subst e;exact .inr ⟨hq,hn⟩
namespace St
variable {g:Gd}{L L':ae}{s:aU}
variable {a:ay}
theorem get(S:St g L s)(h:(a,P)∈L): ∃o,s.heap.get? a=some o∧P o:=S.objs _ h
theorem size(S:St g L s):g.dB.objs.size≤s.heap.objs.size:=by
 refine ap S.last λo h1 h2=>?_;have h3:(g.dB.objs.size-1:Nat)<s.heap.objs.size:=eu (S.keep _ _ h1 h2);exact z0 h3
theorem toks(S:St g L s)(t:Nat):St g L { s with toks:=t }:=⟨S.nodup,S.objs,S.bound,S.keep,S.last,S.gens,S.os,S.ow,S.oz⟩
theorem drawn(S:St g L s)(d:Drawn):St g L { s with drawn:=d }:=⟨S.nodup,S.objs,S.bound,S.keep,S.last,S.gens,S.os,S.ow,S.oz⟩
theorem keeps(S:St g L s)(k : ∀b o,s.heap.get? b=some o→h'.get? b=some o):St g L { s with heap:=h' } :=
 ⟨S.nodup,λp hp=>let ⟨o,h1,h2⟩:=S.objs p hp;⟨o,k _ _ h1,h2⟩,S.bound,λb o e n=>k _ _ (S.keep b o e n),S.last,S.gens,S.os,S.ow,S.oz⟩
theorem xP(S:St g L s)(o:Obj):St g L { s with heap:=s.heap.push o } :=
 S.keeps λ_ _ e=>Heap.get?_push_of_some _ e
theorem push(S:St g L s)(hP:P o)(hf:o.isFreed=false:=by rfl):St g ((s.heap.objs.size,P)::L) { s with heap:=s.heap.push o }:=by
 have S':=S.xP o;refine ⟨?_,?_,?_,S'.keep,S'.last,S'.gens,S'.os,S'.ow,S'.oz⟩
 ·rw [aB,cG];refine ⟨λhm=>?_,S.nodup⟩;refine ap (List.mem_map.mp hm) λp hp e=>?_;refine ap (S.objs p hp) λo' h1 _=>?_;have h2:=eu h1;rw [e] at h2;exact fZ _ h2
 ·intro p hp;rcases List.mem_cons.mp hp with rfl | hp
  ·exact ⟨o,pA _ hf,hP⟩
  ·exact S'.objs p hp
 ·intro p hp;rcases List.mem_cons.mp hp with rfl | hp
  ·exact .inl S.size
  ·exact S.bound p hp
theorem same(S:St g L s)(hm:(a,P)∈L)(hs:xi a s.heap h')(ho:h'.get? a=some o')(hP:P' o'):St g (upd a P' L) { s with heap:=h' }:=by
 have ne : ∀b o,g.dB.get? b=some o→b∉g.tabs→b≠a:=by
  intro b o e n hb;subst hb;rcases S.bound _ hm with h | h
  ·exact fZ _ (dX (eu e) h)
  ·exact n h
 refine ⟨by rw [Q9];exact S.nodup,?_,?_,λb o e n=>(hs.2 b (ne b o e n)).trans (S.keep b o e n),S.last,S.gens,S.os,S.ow,S.oz⟩
 ·intro p hp;rcases Il hp with rfl | ⟨hp,hn⟩
  ·exact ⟨o',ho,hP⟩
  ·refine ap (S.objs p hp) λo h1 h2=>?_;exact ⟨o,(hs.2 _ hn).trans h1,h2⟩
 ·intro p hp;rcases Il hp with rfl | ⟨hp,hn⟩
  ·exact S.bound (a,P) hm
  ·exact S.bound p hp
theorem gG(S:St g L s)(U:aw a P P' L L')(hs:xi a s.heap h')(ho:h'.get? a=some o')(hP:P' o'):St g L' { s with heap:=h' }:=by
 have:=S.same U.mem hs ho hP
 rwa [U.eq S.nodup] at this
theorem perm(S:St g L s)(p:L.Perm L'):St g L' s :=
 ⟨(p.map (·.1)).nodup_iff.mp S.nodup,λq hq=>S.objs q (p.mem_iff.mpr hq),λq hq=>S.bound q (p.mem_iff.mpr hq),S.keep,S.last,S.gens,S.os,S.ow,S.oz⟩
theorem sub(S:St g L s)(p:L'.Sublist L):St g L' s :=
 ⟨(p.map (·.1)).nodup S.nodup,λq hq=>S.objs q (p.subset hq),λq hq=>S.bound q (p.subset hq),S.keep,S.last,S.gens,S.os,S.ow,S.oz⟩
theorem ig{p:fN}(S:St g (p::L) s):St g L s:=S.sub (NG _ _)
theorem ext(S:St g ((a,P)::L) s)(k:Qb5 a s.heap h'):St g L { s with heap:=h' }:=by
 have ne : ∀b o,g.dB.get? b=some o→b∉g.tabs→b≠a:=by
  intro b o e n hb;subst hb;rcases S.bound _ (.head _) with h | h
  ·exact fZ _ (dX (eu e) h)
  ·exact n h
 have S':=S.ig;refine ⟨S'.nodup,λp hp=>?_,S'.bound,λb o e n=>k b o (ne b o e n) (S.keep b o e n),S.last,S.gens,S.os,S.ow,S.oz⟩;refine ap (S'.objs p hp) λo h1 h2=>?_;refine ⟨o,k _ _ (λe=>?_) h1,h2⟩
 have:=S.nodup
 rw [aB,cG] at this;exact this.1 (List.mem_map.mpr ⟨p,hp,e⟩)
variable {K:ae}
theorem Ei(S:St g (K++L) s):St g L s:=S.sub (List.sublist_append_right _ _)
theorem abU(S:St g (L++K) s):St g L s:=S.sub (List.sublist_append_left _ _)
theorem Ej(S:St g ((a,P)::L) s)(h : ∀o,P o→P' o):St g ((a,P')::L) s :=
 ⟨S.nodup,λq hq=>by
  rcases List.mem_cons.mp hq with rfl | hq
  ·obtain ⟨o,h1,h2⟩:=S.objs _ (.head _);exact ⟨o,h1,h _ h2⟩
  ·exact S.objs q (.tail _ hq),λq hq=>by
  rcases List.mem_cons.mp hq with rfl | hq
  ·exact S.bound (a,P) (.head _)
  ·exact S.bound q (.tail _ hq),S.keep,S.last,S.gens,S.os,S.ow,S.oz⟩
variable {b:ay}
theorem top(S:St g L s)(e:g.dB.get? b=some o)(hn:b∉g.tabs):s.heap.get? b=some o:=S.keep b o e hn
theorem lim(S:St g L s):s.heap.NoLimit :=
 let ⟨mc,⟨o,es,ep,ho,r⟩,q⟩:=S.ow;⟨mc,⟨o,es,ep,S.keep _ _ ho S.oz,r⟩,q⟩
variable {m:Str→Option aq}
theorem sT(S:St g L s)(e:g.dB.Ns b m)(hn:b∉g.tabs):s.heap.Ns b m :=
 let ⟨o,es,ep,ho,r⟩:=e;⟨o,es,ep,S.keep b o ho hn,r⟩
end St
inductive aR (p:fN):ae→ae→Prop
 | head {r:_}:aR p (p::r) r
 | tail {q r r':_}:aR p r r'→aR p (q::r) (q::r')
theorem aR.perm{p L R}(h:aR p L R):L.Perm (p::R):=by
 induction h with
 | head=>exact dH _
 | tail _ ih=>exact (ih.cons _).trans (fp ..)
theorem aR.mem{p L R}(h:aR p L R):p∈L:=h.perm.mem_iff.mpr (.head _)
inductive aj:ae→ae→Prop
 | nil {L:_}:aj [] L
 | refl {L:_}:aj L L
 | pick {a P P' L L' R:_}:aR (a,P) L R→(∀o,P o→P' o)→aj L' R→aj ((a,P')::L') L
theorem St.cX{g:Gd}{L L':ae}{s:aU}(S:St g L s)(h:aj L' L):St g L' s:=by
 induction h with
 | nil=>exact S.sub (List.nil_sublist _)
 | refl=>exact S
 | @pick a P P' L L' R p w h ih =>
  have S1:=(S.perm p.perm).Ej w;have S2:=ih S1.ig;refine ⟨?_,?_,?_,S.keep,S.last,S.gens,S.os,S.ow,S.oz⟩
  ·rw [aB,cG];refine ⟨λhm=>?_,S2.nodup⟩;have hk : ∀{X Y:ae},aj X Y→∀k,k∈X.map (·.1)→k∈Y.map (·.1):=by
    intro X Y hx
    induction hx with
    | nil=>intro k hk;cases hk
    | refl=>intro k hk;exact hk
    | pick p' _ _ Za =>
     intro k hk;rcases List.mem_cons.mp hk with rfl | hk
     ·exact List.mem_map.mpr ⟨_,p'.mem,rfl⟩
     ·have:=Za k hk
      exact (p'.perm.map (·.1)).mem_iff.mpr (.tail _ this)
   have h3:=S1.nodup;rw [aB,cG] at h3;exact h3.1 (hk h _ hm)
  ·intro q hq;rcases List.mem_cons.mp hq with rfl | hq
   ·exact S1.objs _ (.head _)
   ·exact S2.objs q hq
  ·intro q hq;rcases List.mem_cons.mp hq with rfl | hq
   ·exact S1.bound _ (.head _)
   ·exact S2.bound q hq
def aM(xs:List AV)(o:Obj):Prop:=∃vs n,o={ cls:=.type "list",data:=.seq vs n }∧bP vs.toList xs
def cg(xs:List AV)(o:Obj):Prop:=∃vs n,o={ cls:=.type "tuple",data:=.seq vs n }∧bP vs.toList xs
def az(v:Option AV)(o:Obj):Prop:=∃w,o.data = .cell w∧∀a,v=some a→∃x,w=some x∧AV.Is x a
def am(m:List (Str×AV))(o:Obj):Prop:=∃es ep,o.data = .dict es ep∧NB es∧∀x a,m.lookup x=some a→∃v,qt es x=some v∧AV.Is v a
def bW(x:Obj)(o:Obj):Prop:=o=x
abbrev ai(xs:List Int):Obj→Prop:=aM (xs.map .int)
def fz{α:Type}(g:Gd)(A:bg)(L:ae)(t:Sem α)(R:α→Prop):Prop :=
 ∀s Q E,St g L s→(∀v s',R v→St g L s'→Q v s')→aJ (bD g.prog g.w) A t Q E s
abbrev PV(g:Gd)(A:bg)(L:ae)(t:Sem aq)(a:AV):Prop:=fz g A L t (AV.Is · a)
abbrev PE(g:Gd)(A:bg)(L:ae)(env:Env)(e:Expr)(a:AV):Prop:=fz g A L (eval e env) (AV.Is · a)
theorem PV.v{g:Gd}{A:bg}{L:ae}{t:Sem aq}{x:aq}(h:PV g A L t (.val x)): ∀s Q E,St g L s→(∀s',St g L s'→Q x s')→aJ (bD g.prog g.w) A t Q E s:=λs Q E S k=>h s Q E S λv s' hv S'=>by cases hv;exact k s' S'
abbrev PT(g:Gd)(A:bg)(L:ae)(env:Env)(e:Expr)(b:Bool):Prop:=fz g A L (isTrue e env (eval e env)) (· = b)
namespace fz
variable {α β:Type}{g:Gd}{A:bg}{L:ae}
theorem use{t:Sem α}{R:α→Prop}(h:fz g A L t R){Q:α→aU→Prop}(S:St g L s)(k : ∀v s',R v→St g L s'→Q v s'):aJ (bD g.prog g.w) A t Q E s:=h s Q E S k
theorem pure{a:α}{R:α→Prop}(h:R a):fz g A L (Pure.pure a:Sem α) R:=λs _ _ S k=>ah (k a s h S)
theorem bind{t:Sem α}{f:α→Sem β}{R:α→Prop}{R':β→Prop}(h:fz g A L t R)(h' : ∀a,R a→fz g A L (f a) R'):fz g A L (t>>=f) R' :=
 λs Q E S k=>ab (h s _ E S λa s' ra S'=>h' a ra s' Q E S' k)
theorem mono{t:Sem α}{R R':α→Prop}(h:fz g A L t R)(w : ∀a,R a→R' a):fz g A L t R':=λs Q E S k=>h s Q E S λv s' r S'=>k v s' (w v r) S'
variable {R:Unit→Prop}
theorem standAt{p:Pos}(h:R ()):fz g A L (PySem.standAt p) R:=λs _ _ S k=>bT (k () s h S)
theorem holding{t:Sem α}{R:α→Prop}(h:fz g A L t R):fz g A L (PySem.holding vs t) R:=λs Q E S k=>aK (h s Q E S k)
variable {R:aq→Prop}
theorem operate(h:fz g A L t R):fz g A L (ix vs t) R:=λs Q E S k=>NM (h s Q E S k)
theorem eq{t t':Sem α}{R:α→Prop}(e:t=t')(h:fz g A L t' R):fz g A L t R:=e▸h
end fz
end
section
variable {g:Gd}{A:bg}{L:ae}{env:Env}
theorem AS(S:St g L s)(hF:(F,am m)∈L): ∃mm,s.heap.Ns F mm∧∀x a,m.lookup x=some a→∃v,mm x=some v∧AV.Is v a:=by
 refine ap (S.get hF) λo ho Xx=>?_;refine eQ Xx λes ep hd hk hm=>?_;exact ⟨qt es,⟨o,es,ep,ho,hd,hk,λ_=>rfl⟩,hm⟩
theorem Im{L:ae}{s:aU}{c:ay}{a:AV}(S:St g L s)(hF:(c,az (some a))∈L): ∃v,s.heap.IsCell c (some v)∧AV.Is v a:=by
 refine ap (S.get hF) λo ho Xy=>?_;refine ap Xy λw hd hv=>?_;refine ap (hv a rfl) λv af h=>?_;subst af;exact ⟨v,⟨o,ho,hd⟩,h⟩
theorem eI{L:ae}{s:aU}{c:ay}{xs:List AV}(S:St g L s)(hF:(c,aM xs)∈L): ∃vs n,IsL s.heap c vs n∧bP vs.toList xs:=by
 refine ap (S.get hF) λo ho Xz=>?_;refine cp Xz λvs n af hv=>?_;subst af;exact ⟨vs,n,ho,hv⟩
theorem Ar(hF:(env.locals,am m)∈L)(hv:m.lookup x=some a)(hk:env.scope.kind = .function:=by rfl)(hl:env.kindOf x=some .local:=by rfl):
  PV g A L (Cq env x) a:=λs Q E S k=>by
 refine ap (AS S hF) λmm hn hm=>?_;refine ap (hm x a hv) λv h1 h2=>?_;exact wpAny_loadName_local hk hl hn h1 (k v s h2 S)
theorem TV(hc:env.cells.lookup x=some c)(hF:(c,az (some a))∈L)(hk:env.scope.kind = .function:=by rfl)(hl:env.kindOf x=some .cell:=by rfl):
  PV g A L (Cq env x) a:=λs Q E S k=>by
 refine ap (Im S hF) λv h1 h2=>?_;exact wpAny_loadName_cell hk hl hc h1 (k v s h2 S)
theorem TW(hc:env.cells.lookup x=some c)(hF:(c,az (some a))∈L)(hk:env.scope.kind = .function:=by rfl)(hl:env.kindOf x=some .free:=by rfl)
  (hn:(x==("__classdict__":Str))=false:=by decide):PV g A L (Cq env x) a:=λs Q E S k=>by
 refine ap (Im S hF) λv h1 h2=>?_;exact wpAny_loadName_free hk hl hc h1 (k v s h2 S) hn
theorem DM(h:PV g A L (Cq env x) a)(hd:(x==("__debug__":Str))=false:=by decide):PE g A L env (.Name x pos) a :=
 λs Q E S k=>wpAny_Name (h s Q E S k) hd
theorem bU(hF:(env.locals,am m)∈L)(hv:m.lookup x=some a)(hk:env.scope.kind = .function:=by rfl)(hl:env.kindOf x=some .local:=by rfl)
  (hd:(x==("__debug__":Str))=false:=by decide):PE g A L env (.Name x pos) a:=DM (Ar hF hv hk hl) hd
theorem dZ(hc:env.cells.lookup x=some c)(hF:(c,az (some a))∈L)(hk:env.scope.kind = .function:=by rfl)(hl:env.kindOf x=some .cell:=by rfl)
  (hd:(x==("__debug__":Str))=false:=by decide):PE g A L env (.Name x pos) a:=DM (TV hc hF hk hl) hd
theorem xz(hc:env.cells.lookup x=some c)(hF:(c,az (some a))∈L)(hk:env.scope.kind = .function)(hl:env.kindOf x=some .free)
  (hd:(x==("__debug__":Str))=false) (hn:(x==("__classdict__":Str))=false):PE g A L env (.Name x pos) a:=DM (TW hc hF hk hl hn) hd
structure l6(g:Gd)(mg mb:Str→Option aq):Prop where
 mn:g.dB.Ns cm mg
 bn:g.dB.Ns dU mb
 m1:cm∉g.tabs
 b1:dU∉g.tabs
theorem kJ(G:l6 g mg mb){v:aq}(hv:mg x=some v)(he:env.globals=cm:=by rfl)(hk:env.scope.kind = .function:=by rfl)(hl:env.kindOf x=some .globalImplicit:=by rfl)
  (hd:(x==("__debug__":Str))=false:=by decide)  (ha:AV.Is v a):PE g A L env (.Name x pos) a:=λs Q E S k=>by
 refine Cx hk hl ?_ hd;exact Gu (mg:=mg) (by rw [he];exact S.sT G.mn G.m1) hv (k v s ha S)
theorem G6(G:l6 g mg mb){v:aq}(hx:mg x=none)(hv:mb x=some v)(he:env.globals=cm:=by rfl)(hb:env.builtins=dU:=by rfl)
  (hk:env.scope.kind = .function:=by rfl) (hl:env.kindOf x=some .globalImplicit:=by rfl)
  (hd:(x==("__debug__":Str))=false:=by decide)  (ha:AV.Is v a):PE g A L env (.Name x pos) a:=λs Q E S k=>by
 refine Cx hk hl ?_ hd;exact Calls.loadGlobal_builtin (mg:=mg) (mb:=mb) (by rw [he];exact S.sT G.mn G.m1) hx (by rw [hb];exact S.sT G.bn G.b1) hv (k v s ha S)
variable {k:Nat}
theorem gP{i:Int}:PE g A L env (.Constant (.int i) k pos) (.int i):=λs _ _ S k=>wpAny_Constant_int (k _ _ ⟨_,rfl⟩ (S.toks _))
theorem oi:PE g A L env (.Constant .none k pos) .none:=fz.pure rfl
theorem uj:PE g A L env (.Constant (.bool b) k pos) (.bool b):=fz.pure rfl
def uR(g:Gd)(A:bg)(L:ae)(op:Operator)(a b c:AV):Prop:=∀v w,AV.Is v a→AV.Is w b→PV g A L (Qa5 op v w) c
theorem jX{l r:Expr}{op:Operator}{pos:Pos}{a b c:AV}(hl:PE g A L env l a)(hr:PE g A L env r b)(h:uR g A L op a b c):PE g A L env (.BinOp l op r pos) c:=λs Q E S k =>
 QaX (hl s _ E S λv aW hv aN=>hr aW _ E aN λw bu hw aS=>h v w hv hw bu Q E aS k)
variable {a b:Int}
theorem uq:uR g A L .Add (.int a) (.int b) (.int (a+b)):=by
 refine ub λ_ t=>?_;intro eM;refine cT eM λu af=>?_;subst af;intro s Q E S k;exact add_int (k _ _ ⟨_,rfl⟩ (S.toks _))
theorem ur:uR g A L .Sub (.int a) (.int b) (.int (a-b)):=by
 refine ub λ_ t=>?_;intro eM;refine cT eM λu af=>?_;subst af;intro s Q E S k;exact sub_int (k _ _ ⟨_,rfl⟩ (S.toks _))
theorem AC(hm:IntMulOk a b):uR g A L .Mult (.int a) (.int b) (.int (a*b)):=by
 refine ub λ_ t=>?_;intro eM;refine cT eM λu af=>?_;subst af;intro s Q E S k;exact mul_int (k _ _ ⟨_,rfl⟩ (S.toks _)) hm
theorem DN(hb:b≠0)(hp:Builtin.divisionGoesByPylong a b=false):uR g A L .FloorDiv (.int a) (.int b) (.int (a.fdiv b)):=by
 refine ub λ_ t=>?_;intro eM;refine cT eM λu af=>?_;subst af;intro s Q E S k;exact floordiv_int hb (k _ _ ⟨_,rfl⟩ (S.toks _)) (by simp [hp])
theorem Io{a b:Int}(hb:b≠0):uR g A L .Mod (.int a) (.int b) (.int (a.fmod b)):=by
 refine ub λ_ t=>?_;intro eM;refine cT eM λu af=>?_;subst af;intro s Q E S k;exact mod_int hb (k _ _ ⟨_,rfl⟩ (S.toks _))
def l9(g:Gd)(A:bg)(L:ae)(op:CmpOp)(a b:AV)(c:Bool):Prop:=∀v w,AV.Is v a→AV.Is w b→PV g A L (nc op v w) (.bool c)
theorem qN{a b:Int}:l9 g A L .Lt (.int a) (.int b) (decide (a<b)):=by
 rintro _ _ ⟨t,rfl⟩ ⟨u,rfl⟩ s Q E S k;exact lt_int (k _ _ rfl S)
theorem U5{a b:Int}:l9 g A L .LtE (.int a) (.int b) (decide (a≤b)):=by
 rintro _ _ ⟨t,rfl⟩ ⟨u,rfl⟩ s Q E S k;exact le_int (k _ _ rfl S)
theorem Jx:l9 g A L .GtE (.int a) (.int b) (decide (b≤a)):=by
 rintro _ _ ⟨t,rfl⟩ ⟨u,rfl⟩ s Q E S k;exact ge_int (k _ _ rfl S)
theorem qO{a b:Int}:l9 g A L .Eq (.int a) (.int b) (decide (a=b)):=by
 rintro _ _ ⟨t,rfl⟩ ⟨u,rfl⟩ s Q E S k;have e:(a==b)=decide (a=b):=by by_cases h:a=b<;>simp [h]
 exact eq_int (by rw [e];exact k _ _ rfl S)
theorem Jy{a b:Int}:l9 g A L .NotEq (.int a) (.int b) (!decide (a=b)):=by
 rintro _ _ ⟨t,rfl⟩ ⟨u,rfl⟩ s Q E S k;have e:(a != b) = !decide (a=b):=by by_cases h:a=b<;>simp [h]
 exact ne_int (by rw [e];exact k _ _ rfl S)
theorem pI{v:aq}:l9 g A L .Is (.val v) .none (v == .none):=by
 rintro _ _ rfl rfl s Q E S k;exact wW (k _ _ rfl S)
theorem Oq{i:Int}:l9 g A L .Is (.int i) .none false:=by
 rintro _ _ ⟨t,rfl⟩ rfl s Q E S k;exact wW (k _ _ rfl S)
theorem Pg{v:aq}(h:Q (.bool (!(v == .none))) s):aJ M A (nc .IsNot v .none) Q E s:=by
 have h':=wW (M:=M) (A:=A) (E:=E) (s:=s) (v:=v) (Q:=λr s'=>∀b,r = .bool b→Q (.bool (!b)) s') (λb e=>by cases e;exact h);have e1:nc .Is v .none=(do return .bool (← isSame v .none):Sem aq):=rfl;have e2:nc .IsNot v .none=(do return .bool (!(← isSame v .none)):Sem aq):=rfl;rw [e1] at h';rw [e2];intro Γ p Mv
 have:=h' Γ p Mv
 rw [QbZ] at this ⊢;exact Sem.wp_mono _ _ _ (λb p' s' q=>q b rfl) (λ_ _ _ q=>q) _ _ this
theorem zW{v:aq}:l9 g A L .IsNot (.val v) .none (!(v == .none)):=by
 rintro _ _ rfl rfl s Q E S k;exact Pg (k _ _ rfl S)
variable {a:AV}
theorem I0{l r:Expr}{op:CmpOp}{b:AV}{c:Bool}(hl:PE g A L env l a)(hr:PE g A L env r b)(h:l9 g A L op a b c)(hm:pD op r=false):
  PE g A L env (.Compare l [op] [r] pos) (.bool c):=λs Q E S k =>
 Qcf (hl s _ E S λv aW hv aN=>hr aW _ E aN λw bu hw aS=>h v w hv hw bu Q E aS k) hm
theorem eP{l r:Expr}{op:CmpOp}{pos:Pos}{a b:AV}{c:Bool}(hl:PE g A L env l a)(hr:PE g A L env r b)(h:l9 g A L op a b c)(hm:pD op r=false:=by kst_p):
  PT g A L env (.Compare l [op] [r] pos) c:=λs Q E S k =>
 lP (hl s _ E S λv aW hv aN=>hr aW _ E aN λw bu hw aS=>h v w hv hw bu _ E aS λr cC hr cJ=>by
  cases AV.cW hr;exact hZ (k _ _ rfl cJ)) hm
variable {b:Bool}{x:Expr}
theorem TX(h:PT g A L env x b):PT g A L env (.UnaryOp .Not x pos) (!b):=λs Q E S k =>
 isTrue_not (h s _ E S λc s' hc S'=>k _ s' (by rw [hc]) S')
theorem vL(h:PE g A L env e (.bool b))(he : ∀whole,isTrue e env whole=(do let v ← whole;standAt e.pos;holding [v] (Qbo v))):PT g A L env e b:=λs Q E S k =>
 Qat (h s _ E S λv s' hv S'=>by cases AV.cW hv;exact hZ (k _ _ rfl S')) (he _)
theorem Sv(h:PE g A L env e .none)(he : ∀whole,isTrue e env whole=(do let v ← whole;standAt e.pos;holding [v] (Qbo v))):PT g A L env e false:=λs Q E S k =>
 Qat (h s _ E S λv s' hv S'=>by cases AV.cW hv;exact truthy_none (k _ _ rfl S')) (he _)
variable {vs:Array aq}
theorem gN(h:IsL s.heap c vs n):s.heap.IsList c vs:=⟨_,h,rfl,n,rfl⟩
variable {l:ay}
theorem Sw(hl:(l,aM xs)∈L)(hz:xs.length<2 ^ 63):fz g A L (Qbo (.ref l)) (· = !xs.isEmpty):=λs Q E S k=>by
 refine cp (eI S hl) λvs n h1 h2=>?_;have hlen:=h2.length;have e:(!vs.isEmpty) = !xs.isEmpty:=by
  rcases vs with ⟨vs⟩
  simp only [] at hlen;cases vs<;>cases xs<;>simp_all
 refine Qby (gN h1) (by rw [← aG,hlen];exact z1 hz) ?_;rw [e];exact k _ _ rfl (S.toks _)
theorem Sx{e:Expr}{l:ay}{xs:List AV}(h:PE g A L env e (.ref l))(hl:(l,aM xs)∈L)(hz:xs.length<2 ^ 63)
  (he : ∀whole,isTrue e env whole=(do let v ← whole;standAt e.pos;holding [v] (Qbo v))):PT g A L env e (!xs.isEmpty):=λs Q E S k =>
 Qat (h s _ E S λv s' hv S'=>by cases AV.cW hv;exact Sw hl hz s' Q E S' k) (he _)
variable {y:Expr}
theorem Sz{a:Bool}(h:PT g A L env x a)(h':a=true→PT g A L env y b):PT g A L env (.BoolOp .And [x,y] pos) (a&&b):=λs Q E S k =>
 isTrue_and (h s _ E S λc s' hc S'=>by
  subst hc;cases c with
  | false=>exact k _ _ rfl S'
  | true=>exact isTrue_and (h' rfl s' _ E S' λc' bu pd aS=>by
    subst pd;cases c' with
    | false=>exact k _ _ rfl aS
    | true=>exact isTrue_and_nil (k _ _ rfl aS)))
theorem TY{x y:Expr}{pos:Pos}{a b:Bool}(h:PT g A L env x a)(h':a=false→PT g A L env y b):PT g A L env (.BoolOp .Or [x,y] pos) (a || b):=λs Q E S k =>
 isTrue_or (h s _ E S λc s' hc S'=>by
  subst hc;cases c with
  | true=>exact k _ _ rfl S'
  | false=>exact isTrue_or (h' rfl s' _ E S' λc' bu pd aS=>by
    subst pd;cases c' with
    | true=>exact k _ _ rfl aS
    | false=>exact isTrue_or_nil (k _ _ rfl aS)))
theorem HJ{t:Expr}(ht:PT g A L env t b)(h1:b=true→PE g A L env x a)(h2:b=false→PE g A L env y a):PE g A L env (.IfExp t x y pos) a:=λs Q E S k =>
 wpAny_IfExp (ht s _ E S λc s' hc S'=>by
  subst hc;cases c with
  | true=>exact h1 rfl s' Q E S' k
  | false=>exact h2 rfl s' Q E S' k)
theorem GF:oU (.type "list") "__getitem__"=pure (some (.builtin "list.__getitem__")):=PySem.slot_list_getitem.lookup
variable {k:Int}
theorem Ip{w:aq}(hl:(l,aM xs)∈L)(hw:AV.Is w (.int k))(h0:0≤k)(hk:k<2 ^ 63)(hx:xs[k.toNat]?=some a):
  PV g A L (rq (.ref l) w) a:=by
 refine cT hw λt af=>?_;subst af;intro s Q E S kk;refine cp (eI S hl) λvs n h1 h2=>?_;refine ap (h2.get hx) λv h3 h4=>?_;exact wpAny_getItem_list (gN h1) h0 hk (by simpa using h3) (kk v s h4 S)
theorem fM{o i:Expr}(ho:PE g A L env o (.ref l))(hi:PE g A L env i (.int k))(hl:(l,aM xs)∈L)(h0:0≤k)(hk:k<2 ^ 63)(hx:xs[k.toNat]?=some a)
  (hs : ∀o' i',lV i false o' i'=ix [o',i'] (rq o' i'):=by kst_p) (ht : ∀o' r,j8 o o' r=pure ():=by kst_p):PE g A L env (.Subscript o i pos) a:=λs Q E S kk=>by
 refine vA (ho s _ E S λv aW hv aN=>hi aW _ E aN λw bu hw aS=>?_);cases AV.cW hv;refine cp (eI aS hl) λvs n h1 h2=>?_;exact oQ (gN h1).typeIs GF (Ip hl hw h0 hk hx bu Q E aS kk) (hs _ _) (λ_=>ht _ _)
end
section
variable {g:Gd}{A:bg}{L L' bX:ae}{env:Env}{F:ay}{m:List (Str×AV)}
abbrev cU:aq→aU→Prop:=λ_ _=>False
def SX(g:Gd)(A:bg)(L:ae)(env:Env)(b:List fK)(Q:oP→aU→Prop):Prop:=∀s,St g L s→aJ (bD g.prog g.w) A (mX b env) Q cU s
def GE(g:Gd)(A:bg)(L:ae)(t:Sem aq)(a:AV)(L':ae):Prop:=∀s Q,St g L s→(∀v s',AV.Is v a→St g L' s'→Q v s')→aJ (bD g.prog g.w) A t Q cU s
def NE(g:Gd)(A:bg)(L:ae)(t:Sem aq)(P:Obj→Prop):Prop:=∀s Q,St g L s→(∀a s',St g ((a,P)::L) s'→Q (.ref a) s')→aJ (bD g.prog g.w) A t Q cU s
def GU(g:Gd)(A:bg)(L:ae)(t:Sem Unit)(L':ae):Prop:=∀s Q,St g L s→(∀s',St g L' s'→Q () s')→aJ (bD g.prog g.w) A t Q cU s
theorem GE.wC{t:Sem aq}{a:AV}(h:PV g A L t a):GE g A L t a L:=λs Q S k=>h s Q cU S k
variable {γ:Type}{Q:α→aU→Prop}{t:Sem α}
theorem ja(h:aJ M A t Q cU s):aJ M A t Q E s:=cw h (λ_ _ x=>x) λ_ _ x=>x.elim
def jx(g:Gd)(A:bg)(env:Env)(x:Str)(a:AV)(L L':ae):Prop:=∀v s Q E,AV.Is v a→St g L s→(∀s',St g L' s'→Q () s')→aJ (bD g.prog g.w) A (QbO env x v) Q E s
theorem b7(U:aw env.locals (am m) (am ((x,a)::m)) L L')(hl:env.kindOf x=some .local:=by rfl)(hk:env.scope.kind = .function:=by rfl):jx g A env x a L L':=by
 intro v s Q E ha S k;refine ap (S.get U.mem) λo ho XA=>?_;refine eQ XA λes ep hd qb hm=>?_;have hn:s.heap.Ns env.locals (qt es):=⟨o,es,ep,ho,hd,qb,λ_=>rfl⟩;refine wpAny_storeName_local hl hn (λh' Zb io=>?_) (by rw [hk];rfl);refine lF Zb λo' aT r7 rb fQ XB wD=>?_;have key:am ((x,a)::m) o':=?_
 ·exact k _ (St.toks (s:={ s with heap:=h' }) (S.gG U io rb key) _)
 refine ⟨aT,r7,fQ,XB,λy b hy=>?_⟩;rw [aP] at hy;rw [wD];by_cases e:y=x
 ·subst e;simp at hy;subst hy;exact ⟨v,by simp,ha⟩
 ·have e':(y==x)=false:=by simpa using e
  rw [e'] at hy;refine ap (hm y b hy) λw h1 h2=>?_;exact ⟨w,by simp [e,h1],h2⟩
theorem iy{x:Str}{a:AV}{c:ay}{XC:Option AV}(hc:env.cells.lookup x=some c)(U:aw c (az XC) (az (some a)) L L')(hl:env.kindOf x=some .cell:=by rfl)(hk:env.scope.kind = .function:=by rfl):jx g A env x a L L':=by
 intro v s Q E ha S k;refine ap (S.get U.mem) λo ho XD=>?_;refine ap XD λw hd hv=>?_;refine wpAny_storeName_cell hk hl hc ⟨o,ho,hd⟩ λh' pd io=>?_;refine ap pd λo' rb fQ=>?_;refine k _ (S.gG U io rb ⟨some v,fQ,λb hb=>?_⟩);cases hb;exact ⟨v,rfl,ha⟩
variable {rest:List fK}{Q:oP→aU→Prop}
theorem eJ(h :∀s,St g L s→Q .next s):SX g A L env [] Q:=λs S=>qq (h s S)
theorem dS(h:SX g A L env rest Q)(p:aj L L'):SX g A L' env rest Q:=λs S=>h s (S.cX p)
theorem qF(t:Sem α)(f:α→Sem β)(k:β→Sem γ):bR (bR t f) k=bR t λa=>bR (f a) k:=bind_assoc (m:=Sem) t f k
theorem zZ(b r:List fK)(env:Env):mX (b++r) env=bR (mX b env) λf=>match f with | .next=>mX r env | f=>Sem.pure f:=by
 induction b with
 | nil=>rfl
 | cons x b ih =>
  show mX (x::(b++r)) env=_
  rw [NQ,NQ,ih];show bR _ _=bR (bR _ _) _
  rw [qF];congr 1;funext f;cases f<;>rfl
theorem mL{t:Expr}{b o:List fK}{pos:Pos}{c:Bool}(ht:PT g A L env t c)(h1:c=true→SX g A L env (b++rest) Q)(h2:c=false→SX g A L env (o++rest) Q):SX g A L env (.If t b o pos::rest) Q:=λs S=>by
 have e:mX (.If t b o pos::rest) env=(standAt pos>>=λ_=>isTrue t env (eval t env)>>=λc=>if c then mX (b++rest) env else mX (o++rest) env):=by
  rw [NQ,exec_If];show bR (bR _ _) _=bR _ _
  rw [qF];congr 1;funext _;show bR (bR _ _) _=bR _ _
  rw [qF];congr 1;funext c;cases c
  ·simp only [bp,Qcv];rw [zZ];rfl
  ·simp only [if_true];rw [zZ];rfl
 rw [e];refine ab (bT (ab (ht s _ _ S λc' s' hc S'=>?_)));subst hc;cases c' with
 | true=>exact h1 rfl s' S'
 | false=>exact h2 rfl s' S'
theorem i9(h : ∀s,St g L s→aJ (bD g.prog g.w) A (exec st env) (λf s'=>match f with | .next=>aJ (bD g.prog g.w) A (mX rest env) Q cU s' | f=>Q f s') cU s):SX g A L env (st::rest) Q :=
 λs S=>tZ (h s S)
theorem TZ{e:Expr}{pos:Pos}{a:AV}(he:GE g A L (eval e env) a L')(h : ∀v s,AV.Is v a→St g L' s→Q (.ret v) s):SX g A L env (.Return (some e) pos::rest) Q :=
 i9 λs S=>zT (he s _ S λv s' hv S'=>h v s' hv S')
theorem pM(he:PE g A L env e a)(h : ∀v s,AV.Is v a→St g L s→Q (.ret v) s):SX g A L env (.Return (some e) pos::rest) Q:=TZ (.wC he) h
theorem Iq{e:Expr}{pos:Pos}{P:Obj→Prop}(he:NE g A L (eval e env) P)(h : ∀a s,St g ((a,P)::L) s→Q (.ret (.ref a)) s):SX g A L env (.Return (some e) pos::rest) Q :=
 i9 λs S=>zT (he s _ S λa s' S'=>h a s' S')
theorem I1{pos:Pos}(h : ∀s,St g L s→Q .brk s):SX g A L env (.Break pos::rest) Q:=λs S=>tZ (ab (m:=standAt pos) (bT (ah (h s S))))
theorem SA(h : ∀s,St g L s→Q .cont s):SX g A L env (.Continue pos::rest) Q:=λs S=>tZ (ab (m:=standAt pos) (bT (ah (h s S))))
theorem qI{e:Expr}{pos:Pos}{a:AV}(he:GE g A L (eval e env) a L')(h:SX g A L' env rest Q)(hi:Qa2 env=false:=by rfl)(hs:iw e none pos.line env=pure false:=by rfl):SX g A L env (.Expr e pos::rest) Q :=
 i9 λs S=>Qce (he s _ S λ_ s' _ S'=>h s' S') hi hs
theorem vS{x:Str}{p' pos:Pos}{e:Expr}{a:AV}(he:GE g A L (eval e env) a L')(hst:jx g A env x a L' bX)(h:SX g A bX env rest Q)(hs:iw e (some (.Name x p')) pos.line env=pure false:=by rfl):
  SX g A L env (.Assign [.Name x p'] e pos::rest) Q :=
 i9 λs S=>tO (he s _ S λv s' hv S'=>hst v s' _ _ hv S' λnF pe=>h nF pe) hs
theorem iz(he:PE g A L env e a)(hst:jx g A env x a L bX)(h:SX g A bX env rest Q)(hs:iw e (some (.Name x p')) pos.line env=pure false:=by rfl):
  SX g A L env (.Assign [.Name x p'] e pos::rest) Q:=vS (.wC he) hst h hs
theorem ul{x:Str}{p' pos:Pos}{e:Expr}{P:Obj→Prop}(he:NE g A L (eval e env) P)(h : ∀a,∃bX,jx g A env x (.ref a) ((a,P)::L) bX∧SX g A bX env rest Q)(hs:iw e (some (.Name x p')) pos.line env=pure false):
  SX g A L env (.Assign [.Name x p'] e pos::rest) Q :=
 i9 λs S=>tO (he s _ S λa s' S'=>by
  refine ap (h a) λbX hst h=>?_;exact hst _ s' _ _ rfl S' λnF pe=>h nF pe) hs
theorem D4{b c:AV}(hx:PV g A L (Cq env x) a)(he:PE g A L env e b)(ho : ∀v w,AV.Is v a→AV.Is w b→PV g A L (CK op v w) c)(hst:jx g A env x c L L')(h:SX g A L' env rest Q):
  SX g A L env (.AugAssign (.Name x p') op e pos::rest) Q :=
 i9 λs S=>wpAny_AugAssign_Name (hx s _ _ S λv aW hv aN=>he aW _ _ aN λw bu hw aS=>ho v w hv hw bu _ _ aS λr cC hr cJ=>hst r cC _ _ hr cJ λgx eK=>h gx eK)
variable {a b:Int}
theorem vT: ∀v w,AV.Is v (.int a)→AV.Is w (.int b)→PV g A L (CK .Add v w) (.int (a+b)):=by
 refine ub λ_ t=>?_;intro eM;refine cT eM λu af=>?_;subst af;intro s Q E S k;exact wpAny_iadd_int (k _ _ ⟨_,rfl⟩ (S.toks _))
theorem I2: ∀v w,AV.Is v (.int a)→AV.Is w (.int b)→PV g A L (CK .Sub v w) (.int (a-b)):=by
 refine ub λ_ t=>?_;intro eM;refine cT eM λu af=>?_;subst af;intro s Q E S k;exact PySem.AutoIntOps.isub_0 (k _ _ ⟨_,rfl⟩ (S.toks _))
variable {b o:List fK}{c:Bool}{t:Expr}
theorem iC(e:c=false)(ht:PT g A L env t c)(h:SX g A L env (o++rest) Q):SX g A L env (.If t b o pos::rest) Q:=mL ht (λh=>QaS (e.symm.trans h)) λ_=>h
theorem AD(e:c=true)(ht:PT g A L env t c)(h:SX g A L env (b++rest) Q):SX g A L env (.If t b o pos::rest) Q:=mL ht (λ_=>h) λh=>QaS (e.symm.trans h)
theorem lp(h : ∀Q':oP→aU→Prop,(∀f s,Q f s→Q' f s)→SX g A L env b Q'):SX g A L env b Q:=h Q λ_ _ q=>q
theorem Dt{α:Type}(I:α→ae)(μ:α→Nat)(c0:α){t:Expr}{b:List fK}{pos:Pos}
  (turn : ∀x,∃c,PT g A (I x) env t c∧(c=true→SX g A (I x) env b λf s'=>match f with
    | .next | .cont=>∃y,μ y<μ x∧St g (I y) s'
    | .brk=>aJ (bD g.prog g.w) A (mX rest env) Q cU s'
    | .ret v=>Q (.ret v) s')∧(c=false→SX g A (I x) env rest Q)):SX g A (I c0) env (.While t b [] pos::rest) Q :=
 i9 λs S=>by
  refine wpAny_While ?_;refine QbE (λn s=>∃x,μ x=n∧St g (I x) s) (λn s hI=>?_) (μ c0) ⟨c0,rfl,S⟩;refine ap hI λx af S=>?_;subst af;refine du (turn x) λc ht h1 h2=>?_;refine ht s _ _ S λc' s' hc S'=>?_;subst hc;cases c' with
  | true =>
   simp only [if_true];refine cw (h1 rfl s' S') (λf cC nw=>?_) λ_ _ q=>q.elim;cases f with
   | next=>obtain ⟨y,hy,Sy⟩:=nw;exact ⟨_,hy,y,rfl,Sy⟩
   | cont=>obtain ⟨y,hy,Sy⟩:=nw;exact ⟨_,hy,y,rfl,Sy⟩
   | brk=>exact nw
   | ret v=>exact nw
  | false =>
   simp only [bp,Qcv];exact qq (h2 rfl s' S')
end
section
variable {g:Gd}{A:bg}{L L₁ L₂ bH:ae}{env:Env}
def nG(g:Gd)(A:bg)(L:ae)(ts:List (Bool×Sem aq))(as:List AV)(L':ae):Prop:=∀s Q,St g L s→(∀vs s',bP vs as→St g L' s'→Q vs s')→aJ (bD g.prog g.w) A (vy ts) Q cU s
def tu(g:Gd)(A:bg)(L:ae)(ts:List (Sem aq))(as:List AV)(L':ae):Prop:=∀s Q,St g L s→(∀vs s',bP vs as→St g L' s'→Q vs s')→aJ (bD g.prog g.w) A (QbD ts) Q cU s
theorem dh:nG g A L (b6 pos (aE [] env)) [] L:=λs Q S k=>xc (k [] s .nil S)
theorem HK{pos:Pos}{e:Expr}{rest:List Expr}{a:AV}{as:List AV}(h:GE g A L (eval e env) a L₁)(h':nG g A L₁ (b6 pos (aE rest env)) as L₂)(he:aE (e::rest) env=(false,eval e env)::aE rest env:=by rfl):
  nG g A L (b6 pos (aE (e::rest) env)) (a::as) L₂:=λs Q S k=>by
 rw [he];show aJ _ _ (vy ((false,eval e env)::b6 pos (aE rest env))) _ _ _
 exact jQ (h s _ S λv aW hv aN=>h' aW _ aN λvs bu bk aS=>k _ bu (.cons hv bk) aS)
theorem b9{pos:Pos}{e:Expr}{rest:List Expr}{a:AV}{as:List AV}(h:PE g A L env e a)(h':nG g A L (b6 pos (aE rest env)) as L₂)(he:aE (e::rest) env=(false,eval e env)::aE rest env:=by rfl):
  nG g A L (b6 pos (aE (e::rest) env)) (a::as) L₂:=HK (.wC h) h' he
theorem jU:tu g A L ((bj pos (aO [] env)).map (·.2)) [] L:=λs Q S k=>ah (k [] s .nil S)
variable {p:Pos}{rest:List g0}
theorem Ra(h:GE g A L (eval e env) a L₁)(h':tu g A L₁ ((bj pos (aO rest env)).map (·.2)) as L₂):
  tu g A L ((bj pos (aO (⟨some name,e,p⟩::rest) env)).map (·.2)) (a::as) L₂:=λs Q S k =>
 Qbr (h s _ S λv aW hv aN=>h' aW _ aN λvs bu bk aS=>k _ bu (.cons hv bk) aS)
theorem Hg(h:PE g A L env e a)(h':tu g A L ((bj pos (aO rest env)).map (·.2)) as L₂):
  tu g A L ((bj pos (aO (⟨some name,e,p⟩::rest) env)).map (·.2)) (a::as) L₂:=Ra (.wC h) h'
def jI(g:Gd)(A:bg)(L:ae)(f:aq):Prop:=fz g A L (vo f) λ_=>True
theorem gp{f:aq}(h : ∀a,f ≠ .ref a):jI g A L f:=by
 have e:vo f=pure .machine:=by
  unfold vo;cases f<;>first | rfl | exact absurd rfl (h _)
 intro s Q E S k;rw [e];exact ah (k _ _ trivial S)
def At(g:Gd)(L:ae)(a:ay)(o:Obj):Prop:=∀s,St g L s→s.heap.get? a=some o
theorem At.top{a:ay}(h:g.dB.get? a=some o)(hn:a∉g.tabs):At g L a o:=λ_ S=>S.keep a o h hn
theorem At.mem{a:ay}{o:Obj}(h:(a,bW o)∈L):At g L a o:=λ_ S=>by obtain ⟨o',h1,h2⟩:=S.get h;cases h2;exact h1
theorem pN{f:ay}(h:At g L f o)(hd:o.data = .func fd):jI g A L (.ref f):=by
 intro s Q E S k;unfold vo;refine ab (eU (h s S) ?_);rw [hd];exact ah (k _ _ trivial S)
theorem C6{pos:Pos}{f:aq}{first:List aq}{args:List (Bool×Sem aq)}{keywords:List (Option Str×Sem aq)}{Q:aq→aU→Prop}{E:aq→aU→Prop}{s:aU}
  (h:aJ (bD g.prog g.w) A (sy f true args keywords) (λx aW=>∃L,jI g A L f∧St g L aW∧∀bu,St g L bu→aJ (bD g.prog g.w) A (call f (first++x.pos) x.kw) Q E bu) E s) :
  aJ (bD g.prog g.w) A (fJ pos f first args keywords) Q E s:=by
 unfold fJ;refine ab (aK (cw h (λx aW dB=>ab (bT ?_)) λ_ _ x=>x));have tail : ∀{t:Sem aq} {bu:aU},aJ (bD g.prog g.w) A t Q E bu→aJ (bD g.prog g.w) A (t>>=λr=>holding [r] point>>=λ_=>pure r) Q E bu :=
  λht=>ab (cw ht (λr bu hr=>ab (aK (wpAny_point (ah hr)))) λ_ _ x=>x)
 refine du dB λL hk aN hc=>?_;refine ab (hk aW _ E aN λkp bu _ aS=>?_);have hc:=hc bu aS;have hm : ∀mk,aJ (bD g.prog g.w) A (callMarked mk f (first++x.pos) x.kw) Q E bu:=λmk=>by unfold callMarked;exact Calls.wpAny_keep hc
 cases kp<;>cases (args.any (·.1) || keywords.any (·.1.isNone))<;>dsimp only
 all_goals first
  | exact tail hc
  | exact tail (hm _)
  | exact tail (NM hc)
  | (split;exact tail hc;exact tail (hm _))
  | (refine tail ?_;split;exact hc;exact hm _)
variable {f:aq}
theorem qE(hk:jI g A L f)
  (h:aJ (bD g.prog g.w) A (sy f true args keywords) (λx aW=>St g L aW∧∀bu,St g L bu→aJ (bD g.prog g.w) A (call f (first++x.pos) x.kw) Q E bu) E s) :
  aJ (bD g.prog g.w) A (fJ pos f first args keywords) Q E s:=C6 (cw h (λ_ _ h=>⟨L,hk,h⟩) λ_ _ x=>x)
variable {Q:Args→aU→Prop}{ip:List g0}{rest:List Expr}
theorem vD{ks:List AV}
  (ha:nG g A L (b6 pos (aE (e::rest) env)) as L₁) (hk:tu g A L₁ ((bj pos (aO ip env)).map (·.2)) ks L₂)
  (l7:(bj pos (aO ip env)).all (·.1.isSome)=true) (he:aE (e::rest) env=(false,eval e env)::aE rest env)
  (S:St g L s) (k : ∀vs be s',bP vs as→bP be ks→St g L₂ s'→Q ⟨vs,((bj pos (aO ip env)).filterMap (·.1)).zip be⟩ s') :
  aJ (bD g.prog g.w) A (sy f true (b6 pos (aE (e::rest) env)) (bj pos (aO ip env))) Q cU s :=
 Qau l7 (ha s _ S λvs aW bk aN=>hk aW _ aN λbe bu eF aS=>k vs be bu bk eF aS) he
theorem CT{f:aq}{pos:Pos}{s:aU}{Q:Args→aU→Prop}(S:St g L s)(k : ∀s',St g L s'→Q ⟨[],[]⟩ s'):
  aJ (bD g.prog g.w) A (sy f true (b6 pos (aE [] env)) (bj pos (aO [] env))) Q cU s:=Ob (k s S)
def GC(g:Gd)(A:bg)(L:ae)(f:aq)(as:List AV)(kn:List Str)(ks:List AV)(a:AV)(L':ae):Prop:=∀vs be,bP vs as→bP be ks→GE g A L (call f vs (kn.zip be)) a L'
def NC(g:Gd)(A:bg)(L:ae)(f:aq)(as:List AV)(kn:List Str)(ks:List AV)(P:Obj→Prop):Prop:=∀vs be,bP vs as→bP be ks→NE g A L (call f vs (kn.zip be)) P
theorem mJ{func:Expr}{e:Expr}{rest:List Expr}{ip:List g0}{pos:Pos}{f:aq}{as ks:List AV}{a:AV}(hf:PE g A L env func (.val f))(ha:nG g A L (b6 pos (aE (e::rest) env)) as L₁)
  (hk:tu g A L₁ ((bj pos (aO ip env)).map (·.2)) ks L₂) (kp:jI g A L₂ f) (hc:GC g A L₂ f as ((bj pos (aO ip env)).filterMap (·.1)) ks a bH)
  (hE:eval (.Call func (e::rest) ip pos) env=(do fJ pos (← eval func env) [] (b6 pos (aE (e::rest) env)) (bj pos (aO ip env))):=by rfl)
  (l7:(bj pos (aO ip env)).all (·.1.isSome)=true:=by rfl) (he:aE (e::rest) env=(false,eval e env)::aE rest env:=by rfl):GE g A L (eval (.Call func (e::rest) ip pos) env) a bH:=λs Q S k=>by
 rw [hE];refine ab (PV.v hf s _ _ S λaW aN=>?_);exact qE kp (vD ha hk l7 he aN λvs be bu bk eF aS=>⟨aS,λcC cJ=>hc vs be bk eF cC _ cJ k⟩)
theorem Ir{func:Expr}{e:Expr}{rest:List Expr}{ip:List g0}{pos:Pos}{f:aq}{as ks:List AV}{P:Obj→Prop}(hf:PE g A L env func (.val f))(ha:nG g A L (b6 pos (aE (e::rest) env)) as L)
  (hk:tu g A L ((bj pos (aO ip env)).map (·.2)) ks L) (kp:jI g A L f) (hc:NC g A L f as ((bj pos (aO ip env)).filterMap (·.1)) ks P)
  (hE:eval (.Call func (e::rest) ip pos) env=(do fJ pos (← eval func env) [] (b6 pos (aE (e::rest) env)) (bj pos (aO ip env))):=by rfl)
  (l7:(bj pos (aO ip env)).all (·.1.isSome)=true:=by rfl) (he:aE (e::rest) env=(false,eval e env)::aE rest env:=by rfl):NE g A L (eval (.Call func (e::rest) ip pos) env) P:=λs Q S k=>by
 rw [hE];refine ab (PV.v hf s _ _ S λaW aN=>?_);exact qE kp (vD ha hk l7 he aN λvs be bu bk eF aS=>⟨aS,λcC cJ=>hc vs be bk eF cC _ cJ k⟩)
inductive BA:List (Str×aq)→List (Str×AV)→Prop
 | nil:BA [] []
 | cons {n v a bs ms:_}:AV.Is v a→BA bs ms→BA ((n,v)::bs) ((n,a)::ms)
theorem BA.names{bs ms}(h:BA bs ms):bs.map (·.1)=ms.map (·.1):=by
 induction h with
 | nil=>rfl
 | cons _ _ ih=>simp [ih]
theorem BA.look{bs ms}(h:BA bs ms)(hn:(ms.map (·.1)).Nodup): ∀x a,ms.lookup x=some a→∃v,bs.reverse.lookup x=some v∧AV.Is v a:=by
 intro x a hx;have key : ∃v,(x,v)∈bs∧AV.Is v a:=by
  clear hn
  induction h with
  | nil=>cases hx
  | @cons n v b bs ms hv _ ih =>
   rw [aP] at hx;cases e:(x==n) with
   | true=>rw [e] at hx;cases hx;rw [beq_iff_eq.mp e];exact ⟨v,.head _,hv⟩
   | false=>rw [e] at hx;obtain ⟨w,h1,h2⟩:=ih hx;exact ⟨w,.tail _ h1,h2⟩
 refine ap key λv hm hv=>?_;refine ⟨v,?_,hv⟩;have d9:(bs.reverse.map (·.1)).Nodup:=by
  rw [List.map_reverse,(List.reverse_perm _).nodup_iff,h.names];exact hn
 have Fl:(x,v)∈bs.reverse:=List.mem_reverse.mpr hm;generalize bs.reverse=l at d9 Fl
 induction l with
 | nil=>cases Fl
 | cons p r ih =>
  obtain ⟨y,u⟩:=p;rw [aB,cG] at d9;rw [aP];rcases List.mem_cons.mp Fl with e | hr
  ·cases e;simp
  ·have:x≠y:=λe=>d9.1 (e▸List.mem_map.mpr ⟨_,hr,rfl⟩)
   have e':(x==y)=false:=by simpa using this
   rw [e'];exact ih d9.2 hr
noncomputable abbrev jw(fd:xb)(f F:ay):Env:=newEnv fd.scope F fd.globals fd.closure (fd.qualname ++ ".<locals>.") (some f) fd.code none fd.builtins
def qL(g:Gd)(L:ae)(cd:aq)(q:Str):Prop:=∀s,St g L s→s.heap.CodeRec cd q
theorem qL.top{cd:aq}(h : ∃c o vs t,cd = .ref c∧g.dB.get? c=some o∧c∉g.tabs∧o.data = .fields vs∧vs[1]?=some (.str q t)):qL g L cd q:=λs S=>by
 refine qT h λc o vs t e ho hn hd hq=>?_;exact ⟨c,o,vs,t,e,S.keep c o ho hn,hd,hq⟩
theorem Al(S:St g L s)(hn:h'.Ns s.heap.objs.size (λx=>binds.reverse.lookup x))(hs:xi s.heap.objs.size (s.heap.push { cls:=.type "frame",data:=.dict #[] }) h')
  (hb:BA binds m) (d9:(m.map (·.1)).Nodup) (t:Nat):St g ((s.heap.objs.size,am m)::L) { s with heap:=h',toks:=t }:=by
 have aN:St g ((s.heap.objs.size,am [])::L) { s with heap:=s.heap.push { cls:=.type "frame",data:=.dict #[] } } :=
  S.push ⟨#[],0,rfl,λ_ he=>by simp at he,λx a hx=>by cases hx⟩
 refine lF hn λo' es ep ho hd hk hm=>?_;refine St.toks (s:={ s with heap:=h' }) (aN.gG aw.head hs ho ⟨es,ep,hd,hk,λx a hx=>?_⟩) t;refine ap (hb.look d9 x a hx) λv h1 h2=>?_;exact ⟨v,by rw [hm];exact h1,h2⟩
noncomputable def ut:List Str→Bool
 | []=>true
 | x::r=>!(r.contains x)&&ut r
theorem z9:∀{l:List Str},ut l=true→l.Nodup:=by
 intro l
 induction l with
 | nil=>intro _;exact m8
 | cons x r ih =>
  intro h;unfold ut at h;simp only [QaT,QaG] at h;refine List.nodup_cons.mpr ⟨λhm=>?_,ih h.2⟩;rw [List.contains_iff_mem.mpr hm] at h;cases h.1
noncomputable def uu(sc:Scope)(ns:List Str):Bool:=ns.all λx=>sc.names.lookup x==some .local
noncomputable def lq(sc:Scope):Bool:=sc.names.all λx=>x.2 != .cell
variable {sc:Scope}
theorem z'{ns:List Str}(h:uu sc ns=true): ∀x∈ns,sc.names.lookup x=some .local:=λx hx=>beq_iff_eq.mp (List.all_eq_true.mp h x hx)
theorem vE(h:lq sc=true): ∀x∈sc.names,x.2 ≠ .cell:=λx hx=>bne_iff_ne.mp (List.all_eq_true.mp h x hx)
theorem Jz{f:ay}(hf:At g L f o)(hd:o.data = .func fd)(rD:fd.body = .stmts body)(eb:qL g L fd.code fd.qualname)
  (oj:A.depth<iX) (rE : ∀s,St g L s→QbJ s fd ⟨vs,kw⟩ binds) (hb:BA binds m) (d9:ut (m.map (·.1))=true) (ku:uu fd.scope (m.map (·.1))=true)
  (h : ∀F,SX g (A.deeper (jw fd f F)) ((F,am m)::L) (jw fd f F) body λfl s'=>AV.Is (match fl with | .ret v=>v | _=>.none) a∧St g L₁ s')
  (hco:fd.scope.isCoroutine=false:=by rfl) (hgen:fd.scope.isGenerator=false:=by rfl) (hk:fd.scope.kind = .function:=by rfl) (hcell:lq fd.scope=true:=by rfl) :
  GE g A L (call (.ref f) vs kw) a L₁:=λs Q S k=>by
 refine jP (oR oj (hf s S) hd hco hgen rD (eb s S) ?_);refine rE s S _ _ _ _ ?_;have uy : ∀x∈binds,fd.scope.names.lookup x.1=some .local:=by
  intro x hx
  have:x.1∈m.map (·.1):=hb.names▸List.mem_map.mpr ⟨x,hx,rfl⟩
  exact z' ku _ this
 refine jB (vE hcell) uy (λdB gW mQ=>⟨S.lim.fresh _ mQ,?_⟩) hk;refine Cr (ja (cw (h s.heap.objs.size _ (Al S gW mQ hb (z9 d9) _)) (λfl s' hq=>?_) λ_ _ x=>x));exact k _ s' hq.1 hq.2
end
section
variable {g:Gd}{A:bg}{L L' L₁ L₂ bH:ae}{env:Env}
theorem PV.jL(h:GE g A L t a L):PV g A L t a:=λs Q E S k=>ja (h s Q S k)
theorem PE.jL{e:Expr}{a:AV}(h:GE g A L (eval e env) a L):PE g A L env e a:=PV.jL h
variable {l:ay}
theorem AE(hl:(l,aM xs)∈L)(hz:xs.length<2 ^ 63):GC g A L (.builtin "len") [.ref l] [] [] (.int xs.length) L:=by
 intro vs be bk eF s Q S k;cases eF;cases bk with
 | cons hv ht =>
  cases ht;cases AV.cW hv;refine cp (eI S hl) λws n h1 h2=>?_;have e:(ws.size:Int)=xs.length:=by rw [← h2.length];simp
  refine Calls.call_len_list (gN h1) (by rw [e];exact z1 hz) ?_;rw [e];exact k _ _ ⟨_,rfl⟩ (S.toks _)
variable {o:Expr}
theorem sI{id:String}(ho:PE g A L env o (.ref l))(hl:(l,aM xs)∈L)(slot:Slot "list" name id)
  (uS:n6 (.builtin id)=pure (.type "method_descriptor")) (ha:nG g A L (b6 pos (aE (e::rest) env)) as L₁) (hc : ∀vs,bP vs as→GE g A L₁ (call (.builtin id) (.ref l::vs)) a L₂)
  (hbase:dW o name env (eval o env)=eval o env)
  (hfew:((b6 pos (aE (e::rest) env)).all (λx=>!x.1)&&(bj pos (aO [] env)).all (λx=>x.1.isSome)&&decide ((e::rest).length+([]:List g0).length+(if ([]:List g0).isEmpty then 0 else 1)<30))=true)
  (hline:(apos.endLine==pos.line)=true) (he:aE (e::rest) env=(false,eval e env)::aE rest env) :
  GE g A L (eval (.Call (.Attribute o name apos) (e::rest) [] pos) env) a L₂:=λs Q S k=>by
 refine tN hbase hfew hline g8 slot uS (PV.v ho s _ _ S λaW aN=>?_);refine cp (eI aN hl) λws n h1 h2=>?_;refine ⟨(gN h1).typeIs,λa e=>by cases e;exact ⟨_,h1,rfl⟩,?_⟩;have e2:([]:List (Option Str×Sem aq))=bj pos (aO [] env):=rfl;rw [e2];exact qE (L:=L₁) (gp λ_ x=>by cases x) (vD ha jU rfl he aN λvs be bu bk eF aS=>⟨aS,λcC cJ=>by
  cases eF;exact hc vs bk cC _ cJ k⟩)
theorem Hh{id:String}(ho:PE g A L env o (.ref l))(hl:(l,aM xs)∈L)(slot:Slot "list" name id)
  (uS:n6 (.builtin id)=pure (.type "method_descriptor")) (hc:GE g A L (call (.builtin id) [.ref l]) a L₂)
  (hbase:dW o name env (eval o env)=eval o env)
  (hfew:((b6 pos (aE [] env)).all (λx=>!x.1)&&(bj pos (aO [] env)).all (λx=>x.1.isSome)&&decide (([]:List Expr).length+([]:List g0).length+(if ([]:List g0).isEmpty then 0 else 1)<30))=true)
  (hline:(apos.endLine==pos.line)=true) :
  GE g A L (eval (.Call (.Attribute o name apos) [] [] pos) env) a L₂:=λs Q S k=>by
 refine tN hbase hfew hline g8 slot uS (PV.v ho s _ _ S λaW aN=>?_);refine cp (eI aN hl) λws n h1 h2=>?_;refine ⟨(gN h1).typeIs,λa e=>by cases e;exact ⟨_,h1,rfl⟩,?_⟩;have e2:([]:List (Option Str×Sem aq))=bj pos (aO [] env):=rfl;rw [e2];exact qE (L:=L) (gp λ_ x=>by cases x) (CT aN λbu aS=>⟨aS,λcC cJ=>hc cC _ cJ k⟩)
variable {f:Array aq→Array aq}{vs:Array aq}
theorem ud(S:St g L s)(U:aw l (aM xs) (aM ys) L L')(h:IsL s.heap l vs n)(hf:bP (f vs).toList ys):
  St g L' { s with heap:=s.heap.update l (iU f) } :=
 S.gG U (cz ..) (IsL.update h f) ⟨_,_,rfl,hf⟩
theorem Fn(h0:0≤k)(h:k≤1000000):Builtin.List.listFitsIndex k=true:=by
 unfold Builtin.List.listFitsIndex
 have:(2:Int) ^ 63=9223372036854775808:=by decide
 simp;exact z3 h0 h
theorem Du(U:aw l (aM xs) (aM (xs.take k.toNat++a::xs.drop k.toNat)) L L')(h0:0≤k)(hk:k≤xs.length)(hz:xs.length≤100000):
  ∀vs,bP vs [.int k,a]→GE g A L (call (.builtin "list.insert") (.ref l::vs)) .none L':=by
 intro vs bk s Q S kk;refine eQ bk.two λ_ w af bz hw=>?_;subst af;refine cT bz λt af=>?_;subst af;refine cp (eI S U.mem) λws n h1 h2=>?_;have hlen:=h2.length;rw [aG] at hlen;have wg:¬(!Builtin.List.listFitsIndex k)=true:=by rw [Fn h0 (z4 hk hz)];decide
 have gB:ws.size≤sizeLine:=by rw [hlen,sizeLine_eq];exact z5 hz
 refine lX lS ⟨_,h1,rfl⟩ PySem.F.entry_list_insert (PySem.F.args_list_insert_3 _ _ _) (PySem.AutoSeq1.list_insert_list_int_val_1 l ws n k t w wg gB) ⟨h1,?_⟩;refine kk _ _ rfl (ud S U h1 ?_);have e:(if k<0 then (k+(ws.size:Int)).toNat else min k.toNat ws.size)=k.toNat:=by
  rw [Qcs (by exact z6 h0)];exact z7 hk hlen
 show bP (((ws.extract 0 _).push _++ws.extract _).toList) _
 rw [e];simp only [lU,qD,Array.toList_extract,aH,List.singleton_append];have e1:xg ws.toList 0 k.toNat=ws.toList.take k.toNat:=by simp [xg]
 have e2:xg ws.toList k.toNat ws.size=ws.toList.drop k.toNat:=by
  simp only [xg];exact NF (by simp)
 rw [e1,e2];exact (h2.take k.toNat).append (.cons hw (h2.drop k.toNat))
theorem vH(U:aw l (aM xs) (aM (xs++[a])) L L')(hz:xs.length≤100000):
  ∀vs,bP vs [a]→GE g A L (call (.builtin "list.append") (.ref l::vs)) .none L':=by
 intro vs bk s Q S kk;refine ap bk.one λw af hw=>?_;subst af;refine cp (eI S U.mem) λws n h1 h2=>?_;have hlen:=h2.length;rw [aG] at hlen;refine lX gv ⟨_,h1,rfl⟩ PySem.F.entry_list_append (PySem.F.args_list_append_2 _ _) (PySem.list_append l _ n _ (by rw [hlen,sizeLine_eq];exact z5 hz)) ⟨h1,?_⟩;refine kk _ _ rfl (ud S U h1 ?_);rw [qD];exact h2.snoc hw
end
section
noncomputable def bA:List fK→Nat→fK
 | [],_=>.Pass ⟨0,0,0,0⟩
 | s::_,0=>s
 | _::r,n+1=>bA r n
noncomputable def noArgs:mA:={ posonlyargs:=[],args:=[],vararg:=none,kwonlyargs:=[],kw_defaults:=[],kwarg:=none,defaults:=[] }
noncomputable def As:Scope:={ kind:=.module,names:=[],isGenerator:=false,isCoroutine:=false,more:=[] }
noncomputable def DO:fK→mA×List fK×Scope
 | .FunctionDef _ a b _ _ _ s _ _ _=>(a,b,s)
 | .ClassDef _ _ _ b _ _ s _ _ _ _=>(noArgs,b,s)
 | .If _ _ o _=>(noArgs,o,As)
 | .For _ _ b _ _=>(noArgs,b,As)
 | .While _ b _ _=>(noArgs,b,As)
 | _=>(noArgs,[],As)
noncomputable def Am(s:fK):mA:=(DO s).1
noncomputable def ju(s:fK):List fK:=(DO s).2.1
noncomputable def mK(s:fK):Scope:=(DO s).2.2
noncomputable def top(i:Nat):fK:=bA PySem.Challenge.pw_dn0053_11.main.body i
noncomputable def gy(st:fK)(name qual:Str)(dV kV doc pm cq ct:aq):xb :=
 { name:=name,qualname:=qual,params:=Am st,body:=.stmts (ju st),scope:=mK st,globals:=cm,closure:=[],defaults:=dV,kwdefaults:=kV,doc:=doc,pyModule:=pm,annotations:=none,code:=cq,closureTuple:=ct,builtins:=dU }
def ma(g:Gd)(st:fK)(name qual:Str)(D:aq→Prop)(f:ay):Prop :=
 ∃o dV kV doc pm cq ct,g.dB.get? f=some o∧f∉g.tabs∧o.data = .func (gy st name qual dV kV doc pm cq ct)∧(∃c o vs t,cq = .ref c∧g.dB.get? c=some o∧c∉g.tabs∧o.data = .fields vs∧vs[1]?=some (.str qual t))∧D dV
def qU(g:Gd)(vs:List AV)(dV:aq):Prop:=∃T o ws n,dV = .ref T∧g.dB.get? T=some o∧T∉g.tabs∧o.data = .seq (ba ws) n∧bP ws vs
structure bZ(n:Nat)(A:bg):Prop where
 handled:A.handled=none
 depth:A.depth+n<iX
 units:A.units+8*n<w8
theorem bZ.deeper(h:bZ (n+1) A):bZ n (A.deeper env):=⟨h.handled,by have:=h.depth;show A.depth+1+n<_;exact z8 this,by have:=h.units;show A.units+3+8*n<_;exact bB (.i (.t (.a .A (.m 8 (.a .B .O))) .C) (.t (.a (.a .A (.c 3)) (.m 8 .B)) .C)) rfl this⟩
theorem bZ.room(h:bZ n A):A.depth<iX:=by have:=h.depth;exact bB (.i (.t (.a .A .B) .C) (.t .A .C)) rfl this
theorem bZ.le{m:Nat}(h:bZ n A)(hm:m≤n):bZ m A:=⟨h.handled,by have:=h.depth;exact fy (.i (.l .A .B) (.i (.t (.a .C .B) .D) (.t (.a .C .A) .D))) rfl hm this,by have:=h.units;exact fy (.i (.l .A .B) (.i (.t (.a .C (.m 8 .B)) .D) (.t (.a .C (.m 8 .A)) .D))) rfl hm this⟩
def cu(L M:ae):Prop:=∀p∈L,p∈M
theorem cu.refl(L:ae):cu L L:=λ_ h=>h
variable {M:ae}
theorem cu.trans{N:ae}(h:cu L M)(h':cu M N):cu L N:=λp hp=>h' p (h p hp)
theorem cu.cons{q:fN}(h:cu L M):cu L (q::M):=λp hp=>.tail _ (h p hp)
theorem cu.cE{L M:ae}{K:ae}(h:cu L M):cu L (K++M):=λp hp=>List.mem_append.mpr (.inr (h p hp))
theorem cu.left{K:ae}:cu K (K++M):=λp hp=>List.mem_append.mpr (.inl hp)
structure jd(n:Nat)(g:Gd)(bF:ae)(key:aq)(dom:Int→Prop)(ρ:Int→Int)(KV:ae→aq→Int→Prop):Prop where
 kept : ∀A M,bZ n A→cu bF M→jI g A M key
 call : ∀A M,bZ n A→cu bF M→∀v i,dom i→AV.Is v (.int i)→∀s Q E,St g M s→(∀kv Kx s',KV Kx kv (ρ i)→St g (Kx++M) s'→Q kv s')→aJ (bD g.prog g.w) A (Qb0 key [v] []) Q E s
 lt : ∀A M,bZ n A→cu bF M→∀Kx Ky kv kw r r',KV Kx kv r→KV Ky kw r'→cu Kx M→cu Ky M→PV g A M (nc .Lt kv kw) (.bool (decide (r<r')))
inductive iE:List (Str×AV)→List (Str×AV)→Prop
 | nil {m:_}:iE [] m
 | cons {x a m' m:_}:m.lookup x=some a→iE m' m→iE ((x,a)::m') m
theorem iE.look{m' m}(h:iE m' m): ∀x a,m'.lookup x=some a→m.lookup x=some a:=by
 induction h with
 | nil=>intro x a h;cases h
 | @cons y b m' m hy _ ih =>
  intro x a hx;rw [aP] at hx;cases e:(x==y) with
  | true=>rw [e] at hx;cases hx;rw [beq_iff_eq.mp e];exact hy
  | false=>rw [e] at hx;exact ih x a hx
theorem iE.ns{m' m}(h:iE m' m): ∀o,am m o→am m' o:=λo ⟨es,ep,h1,h2,h3⟩=>⟨es,ep,h1,h2,λx a hx=>h3 x a (h.look x a hx)⟩
theorem aj.ns{F:ay}{m m':List (Str×AV)}{L L':ae}(h:iE m' m)(p:aj L' L):aj ((F,am m')::L') ((F,am m)::L):=aj.pick aR.head h.ns p
theorem aw.cE{a:ay}{K R:ae}(h:aw a P P' L R):aw a P P' (K++L) (K++R):=by
 induction K with
 | nil=>exact h
 | cons q K ih=>exact aw.tail ih
theorem aR.cE{p:fN}{K L R:ae}(h:aR p L R):aR p (K++L) (K++R):=by
 induction K with
 | nil=>exact h
 | cons q K ih=>exact aR.tail ih
end
local macro_rules | `(tactic| k_mem) => `(tactic| first | assumption | exact .head _ | (refine .tail _ ?_;k_mem) | (refine ag _ ?_;k_mem))
local macro_rules | `(tactic| k_upd) => `(tactic| first | (constructor<;>k_upd) | exact .inr ⟨_,_,_,rfl⟩ | (apply aw.cE;k_upd) | (apply aR.cE;k_upd))
local macro_rules | `(tactic| k_all) => `(tactic| first
 | (refine' bU ?h1 ?h2;(case h1=>k_mem);(case h2=>rfl))
 | (refine' dZ ?h1 ?h2;(case h1=>rfl);(case h2=>k_mem))
 | (refine' xz (hk:=by rfl) (hl:=by rfl) (hd:=by decide) (hn:=by decide) ?h1 ?h2;(case h1=>rfl);(case h2=>k_mem))
 | (refine' jX ?h1 ?h2 ?h3;(case h1=>k_all);(case h2=>k_all);(case h3=>first | exact uq | exact ur | exact AC (qC (by decide))))
 | exact gP | exact oi | exact uj)
section
variable {g:Gd}{A:bg}{L L₁ L₂ bH:ae}
theorem HL(h0:0≤lo)(h:lo<hi):lo≤(lo+hi).fdiv 2∧(lo+hi).fdiv 2<hi:=by
 rw [Gh _ (by exact kU (.L .Z (.c 2)) rfl)];exact Y7 h
theorem SB(hA:bZ n A)(fV:jd n g bF key dom ρ KV)(eV:cu bF L){rx:Int}(qc:cu Kx L)
     (hx:PE g A L env ex xa) (qd : ∀v,AV.Is v xa→KV Kx v rx) (hk:PE g A L env ek (.val key)) {i:Int} (hi:PE g A L env ei (.int i)) (hd:dom i)
  (hE:eval (.Call ek [ei] [] p1) env=(do fJ p1 (← eval ek env) [] (b6 p1 (aE [ei] env)) (bj p1 (aO [] env)))) (he:aE [ei] env=(false,eval ei env)::aE [] env)
  (hm:pD .Lt (.Call ek [ei] [] p1)=false):PT g A L env (.Compare ex [.Lt] [.Call ek [ei] [] p1] p2) (decide (rx<ρ i)):=λs Q E S k=>by
 refine lP (hx s _ E S λxv aW r8 aN=>?_) hm;rw [hE];refine ab (PV.v hk aW _ _ aN λbu aS=>?_);refine qE (L:=L) (fV.kept A L hA eV) (ja (vD (b9 hi dh he) jU rfl he aS λvs be cC bk eF cJ=>⟨cJ,λgx eK=>?_⟩));refine ap bk.one λw af hw=>?_;subst af;cases eF.zero;refine fV.call A L hA eV w i hd hw gx _ _ eK λkv Ky kX kB ij=>?_;refine fV.lt A (Ky++L) hA eV.cE Kx Ky xv kv rx (ρ i) (qd xv r8) kB qc.cE cu.left kX _ _ ij λc ny hc mM=>?_;cases AV.cW hc;exact hZ (k _ _ rfl mM.Ei)
noncomputable def bE(i:Nat)(nm:Str)(T:ay)(kV doc pm cq ct:aq)(f F:ay):Env:=jw (gy (top i) nm nm (.ref T) kV doc pm cq ct) f F
noncomputable def U6:oP→aq
 | .ret v=>v
 | _=>.none
abbrev Mw(n i:Nat)(g:Gd)(L L₁:ae)(nm:Str)(f:ay)(a1 a2 a3 a4 ak r:AV):Prop:=∀(B:bg) (T F:ay) (kV doc pm cq ct:aq) (Q:oP→aU→Prop),bZ n B→(∀fl s,AV.Is (U6 fl) r→St g L₁ s→Q fl s) →
   SX g B ((F,am [("a",a1),("x",a2),("lo",a3),("hi",a4),("key",ak)])::L) (bE i nm T kV doc pm cq ct f F) (ju (top i)) Q
def PB(i:Nat)(vs:List aq→List aq)(bs:aq→aq→aq→aq→List aq):Prop:=∀(nm:Str) (T:ay) (kV doc pm cq ct v1 v2 v3 v4 v5 d1 d2:aq),∃k,Ct (gy (top i) nm nm (.ref T) kV doc pm cq ct) ⟨vs [v1,v2,v3,v4],[("key",v5)]⟩=(QbR (.ref T)>>=k)∧k (some (ba [d1,d2]))=pure ((["a","x","lo","hi","key"]:List Str).zip (v1::v2::(bs v3 v4 d1 d2++[v5])))
abbrev Mx(i:Nat):Prop:=PB i id λx y _ _=>[x,y]
abbrev Zc(i:Nat):Prop:=PB i (·.take 2) λ_ _ x y=>[x,y]
theorem BL{i:Nat}{nm:Str}{f:ay}{n:Nat}{a1 a2 a3 a4 ak r:AV}(hf:ma g (top i) nm nm (qU g [.int 0,.none]) f)(hA:bZ (n+1) A)(h:Mw n i g L L₁ nm f a1 a2 a3 a4 ak r)
  (hb:Mx i) (hl:uu (mK (top i)) ["a","x","lo","hi","key"]=true) (hc:(mK (top i)).isCoroutine=false) (hg:(mK (top i)).isGenerator=false) (hk:(mK (top i)).kind = .function) (hn:lq (mK (top i))=true) :
  GC g A L (.ref f) [a1,a2,a3,a4] ["key"] [ak] r L₁:=by
 intro vs be bk eF;refine nu hf λo dV kV doc pm cq ct ho fX hd eb ξ=>?_;refine qT ξ λT oT ws nT af hT yK yL r9=>?_;subst af;refine eQ r9.two λd1 d2 af wE wF=>?_;subst af;refine qT bk.four λv1 v2 v3 v4 af h1 h2 h3 h4=>?_;subst af;refine ap eF.one λv5 af h5=>?_;subst af;refine Jz (binds:=[("a",v1),("x",v2),("lo",v3),("hi",v4),("key",v5)]) (.top ho fX) hd rfl (.top eb) hA.room (λs S=>?_) (.cons h1 (.cons h2 (.cons h3 (.cons h4 (.cons h5 .nil))))) rfl hl (λF=>h _ T F kV doc pm cq ct _ hA.deeper λ_ _ a b=>⟨?_,b⟩) hc hg hk hn
 ·exact ap (hb nm T kV doc pm cq ct v1 v2 v3 v4 v5 d1 d2) λk e1 e2=>vu rfl (S.keep T oT hT yK) yL e1 e2
 ·rename oP=>fl;cases fl<;>exact a
variable {f:ay}
theorem My{nm:Str}{a1 a2 ak r:AV}(hf:ma g (top i) nm nm (qU g [.int 0,.none]) f)(hA:bZ (n+1) A)(h:Mw n i g L L₁ nm f a1 a2 (.int 0) .none ak r)
  (hb:Zc i) (hl:uu (mK (top i)) ["a","x","lo","hi","key"]=true) (hc:(mK (top i)).isCoroutine=false) (hg:(mK (top i)).isGenerator=false) (hk:(mK (top i)).kind = .function) (hn:lq (mK (top i))=true) :
  GC g A L (.ref f) [a1,a2] ["key"] [ak] r L₁:=by
 intro vs be bk eF;refine nu hf λo dV kV doc pm cq ct ho fX hd eb ξ=>?_;refine qT ξ λT oT ws nT af hT yK yL r9=>?_;subst af;refine eQ r9.two λd1 d2 af wE wF=>?_;subst af;refine eQ bk.two λv1 v2 af h1 h2=>?_;subst af;refine ap eF.one λv5 af h5=>?_;subst af;refine Jz (binds:=[("a",v1),("x",v2),("lo",d1),("hi",d2),("key",v5)]) (.top ho fX) hd rfl (.top eb) hA.room (λs S=>?_) (.cons h1 (.cons h2 (.cons wE (.cons wF (.cons h5 .nil))))) rfl hl (λF=>h _ T F kV doc pm cq ct _ hA.deeper λ_ _ a b=>⟨?_,b⟩) hc hg hk hn
 ·exact ap (hb nm T kV doc pm cq ct v1 v2 .none .none v5 d1 d2) λk e1 e2=>vu rfl (S.keep T oT hT yK) yL e1 e2
 ·rename oP=>fl;cases fl<;>exact a
theorem Mz:Mx 3:=λ_ _ _ _ _ _ _ _ _ _ _ _ _ _=>⟨_,rfl,rfl⟩
noncomputable def U7(i:Nat):List fK:=ju (bA (ju (top i)) 2)++[bA (ju (top i)) 3]
variable {B:bg}{Q:oP→aU→Prop}
theorem It{T:ay}(hA:bZ n B)(fV:jd n g bF key dom ρ KV)(eV:cu bF L)
    (pf:(al,ai is)∈L) (kx : ∀i∈is,dom i)  {rx:Int} (qc:cu Kx L)  (qd : ∀v,AV.Is v xa→KV Kx v rx)
  {r:Int} (h0:0≤lo) (me:lo≤r) (mf:r≤hi) (uT:hi≤is.length) (hz:is.length≤100000)
  (kC : ∀i:Nat,lo≤i→(i:Int)<r→∀e,is[i]?=some e→¬rx<ρ e) (mR : ∀i:Nat,r≤i→(i:Int)<hi→∀e,is[i]?=some e→rx<ρ e)  (hQ : ∀v s,AV.Is v (.int r)→St g L s→Q (.ret v) s) :
  SX g B ((F,am [("a",.ref al),("x",xa),("lo",.int lo),("hi",.int hi),("key",.val key)])::L) (bE 3 "bisect_right" T kV doc pm cq ct f F) (U7 3) Q:=by
 refine Dt (α:={ p:Int×Int//lo≤p.1∧p.1≤r∧r≤p.2∧p.2≤hi }) (λp=>(F,am [("a",.ref al),("x",xa),("lo",.int p.1.1),("hi",.int p.1.2),("key",.val key)])::L) (λp=>(p.1.2-p.1.1).toNat) ⟨(lo,hi),dq (.i (.L .A .B) (.i (.L .B .C) (.a (.L .A .A) (.a (.L .A .B) (.a (.L .B .C) (.L .C .C)))))) rfl me mf⟩ ?_;intro bz;obtain ⟨eM,fY,sb,sd,pg⟩:=bz;obtain ⟨l,h⟩:=eM;dsimp only at fY sb sd pg;refine ⟨decide (l<h),eP (by k_all) (by k_all) qN,λaY=>lp λQ1 jj=>?_,λgs=>?_⟩
 ·have aY:=of_decide_eq_true aY;refine b8 (HL (lo:=l) (hi:=h) (Ff h0 fY) aY) λnH oE=>?_;refine iz (a:=.int ((l+h).fdiv 2)) (jX (by k_all) (by k_all) (DN (by decide) (qy (by decide +kernel)))) (b7 (by k_upd)) ?_;generalize (l+h).fdiv 2=mid at nH oE;have EV:mid.toNat<is.length:=WV (.i (.L .Z .A) (.i (.L .B (.k .A)) (.i (.L .A .C) (.i (.L .D .B) (.i (.L .C .F) (.i (.T .F .D) (.t (.t .F) .A))))))) rfl h0 uT fY pg nH oE;obtain ⟨e,he⟩ : ∃e,is[mid.toNat]?=some e:=⟨is[mid.toNat],au EV⟩;have hmem:e∈is:=bx he;refine mL (c:=decide (rx<ρ e)) (SB (hE:=by rfl) (he:=by rfl) (hm:=by kst_p) hA fV eV.cons qc.cons (by k_all) qd (by k_all) (fM (by k_all) (by k_all) (aQ _ pf) (by exact dq (.i (.L .Z .A) (.i (.L .A .B) (.i (.L .B .C) (.L .Z .C)))) rfl h0 fY nH) (by exact A8 (.i (.L .A (.k .A)) (.i (.l .A (.c 100000)) (.i (.L .B .A) (.i (.T .C .B) (.T .C (.c 9223372036854775808)))))) rfl uT hz pg oE) (by rw [aA,he];rfl)) (kx e hmem)) (λhc=>?_) λhc=>?_
  ·have hc:=of_decide_eq_true hc;refine iz (by k_all) (b7 (by k_upd)) (eJ λs S=>?_);have hle:r≤mid:=by
    apply Int.not_lt.mp;intro hq;exact kC mid.toNat (dq (.i (.L .A .B) (.i (.L .B .C) (.L .A (.k (.t .C))))) rfl fY nH) (ii (.i (.L .Z .A) (.i (.L .A .B) (.i (.L .B .C) (.i (.T .C .D) (.T (.k (.t .C)) .D))))) rfl h0 fY nH hq) e he hc
   exact jj _ _ ⟨⟨(l,mid),v6 (.i (.L .A .B) (.i (.L .B .C) (.i (.L .D .F) (.i (.T .G .D) (.i (.L .C .G) (.a (.L .A .B) (.a (.L .B .C) (.a (.L .C .G) (.L .G .F))))))))) rfl fY sb pg oE hle⟩,by show (mid-l).toNat<(h-l).toNat;exact dq (.i (.T .A .B) (.i (.T .C .B) (.t (.t (.s .C .A)) (.t (.s .B .A))))) rfl aY oE,S.cX (aj.ns (by k_upd) aj.refl)⟩
  ·have hc:=Qcu hc;refine iz (by k_all) (b7 (by k_upd)) (eJ λs S=>?_);have hle:mid<r:=by
    apply Int.not_le.mp;intro hq;exact hc (mR mid.toNat (Mi hq) (o7 (.i (.L .Z .A) (.i (.L .A .B) (.i (.L .C .D) (.i (.T .B .C) (.i (.T .F .C) (.T (.k (.t .F)) .D)))))) rfl h0 fY pg aY oE) e he)
   exact jj _ _ ⟨⟨(mid+1,h),g7 fY (g7 nH (pG (Qcb _))),hle,sd,pg⟩,by show (h-(mid+1)).toNat<(h-l).toNat;exact dq (.i (.L .A .B) (.i (.T .B .C) (.t (.t (.s .C (.a .B .O))) (.t (.s .C .A))))) rfl nH oE,S.cX (aj.ns (by k_upd) aj.refl)⟩
 ·have gs:=Qcu gs;exact pM (a:=.int l) (by k_all) λv s hv S=>hQ v s ((show l=r from Mj sb sd gs)▸hv) S.ig
theorem GJ{f:ay}(hf:ma g (top 3) "bisect_right" "bisect_right" (qU g [.int 0,.none]) f){n:Nat}(hA:bZ (n+1) A){bF:ae}{key:aq}{dom:Int→Prop}{ρ:Int→Int}{KV:ae→aq→Int→Prop}(fV:jd n g bF key dom ρ KV)(k6:key ≠ .none)(eV:cu bF L)
  {al:ay} {is:List Int} (pf:(al,ai is)∈L) (kx : ∀i∈is,dom i) {Kx:ae} {rx:Int} (qc:cu Kx L) {xa:AV} (qd : ∀v,AV.Is v xa→KV Kx v rx)
  {lo hi r:Int} (h0:0≤lo) (me:lo≤r) (mf:r≤hi) (uT:hi≤is.length) (hz:is.length≤100000)
  (kC : ∀i:Nat,lo≤i→(i:Int)<r→∀e,is[i]?=some e→¬rx<ρ e) (mR : ∀i:Nat,r≤i→(i:Int)<hi→∀e,is[i]?=some e→rx<ρ e) :
  GC g A L (.ref f) [.ref al,xa,.int lo,.int hi] ["key"] [.val key] (.int r) L:=by
 refine BL (hl:=by rfl) (hc:=by rfl) (hg:=by rfl) (hk:=by rfl) (hn:=by rfl) hf hA (λB T F kV doc pm cq ct Q hA hQ=>?_) Mz;refine iC (c:=decide (lo<0)) (decide_eq_false (z6 h0)) (eP (by k_all) (by k_all) qN) ?_;refine iC (c:=false) rfl (eP (by k_all) (by k_all) Oq) ?_;refine iC (c:=key == .none) (beq_eq_false_iff_ne.mpr k6) (eP (by k_all) (by k_all) pI) ?_;exact It hA fV eV pf kx qc qd h0 me mf uT hz kC mR λv s a b=>hQ _ s a b
end
section
variable {g:Gd}{A:bg}{L L' L₁ L₂ bH:ae}
theorem SD(hA:bZ n A)(fV:jd n g bF key dom ρ KV)(eV:cu bF L){rx:Int}(qc:cu Kx L)
     (hx : ∀K,PE g A (K++L) env ex xa) (qd : ∀v,AV.Is v xa→KV Kx v rx) (hk:PE g A L env ek (.val key)) {i:Int} (hi:PE g A L env ei (.int i)) (hd:dom i)
  (hE:eval (.Call ek [ei] [] p1) env=(do fJ p1 (← eval ek env) [] (b6 p1 (aE [ei] env)) (bj p1 (aO [] env)))) (he:aE [ei] env=(false,eval ei env)::aE [] env)
  (hm:pD .Lt ex=false):PT g A L env (.Compare (.Call ek [ei] [] p1) [.Lt] [ex] p2) (decide (ρ i<rx)):=λs Q E S k=>by
 refine lP ?_ hm;rw [hE];refine ab (PV.v hk s _ _ S λbu aS=>?_);refine qE (L:=L) (fV.kept A L hA eV) (ja (vD (b9 hi dh he) jU rfl he aS λvs be cC bk eF cJ=>⟨cJ,λgx eK=>?_⟩));refine ap bk.one λw af hw=>?_;subst af;cases eF.zero;refine fV.call A L hA eV w i hd hw gx _ _ eK λkv Ky kX kB ij=>?_;refine hx Ky kX _ _ ij λxv ny r8 mM=>?_;refine fV.lt A (Ky++L) hA eV.cE Ky Kx kv xv (ρ i) rx kB (qd xv r8) cu.left qc.cE ny _ _ mM λc ny hc mM=>?_;cases AV.cW hc;exact hZ (k _ _ rfl mM.Ei)
noncomputable def CZ:List (Str×aq):=[("len",.builtin "len"),("range",.type "range"),("list",.type "list"),("min",.builtin "min"),("max",.builtin "max"),("sorted",.builtin "sorted"),("sum",.builtin "sum"),("abs",.builtin "abs"),("tuple",.type "tuple"),("set",.type "set"),("iter",.builtin "iter"),("bool",.type "bool"),("object",.type "object"),("StopIteration",.type "StopIteration")]
structure fR(g:Gd) where
 mg:Str→Option aq
 mb:Str→Option aq
 G:l6 g mg mb
 bi : ∀x v,(x,v)∈CZ→mg x=none∧mb x=some v
 uU:ay
 yM:ay
 qe:ay
 uV:ay
 br:ma g (top 3) "bisect_right" "bisect_right" (qU g [.int 0,.none]) uU
 bl:ma g (top 5) "bisect_left" "bisect_left" (qU g [.int 0,.none]) yM
 ir:ma g (top 2) "insort_right" "insort_right" (qU g [.int 0,.none]) qe
 il:ma g (top 4) "insort_left" "insort_left" (qU g [.int 0,.none]) uV
 BN:mg "bisect_right"=some (.ref uU)
 MA:mg "bisect_left"=some (.ref yM)
 Fo:mg "insort_right"=some (.ref qe)
 nil:mg "insort_left"=some (.ref uV)
theorem gQ(T:fR g){v:aq}(h:(x,v)∈CZ)(he:env.globals=cm:=by rfl)(hb:env.builtins=dU:=by rfl)
  (hk:env.scope.kind = .function:=by rfl) (hl:env.kindOf x=some .globalImplicit:=by rfl) (hd:(x==("__debug__":Str))=false:=by decide):PE g A L env (.Name x pos) (.val v) :=
 G6 T.G (T.bi x v h).1 (T.bi x v h).2 he hb hk hl hd rfl
variable {D:aq→Prop}
theorem ma.kept{f:ay}(h:ma g st name qual D f):jI g A L (.ref f):=by
 refine nu h λo dV kV doc pm cq ct ho fX hd eb _=>?_;exact pN (.top ho fX) hd
theorem Os(T:fR g){n:Nat}(hA:bZ (n+1) A){bF:ae}{key:aq}{dom:Int→Prop}{ρ:Int→Int}{KV:ae→aq→Int→Prop}(fV:jd n g bF key dom ρ KV)(k6:key ≠ .none)(eV:cu bF L)
  {al:ay} {is:List Int} (pf:(al,ai is)∈L) (kx : ∀i∈is,dom i) {Kx:ae} {rx:Int} (qc:cu Kx L) {xa:AV} (qd : ∀v,AV.Is v xa→KV Kx v rx)
  {r:Int} (me:0≤r) (mf:r≤is.length) (hz:is.length≤100000)
  (kC : ∀i:Nat,(i:Int)<r→∀e,is[i]?=some e→ρ e<rx) (mR : ∀i:Nat,r≤i→∀e,is[i]?=some e→¬ρ e<rx) :
  GC g A L (.ref T.yM) [.ref al,xa,.int 0,.none] ["key"] [.val key] (.int r) L:=by
 refine BL (hl:=by rfl) (hc:=by rfl) (hg:=by rfl) (hk:=by rfl) (hn:=by rfl) T.bl hA (λB TT F kV doc pm cq ct Q hA hQ=>?_) λ_ _ _ _ _ _ _ _ _ _ _ _ _ _=>⟨_,rfl,rfl⟩;refine iC (c:=decide ((0:Int)<0)) (decide_eq_false (Mk)) (eP (by k_all) (by k_all) qN) ?_;refine AD (c:=true) rfl (eP (by k_all) (by k_all) pI) ?_;refine vS (a:=.int is.length) (mJ (gQ T (by k_mem)) (b9 (by k_all) dh) jU (gp λ_ x=>by cases x) (by
  have:=AE (g:=g) (A:=B) (L:=(F,am [("a",AV.ref al),("x",xa),("lo",.int 0),("hi",.none),("key",.val key)])::L) (aQ _ pf) (by simp;exact Ml hz)
  rw [ar] at this;exact this)) (b7 (by k_upd)) ?_
 refine iC (c:=key == .none) (beq_eq_false_iff_ne.mpr k6) (eP (by k_all) (by k_all) pI) ?_;refine dS (L:=(F,am [("a",.ref al),("x",xa),("lo",.int 0),("hi",.int is.length),("key",.val key)])::L) ?_ (aj.ns (by k_upd) aj.refl);refine Dt (α:={ p:Int×Int//0≤p.1∧p.1≤r∧r≤p.2∧p.2≤is.length }) (λp=>(F,am [("a",.ref al),("x",xa),("lo",.int p.1.1),("hi",.int p.1.2),("key",.val key)])::L) (λp=>(p.1.2-p.1.1).toNat) ⟨(0,is.length),c9 _,me,mf,c9 _⟩ ?_;intro bz;obtain ⟨eM,fY,sb,sd,pg⟩:=bz;obtain ⟨l,h⟩:=eM;dsimp only at fY sb sd pg;refine ⟨decide (l<h),eP (by k_all) (by k_all) qN,λaY=>lp λQ1 jj=>?_,λgs=>?_⟩
 ·have aY:=of_decide_eq_true aY;refine b8 (HL (lo:=l) (hi:=h) (BF fY) aY) λnH oE=>?_;refine iz (a:=.int ((l+h).fdiv 2)) (jX (by k_all) (by k_all) (DN (by decide) (qy (by decide +kernel)))) (b7 (by k_upd)) ?_;generalize (l+h).fdiv 2=mid at nH oE;have EV:mid.toNat<is.length:=A8 (.i (.L .Z .A) (.i (.L .B (.k .A)) (.i (.T .A .B) (.i (.T .C .B) (.t (.t .C) .A))))) rfl fY pg aY oE;obtain ⟨e,he⟩ : ∃e,is[mid.toNat]?=some e:=⟨is[mid.toNat],au EV⟩;have hmem:e∈is:=bx he;refine mL (c:=decide (ρ e<rx)) (SD (hE:=by rfl) (he:=by rfl) (hm:=by kst_p) hA fV eV.cons qc.cons (λK=>bU (m:=[("mid",.int mid),("a",.ref al),("x",xa),("lo",.int l),("hi",.int h),("key",.val key)]) (List.mem_append.mpr (.inr (aC _))) rfl) qd (by k_all) (fM (by k_all) (by k_all) (aQ _ pf) (by exact Ff fY nH) (by exact ft (.i (.l .A (.c 100000)) (.i (.L .A (.k .A)) (.i (.T .B .A) (.T .B (.c 9223372036854775808))))) rfl hz pg oE) (by rw [aA,he];rfl)) (kx e hmem)) (λhc=>?_) λhc=>?_
  ·have hc:=of_decide_eq_true hc;refine iz (by k_all) (b7 (by k_upd)) (eJ λs S=>?_);have hle:mid<r:=by
    apply Int.not_le.mp;intro hq;exact mR mid.toNat (Mi hq) e he hc
   exact jj _ _ ⟨⟨(mid+1,h),g7 fY (g7 nH (pG (Qcb _))),hle,sd,pg⟩,by show (h-(mid+1)).toNat<(h-l).toNat;exact dq (.i (.T .A .B) (.i (.L .A .C) (.t (.t (.s .B (.a .C .O))) (.t (.s .B .A))))) rfl aY nH,S.cX (aj.ns (by k_upd) aj.refl)⟩
  ·have hc:=Qcu hc;refine iz (by k_all) (b7 (by k_upd)) (eJ λs S=>?_);have hle:r≤mid:=by
    apply Int.not_lt.mp;intro hq;exact hc (kC mid.toNat (dq (.i (.L .Z .A) (.i (.L .A .B) (.i (.T .B .C) (.T (.k (.t .B)) .C)))) rfl fY nH hq) e he)
   exact jj _ _ ⟨⟨(l,mid),WU (.i (.L .Z .A) (.i (.L .A .B) (.i (.L .C (.k .A)) (.i (.T .D .C) (.i (.L .B .D) (.a (.L .Z .A) (.a (.L .A .B) (.a (.L .B .D) (.L .D (.k .A)))))))))) rfl fY sb pg oE hle⟩,by show (mid-l).toNat<(h-l).toNat;exact dq (.i (.L .A .B) (.i (.T .B .C) (.t (.t (.s .B .A)) (.t (.s .C .A))))) rfl nH oE,S.cX (aj.ns (by k_upd) aj.refl)⟩
 ·have gs:=Qcu gs;exact pM (a:=.int l) (by k_all) λv s hv S=>hQ _ s ((show l=r from Mj sb sd gs)▸hv) S.ig
theorem Og(T:fR g){n:Nat}(hA:bZ (n+1) A){bF:ae}{key:aq}{dom:Int→Prop}{ρ:Int→Int}{KV:ae→aq→Int→Prop}(fV:jd n g bF key dom ρ KV)(k6:key ≠ .none)(eV:cu bF L)
  {al:ay} {is:List Int} (pf:(al,ai is)∈L) (kx : ∀i∈is,dom i) {Kx:ae} {rx:Int} (qc:cu Kx L) {xa:AV} (qd : ∀v,AV.Is v xa→KV Kx v rx)
  {r:Int} (me:0≤r) (mf:r≤is.length) (hz:is.length≤100000)
  (kC : ∀i:Nat,(i:Int)<r→∀e,is[i]?=some e→¬rx<ρ e) (mR : ∀i:Nat,r≤i→∀e,is[i]?=some e→rx<ρ e) :
  GC g A L (.ref T.uU) [.ref al,xa,.int 0,.none] ["key"] [.val key] (.int r) L:=by
 refine BL (hl:=by rfl) (hc:=by rfl) (hg:=by rfl) (hk:=by rfl) (hn:=by rfl) T.br hA (λB TT F kV doc pm cq ct Q hA hQ=>?_) Mz;refine iC (c:=decide ((0:Int)<0)) (decide_eq_false (Mk)) (eP (by k_all) (by k_all) qN) ?_;refine AD (c:=true) rfl (eP (by k_all) (by k_all) pI) ?_;refine vS (a:=.int is.length) (mJ (gQ T (by k_mem)) (b9 (by k_all) dh) jU (gp λ_ x=>by cases x) (by
  have:=AE (g:=g) (A:=B) (L:=(F,am [("a",AV.ref al),("x",xa),("lo",.int 0),("hi",.none),("key",.val key)])::L) (aQ _ pf) (by simp;exact Ml hz)
  rw [ar] at this;exact this)) (b7 (by k_upd)) ?_
 refine iC (c:=key == .none) (beq_eq_false_iff_ne.mpr k6) (eP (by k_all) (by k_all) pI) ?_;refine dS (L:=(F,am [("a",.ref al),("x",xa),("lo",.int 0),("hi",.int is.length),("key",.val key)])::L) ?_ (aj.ns (by k_upd) aj.refl);exact It hA fV eV pf kx qc qd (c9 _) me mf (c9 _) hz (λi _=>kC i) (λi h _=>mR i h) λv s a b=>hQ _ s a b
theorem jd.up(h:jd n g bF key dom ρ KV):jd (n+1) g bF key dom ρ KV :=
 ⟨λA M hA=>h.kept A M (hA.le (sr _)),λA M hA=>h.call A M (hA.le (sr _)),λA M hA=>h.lt A M (hA.le (sr _))⟩
variable {r x:Int}
theorem C7(hA:bZ n A)(fV:jd n g bF key dom ρ KV)(eV:cu bF L)
  {nf na nk nx nl nh yN:Str} {q1 q2 q3 q4 q5 q6 q7:Pos}   {f:aq}  {aa la ha:AV} (hf:PE g A L env (.Name nf q1) (.val f)) (kp : ∀K,jI g A (K++L) f) (hx:PE g A L env (.Name nx q4) (.int x)) (hd:dom x) (hk:PE g A L env (.Name nk q3) (.val key))
  (h1:PE g A L env (.Name na q2) aa) (h3 : ∀K,PE g A (K++L) env (.Name nl q5) la) (h4 : ∀K,PE g A (K++L) env (.Name nh q6) ha) (h5 : ∀K,PE g A (K++L) env (.Name yN q7) (.val key))
  (hc : ∀Kx kv,KV Kx kv (ρ x)→GC g A (Kx++L) f [aa,.val kv,la,ha] [kn] [.val key] (.int r) (Kx++L))
  (hE:eval (.Call (.Name nf q1) [(.Name na q2),.Call (.Name nk q3) [(.Name nx q4)] [] p1,(.Name nl q5),(.Name nh q6)] [⟨some kn,(.Name yN q7),p2⟩] pos) env=(do fJ pos (← eval (.Name nf q1) env) [] (b6 pos (aE [(.Name na q2),.Call (.Name nk q3) [(.Name nx q4)] [] p1,(.Name nl q5),(.Name nh q6)] env)) (bj pos (aO [⟨some kn,(.Name yN q7),p2⟩] env))))
  (BO:eval (.Call (.Name nk q3) [(.Name nx q4)] [] p1) env=(do fJ p1 (← eval (.Name nk q3) env) [] (b6 p1 (aE [(.Name nx q4)] env)) (bj p1 (aO [] env)))) (yO:aE [(.Name nx q4)] env=(false,eval (.Name nx q4) env)::aE [] env)
  (he:aE [(.Name na q2),.Call (.Name nk q3) [(.Name nx q4)] [] p1,(.Name nl q5),(.Name nh q6)] env=[(false,eval (.Name na q2) env),(false,eval (.Call (.Name nk q3) [(.Name nx q4)] [] p1) env),(false,eval (.Name nl q5) env),(false,eval (.Name nh q6) env)]) :
  GE g A L (eval (.Call (.Name nf q1) [(.Name na q2),.Call (.Name nk q3) [(.Name nx q4)] [] p1,(.Name nl q5),(.Name nh q6)] [⟨some kn,(.Name yN q7),p2⟩] pos) env) (.int r) L:=λs Q S k=>by
 rw [hE];refine ab (PV.v hf s _ _ S λaW aN=>?_);have main : ∀s,St g L s→aJ (bD g.prog g.w) A (sy f true (b6 pos (aE [(.Name na q2),.Call (.Name nk q3) [(.Name nx q4)] [] p1,(.Name nl q5),(.Name nh q6)] env)) (bj pos (aO [⟨some kn,(.Name yN q7),p2⟩] env)))
   (λa s'=>∃Kx kv vs be,KV Kx kv (ρ x)∧a=⟨vs,[kn].zip be⟩∧bP vs [aa,.val kv,la,ha]∧bP be [.val key]∧St g (Kx++L) s') cU s:=by
  intro s S;refine Qau rfl ?_ rfl;rw [he];refine jQ (h1 s _ _ S λw1 s1 Fp S1=>?_);refine jQ ?_;rw [BO];refine ab (PV.v hk s1 _ _ S1 λs2 S2=>?_);refine qE (L:=L) (fV.kept A L hA eV) (vD (b9 hx dh yO) jU rfl yO S2 λvs be cC bk eF cJ=>⟨cJ,λgx eK=>?_⟩);refine ap bk.one λw af hw=>?_;subst af;cases eF.zero;refine fV.call A L hA eV w x hd hw gx _ _ eK λkv Kx kX kB ij=>?_;refine jQ (h3 Kx kX _ _ ij λw3 s6 Zd S6=>?_);refine jQ (h4 Kx s6 _ _ S6 λw4 s7 Ze S7=>?_);refine xc ?_;refine Qbr (h5 Kx s7 _ _ S7 λw5 s8 Zf S8=>?_);exact ah ⟨Kx,kv,_,_,kB,rfl,.cons Fp (.cons rfl (.cons Zd (.cons Ze .nil))),.cons Zf .nil,S8⟩
 refine C6 (cw (main aW aN) (λa bu XE=>?_) λ_ _ x=>x);refine qT XE λKx kv vs be kB af bk eF aS=>?_;subst af;exact ⟨Kx++L,kp Kx,aS,λcC cJ=>hc Kx kv kB vs be bk eF cC _ cJ λv s' hv S'=>k v s' hv S'.Ei⟩
theorem Ok(T:fR g)(hA:bZ (n+2) A)(sU:jd n g bF key dom ρ KV)(k6:key ≠ .none)(eV:cu bF L)
      (U:aw al (ai is) (ai (is.take r.toNat++x::is.drop r.toNat)) L L') (kx : ∀i∈is,dom i) (hx:dom x)
  (h0:0≤lo) (me:lo≤r) (mf:r≤hi) (uT:hi≤is.length) (hz:is.length≤100000)
  (kC : ∀i:Nat,lo≤i→(i:Int)<r→∀e,is[i]?=some e→¬ρ x<ρ e) (mR : ∀i:Nat,r≤i→(i:Int)<hi→∀e,is[i]?=some e→ρ x<ρ e) :
  GC g A L (.ref T.qe) [.ref al,.int x,.int lo,.int hi] ["key"] [.val key] .none L':=by
 refine BL (hl:=by rfl) (hc:=by rfl) (hg:=by rfl) (hk:=by rfl) (hn:=by rfl) T.ir hA (λB TT F kV doc pm cq ct Q hA hQ=>?_) λ_ _ _ _ _ _ _ _ _ _ _ _ _ _=>⟨_,rfl,rfl⟩;refine iC (c:=key == .none) (beq_eq_false_iff_ne.mpr k6) (eP (by k_all) (by k_all) pI) ?_;have ku : ∀(K:ae) (y:Str) (q:Pos) (a:AV),rt y [("a",AV.ref al),("x",.int x),("lo",.int lo),("hi",.int hi),("key",.val key)]=some a →
   (bE 2 "insort_right" TT kV doc pm cq ct T.qe F).kindOf y=some .local→(y==("__debug__":Str))=false →
   PE g B (K++(F,am [("a",AV.ref al),("x",.int x),("lo",.int lo),("hi",.int hi),("key",.val key)])::L) (bE 2 "insort_right" TT kV doc pm cq ct T.qe F) (.Name y q) a :=
  λK y q a hl hk hd=>bU (List.mem_append.mpr (.inr (aC _))) hl rfl hk hd
 refine vS (a:=.int r) (C7 (hE:=by rfl) (BO:=by rfl) (yO:=by rfl) (he:=by rfl) hA sU.up eV.cons (f:=.ref T.uU) (x:=x) (r:=r) (aa:=.ref al) (la:=.int lo) (ha:=.int hi) (kJ T.G T.BN (ha:=rfl)) (λK=>T.br.kept) (by k_all) hx (by k_all) (by k_all)
  (λK=>ku K _ _ _ rfl rfl rfl) (λK=>ku K _ _ _ rfl rfl rfl) (λK=>ku K _ _ _ rfl rfl rfl) λKx kv kB=>?_) (b7 (by k_upd)) ?_
 ·exact GJ T.br hA sU k6 (eV.cons.cE) (List.mem_append.mpr (.inr (aQ _ U.mem))) kx (Kx:=Kx) cu.left (λv hv=>by cases AV.cW hv;exact kB) h0 me mf uT hz kC mR
 refine qI (L':=(F,am [("lo",AV.int r),("a",AV.ref al),("x",.int x),("lo",.int lo),("hi",.int hi),("key",.val key)])::L') (a:=.none) (sI (hbase:=by rfl) (hfew:=by rfl) (hline:=by rfl) (he:=by rfl) (l:=al) (by k_all) (aQ _ U.mem) lS qw (b9 (a:=.int r) (by k_all) (b9 (a:=.int x) (by k_all) dh)) (Du (xs:=is.map .int) ?_ (Ff h0 me) (by simp;exact ft (.i (.L .A .B) (.i (.L .B (.k .A)) (.L .A (.k .A)))) rfl mf uT) (by simp;exact Fg hz))) ?_
 ·refine aw.tail ?_;rw [← n7,← n8,← aB (f:=AV.int),← aV];exact U
 exact eJ λs S=>hQ _ s rfl S.ig
theorem Oh(T:fR g)(hA:bZ (n+2) A)(sU:jd n g bF key dom ρ KV)(k6:key ≠ .none)(eV:cu bF L)
      (U:aw al (ai is) (ai (is.take r.toNat++x::is.drop r.toNat)) L L') (kx : ∀i∈is,dom i) (hx:dom x)
  (me:0≤r) (mf:r≤is.length) (hz:is.length≤100000)
  (kC : ∀i:Nat,(i:Int)<r→∀e,is[i]?=some e→¬ρ x<ρ e) (mR : ∀i:Nat,r≤i→∀e,is[i]?=some e→ρ x<ρ e) :
  GC g A L (.ref T.qe) [.ref al,.int x] ["key"] [.val key] .none L':=by
 refine My (hl:=by rfl) (hc:=by rfl) (hg:=by rfl) (hk:=by rfl) (hn:=by rfl) T.ir hA (λB TT F kV doc pm cq ct Q hA hQ=>?_) λ_ _ _ _ _ _ _ _ _ _ _ _ _ _=>⟨_,rfl,rfl⟩;refine iC (c:=key == .none) (beq_eq_false_iff_ne.mpr k6) (eP (by k_all) (by k_all) pI) ?_;have ku : ∀(K:ae) (y:Str) (q:Pos) (a:AV),rt y [("a",AV.ref al),("x",.int x),("lo",.int 0),("hi",.none),("key",.val key)]=some a →
   (bE 2 "insort_right" TT kV doc pm cq ct T.qe F).kindOf y=some .local→(y==("__debug__":Str))=false →
   PE g B (K++(F,am [("a",AV.ref al),("x",.int x),("lo",.int 0),("hi",.none),("key",.val key)])::L) (bE 2 "insort_right" TT kV doc pm cq ct T.qe F) (.Name y q) a :=
  λK y q a hl hk hd=>bU (List.mem_append.mpr (.inr (aC _))) hl rfl hk hd
 refine vS (a:=.int r) (C7 (hE:=by rfl) (BO:=by rfl) (yO:=by rfl) (he:=by rfl) hA sU.up eV.cons (f:=.ref T.uU) (x:=x) (r:=r) (aa:=.ref al) (la:=.int 0) (ha:=.none) (kJ T.G T.BN (ha:=rfl)) (λK=>T.br.kept) (by k_all) hx (by k_all) (by k_all)
  (λK=>ku K _ _ _ rfl rfl rfl) (λK=>ku K _ _ _ rfl rfl rfl) (λK=>ku K _ _ _ rfl rfl rfl) λKx kv kB=>?_) (b7 (by k_upd)) ?_
 ·exact Og T hA sU k6 (eV.cons.cE) (List.mem_append.mpr (.inr (aQ _ U.mem))) kx (Kx:=Kx) cu.left (λv hv=>by cases AV.cW hv;exact kB) me mf hz kC mR
 refine qI (L':=(F,am [("lo",AV.int r),("a",AV.ref al),("x",.int x),("lo",.int 0),("hi",.none),("key",.val key)])::L') (a:=.none) (sI (hbase:=by rfl) (hfew:=by rfl) (hline:=by rfl) (he:=by rfl) (l:=al) (by k_all) (aQ _ U.mem) lS qw (b9 (a:=.int r) (by k_all) (b9 (a:=.int x) (by k_all) dh)) (Du (xs:=is.map .int) ?_ (BF me) (by simp;exact Mm mf) (by simp;exact Fg hz))) ?_
 ·refine aw.tail ?_;rw [← n7,← n8,← aB (f:=AV.int),← aV];exact U
 exact eJ λs S=>hQ _ s rfl S.ig
theorem Ol(T:fR g){n:Nat}(hA:bZ (n+2) A){bF:ae}{key:aq}{dom:Int→Prop}{ρ:Int→Int}{KV:ae→aq→Int→Prop}(sU:jd n g bF key dom ρ KV)(k6:key ≠ .none)(eV:cu bF L)
  {al:ay} {is:List Int} {x:Int} {r:Int} (U:aw al (ai is) (ai (is.take r.toNat++x::is.drop r.toNat)) L L') (kx : ∀i∈is,dom i) (hx:dom x)
  (me:0≤r) (mf:r≤is.length) (hz:is.length≤100000)
  (kC : ∀i:Nat,(i:Int)<r→∀e,is[i]?=some e→ρ e<ρ x) (mR : ∀i:Nat,r≤i→∀e,is[i]?=some e→¬ρ e<ρ x) :
  GC g A L (.ref T.uV) [.ref al,.int x] ["key"] [.val key] .none L':=by
 refine My (hl:=by rfl) (hc:=by rfl) (hg:=by rfl) (hk:=by rfl) (hn:=by rfl) T.il hA (λB TT F kV doc pm cq ct Q hA hQ=>?_) λ_ _ _ _ _ _ _ _ _ _ _ _ _ _=>⟨_,rfl,rfl⟩;refine iC (c:=key == .none) (beq_eq_false_iff_ne.mpr k6) (eP (by k_all) (by k_all) pI) ?_;have ku : ∀(K:ae) (y:Str) (q:Pos) (a:AV),rt y [("a",AV.ref al),("x",.int x),("lo",.int 0),("hi",.none),("key",.val key)]=some a →
   (bE 4 "insort_left" TT kV doc pm cq ct T.uV F).kindOf y=some .local→(y==("__debug__":Str))=false →
   PE g B (K++(F,am [("a",AV.ref al),("x",.int x),("lo",.int 0),("hi",.none),("key",.val key)])::L) (bE 4 "insort_left" TT kV doc pm cq ct T.uV F) (.Name y q) a :=
  λK y q a hl hk hd=>bU (List.mem_append.mpr (.inr (aC _))) hl rfl hk hd
 refine vS (a:=.int r) (C7 (hE:=by rfl) (BO:=by rfl) (yO:=by rfl) (he:=by rfl) hA sU.up eV.cons (f:=.ref T.yM) (x:=x) (r:=r) (aa:=.ref al) (la:=.int 0) (ha:=.none) (kJ T.G T.MA (ha:=rfl)) (λK=>T.bl.kept) (by k_all) hx (by k_all) (by k_all)
  (λK=>ku K _ _ _ rfl rfl rfl) (λK=>ku K _ _ _ rfl rfl rfl) (λK=>ku K _ _ _ rfl rfl rfl) λKx kv kB=>?_) (b7 (by k_upd)) ?_
 ·exact Os T hA sU k6 (eV.cons.cE) (List.mem_append.mpr (.inr (aQ _ U.mem))) kx (Kx:=Kx) cu.left (λv hv=>by cases AV.cW hv;exact kB) me mf hz kC mR
 refine qI (L':=(F,am [("lo",AV.int r),("a",AV.ref al),("x",.int x),("lo",.int 0),("hi",.none),("key",.val key)])::L') (a:=.none) (sI (hbase:=by rfl) (hfew:=by rfl) (hline:=by rfl) (he:=by rfl) (l:=al) (by k_all) (aQ _ U.mem) lS qw (b9 (a:=.int r) (by k_all) (b9 (a:=.int x) (by k_all) dh)) (Du (xs:=is.map .int) ?_ (BF me) (by simp;exact Mm mf) (by simp;exact Fg hz))) ?_
 ·refine aw.tail ?_;rw [← n7,← n8,← aB (f:=AV.int),← aV];exact U
 exact eJ λs S=>hQ _ s rfl S.ig
theorem I3{f:ay}{o:Obj}{fd:xb}{body:Expr}{vs:List aq}{kw:List (Str×aq)}{binds:List (Str×aq)}{m:List (Str×AV)}{a:AV}(hf:At g L f o)(hd:o.data = .func fd)(rD:fd.body = .expr body)(eb:qL g L fd.code fd.qualname)
  (oj:A.depth<iX) (rE : ∀s,St g L s→QbJ s fd ⟨vs,kw⟩ binds) (hb:BA binds m) (d9:ut (m.map (·.1))=true) (ku:uu fd.scope (m.map (·.1))=true)
  (h : ∀F,GE g (A.deeper (jw fd f F)) ((F,am m)::L) (eval body (jw fd f F)) a L₁)
  (hco:fd.scope.isCoroutine=false:=by rfl) (hgen:fd.scope.isGenerator=false:=by rfl) (hk:fd.scope.kind = .function:=by rfl) (hcell:lq fd.scope=true:=by rfl) :
  GE g A L (call (.ref f) vs kw) a L₁:=λs Q S k=>by
 refine jP (kla_callFunE oj (hf s S) hd hco hgen rD (eb s S) ?_);refine rE s S _ _ _ _ ?_;have uy : ∀x∈binds,fd.scope.names.lookup x.1=some .local:=by
  intro x hx
  have:x.1∈m.map (·.1):=hb.names▸List.mem_map.mpr ⟨x,hx,rfl⟩
  exact z' ku _ this
 refine jB (vE hcell) uy (λdB gW mQ=>⟨S.lim.fresh _ mQ,?_⟩) hk;refine kla_codeExpr (ja (h s.heap.objs.size _ _ (Al S gW mQ hb (z9 d9) _) λv s' hv S'=>k v s' hv S'))
structure abV(g:Gd)(L:ae)(f c:ay)(fn:Str)(ls:ay)(is:List Int):Prop where
 fn : ∃o q ps body scope cl pm cq ct vn vp p1 p2 p3 more,At g L f o∧o.data = .func (kla_fn "<lambda>" q ps body scope cl pm cq ct)∧qL g L cq q ∧
  ps={ posonlyargs:=[],args:=[⟨vn,none,vp⟩],vararg:=none,kwonlyargs:=[],kw_defaults:=[],kwarg:=none,defaults:=[] } ∧
  body = .Subscript (.Name fn p1) (.Name vn p2) p3∧scope={ kind:=.function,names:=[(vn,.local),(fn,.free)],isGenerator:=false,isCoroutine:=false,more:=more }∧cl=[(fn,c)]∧vn = "v"∧fn = "firsts"
 cell:(c,az (some (.ref ls)))∈L
 list:(ls,ai is)∈L
end
section
variable {g:Gd}{A:bg}{L L' L₁ L₂ bH:ae}{env:Env}
def GX{α:Type}(g:Gd)(A:bg)(L:ae)(t:Sem α)(K:α→ae→Prop):Prop:=∀s Q,St g L s→(∀v L' s',K v L'→St g L' s'→Q v s')→aJ (bD g.prog g.w) A t Q cU s
theorem GX.mono{t:Sem α}{K K':α→ae→Prop}(h:GX g A L t K)(w : ∀v L',K v L'→K' v L'):GX g A L t K':=λs Q S k=>h s Q S λv L' s' hv S'=>k v L' s' (w _ _ hv) S'
variable {R:α→Prop}
theorem GX.U8{t:Sem α}(h:fz g A L t R):GX g A L t λv L'=>R v∧L'=L:=λs Q S k=>h s Q cU S λv s' r S'=>k v L s' ⟨r,rfl⟩ S'
theorem GX.jL(h:GE g A L t a L'):GX g A L t λv bX=>AV.Is v a∧bX=L':=λs Q S k=>h s Q S λv s' r S'=>k v L' s' ⟨r,rfl⟩ S'
theorem GX.se(h:NE g A L t P):GX g A L t λv bX=>∃a,v = .ref a∧bX=(a,P)::L:=λs Q S k=>h s Q S λa s' S'=>k _ _ s' ⟨a,rfl,rfl⟩ S'
structure qg(g:Gd)(A:bg)(it:ay)(xs:List AV)(P:Nat→Obj→Prop)(H:ae→Prop):Prop where
 next : ∀k a,xs[k]?=some a→∀L,H L→GX g A ((it,P k)::L) (pyNext (.ref it)) λr L'=>(∃v,r=some v∧AV.Is v a)∧L'=(it,P (k+1))::L
 stop : ∀L,H L→GX g A ((it,P xs.length)::L) (pyNext (.ref it)) λr L'=>r=none∧L'=L
 self : ∀k L,H L→fz g A ((it,P k)::L) (Qaq (.ref it)) (· = .ref it)
 own : ∀k L target v,fz g A ((it,P k)::L) (qu target (.ref it) v) λ_=>True
def PI(g:Gd)(A:bg)(L:ae)(v:aq)(xs:List AV)(P:Nat→Obj→Prop)(H:ae→Prop):Prop :=
 (∀it,qg g A it xs P H)∧GX g A L (Qaq v) λr L'=>∃it,r = .ref it∧L'=(it,P 0)::L
variable {T:String}
theorem xJ(hP : ∀o,P o→o.cls = .type T)(hT:["enumerate","zip","dict_itemiterator","dict_reverseitemiterator","odict_iterator","itertools.zip_longest","itertools.pairwise"].contains T=false)(L:ae)(target:Expr)(v:aq):
  fz g A ((it,P)::L) (qu target (.ref it) v) λ_=>True:=by
 have main : ∀a b,fz g A ((it,P)::L) (qu (.List a b) (.ref it) v) λ_=>True:=by
  intro _ _ s Q E S k;unfold qu;cases v with
  | ref a =>
   refine ap (S.get (aC _)) λo h1 h2=>?_;have hc:=hP o h2;refine ab (eU h1 ?_);rw [hc];split
   ·rename_i e1 e2;cases e1;rw [hT];exact ah (k _ _ trivial S)
   ·exact ah (k _ _ trivial S)
  | _=>exact ah (k _ _ trivial S)
 cases target<;>first
  | exact main [] default
  | exact λs Q E S k=>ah (k _ _ trivial S)
def pQ(l:ay)(k:Nat)(o:Obj):Prop:=o.cls = .type "list_iterator"∧o.data = .fields #[.ref l,.int k 0]
variable {l:ay}
theorem Rb(hh:A.handled=none)(it:ay):qg g A it xs (λk=>pQ l k) λL=>(l,aM xs)∈L where
 next:=λk a ha L hl s Q S kk=>by
  refine du (S.get (aC _)) λo h1 h2 h3=>?_;refine cp (eI S (aQ _ hl)) λvs n h4 h5=>?_;refine ap (h5.get ha) λv h6 h7=>?_;refine wpAny_pyNext_list_item ⟨o,h1,h2,h3⟩ (gN h4) (x:=v) (by simpa using h6) λh' df io=>?_;refine du df λo' uW ph nI=>?_;exact kk _ _ _ ⟨⟨v,rfl,h7⟩,rfl⟩ (S.gG aw.head io uW ⟨ph,nI⟩)
 stop:=λL hl s Q S kk=>by
  refine du (S.get (aC _)) λo h1 h2 h3=>?_;refine cp (eI S (aQ _ hl)) λvs n h4 h5=>?_;refine wpAny_pyNext_list_end hh ⟨o,h1,h2,h3⟩ (gN h4) (by simp [h5.length▸aG (xs:=vs)]) λh' hx=>?_;exact kk _ _ _ ⟨rfl,rfl⟩ (S.ext hx)
 self:=λk L _ s Q E S kk=>by
  refine du (S.get (aC _)) λo h1 h2 h3=>?_;exact wpAny_pyIter_listiter ⟨o,h1,h2,h3⟩ (kk _ _ rfl S)
 own:=λk L t v=>xJ (T:="list_iterator") (λo h=>h.1) (by decide) L t v
theorem Iu(hh:A.handled=none){l:ay}{xs:List AV}(hl:(l,aM xs)∈L):PI g A L (.ref l) xs (λk=>pQ l k) λL=>(l,aM xs)∈L :=
 ⟨Rb hh,λs Q S k=>by
  refine cp (eI S hl) λvs n h4 h5=>?_;exact QbA (gN h4) (k _ _ _ ⟨_,rfl,rfl⟩ (S.push ⟨rfl,rfl⟩))⟩
theorem pR(S:St g L s)(hF:(c,cg xs)∈L): ∃vs n,s.heap.get? c=some { cls:=.type "tuple",data:=.seq vs n }∧bP vs.toList xs:=by
 refine ap (S.get hF) λo ho U9=>?_;refine cp U9 λvs n af hv=>?_;subst af;exact ⟨vs,n,ho,hv⟩
theorem ue{s:aU}{c:ay}{vs:Array aq}{n:Nat}(h:s.heap.get? c=some { cls:=.type "tuple",data:=.seq vs n }):s.heap.IsTuple c vs:=⟨_,h,rfl,n,rfl⟩
def I4(l:ay)(k:Nat)(o:Obj):Prop:=o.cls = .type "tuple_iterator"∧o.data = .fields #[.ref l,.int k 0]
theorem SF(hh:A.handled=none){l:ay}{xs:List AV}(it:ay):qg g A it xs (λk=>I4 l k) λL=>(l,cg xs)∈L where
 next:=λk a ha L hl s Q S kk=>by
  refine du (S.get (aC _)) λo h1 h2 h3=>?_;refine cp (pR S (aQ _ hl)) λvs n h4 h5=>?_;refine ap (h5.get ha) λv h6 h7=>?_;refine wpAny_pyNext_tuple_item ⟨o,h1,h2,h3⟩ (ue h4) (x:=v) (by simpa using h6) λh' df io=>?_;refine du df λo' uW ph nI=>?_;exact kk _ _ _ ⟨⟨v,rfl,h7⟩,rfl⟩ (S.gG aw.head io uW ⟨ph,nI⟩)
 stop:=λL hl s Q S kk=>by
  refine du (S.get (aC _)) λo h1 h2 h3=>?_;refine cp (pR S (aQ _ hl)) λvs n h4 h5=>?_;refine wpAny_pyNext_tuple_end hh ⟨o,h1,h2,h3⟩ (ue h4) (by simp [h5.length▸aG (xs:=vs)]) λh' hx=>?_;exact kk _ _ _ ⟨rfl,rfl⟩ (S.ext hx)
 self:=λk L _ s Q E S kk=>by
  refine du (S.get (aC _)) λo h1 h2 h3=>?_;exact wpAny_pyIter_tupleiter ⟨o,h1,h2,h3⟩ (kk _ _ rfl S)
 own:=λk L t v=>xJ (T:="tuple_iterator") (λo h=>h.1) (by decide) L t v
theorem D5(hh:A.handled=none)(hl:(l,cg xs)∈L):PI g A L (.ref l) xs (λk=>I4 l k) λL=>(l,cg xs)∈L :=
 ⟨SF hh,λs Q S k=>by
  refine cp (pR S hl) λvs n h4 h5=>?_;exact wpAny_pyIter_tuple (ue h4) (k _ _ _ ⟨_,rfl,rfl⟩ (S.push ⟨rfl,rfl⟩))⟩
noncomputable def jb(lo:Int)(n:Nat):List Int:=(aF n).map λi=>lo+(i:Nat)
def uv(a b:Int)(o:Obj):Prop:=∃t u v,o={ cls:=.type "range",data:=.fields #[.int a t,.int b u,.int 1 v] }
def xK(lo:Int)(n:Nat)(k:Nat)(o:Obj):Prop:=o={ cls:=.type "range_iterator",data:=.fields #[gj (lo+k),gj ((n:Int)-k),gj 1] }
theorem G7{k:Nat}(h:((jb lo n).map AV.int)[k]?=some a):k<n∧a = .int (lo+k):=by
 unfold jb at h;rw [aA,aA] at h;by_cases hk:k<n
 ·rw [dI hk] at h;exact ⟨hk,by cases h;rfl⟩
 ·rw [dm (by simpa using hk)] at h;cases h
theorem pH(lo:Int)(n:Nat):((jb lo n).map AV.int).length=n:=by simp [jb]
theorem Qd(hh:A.handled=none)(lo:Int)(n:Nat)(it:ay):qg g A it ((jb lo n).map .int) (xK lo n) λ_=>True where
 next:=λk a ha L _ s Q S kk=>by
  refine b8 (G7 ha) λhk af=>?_;subst af;refine ap (S.get (aC _)) λo h1 h2=>?_;cases h2;refine wpAny_pyNext_range_item h1 (bK (.i (.t .A .B) (.T .Z (.s (.k .B) (.k .A)))) rfl hk) λh' df io=>?_;refine kk _ _ _ ⟨⟨_,rfl,_,rfl⟩,rfl⟩ (St.toks (s:={ s with heap:=h' }) (S.gG aw.head io df ?_) _);unfold xK;have e1:lo+(k:Int)+1=lo+((k+1:Nat):Int):=by push_cast;exact gV (.E (.a (.a .A (.k .A)) .O) (.a .A (.a (.k .A) .O))) rfl
  have e2:(n:Int)-(k:Int)-1=(n:Int)-((k+1:Nat):Int):=by push_cast;exact bK (.E (.s (.s (.k .A) (.k .B)) .O) (.s (.k .A) (.a (.k .B) .O))) rfl
  rw [e1,e2]
 stop:=λL _ s Q S kk=>by
  refine ap (S.get (aC _)) λo h1 h2=>?_;cases h2;rw [pH] at h1;exact wpAny_pyNext_range_end hh h1 (bV (.L (.s (.k .A) (.k .A)) .Z) rfl) λh' hx=>kk _ _ _ ⟨rfl,rfl⟩ (S.ext hx)
 self:=λk L _ s Q E S kk=>by
  refine ap (S.get (aC _)) λo h1 af=>?_;subst af;exact wpAny_pyIter_rangeiter h1 (kk _ _ rfl S)
 own:=λk L t v=>xJ (T:="range_iterator") (λo h=>by rw [h]) (by decide) L t v
theorem Rc(hh:A.handled=none){r:ay}(hn:hi=lo+n)(h1 : -100000≤lo)(h2:hi≤100000)(hr:(r,uv lo hi)∈L):PI g A L (.ref r) ((jb lo n).map .int) (xK lo n) λ_=>True :=
 ⟨Qd hh lo n,λs Q S k=>by
  refine ap (S.get hr) λo h3 U'=>?_;refine yj U' λt u v af=>?_;subst af;refine wpAny_pyIter_range h3 (small_one (jf (.i (.L (.g (.c 100000)) .A) (.L (.g (.c 4611686018427387904)) .A)) rfl h1) (ft (.i (.E .A (.a .B (.k .A))) (.i (.L .A (.c 100000)) (.T .B (.c 4611686018427387904)))) rfl hn h2) (ft (.i (.E .A (.a .B (.k .A))) (.i (.L (.g (.c 100000)) .B) (.L (.g (.c 4611686018427387904)) .A))) rfl hn h1) (jf (.i (.L .A (.c 100000)) (.T .A (.c 4611686018427387904))) rfl h2)) ?_;rw [rangeSize_one];refine k _ _ _ ⟨_,rfl,rfl⟩ (S.push ?_);unfold xK;have e1:lo+((0:Nat):Int)=lo:=jf (.E (.a .A (.k .Z)) .A) rfl;have e2:(n:Int)-((0:Nat):Int)=if lo<hi then hi-lo else 0:=by split<;>(first | exact ft (.i (.E .A (.a .B (.k .A))) (.E (.s (.k .A) (.k .Z)) (.s .A .B))) rfl hn | exact ft (.i (.E .A (.a .B (.k .A))) (.i (.n (.T .B .A)) (.E (.s (.k .A) (.k .Z)) .Z))) rfl hn (by assumption))
  rw [e1,e2]⟩
theorem Qe{n:Int}:NC g A L (.type "range") [.int n] [] [] (uv 0 n):=by
 intro vs be bk eF s Q S k;refine ap bk.one λ_ af Va=>?_;subst af;refine cT Va λt af=>?_;subst af;cases eF.zero;exact call_range_1 (k _ _ (St.toks (s:={ s with heap:=_ }) (S.push ⟨_,_,_,rfl⟩) _))
def l8(g:Gd)(A:bg)(env:Env)(target:Expr)(a:AV)(L L':ae):Prop:=∀v s Q,AV.Is v a→St g L s→(∀s',St g L' s'→Q () s')→aJ (bD g.prog g.w) A (kG target env v) Q cU s
theorem jF(h:jx g A env x a L L'):l8 g A env (.Name x pos) a L L':=λv s Q hv S k=>eY (h v s Q cU hv S k)
theorem xp{x y:Str}{p q pos:Pos}{n:Nat}{t:ay}{a b:AV}(hh:A.handled=none)(ht:(t,cg [a,b])∈L)(h1:jx g A env x a L L₁)(h2:jx g A env y b L₁ L₂):l8 g A env (.Tuple [.Name x p,.Name y q] n pos) (.ref t) L L₂:=by
 intro v s Q hv S k;cases AV.cW hv;refine cp (pR S ht) λvs m h3 h4=>?_;refine eQ h4.two λu w h5 hu hw=>?_;have hz:vs.size=2:=by rw [← aG,h5];rfl
 refine Qbn hh (ue h3) (by rw [hz];rfl) rfl λh' hx=>?_;have S':St g L { s with heap:=h' }:=S.keeps λc o e=>hx c o (lT (eu e)) e;rw [h5];show aJ _ _ (do holding [w] (kG (.Name x p) env u);pE [kG (.Name y q) env] [w]) _ _ _
 refine ab (aK (eY (h1 u _ _ _ hu S' λaW aN=>?_)));show aJ _ _ (do holding [] (kG (.Name y q) env w);pE [] []) _ _ _
 refine ab (aK (eY (h2 w _ _ _ hw aN λbu aS=>?_)));exact ah (k bu aS)
variable {rest:List fK}{Q:oP→aU→Prop}
end
section
variable {g:Gd}{A:bg}{L L' L₁ L₂ bH:ae}{env:Env}
noncomputable def Au(ifs:List Expr)(env:Env):Sem Bool:=forIn ifs true λc r=>if r=true then do let ok ← isTrue c env (eval c env);pure (nX ok) else pure (nX r)
noncomputable def sG(elt:Expr)(gens:List lj)(sc:Scope)(pos:Pos)(d:Nat)(acc:aq)(env:Env):Sem Unit :=
 match gens[d+1]? with
 | some g'=>eval g'.iter env>>=λx=>standAt g'.iter.pos>>=λ_=>dg g'.iter env x>>=λx=>holding [x] (Qaq x)>>=λit=>runOwn (.compStart (.ListComp elt gens sc pos) (d+1) it acc env) env>>=λ_=>pure ()
 | none=>eval elt env>>=λx=>call (.builtin "list.append") [acc,x]>>=λ_=>pure ()
theorem OY{elt:Expr}{gens:List lj}{sc:Scope}{pos:Pos}{d:Nat}{it acc:aq}{env:Env}{target iter:Expr}{ifs:List Expr}(hg:gens[d]?=some ⟨target,iter,ifs,0⟩)(uX:gens[d+1]?=none∨∃t i f,gens[d+1]?=some ⟨t,i,f,0⟩):
  compTurn (.ListComp elt gens sc pos) d it acc env=(standAt iter.pos>>=λ_=>pyNext it>>=λr=>match r with
   | none=>pure (.done .next)
   | some v=>qu target it v>>=λ_=>kG target env v>>=λ_=>Au ifs env>>=λok =>
    if ok then sG elt gens sc pos d acc env>>=λ_=>Qag (.compLoop (.ListComp elt gens sc pos) d it acc env) else Qag (.compLoop (.ListComp elt gens sc pos) d it acc env)):=by
 unfold compTurn;simp only [hg];show bR _ _=bR _ _
 congr 1;funext _;show bR _ _=bR _ _
 congr 1;funext r;cases r with
 | none=>rfl
 | some v =>
  show bR _ _=bR _ _
  congr 1;funext _;show bR _ _=bR _ _
  congr 1;funext _;show bR _ _=bR _ _
  congr 1;funext ok;cases ok with
  | false=>rfl
  | true =>
   unfold sG;rcases uX with e | ⟨t,i,f,e⟩
   ·rw [e]
   ·rw [e];simp only [if_true];have e0:((0:Int) != 0)=false:=rfl;simp only [bne_self_eq_false,bp,Qcv];show bR _ _=bR (bR _ _) _
    rw [qF];congr 1;funext x;show bR _ _=bR (bR _ _) _
    rw [qF];congr 1;funext x;show bR _ _=bR (bR _ _) _
    rw [qF];congr 1;funext x;show bR _ _=bR (bR _ _) _
    rw [qF];congr 1;funext x;show bR _ _=bR (bR _ _) _
    rw [qF];rfl
def nJ(g:Gd)(A:bg)(L:ae)(env:Env)(ifs:List Expr)(c:Bool):Prop:=fz g A L (Au ifs env) (· = c)
theorem um:nJ g A L env [] true:=fz.pure rfl
theorem xA{t:Expr}{c:Bool}(h:PT g A L env t c):nJ g A L env [t] c:=λs Q E S k=>by
 have e:Au [t] env=((do let ok ← isTrue t env (eval t env);pure (nX ok))>>=λr=>match r with | .done b=>pure b | .yield b=>pure b):=by
  unfold Au;show forIn [t] true _=_
  rw [ee];simp only [if_true];congr 1;funext r;cases r<;>rfl
 rw [e];exact ab (ab (h s _ _ S λc' s' hc S'=>ah (ah (k c' s' hc S'))))
theorem Qf{α:Type}{elt:Expr}{gens:List lj}{sc:Scope}{pos:Pos}{d:Nat}{acc:aq}{target iter:Expr}{ifs:List Expr}(hg:gens[d]?=some ⟨target,iter,ifs,0⟩)(uX:gens[d+1]?=none∨∃t i f,gens[d+1]?=some ⟨t,i,f,0⟩)
  {it:ay} {xs:List AV} {P:Nat→Obj→Prop} {H:ae→Prop} (src:qg g A it xs P H) (I:Nat→α→ae) (hH : ∀k x,H (I k x)) {R:Result→aU→Prop}
  (turn : ∀k x a,xs[k]?=some a→∃L2,l8 g A env target a ((it,P (k+1))::I k x) L2∧∃c,nJ g A L2 env ifs c∧(c=false→∀s,St g L2 s→∃y,St g ((it,P (k+1))::I (k+1) y) s) ∧
   (c=true→∀s,St g L2 s→aJ (bD g.prog g.w) A (sG elt gens sc pos d acc env) (λ_ s'=>∃y,St g ((it,P (k+1))::I (k+1) y) s') cU s))
  (done : ∀x s,St g (I xs.length x) s→R (.ok .next) s) (c0:α) {s:aU} (S:St g ((it,P 0)::I 0 c0) s):xd (bD g.prog g.w) A (.compLoop (.ListComp elt gens sc pos) d (.ref it) acc env) R s:=by
 refine codeAny_loop' rfl (λn s=>∃k x,k≤xs.length∧n=xs.length-k∧St g ((it,P k)::I k x) s) (λn s hI=>?_) xs.length ⟨0,c0,cM _,Mn,S⟩;refine eQ hI λk x hk af S=>?_;subst af;show aJ _ _ ((compTurn (.ListComp elt gens sc pos) d (.ref it) acc env).onRaise (λx=>do CJ x env;Qb7 x)) _ _ s
 refine wpAny_noted (ja ?_);rw [OY hg uX];refine ab (bT (ab ?_));by_cases aY:k<xs.length
 ·have hx:xs[k]?=some xs[k]:=au aY;refine ja (src.next k _ hx _ (hH k x) s _ S ?_);intro r;refine He λaW eM=>?_;refine ap eM λv af hv=>?_;subst af;intro aN;refine ap (turn k x _ hx) λL2 ha Vb=>?_;refine du Vb λc hc h0 h1=>?_;refine ab (src.own (k+1) _ target v aW _ _ aN λ_ bu _ aS=>?_);refine ab (ha v bu _ hv aS λcC cJ=>?_);refine ab (hc cC _ _ cJ λc' gx pd eK=>?_);subst pd;cases c' with
  | false =>
   refine cT (h0 rfl gx eK) λy Sy=>?_;exact ah (.inl ⟨rfl,xs.length-(k+1),BG aY,k+1,y,BH aY,rfl,Sy⟩)
  | true =>
   refine ab (cw (h1 rfl gx eK) (λ_ kX XF=>?_) λ_ _ q=>q);refine cT XF λy Sy=>?_;exact ah (.inl ⟨rfl,xs.length-(k+1),BG aY,k+1,y,BH aY,rfl,Sy⟩)
 ·have e:k=xs.length:=BI hk aY;subst e;refine ja (src.stop _ (hH _ x) s _ S ?_);refine vC λaW=>?_;intro aN;exact ah (done x aW aN)
variable {P:Nat→Obj→Prop}{acc:aq}{d:Nat}{sc:Scope}
theorem Ph{iter:Expr}(hg:gens[d]?=some ⟨target,iter,ifs,0⟩)
     {H:ae→Prop} (src:qg g A it xs P H) (hL:H L)   (S:St g ((it,P 0)::L) s)
  (h : ∀s,St g ((it,P 0)::L) s→xd (bD g.prog g.w) A (.compLoop (.ListComp elt gens sc pos) d (.ref it) acc env) R s) :
  xd (bD g.prog g.w) A (.compStart (.ListComp elt gens sc pos) d (.ref it) acc env) R s:=by
 refine m6 ?_;show aJ _ _ ((compStart (.ListComp elt gens sc pos) d (.ref it) acc env).onRaise (λx=>do CJ x env;standAt theWindowsPlace)) _ _ s
 refine wpAny_notedAt ?_;have e:compStart (.ListComp elt gens sc pos) d (.ref it) acc env=(ask>>=λc=>if c.params.followText "comprehension-iter-twice" then Qag (.compLoop (.ListComp elt gens sc pos) d (.ref it) acc env) else rule "comprehension.iter-twice">>=λ_=>standAt iter.pos>>=λ_=>Qaq (.ref it)>>=λi=>Qag (.compLoop (.ListComp elt gens sc pos) d i acc env)):=by
  unfold compStart;rw [show clausesOf (.ListComp elt gens sc pos)=gens from rfl,hg];rfl
 rw [e];refine ab (QbM (wpAny_ite ?_));split
 ·exact ah ⟨rfl,h s S⟩
 ·refine ab (vx (ab (bT (ab (src.self 0 L hL s _ _ S λv s' hv S'=>?_)))));subst hv;exact ah ⟨rfl,h s' S'⟩
def jv(g:Gd)(A:bg)(L:ae)(env:Env)(iter:Expr)(xs:List AV)(K:ae→(ae→Prop)→Prop):Prop :=
 GX g A L (eval iter env) λv M=>GX g A M (Qaq v) λr M'=>∃it L₁ P H,r = .ref it∧M'=(it,P 0)::L₁∧K L₁ H∧qg g A it xs P H
theorem Iv{iter:Expr}{v:aq}{H:ae→Prop}(he:GE g A L (eval iter env) (.val v) L₁)(hp:PI g A L₁ v xs P H):jv g A L env iter xs λM H'=>M=L₁∧H'=H :=
 GX.mono (GX.jL he) λw M ⟨hw,hM⟩=>by
  cases AV.cW hw;subst hM;exact hp.2.mono λr M' ⟨it,h1,h2⟩=>⟨it,_,P,H,h1,h2,⟨rfl,rfl⟩,hp.1 it⟩
theorem jv.mono{iter:Expr}{xs:List AV}{K K':ae→(ae→Prop)→Prop}(h:jv g A L env iter xs K)(w : ∀M H,K M H→K' M H):jv g A L env iter xs K' :=
 GX.mono h λv M h=>GX.mono h λr M' h=>EU h λit L₁ P H h1 h2 h3 h4=>⟨it,L₁,P,H,h1,h2,w _ _ h3,h4⟩
theorem sH(hh:A.handled=none){iter:Expr}{l:ay}(he:PE g A L env iter (.ref l))(hl:(l,aM xs)∈L):jv g A L env iter xs λM H=>M=L∧∀N,(l,aM xs)∈N→H N :=
 jv.mono (Iv (.wC he) (Iu hh hl)) λM H h=>⟨h.1,λN hN=>h.2▸hN⟩
theorem Dv(hh:A.handled=none){iter:Expr}{l:ay}{xs:List AV}(he:PE g A L env iter (.ref l))(hl:(l,cg xs)∈L):jv g A L env iter xs λM H=>M=L∧∀N,(l,cg xs)∈N→H N :=
 jv.mono (Iv (.wC he) (D5 hh hl)) λM H h=>⟨h.1,λN hN=>h.2▸hN⟩
theorem qG(hh:A.handled=none){iter:Expr}(he:NE g A L (eval iter env) (uv 0 n))(hn:n≤100000):jv g A L env iter ((jb 0 n).map .int) λM H=>M=L∧∀N,H N :=
 GX.mono (GX.se he) λv M ⟨a,h1,h2⟩=>by
  subst h1 h2;have hp:=Rc (A:=A) (g:=g) (L:=(a,uv 0 n)::L) hh (r:=a) (lo:=0) (hi:=n) (n:=n) (bV (.E (.k .A) (.a .Z (.k .A))) rfl) (kU (.L (.g (.c 100000)) .Z) rfl) (bV (.i (.l .A (.c 100000)) (.L (.k .A) (.c 100000))) rfl hn) (aC _);intro s Q S k;refine hp.2 s Q S λr M' s' ⟨it,e1,e2⟩ S'=>k r ((it,xK 0 n 0)::L) s' ⟨it,L,_,_,e1,rfl,⟨rfl,λ_=>trivial⟩,hp.1 it⟩ ?_;subst e2;exact S'.sub (List.Sublist.cons_cons _ (NG _ _))
def uA(g:Gd)(A:bg)(env:Env)(elt:Expr)(gens:List lj)(sc:Scope)(pos:Pos)(d:Nat)(target:Expr)(ifs:List Expr)(acc:aq){α:Type}(xs:List AV)(I:Nat→α→ae):Prop :=
 ∀k x a,xs[k]?=some a→∀ia:fN,∃L2,l8 g A env target a (ia::I k x) L2∧∃c,nJ g A L2 env ifs c∧(c=false→∀s,St g L2 s→∃y,St g (ia::I (k+1) y) s) ∧
  (c=true→∀s,St g L2 s→aJ (bD g.prog g.w) A (sG elt gens sc pos d acc env) (λ_ s'=>∃y,St g (ia::I (k+1) y) s') cU s)
theorem C8{iter:Expr}(hg:gens[d]?=some ⟨target,iter,ifs,0⟩)(uX:gens[d+1]?=none∨∃t i f,gens[d+1]?=some ⟨t,i,f,0⟩)
     {H:ae→Prop} (src:qg g A it xs P H) (I:Nat→α→ae) (hH : ∀k x,H (I k x)) 
  (turn:uA g A env elt gens sc pos d target ifs acc xs I) (done : ∀x s,St g (I xs.length x) s→R (.ok .next) s) (c0:α)  (S:St g ((it,P 0)::I 0 c0) s):xd (bD g.prog g.w) A (.compStart (.ListComp elt gens sc pos) d (.ref it) acc env) R s :=
 Ph hg src (hH 0 c0) S λs S=>Qf hg uX src I hH (λk x a ha=>turn k x a ha (it,P (k+1))) done c0 S
variable {Q:aU→Prop}
theorem C9{acc:ay}(hn:gens[d+1]?=none)(S:St g L s)
  (he:GX g A L (eval elt env) λv M=>∃a xs M',AV.Is v a∧aw acc (aM xs) (aM (xs++[a])) M M'∧xs.length≤100000∧∀s',St g M' s'→Q s') :
  aJ (bD g.prog g.w) A (sG elt gens sc pos d (.ref acc) env) (λ_ s'=>Q s') cU s:=by
 unfold sG;rw [hn];refine ab (he s _ S λv M aW h aN=>lF h λa xs M' hv U hz hq=>?_);refine ab (vH U hz [v] (.cons hv .nil) aW _ aN λ_ bu _ aS=>ah (hq bu aS))
theorem Pi{elt:Expr}{gens:List lj}{sc:Scope}{pos:Pos}{d:Nat}{acc:ay}{t i:Expr}{f:List Expr}(hg:gens[d+1]?=some ⟨t,i,f,0⟩)(uX:gens[d+1+1]?=none){s:aU}(S:St g L s){Q:aU→Prop}{xs:List AV}{K:ae→(ae→Prop)→Prop}
  (hi:jv g A L env i xs K) (h : ∀L₁ H,K L₁ H→∃(α:Type) (I:Nat→α→ae) (c0:α),(∀k x,H (I k x))∧aj (I 0 c0) L₁∧uA g A env elt gens sc pos (d+1) t f (.ref acc) xs I∧∀x s',St g (I xs.length x) s'→Q s')
  (hs : ∀x,dg i env x=pure x) :
  aJ (bD g.prog g.w) A (sG elt gens sc pos d (.ref acc) env) (λ_ s'=>Q s') cU s:=by
 unfold sG;rw [hg];refine ab (hi s _ S λv M aW hM aN=>?_);refine ab (bT (ab (fD (hs v) ?_)));refine ab (aK (hM aW _ aN ?_));refine zY λbu it L₁ P H hK src=>?_;intro aS;obtain ⟨α,I,c0,hH,h0,turn,done⟩:=h L₁ H hK;refine ab (wpAny_runOwn ?_);show xd _ A _ _ _
 exact C8 hg (.inl uX) src I hH turn (λx s' S'=>ah (done x s' S')) c0 (aS.cX (aj.pick aR.head iI h0))
noncomputable def pO(sc:Scope):Bool:=sc.names.all λx=>x.2 != .local || sc.names.lookup x.1==some .local
theorem GW(h:pO sc=true): ∀x∈sc.names,x.2 = .local→sc.names.lookup x.1=some .local:=λx hx e=>by
 have:=List.all_eq_true.mp h x hx
 rw [e] at this;simpa using this
theorem Aa{elt target iter:Expr}{ifs:List Expr}{rest:List lj}{scope:Scope}{pos:Pos}{cl:List (Str×ay)}{xs:List AV}{K:ae→(ae→Prop)→Prop}{K':aq→ae→Prop}(hit:jv g A L env iter xs K)
  (h : ∀L₁ H,K L₁ H→∀acc C,∃(α:Type) (I:Nat→α→ae) (c0:α),(∀k x,H (I k x))∧aj (I 0 c0) ((acc,aM [])::(C,am [])::L₁) ∧
   uA g A (cI scope cl C env) elt (⟨target,iter,ifs,0⟩::rest) scope pos 0 target ifs (.ref acc) xs I∧∀x,∃M,aj ((C,am [])::M) (I xs.length x)∧K' (.ref acc) M)
  (hclos:gm scope env=pure cl:=by rfl) (Ek:rest=[]∨∃t i f,rest=[⟨t,i,f,0⟩]:=by k_upd) (hkind:scope.kind = .function:=by rfl) (hcell:lq scope=true:=by rfl) (hnames:pO scope=true:=by rfl)
  (hs : ∀x,dg iter env x=pure x:=by kst_p) :
  GX g A L (eval (.ListComp elt (⟨target,iter,ifs,0⟩::rest) scope pos) env) K':=λs Q S k=>by
 rw [eval_ListComp];refine N7 (use:=none) rfl hs hclos hkind (GW hnames) (hit s _ S λv M aW hM aN=>?_);refine hM aW _ aN ?_;refine zY λbu it L₁ P H hK src=>?_;intro aS;refine lg ?_;have cJ:=aS.push (o:={ cls:=.type "list",data:=.seq ([]:List aq).toArray }) (P:=aM []) ⟨_,_,rfl,.nil⟩;generalize ({ bu with heap:=bu.heap.push { cls:=.type "list",data:=.seq ([]:List aq).toArray } }:aU)=cC at cJ;generalize bu.heap.objs.size=acc at cJ;refine jB (vE hcell) (by intro y hy;simp at hy) (λdB gW mQ=>?_) hkind;have eK:St g ((cC.heap.objs.size,am [])::(acc,aM [])::(it,P 0)::L₁) { cC with heap:=dB,toks:=cC.toks+([]:List (Str×aq)).length }:=by
  have aN:St g ((cC.heap.objs.size,am [])::(acc,aM [])::(it,P 0)::L₁) { cC with heap:=cC.heap.push { cls:=.type "dict",data:=.dict #[] } } :=
   cJ.push ⟨#[],0,rfl,λ_ he=>by simp at he,λx a hx=>by cases hx⟩
  refine lF gW λo' es ep ho hd hk hm=>?_;exact St.toks (s:={ cC with heap:=dB }) (aN.gG aw.head mQ ho ⟨es,ep,hd,hk,λx a hx=>by cases hx⟩) _
 obtain ⟨α,I,c0,hH,h0,turn,done⟩:=h L₁ H hK acc cC.heap.objs.size;refine C8 (env:=cI scope cl cC.heap.objs.size env) rfl (by rcases Ek with rfl | ⟨t,i,f,rfl⟩;exact .inl rfl;exact .inr ⟨t,i,f,rfl⟩) src I hH turn (λx s' S'=>?_) c0 ?_
 ·refine ap (done x) λM Fq Zg=>?_;have S5:=S'.cX Fq;refine ap (AS S5 (aC _)) λmm hn _=>?_;exact ⟨mm,hn,λh' EW=>k _ M _ Zg (S5.ext EW.extBut)⟩
 ·have S5:St g ((it,P 0)::(acc,aM [])::(cC.heap.objs.size,am [])::L₁) { cC with heap:=dB,toks:=cC.toks+([]:List (Str×aq)).length } :=
   eK.cX (aj.pick (aR.tail (aR.tail aR.head)) iI (aj.pick (aR.tail aR.head) iI (aj.pick aR.head iI aj.refl)))
  exact S5.cX (aj.pick aR.head iI h0)
theorem C'{elt target iter:Expr}{ifs:List Expr}{rest:List lj}{scope:Scope}{pos pX py:Pos}{y:Str}{cl:List (Str×ay)}{xs:List AV}{K:ae→(ae→Prop)→Prop}{yP:List fK}{Q:oP→aU→Prop}(hit:jv g A L env iter xs K)
  (h : ∀L₁ H,K L₁ H→∀acc C,∃(α:Type) (I:Nat→α→ae) (c0:α),(∀k x,H (I k x))∧aj (I 0 c0) ((acc,aM [])::(C,am [])::L₁) ∧
   uA g A (cI scope cl C env) elt (⟨target,iter,ifs,0⟩::rest) scope pos 0 target ifs (.ref acc) xs I∧∀x,∃M M',aj ((C,am [])::M) (I xs.length x)∧jx g A env y (.ref acc) ((C,am [])::M) ((C,am [])::M')∧SX g A M' env yP Q)
  (hsw:iw (.ListComp elt (⟨target,iter,ifs,0⟩::rest) scope pos) (some (.Name y py)) pX.line env=pure true:=by rfl)
  (hclos:gm scope env=pure cl:=by rfl) (Ek:rest=[]∨∃t i f,rest=[⟨t,i,f,0⟩]:=by k_upd) (hkind:scope.kind = .function:=by rfl) (hcell:lq scope=true:=by rfl) (hnames:pO scope=true:=by rfl)
  (hs : ∀x,dg iter env x=pure x:=by kst_p) :
  SX g A L env (.Assign [.Name y py] (.ListComp elt (⟨target,iter,ifs,0⟩::rest) scope pos) pX::yP) Q:=i9 λs S=>by
 rw [exec_Assign_Name_used _ _ _ _ hsw];refine ab (bT (ab ?_));show aJ _ A (do let _ ← comprehension (.ListComp elt (⟨target,iter,ifs,0⟩::rest) scope pos) scope env _ (newList []) false (eval iter env) (some (kG (.Name y py) env))) _ _ s
 refine ab (cw (N7 (use:=some (kG (.Name y py) env)) (Q:=λ_ s'=>aJ (bD g.prog g.w) A (mX yP env) Q cU s') (E:=cU) rfl hs hclos hkind (GW hnames) (hit s _ S λv M aW hM aN=>?_)) (λ_ s' hq=>ah (ah hq)) λ_ _ e=>e);refine hM aW _ aN ?_;refine zY λbu it L₁ P H hK src=>?_;intro aS;refine lg ?_;have cJ:=aS.push (o:={ cls:=.type "list",data:=.seq ([]:List aq).toArray }) (P:=aM []) ⟨_,_,rfl,.nil⟩;generalize ({ bu with heap:=bu.heap.push { cls:=.type "list",data:=.seq ([]:List aq).toArray } }:aU)=cC at cJ;generalize bu.heap.objs.size=acc at cJ;refine jB (vE hcell) (by intro y hy;simp at hy) (λdB gW mQ=>?_) hkind;have eK:St g ((cC.heap.objs.size,am [])::(acc,aM [])::(it,P 0)::L₁) { cC with heap:=dB,toks:=cC.toks+([]:List (Str×aq)).length }:=by
  have aN:St g ((cC.heap.objs.size,am [])::(acc,aM [])::(it,P 0)::L₁) { cC with heap:=cC.heap.push { cls:=.type "dict",data:=.dict #[] } } :=
   cJ.push ⟨#[],0,rfl,λ_ he=>by simp at he,λx a hx=>by cases hx⟩
  refine lF gW λo' es ep ho hd hk hm=>?_;exact St.toks (s:={ cC with heap:=dB }) (aN.gG aw.head mQ ho ⟨es,ep,hd,hk,λx a hx=>by cases hx⟩) _
 obtain ⟨α,I,c0,hH,h0,turn,done⟩:=h L₁ H hK acc cC.heap.objs.size;refine C8 (env:=cI scope cl cC.heap.objs.size env) rfl (by rcases Ek with rfl | ⟨t,i,f,rfl⟩;exact .inl rfl;exact .inr ⟨t,i,f,rfl⟩) src I hH turn (λx s' S'=>?_) c0 ?_
 ·refine eQ (done x) λM M' Fq hst hX=>?_;have S5:=S'.cX Fq;show aJ _ A (kG (.Name y py) env (.ref acc)) _ _ _
  refine eY (hst _ _ _ _ rfl S5 λs6 S6=>?_);refine ap (AS S6 (aC _)) λmm hn _=>?_;exact ⟨mm,hn,λh' EW=>hX _ (S6.ext EW.extBut)⟩
 ·have S5:St g ((it,P 0)::(acc,aM [])::(cC.heap.objs.size,am [])::L₁) { cC with heap:=dB,toks:=cC.toks+([]:List (Str×aq)).length } :=
   eK.cX (aj.pick (aR.tail (aR.tail aR.head)) iI (aj.pick (aR.tail aR.head) iI (aj.pick aR.head iI aj.refl)))
  exact S5.cX (aj.pick aR.head iI h0)
inductive BX (g:Gd) (A:bg) (env:Env):List (Str×aq)→ae→ae→Prop
 | nil {M:ae}:BX g A env [] M M
 | cons {n:Str} {v:aq} {a:AV} {bs:List (Str×aq)} {M Lz LA:ae}:jx g A env n a M Lz→AV.Is v a→BX g A env bs Lz LA→BX g A env ((n,v)::bs) M LA
noncomputable def xl(cs:List (Str×ay)):ae:=cs.map λp=>(p.2,az none)
theorem Pj:∀(names:List (Str×NameKind)) (acc:List (Str×ay)) (L:ae) (s:aU),St g (xl acc++L) s →
  St g (xl (xe s.heap.objs.size names acc)++L) { s with heap:=pushCells s.heap names }:=λnames=>by
 induction names with
 | nil=>exact λacc L s S=>S
 | cons x r ih =>
  intro acc L s S;obtain ⟨name,kind⟩:=x;unfold pushCells xe;split
  ·have aN:St g (xl ((name,s.heap.objs.size)::acc)++L) { s with heap:=s.heap.push { cls:=.type "cell",data:=.cell none } } :=
    S.push ⟨none,rfl,λa h=>by cases h⟩
   have:=ih ((name,s.heap.objs.size)::acc) L _ aN
   rw [show ({ s with heap:=s.heap.push { cls:=.type "cell",data:=.cell none } }:aU).heap.objs.size=s.heap.objs.size+1 from vw ..] at this;exact this
  ·exact ih acc L s S
theorem Rd{env:Env}{bs:List (Str×aq)}{L L':ae}(h:BX g A env bs L L'): ∀(f:Str×aq→PUnit→Sem (ForInStep PUnit)) (hf : ∀n v u,f (n,v) u=(do QbO env n v;pure (.yield ⟨⟩))) (s:aU) (Q:PUnit→aU→Prop) (E:aq→aU→Prop),St g L s →
  (∀s',St g L' s'→Q ⟨⟩ s')→aJ (bD g.prog g.w) A (forIn bs ⟨⟩ f) Q E s:=by
 induction h with
 | nil=>intro f hf s Q E S k;rw [vv];exact ah (k s S)
 | cons hst hv _ ih =>
  intro f hf s Q E S k;rw [ee,hf];exact ab (ab (hst _ s _ _ hv S λs' S'=>ah (ih f hf s' Q E S' k)))
variable {Q:Env→aU→Prop}
theorem Ov{globals:ay}{func:Option ay}{code:aq}{builtins:ay}(S:St g L s)
  (hQ : ∀F,s.heap.objs.size=F→∃L₂,BX g A (newEnv scope F globals (xe (F+1) scope.names []) qual func code none builtins) binds (xl (xe (F+1) scope.names [])++((F,am [])::L)) L₂ ∧
   ∀s',St g L₂ s'→Q (newEnv scope F globals (xe (F+1) scope.names []) qual func code none builtins) s') :
  aJ (bD g.prog g.w) A (Qck scope globals [] binds qual func code none builtins) Q E s:=by
 refine ap (hQ _ rfl) λL₂ hb hQ=>?_;simp only [Qck,Option.isSome_none,bp,Qcv];refine ab (QaW ?_);refine ab (wpAny_layCells _ (λname kind cells=>by cases kind==NameKind.cell<;>simp) _ _ _ _ ?_);have aN:St g ((s.heap.objs.size,am [])::L) { s with heap:=s.heap.push { cls:=.type "frame",data:=.dict #[] } } :=
  S.push ⟨#[],0,rfl,λ_ he=>by simp at he,λx a hx=>by cases hx⟩
 have aS:=Pj scope.names [] _ _ aN;rw [show ({ s with heap:=s.heap.push { cls:=.type "frame",data:=.dict #[] } }:aU).heap.objs.size=s.heap.objs.size+1 from vw ..] at aS ⊢;exact ab (Rd hb _ (λ_ _ _=>rfl) _ _ _ aS λs' S'=>ah (hQ s' S'))
noncomputable abbrev ol(fd:xb)(f F:ay)(cs:List (Str×ay)):Env:=newEnv fd.scope F fd.globals cs (fd.qualname ++ ".<locals>.") (some f) fd.code none fd.builtins
theorem xL{f:ay}(hf:At g L f o)(hd:o.data = .func fd)(rD:fd.body = .stmts body)(eb:qL g L fd.code fd.qualname)
  (oj:A.depth<iX) (rE : ∀s,St g L s→QbJ s fd ⟨vs,kw⟩ binds) (cs:Nat→List (Str×ay)) (Zh : ∀F,xe (F+1) fd.scope.names []=cs F)
  (h : ∀F,∃L₂,BX g A.in1 (ol fd f F (cs F)) binds (xl (cs F)++(F,am [])::L) L₂∧SX g (A.deeper (ol fd f F (cs F))) L₂ (ol fd f F (cs F)) body λfl s'=>∃M,K (match fl with | .ret v=>v | _=>.none) M∧St g M s')
  (hclo:fd.closure=[]) (hco:fd.scope.isCoroutine=false) (hgen:fd.scope.isGenerator=false) :
  GX g A L (call (.ref f) vs kw) K:=λs Q S k=>by
 refine jP (oR oj (hf s S) hd hco hgen rD (eb s S) ?_);refine rE s S _ _ _ _ ?_;rw [hclo];refine Ov S λF hF=>?_;refine ap (h F) λL₂ hb hX=>?_;rw [Zh];refine ⟨L₂,hb,λs' S'=>?_⟩;have XG:Heap.NoLimit s'.heap:=?_
 ·refine ⟨XG,Cr (ja (cw (hX s' S') (λfl nF hq=>?_) λ_ _ x=>x))⟩;refine ap hq λM hK SM=>?_;exact k _ M nF hK SM
 ·exact S'.lim
theorem GX.EX(h:PE g A L env e a):GX g A L (eval e env) λv M=>AV.Is v a∧M=L:=GX.U8 h
variable {rest:List fK}{Q:oP→aU→Prop}
theorem ic(he:GX g A L (eval e env) K)(h : ∀v M,K v M→∃a bX,AV.Is v a∧jx g A env x a M bX∧SX g A bX env rest Q)(hs:iw e (some (.Name x p')) pos.line env=pure false:=by rfl):
  SX g A L env (.Assign [.Name x p'] e pos::rest) Q :=
 i9 λs S=>tO (he s _ S λv M s' hv S'=>by
  refine eQ (h v M hv) λa bX ha hst hX=>?_;exact hst v s' _ _ ha S' λnF pe=>hX nF pe) hs
theorem pJ(he:GX g A L (eval e env) K)(h : ∀v M,K v M→SX g A M env rest Q)(hi:Qa2 env=false:=by rfl)(hs:iw e none pos.line env=pure false:=by rfl):SX g A L env (.Expr e pos::rest) Q :=
 i9 λs S=>Qce (he s _ S λv M s' hv S'=>h v M hv s' S') hi hs
theorem SH{e:Expr}{pos:Pos}{K:aq→ae→Prop}(he:GX g A L (eval e env) K)(h : ∀v M s,K v M→St g M s→Q (.ret v) s):SX g A L env (.Return (some e) pos::rest) Q :=
 i9 λs S=>zT (he s _ S λv M s' hv S'=>h v M s' hv S')
def nK(g:Gd)(A:bg)(L:ae)(ts:List (Bool×Sem aq))(K:List aq→ae→Prop):Prop:=GX g A L (vy ts) K
theorem pP:nK g A L (b6 pos (aE [] env)) λvs M=>vs=[]∧M=L:=λs Q S k=>xc (k [] L s ⟨rfl,rfl⟩ S)
theorem pK{rest:List Expr}{K':List aq→ae→Prop}(h:GX g A L (eval e env) K)(h' : ∀v M,K v M→nK g A M (b6 pos (aE rest env)) λvs N=>K' (v::vs) N)(he:aE (e::rest) env=(false,eval e env)::aE rest env:=by rfl):
  nK g A L (b6 pos (aE (e::rest) env)) K':=λs Q S k=>by
 rw [he];show aJ _ _ (vy ((false,eval e env)::b6 pos (aE rest env))) _ _ _
 exact jQ (h s _ S λv M aW hv aN=>h' v M hv aW _ aN λvs N bu bk aS=>k _ N bu bk aS)
theorem jH(h:nG g A L ts as L'):nK g A L ts λvs M=>bP vs as∧M=L':=λs Q S k=>h s Q S λvs s' bk S'=>k vs L' s' ⟨bk,rfl⟩ S'
theorem xq{es:List Expr}{pos:Pos}{as:List AV}(ha:nG g A L (b6 pos (aE es env)) as L₁)(hz:as.length≤100000):GX g A L (eval (.List es pos) env) λv M=>∃a,v = .ref a∧M=(a,aM as)::L₁:=λs Q S k=>by
 have e:eval (.List es pos) env=(standAt pos>>=λ_=>vy (b6 pos (aE es env))>>=λvs=>newList vs):=rfl;rw [e];refine ab (bT (ab (ha s _ S λvs aW bk aN=>?_)));exact lg (k _ _ _ ⟨_,rfl,rfl⟩ (aN.push ⟨_,_,rfl,by simpa using bk⟩)) (by rw [bk.length,sizeLine_eq];exact z5 hz)
theorem Dw{es:List Expr}{pos:Pos}{as:List AV}(ha:nG g A L (b6 pos (aE es env)) as L)(hz:as.length≤100000):NE g A L (eval (.List es pos) env) (aM as):=λs Q S k=>xq ha hz s Q S λv M s' ⟨a,h1,h2⟩ S'=>by subst h1 h2;exact k a s' S'
variable {es:List Expr}
theorem SI{K:List aq→ae→Prop}(ha:nK g A L (b6 pos (aE es env)) K)(h : ∀vs M,K vs M→∃as,bP vs as∧as.length≤100000∧∀a,K' (.ref a) ((a,cg as)::M)):
  GX g A L (eval (.Tuple es n pos) env) K':=λs Q S k=>by
 have e:eval (.Tuple es n pos) env=(standAt pos>>=λ_=>vy (b6 pos (aE es env))>>=λvs=>NP vs):=rfl;rw [e];refine ab (bT (ab (ha s _ S λvs M aW bk aN=>?_)));refine du (h vs M bk) λas h1 h2 h3=>?_;exact n4 (k _ _ _ (h3 _) (aN.push ⟨_,_,rfl,by simpa using h1⟩)) (by rw [h1.length,sizeLine_eq];exact z5 h2)
theorem vM(ha:nG g A L (b6 pos (aE es env)) as L)(hz:as.length≤100000):NE g A L (eval (.Tuple es n pos) env) (cg as):=λs Q S k =>
 SI (K':=λv M=>∃a,v = .ref a∧M=(a,cg as)::L) (jH ha) (λvs M ⟨h1,h2⟩=>⟨as,h1,hz,λa=>⟨a,rfl,by rw [h2]⟩⟩) s Q S λv M s' ⟨a,h1,h2⟩ S'=>by subst h1 h2;exact k a s' S'
theorem AF{l r:Expr}{K':aq→aq→ae→Prop}(hl:GX g A L (eval l env) K)(hr : ∀v M,K v M→GX g A M (eval r env) λw N=>K' v w N)(h : ∀v w N,K' v w N→GX g A N (Qa5 op v w) wG):
  GX g A L (eval (.BinOp l op r pos) env) wG:=λs Q S k =>
 QaX (hl s _ S λv M aW hv aN=>hr v M hv aW _ aN λw N bu hw aS=>h v w N hw bu Q aS k)
theorem DP{a b:ay}(ha:(a,aM xs)∈L)(hb:(b,aM ys)∈L)(hz:xs.length+ys.length≤100000):NE g A L (Qa5 .Add (.ref a) (.ref b)) (aM (xs++ys)):=λs Q S k=>by
 refine cp (eI S ha) λvs n h1 h2=>?_;refine cp (eI S hb) λws m h3 h4=>?_;refine PySem.P.add_list h1 h3 (k _ _ (S.push ⟨_,_,rfl,by rw [lU];exact h2.append h4⟩)) ?_;have e1:=h2.length;have e2:=h4.length;rw [aG] at e1 e2;rw [e1,e2,sizeLine_eq];exact Mo hz
variable {f:aq}
theorem C4{K:Args→ae→Prop}(ha:GX g A L (sy f true args ip) K)(hk : ∀x M,K x M→jI g A M f∧GX g A M (call f (first++x.pos) x.kw) K'):
  GX g A L (fJ pos f first args ip) K':=λs Q S k=>C6 (ha s _ S λx M aW hx aN=>⟨M,(hk x M hx).1,aN,λbu aS=>(hk x M hx).2 bu Q aS k⟩)
theorem DQ{f:aq}{e:Expr}{rest:List Expr}{pos:Pos}{ip:List g0}{K:List aq→ae→Prop}{K':List aq→List aq→ae→Prop}(ha:nK g A L (b6 pos (aE (e::rest) env)) K)
  (hk : ∀vs M,K vs M→GX g A M (QbD ((bj pos (aO ip env)).map (·.2))) λbe N=>K' vs be N)
  (l7:(bj pos (aO ip env)).all (·.1.isSome)=true:=by rfl) (he:aE (e::rest) env=(false,eval e env)::aE rest env:=by rfl) :
  GX g A L (sy f true (b6 pos (aE (e::rest) env)) (bj pos (aO ip env))) λx N=>∃vs be,x=⟨vs,((bj pos (aO ip env)).filterMap (·.1)).zip be⟩∧K' vs be N:=λs Q S k =>
 Qau l7 (ha s _ S λvs M aW bk aN=>hk vs M bk aW _ aN λbe N bu eF aS=>k _ N bu ⟨vs,be,rfl,eF⟩ aS) he
theorem Dh:GX g A L (QbD ((bj pos (aO [] env)).map (·.2))) λbe N=>be=[]∧N=L:=λs Q S k=>ah (k [] L s ⟨rfl,rfl⟩ S)
theorem Qg{p:Pos}(h:GX g A L (eval e env) K):GX g A L (QbD ((bj pos (aO [⟨some name,e,p⟩] env)).map (·.2))) λbe N=>∃v,be=[v]∧K v N:=λs Q S k =>
 Qbr (h s _ S λv M aW hv aN=>Dh (pos:=pos) (env:=env) aW _ aN λbe N bu ⟨h1,h2⟩ aS=>by subst h1 h2;exact k [v] N bu ⟨v,rfl,hv⟩ aS)
variable {K:List aq→ae→Prop}
theorem D6{rest:List Expr}(ha:nK g A L (b6 pos (aE (e::rest) env)) K)(hc : ∀vs M,K vs M→jI g A M f∧GX g A M (call f (first++vs)) K')
  (he:aE (e::rest) env=(false,eval e env)::aE rest env):GX g A L (fJ pos f first (b6 pos (aE (e::rest) env)) (bj pos (aO [] env))) K':=by
 refine C4 (DQ (K':=λvs be M=>be=[]∧K vs M) ha (λvs M bk=>(Dh (pos:=pos) (env:=env)).mono λbe N h=>⟨h.1,h.2▸bk⟩) rfl he) ?_;intro x M bz;refine eQ bz λvs be af fG bk=>?_;subst af;subst fG;exact hc vs M bk
theorem lr{rest:List Expr}(hf:PE g A L env func (.val f))(ha:nK g A L (b6 pos (aE (e::rest) env)) K)
  (hc : ∀vs M,K vs M→jI g A M f∧GX g A M (call f vs) K')
  (hE:eval (.Call func (e::rest) [] pos) env=(do fJ pos (← eval func env) [] (b6 pos (aE (e::rest) env)) (bj pos (aO [] env))):=by rfl) (he:aE (e::rest) env=(false,eval e env)::aE rest env:=by rfl) :
  GX g A L (eval (.Call func (e::rest) [] pos) env) K':=λs Q S k=>by
 rw [hE];refine ab (PV.v hf s _ _ S λaW aN=>?_);exact D6 (first:=[]) ha hc he aW Q aN k
theorem An(hf:PE g A L env func (.val f))(hk:jI g A L f)(hc:GX g A L (call f []) K')
  (hE:eval (.Call func [] [] pos) env=(do fJ pos (← eval func env) [] (b6 pos (aE [] env)) (bj pos (aO [] env))):=by rfl) :
  GX g A L (eval (.Call func [] [] pos) env) K':=λs Q S k=>by
 rw [hE];refine ab (PV.v hf s _ _ S λaW aN=>?_);refine C4 (first:=[]) (K:=λx M=>x=⟨[],[]⟩∧M=L) (λs Q S k=>Ob (k _ _ s ⟨rfl,rfl⟩ S)) ?_ aW Q aN k;refine t6 ?_;exact ⟨hk,hc⟩
end
section
variable {g:Gd}{A:bg}{L L' L₁ L₂ bH:ae}{env:Env}
variable {p:fN}
theorem aj.skip(h:aj L' L):aj L' (p::L):=by
 induction h with
 | nil=>exact aj.nil
 | @refl M =>
  induction M with
  | nil=>exact aj.nil
  | cons q M ih=>exact aj.pick (aR.tail aR.head) iI ih
 | pick pk w _ ih=>exact aj.pick (aR.tail pk) w ih
variable {K:ae}
theorem aj.cE(h:aj L' L):aj L' (K++L):=by
 induction K with
 | nil=>exact h
 | cons p K ih=>exact ih.skip
theorem aR.oA{R:ae}(h:aR p L R):aR p (L++K) (R++K):=by
 induction h with
 | head=>exact aR.head
 | tail _ ih=>exact aR.tail ih
theorem aw.oA{a:ay}{P P':Obj→Prop}{K L R:ae}(h:aw a P P' L R):aw a P P' (L++K) (R++K):=by
 induction h with
 | head=>exact aw.head
 | tail _ ih=>exact aw.tail ih
noncomputable def d7(ps:List (ay×List AV)):ae:=ps.map λp=>(p.1,cg p.2)
noncomputable def cH(ps:List (ay×List AV)):List AV:=ps.map λp=>AV.ref p.1
variable {p:ay×List AV}
theorem Av(h:p∈ps):(p.1,cg p.2)∈d7 ps:=List.mem_map.mpr ⟨p,h,rfl⟩
variable {q:ay×List AV}
theorem HM{R:ae}:((q.1,cg q.2)::(K++(d7 ps++R))).Perm (K++(d7 (ps++[q])++R)):=by
 have e:d7 (ps++[q])++R=d7 ps++((q.1,cg q.2)::R):=by simp [d7]
 rw [e];refine (sv ?_ (CN K |>.mpr (List.perm_middle.symm)));exact (bq (l₁:=K)).symm
theorem zU(p:Nat→Bool)(k:Nat):(aF (k+1)).filter p=(aF k).filter p++(if p k then [k] else []):=by
 rw [kl,mE];congr 1;by_cases h:p k<;>simp [h]
theorem zV(p:Nat→Bool)(k:Nat):((aF k).filter p).length≤k:=by
 have:=eT p (aF k)
 simpa using this
theorem Ab{elt:Expr}{scope:Scope}{pos:Pos}{target iter:Expr}{ifs:List Expr}{acc:ay}{C:ay}{xs:List AV}(nz:Env)(p:Nat→Bool)(f:Nat→AV)(m:Nat→List (Str×AV))(hz:xs.length≤100000)
  (mN : ∀k a,xs[k]?=some a→∀ia P,l8 g A nz target a (ia::(C,am [])::(acc,P)::L) (ia::(C,am (m k))::(acc,P)::L))
  (j0 : ∀k a,xs[k]?=some a→∀ia P,nJ g A (ia::(C,am (m k))::(acc,P)::L) nz ifs (p k))
  (helt : ∀k a,xs[k]?=some a→p k=true→∀ia P,PE g A (ia::(C,am (m k))::(acc,P)::L) nz elt (f k)) :
  uA g A nz elt [⟨target,iter,ifs,0⟩] scope pos 0 target ifs (.ref acc) xs λk (_:Unit)=>(C,am [])::(acc,aM (((aF k).filter p).map f))::L:=by
 intro k x a hk ia;have aY:k<xs.length:=(List.getElem?_eq_some_iff.mp hk).1;have weak : ∀{P s},St g (ia::(C,am (m k))::(acc,P)::L) s→St g (ia::(C,am [])::(acc,P)::L) s:=λS =>
  S.cX (aj.pick aR.head iI (aj.pick aR.head (λ_ h=>iE.nil.ns _ h) aj.refl))
 refine ⟨_,mN k a hk ia _,p k,j0 k a hk ia _,λhp s S=>⟨(),?_⟩,λhp s S=>?_⟩
 ·have:=weak S
  show St g (ia::(C,am [])::(acc,aM (((aF (k+1)).filter p).map f))::L) s
  rw [zU,hp];simpa using this
 ·refine C9 rfl S (GX.mono (GX.EX (helt k a hk hp ia _)) λv M ⟨hv,hM⟩=>?_);subst hM;refine ⟨f k,((aF k).filter p).map f,_,hv,aw.tail (aw.tail aw.head),?_,λs' S'=>⟨(),?_⟩⟩
  ·rw [ar];have:=zV p k;exact Mp hz aY this
  ·have:=weak S'
   show St g (ia::(C,am [])::(acc,aM (((aF (k+1)).filter p).map f))::L) s'
   rw [zU,hp];simpa using this
variable {elt iter target:Expr}{ifs:List Expr}{scope:Scope}{pos:Pos}{cl:List (Str×ay)}{xs:List AV}
theorem GY(hit:jv g A L env iter xs λM H=>M=L∧H₀ H)(uB : ∀H,H₀ H→∀K:ae,H (K++L))(hz:xs.length≤100000)(p:Nat→Bool)(f:Nat→AV)(m:Nat→List (Str×AV))
  (mN : ∀C k a,xs[k]?=some a→∀acc ia P,l8 g A (cI scope cl C env) target a (ia::(C,am [])::(acc,P)::L) (ia::(C,am (m k))::(acc,P)::L))
  (j0 : ∀C k a,xs[k]?=some a→∀acc ia P,nJ g A (ia::(C,am (m k))::(acc,P)::L) (cI scope cl C env) ifs (p k))
  (helt : ∀C k a,xs[k]?=some a→p k=true→∀acc ia P,PE g A (ia::(C,am (m k))::(acc,P)::L) (cI scope cl C env) elt (f k))
  (hclos:gm scope env=pure cl:=by rfl) (hkind:scope.kind = .function:=by rfl) (hcell:lq scope=true:=by rfl) (hnames:pO scope=true:=by rfl) (hs : ∀x,dg iter env x=pure x:=by kst_p) :
  NE g A L (eval (.ListComp elt [⟨target,iter,ifs,0⟩] scope pos) env) (aM (((aF xs.length).filter p).map f)):=λs Q S k=>by
 refine Aa (K':=λv M=>∃a,v = .ref a∧M=(a,aM (((aF xs.length).filter p).map f))::L) hit ?_ hclos (.inl rfl) hkind hcell hnames hs s Q S λv M s' ⟨a,h1,h2⟩ S'=>by subst h1 h2;exact k a s' S'
 refine jE λH hH acc C=>?_;refine ⟨Unit,_,(),λk _=>uB H hH [_,_],?_,Ab (cI scope cl C env) p f m hz (λk a ha ia P=>mN C k a ha acc ia P) (λk a ha ia P=>j0 C k a ha acc ia P) (λk a ha hp ia P=>helt C k a ha hp acc ia P),λ_=>⟨_,aj.refl,acc,rfl,rfl⟩⟩;exact aj.pick (aR.tail aR.head) iI (aj.pick aR.head iI aj.refl)
variable {rest:List fK}{Q:oP→aU→Prop}
theorem OL(hit:jv g A L env iter xs λM H=>M=L∧H₀ H)(uB : ∀H,H₀ H→∀K:ae,H (K++L))(hz:xs.length≤100000)(p:Nat→Bool)(f:Nat→AV)(m:Nat→List (Str×AV))
  (mN : ∀C k a,xs[k]?=some a→∀acc ia P,l8 g A (cI scope cl C env) target a (ia::(C,am [])::(acc,P)::L) (ia::(C,am (m k))::(acc,P)::L))
  (j0 : ∀C k a,xs[k]?=some a→∀acc ia P,nJ g A (ia::(C,am (m k))::(acc,P)::L) (cI scope cl C env) ifs (p k))
  (helt : ∀C k a,xs[k]?=some a→p k=true→∀acc ia P,PE g A (ia::(C,am (m k))::(acc,P)::L) (cI scope cl C env) elt (f k))
  (h : ∀acc C,∃M',jx g A env y (.ref acc) ((C,am [])::(acc,aM (((aF xs.length).filter p).map f))::L) ((C,am [])::M')∧SX g A M' env rest Q)
  (hsw:iw (.ListComp elt [⟨target,iter,ifs,0⟩] scope pos) (some (.Name y py)) pX.line env=pure true:=by rfl)
  (hclos:gm scope env=pure cl:=by rfl) (hkind:scope.kind = .function:=by rfl) (hcell:lq scope=true:=by rfl) (hnames:pO scope=true:=by rfl) (hs : ∀x,dg iter env x=pure x:=by kst_p) :
  SX g A L env (.Assign [.Name y py] (.ListComp elt [⟨target,iter,ifs,0⟩] scope pos) pX::rest) Q:=by
 refine C' hit ?_ hsw hclos (.inl rfl) hkind hcell hnames hs;refine jE λH hH acc C=>?_;refine ap (h acc C) λM' h1 h2=>?_;refine ⟨Unit,_,(),λk _=>uB H hH [_,_],?_,Ab (cI scope cl C env) p f m hz (λk a ha ia P=>mN C k a ha acc ia P) (λk a ha ia P=>j0 C k a ha acc ia P) (λk a ha hp ia P=>helt C k a ha hp acc ia P),λ_=>⟨_,M',aj.refl,h1,h2⟩⟩;exact aj.pick (aR.tail aR.head) iI (aj.pick aR.head iI aj.refl)
end
section
variable {g:Gd}{A:bg}{L L' L₁ L₂ bH:ae}{env:Env}
noncomputable def eA(p:Nat→Bool)(f:Nat→List AV)(φ:Nat→ay)(k:Nat):List (ay×List AV):=((aF k).filter p).map λj=>(φ j,f j)
theorem C5(p:Nat→Bool)(f:Nat→List AV)(φ:Nat→ay)(k:Nat):(eA p f φ k).map (·.2)=((aF k).filter p).map f:=by
 simp [eA,wX]
variable {f:Nat→List AV}{k:Nat}{p:Nat→Bool}
theorem G0(h:p k=false):eA p f φ (k+1)=eA p f φ k:=by
 unfold eA;rw [zU,h];simp
theorem G1{t:ay}(h:p k=true):eA p f (λj=>if j=k then t else φ j) (k+1)=eA p f φ k++[(t,f k)]:=by
 unfold eA;rw [zU,h];simp only [if_true,aV,aB,jS];congr 1;apply dD;intro j hj
 have:=List.mem_range.mp (List.mem_filter.mp hj).1
 rw [Qcs (by exact Mq this)]
theorem Da(p:Nat→Bool)(f:Nat→List AV)(φ:Nat→ay)(k:Nat):(eA p f φ k).length≤k:=by
 unfold eA;rw [ar];exact zV p k
theorem Hi{iter:Expr}(nz:Env)(p:Nat→Bool)(f:Nat→List AV)(m:Nat→List (Str×AV))(hz:xs.length≤100000)
  (mN : ∀k a,xs[k]?=some a→∀ia P K,l8 g A nz target a (ia::(C,am [])::(acc,P)::(K++L)) (ia::(C,am (m k))::(acc,P)::(K++L)))
  (j0 : ∀k a,xs[k]?=some a→∀ia P K,nJ g A (ia::(C,am (m k))::(acc,P)::(K++L)) nz ifs (p k))
  (helt : ∀k a,xs[k]?=some a→p k=true→∀ia P K,NE g A (ia::(C,am (m k))::(acc,P)::(K++L)) (eval elt nz) (cg (f k))) :
  uA g A nz elt [⟨target,iter,ifs,0⟩] scope pos 0 target ifs (.ref acc) xs λk (φ:Nat→ay)=>(C,am [])::(acc,aM (cH (eA p f φ k)))::(d7 (eA p f φ k)++L):=by
 intro k φ a hk ia;have aY:k<xs.length:=(List.getElem?_eq_some_iff.mp hk).1;have weak : ∀{P R s},St g (ia::(C,am (m k))::(acc,P)::R) s→St g (ia::(C,am [])::(acc,P)::R) s:=λS =>
  S.cX (aj.pick aR.head iI (aj.pick aR.head (λ_ h=>iE.nil.ns _ h) aj.refl))
 refine ⟨_,mN k a hk ia _ _,p k,j0 k a hk ia _ _,λhp s S=>⟨φ,?_⟩,λhp s S=>?_⟩
 ·have:=weak S
  show St g (ia::(C,am [])::(acc,aM (cH (eA p f φ (k+1))))::(d7 (eA p f φ (k+1))++L)) s
  rw [G0 hp];exact this
 ·refine C9 rfl S (GX.mono (GX.se (helt k a hk hp ia _ _)) λv M ⟨t,hv,hM⟩=>?_);subst hv hM;refine ⟨.ref t,cH (eA p f φ k),_,rfl,aw.tail (aw.tail (aw.tail aw.head)),?_,λs' S'=>⟨λj=>if j=k then t else φ j,?_⟩⟩
  ·unfold cH;rw [ar];have:=Da p f φ k;exact Mp hz aY this
  ·show St g (ia::(C,am [])::(acc,aM (cH (eA p f (λj=>if j=k then t else φ j) (k+1))))::(d7 (eA p f (λj=>if j=k then t else φ j) (k+1))++L)) s'
   rw [G1 hp];refine weak ?_;have e:cH (eA p f φ k++[(t,f k)])=cH (eA p f φ k)++[.ref t]:=by simp [cH]
   rw [e];exact S'.perm (HM (q:=(t,f k)) (K:=[ia,(C,am (m k)),(acc,aM (cH (eA p f φ k)++[.ref t]))]))
variable {elt iter target:Expr}{ifs:List Expr}{scope:Scope}{pos:Pos}{cl:List (Str×ay)}{xs:List AV}
theorem OZ(hit:jv g A L env iter xs λM H=>M=L∧H₀ H)(uB : ∀H,H₀ H→∀K:ae,H (K++L))(hz:xs.length≤100000)(p:Nat→Bool)(f:Nat→List AV)(m:Nat→List (Str×AV))
  (mN : ∀C k a,xs[k]?=some a→∀acc ia P K,l8 g A (cI scope cl C env) target a (ia::(C,am [])::(acc,P)::(K++L)) (ia::(C,am (m k))::(acc,P)::(K++L)))
  (j0 : ∀C k a,xs[k]?=some a→∀acc ia P K,nJ g A (ia::(C,am (m k))::(acc,P)::(K++L)) (cI scope cl C env) ifs (p k))
  (helt : ∀C k a,xs[k]?=some a→p k=true→∀acc ia P K,NE g A (ia::(C,am (m k))::(acc,P)::(K++L)) (eval elt (cI scope cl C env)) (cg (f k)))
  (hclos:gm scope env=pure cl) (hkind:scope.kind = .function) (hcell:lq scope=true) (hnames:pO scope=true) (hs : ∀x,dg iter env x=pure x) :
  GX g A L (eval (.ListComp elt [⟨target,iter,ifs,0⟩] scope pos) env) λv M=>∃a ps,v = .ref a∧ps.map (·.2)=((aF xs.length).filter p).map f∧M=(a,aM (cH ps))::(d7 ps++L):=by
 refine Aa hit ?_ hclos (.inl rfl) hkind hcell hnames hs;refine jE λH hH=>?_;intro acc C;refine ⟨Nat→ay,_,λ_=>0,λk φ=>uB H hH (_::_::d7 (eA p f φ k)),?_,Hi (cI scope cl C env) p f m hz (λk a ha ia P K=>mN C k a ha acc ia P K) (λk a ha ia P K=>j0 C k a ha acc ia P K) (λk a ha hp ia P K=>helt C k a ha hp acc ia P K),λφ=>⟨_,aj.refl,acc,_,rfl,C5 p f φ _,rfl⟩⟩;exact aj.pick (aR.tail aR.head) iI (aj.pick aR.head iI aj.refl)
variable {rest:List fK}{Q:oP→aU→Prop}
theorem O0{H₀:(ae→Prop)→Prop}{y:Str}{py pX:Pos}(hit:jv g A L env iter xs λM H=>M=L∧H₀ H)(uB : ∀H,H₀ H→∀K:ae,H (K++L))(hz:xs.length≤100000)(p:Nat→Bool)(f:Nat→List AV)(m:Nat→List (Str×AV))
  (mN : ∀C k a,xs[k]?=some a→∀acc ia P K,l8 g A (cI scope cl C env) target a (ia::(C,am [])::(acc,P)::(K++L)) (ia::(C,am (m k))::(acc,P)::(K++L)))
  (j0 : ∀C k a,xs[k]?=some a→∀acc ia P K,nJ g A (ia::(C,am (m k))::(acc,P)::(K++L)) (cI scope cl C env) ifs (p k))
  (helt : ∀C k a,xs[k]?=some a→p k=true→∀acc ia P K,NE g A (ia::(C,am (m k))::(acc,P)::(K++L)) (eval elt (cI scope cl C env)) (cg (f k)))
  (h : ∀acc C ps,ps.map (·.2)=((aF xs.length).filter p).map f→∃M',jx g A env y (.ref acc) ((C,am [])::(acc,aM (cH ps))::(d7 ps++L)) ((C,am [])::M')∧SX g A M' env rest Q)
  (hsw:iw (.ListComp elt [⟨target,iter,ifs,0⟩] scope pos) (some (.Name y py)) pX.line env=pure true)
  (hclos:gm scope env=pure cl) (hkind:scope.kind = .function) (hcell:lq scope=true) (hnames:pO scope=true) (hs : ∀x,dg iter env x=pure x) :
  SX g A L env (.Assign [.Name y py] (.ListComp elt [⟨target,iter,ifs,0⟩] scope pos) pX::rest) Q:=by
 refine C' hit ?_ hsw hclos (.inl rfl) hkind hcell hnames hs;refine jE λH hH=>?_;intro acc C;refine ⟨Nat→ay,_,λ_=>0,λk φ=>uB H hH (_::_::d7 (eA p f φ k)),?_,Hi (cI scope cl C env) p f m hz (λk a ha ia P K=>mN C k a ha acc ia P K) (λk a ha ia P K=>j0 C k a ha acc ia P K) (λk a ha hp ia P K=>helt C k a ha hp acc ia P K),λφ=>?_⟩
 ·exact aj.pick (aR.tail aR.head) iI (aj.pick aR.head iI aj.refl)
 ·refine ap (h acc C _ (C5 p f φ xs.length)) λM' h1 h2=>?_;exact ⟨_,M',aj.refl,h1,h2⟩
variable {P:Nat→Obj→Prop}
theorem Qh{H:ae→Prop}(src:qg g A it xs P H)(I:Nat→α→ae)(V:Nat→α→Prop)(hH : ∀k x,V k x→H (I k x))
  (turn : ∀k x a,xs[k]?=some a→V k x→∃L2,l8 g A env target a ((it,P (k+1))::I k x) L2∧∀s,St g L2 s→aJ (bD g.prog g.w) A (mX body env) (λf s'=>match f with
    | .next | .cont=>∃y,V (k+1) y∧St g ((it,P (k+1))::I (k+1) y) s'
    | .brk=>R (.ok .next) s'
    | .ret v=>R (.ok (.ret v)) s') cU s)
  (done : ∀x s,V xs.length x→St g (I xs.length x) s→R (.ok .next) s) (c0:α) (hV:V 0 c0)  (S:St g ((it,P 0)::I 0 c0) s):xd (bD g.prog g.w) A (.forLoop target (.ref it) body [] env) R s:=by
 refine codeAny_loop' rfl (λn s=>∃k x,k≤xs.length∧n=xs.length-k∧V k x∧St g ((it,P k)::I k x) s) (λn s hI=>?_) xs.length ⟨0,c0,cM _,Mn,hV,S⟩;refine tc hI λk x hk af hV S=>?_;subst af;show aJ _ _ ((forTurn target (.ref it) body [] env).onRaise (λx=>do CJ x env;Qb7 x)) _ _ s
 refine wpAny_noted (ja ?_);unfold forTurn;refine ab (bT (ab (N6 ?_)));by_cases aY:k<xs.length
 ·have hx:xs[k]?=some xs[k]:=au aY;refine ja (src.next k _ hx _ (hH k x hV) s _ S ?_);intro r;refine He λaW eM=>?_;refine ap eM λv af hv=>?_;subst af;intro aN;refine ap (turn k x _ hx hV) λL2 ha hb=>?_;refine ab (src.own (k+1) _ target v aW _ _ aN λ_ bu _ aS=>?_);refine ab (ha v bu _ hv aS λcC cJ=>?_);refine ab (cw (hb cC cJ) (λf gx Bi=>?_) λ_ _ q=>q.elim);cases f with
  | next=>obtain ⟨y,hy,Sy⟩:=Bi;exact ah (.inl ⟨rfl,xs.length-(k+1),BG aY,k+1,y,BH aY,rfl,hy,Sy⟩)
  | cont=>obtain ⟨y,hy,Sy⟩:=Bi;exact ah (.inl ⟨rfl,xs.length-(k+1),BG aY,k+1,y,BH aY,rfl,hy,Sy⟩)
  | brk=>exact ah Bi
  | ret v=>exact ah Bi
 ·have e:k=xs.length:=BI hk aY;subst e;refine ja (src.stop _ (hH _ x hV) s _ S ?_);refine vC λaW=>?_;intro aN;exact ah (.inr ⟨rfl,codeAny_block (qq (done x aW hV aN))⟩)
theorem lu{target iter:Expr}{body:List fK}{pos:Pos}{xs:List AV}{K:ae→(ae→Prop)→Prop}(hit:jv g A L env iter xs K)
  (h : ∀L₁ H,K L₁ H→∃(α:Type) (I:Nat→α→ae) (V:Nat→α→Prop) (c0:α),V 0 c0∧aj (I 0 c0) L₁∧(∀k x,V k x→H (I k x)) ∧
   (∀k x a,xs[k]?=some a→V k x→∀ia:fN,∃L2,l8 g A env target a (ia::I k x) L2∧SX g A L2 env body λf s'=>match f with
    | .next | .cont=>∃y,V (k+1) y∧St g (ia::I (k+1) y) s'
    | .brk=>aJ (bD g.prog g.w) A (mX rest env) Q cU s'
    | .ret v=>Q (.ret v) s')∧∀x,V xs.length x→SX g A (I xs.length x) env rest Q)
  (hs : ∀x,dg iter env x=pure x:=by kst_p):SX g A L env (.For target iter body [] pos::rest) Q :=
 i9 λs S=>by
  refine wpAny_For (hit s _ S λw M aW hM aN=>?_) hs;refine hM aW _ aN ?_;refine zY λbu it L₁ P H hK src=>?_;intro aS;obtain ⟨α,I,V,c0,hV,h0,hH,turn,done⟩:=h L₁ H hK;refine Qh src I V hH (λk x a hx hv=>?_) (λx s' hv S'=>done x hv s' S') c0 hV (aS.cX (aj.pick aR.head iI h0));refine ap (turn k x a hx hv (it,P (k+1))) λL2 h1 h2=>?_;exact ⟨L2,h1,h2⟩
end
section
variable {g:Gd}{A:bg}{L L' L₁ L₂ bH:ae}{env:Env}
theorem nj{n k:Nat}{a:AV}(h:((jb 0 n).map AV.int)[k]?=some a):k<n∧a = .int k:=by
 refine b8 (G7 h) λh1 h2=>?_;exact ⟨h1,by rw [h2,tU]⟩
theorem Pk{d:Nat}(nz:Env)(hn:gens[d+1]?=none)(td:List (Str×AV))(pre:List (ay×List AV))(p:Nat→Bool)(f:Nat→List AV)(m:Nat→List (Str×AV))(hm : ∀k,iE td (m k))(hz:pre.length+xs.length≤100000)
  (mN : ∀k a,xs[k]?=some a→∀ia P K,l8 g A nz target a (ia::(C,am td)::(acc,P)::(K++L)) (ia::(C,am (m k))::(acc,P)::(K++L)))
  (j0 : ∀k a,xs[k]?=some a→∀ia P K,nJ g A (ia::(C,am (m k))::(acc,P)::(K++L)) nz ifs (p k))
  (helt : ∀k a,xs[k]?=some a→p k=true→∀ia P K,NE g A (ia::(C,am (m k))::(acc,P)::(K++L)) (eval elt nz) (cg (f k))) :
  uA g A nz elt gens scope pos d target ifs (.ref acc) xs λk (φ:Nat→ay)=>(C,am td)::(acc,aM (cH (pre++eA p f φ k)))::(d7 (pre++eA p f φ k)++L):=by
 intro k φ a hk ia;have aY:k<xs.length:=(List.getElem?_eq_some_iff.mp hk).1;have weak : ∀{P R s},St g (ia::(C,am (m k))::(acc,P)::R) s→St g (ia::(C,am td)::(acc,P)::R) s:=λS =>
  S.cX (aj.pick aR.head iI (aj.pick aR.head (λ_ h=>(hm k).ns _ h) aj.refl))
 refine ⟨_,mN k a hk ia _ _,p k,j0 k a hk ia _ _,λhp s S=>⟨φ,?_⟩,λhp s S=>?_⟩
 ·have:=weak S
  show St g (ia::(C,am td)::(acc,aM (cH (pre++eA p f φ (k+1))))::(d7 (pre++eA p f φ (k+1))++L)) s
  rw [G0 hp];exact this
 ·refine C9 hn S (GX.mono (GX.se (helt k a hk hp ia _ _)) λv M ⟨t,hv,hM⟩=>?_);subst hv hM;refine ⟨.ref t,cH (pre++eA p f φ k),_,rfl,aw.tail (aw.tail (aw.tail aw.head)),?_,λs' S'=>⟨λj=>if j=k then t else φ j,?_⟩⟩
  ·unfold cH;rw [ar,aD];have:=Da p f φ k;exact fy (.i (.l (.a .A .B) (.c 100000)) (.i (.t .C .B) (.i (.l .D .C) (.l (.a .A .D) (.c 100000))))) rfl hz aY this
  ·show St g (ia::(C,am td)::(acc,aM (cH (pre++eA p f (λj=>if j=k then t else φ j) (k+1))))::(d7 (pre++eA p f (λj=>if j=k then t else φ j) (k+1))++L)) s'
   rw [G1 hp,← aH];refine weak ?_;have e:cH (pre++eA p f φ k++[(t,f k)])=cH (pre++eA p f φ k)++[.ref t]:=by simp [cH]
   rw [e];exact S'.perm (HM (q:=(t,f k)) (K:=[ia,(C,am (m k)),(acc,aM (cH (pre++eA p f φ k)++[.ref t]))]))
end
section
theorem aj.mO{K L' L:ae}(h:aj L' L):aj (K++L') (K++L):=by
 induction K with
 | nil=>exact h
 | cons p K ih=>exact aj.pick aR.head iI ih
theorem aR.T0{p:fN}(h:p∈L): ∃R,aR p L R:=by
 induction L with
 | nil=>cases h
 | cons q L ih =>
  rcases List.mem_cons.mp h with rfl | h
  ·exact ⟨_,aR.head⟩
  ·obtain ⟨R,hR⟩:=ih h;exact ⟨_,aR.tail hR⟩
theorem aj.perm{L' L:ae}(h:L'.Perm L):aj L' L:=by
 induction L' generalizing L with
 | nil=>exact aj.nil
 | cons p L' ih =>
  refine cT (aR.T0 (h.mem_iff.mp (.head _))) λR hR=>?_;exact aj.pick hR iI (ih ((h.trans hR.perm).cons_inv))
end
local macro_rules | `(tactic| kcj_m) => `(tactic| first
 | exact .refl | exact .nil
 | (refine .pick (by k_upd) iI ?_;kcj_m)
 | (refine .pick (by k_upd) (iE.ns (by k_upd)) ?_;kcj_m)
 | (refine .mO ?_;kcj_m)
 | (refine .skip ?_;kcj_m)
 | (refine .cE ?_;kcj_m))
section
variable {g:Gd}{A:bg}{L L' L₁ L₂ bH:ae}{env:Env}
variable {q:Pos}
theorem pL(T:fR g){p:Pos}(he:PE g A L env e (.int n))(h1:env.globals=cm:=by rfl)(h2:env.builtins=dU:=by rfl)(h3:env.scope.kind = .function:=by rfl)(h4:env.kindOf "range"=some .globalImplicit:=by rfl)
  (hE:eval (.Call (.Name "range" q) [e] [] p) env=(do fJ p (← eval (.Name "range" q) env) [] (b6 p (aE [e] env)) (bj p (aO [] env))):=by rfl) (hs:aE [e] env=(false,eval e env)::aE [] env:=by rfl) :
  NE g A L (eval (.Call (.Name "range" q) [e] [] p) env) (uv 0 n) :=
 Ir (gQ T (by k_mem) h1 h2 h3 h4) (b9 he dh hs) jU (gp λ_ x=>by cases x) Qe hE rfl hs
theorem Qi(hh:A.handled=none){iter:Expr}(he:NE g A L (eval iter env) (cg xs)):jv g A L env iter xs λM H=>∃t,M=(t,cg xs)::L∧∀N,(t,cg xs)∈N→H N :=
 GX.mono (GX.se he) λv M ⟨a,h1,h2⟩=>by
  subst h1 h2;have hp:=D5 (A:=A) (g:=g) (L:=(a,cg xs)::L) hh (l:=a) (xs:=xs) (aC _);exact hp.2.mono λr M' ⟨it,e1,e2⟩=>⟨it,_,_,_,e1,e2,⟨a,rfl,λ_ h=>h⟩,hp.1 it⟩
theorem vG(l:List α):l.filter (λ_=>true)=l:=List.filter_eq_self.mpr λ_ _=>rfl
theorem CU(T:fR g)(hh:A.handled=none){r:Pos}(pr:Nat→Bool)(f:Nat→AV)(hres:((aF n).filter pr).map f=res)(hn:PE g A L env e (.int n))(hz:n≤100000)
  (hx : ∀C,(cI scope cl C env).kindOf x=some .local) (hk : ∀C,(cI scope cl C env).scope.kind = .function)
  (j0 : ∀C k,k<n→∀acc ia P,nJ g A (ia::(C,am [(x,.int k)])::(acc,P)::L) (cI scope cl C env) ifs (pr k))
  (helt : ∀C k,k<n→pr k=true→∀acc ia P,PE g A (ia::(C,am [(x,.int k)])::(acc,P)::L) (cI scope cl C env) elt (f k))
  (h1:env.globals=cm) (h2:env.builtins=dU) (h3:env.scope.kind = .function) (h4:env.kindOf "range"=some .globalImplicit)
  (hE:eval (.Call (.Name "range" q) [e] [] r) env=(do fJ r (← eval (.Name "range" q) env) [] (b6 r (aE [e] env)) (bj r (aO [] env)))) (hs:aE [e] env=(false,eval e env)::aE [] env)
  (hclos:gm scope env=pure cl) (hkind:scope.kind = .function) (hcell:lq scope=true) (hnames:pO scope=true) (hfs : ∀y,dg (.Call (.Name "range" q) [e] [] r) env y=pure y) :
  NE g A L (eval (.ListComp elt [⟨.Name x p1,.Call (.Name "range" q) [e] [] r,ifs,0⟩] scope pos) env) (aM res):=by
 have hl:=pH 0 n;have h:=GY (g:=g) (A:=A) (L:=L) (env:=env) (elt:=elt) (target:=.Name x p1) (ifs:=ifs) (scope:=scope) (pos:=pos) (cl:=cl) (qG hh (pL T hn h1 h2 h3 h4 hE hs) hz) (λH hH K=>hH _) (by rw [hl];exact hz) pr f (λk=>[(x,.int k)])
  (λC k a ha acc ia P=>by
   refine b8 (nj ha) λh1 af=>?_;subst af;exact jF (b7 (aw.tail aw.head) (hx C) (hk C)))
  (λC k a ha acc ia P=>j0 C k (nj ha).1 acc ia P) (λC k a ha hp acc ia P=>helt C k (nj ha).1 hp acc ia P) hclos hkind hcell hnames hfs
 rw [hl,hres] at h;exact h
variable {rest:List fK}{Q:oP→aU→Prop}
theorem GM(T:fR g)(hh:A.handled=none){r:Pos}(pr:Nat→Bool)(f:Nat→AV)(hres:((aF n).filter pr).map f=res)(hn:PE g A L env e (.int n))(hz:n≤100000)
  (hx : ∀C,(cI scope cl C env).kindOf x=some .local) (hk : ∀C,(cI scope cl C env).scope.kind = .function)
  (j0 : ∀C k,k<n→∀acc ia P,nJ g A (ia::(C,am [(x,.int k)])::(acc,P)::L) (cI scope cl C env) ifs (pr k))
  (helt : ∀C k,k<n→pr k=true→∀acc ia P,PE g A (ia::(C,am [(x,.int k)])::(acc,P)::L) (cI scope cl C env) elt (f k))
  (hy:env.kindOf y=some .local)
  (h : ∀acc:ay,∃m bX,aw env.locals (am m) (am ((y,.ref acc)::m)) L bX∧SX g A ((acc,aM res)::bX) env rest Q)
  (h1:env.globals=cm) (h2:env.builtins=dU) (h3:env.scope.kind = .function) (h4:env.kindOf "range"=some .globalImplicit)
  (hE:eval (.Call (.Name "range" q) [e] [] r) env=(do fJ r (← eval (.Name "range" q) env) [] (b6 r (aE [e] env)) (bj r (aO [] env)))) (hs:aE [e] env=(false,eval e env)::aE [] env)
  (hsw:iw (.ListComp elt [⟨.Name x p1,.Call (.Name "range" q) [e] [] r,ifs,0⟩] scope pos) (some (.Name y py)) pX.line env=pure true)
  (hclos:gm scope env=pure cl) (hkind:scope.kind = .function) (hcell:lq scope=true) (hnames:pO scope=true) (hfs : ∀y,dg (.Call (.Name "range" q) [e] [] r) env y=pure y) :
  SX g A L env (.Assign [.Name y py] (.ListComp elt [⟨.Name x p1,.Call (.Name "range" q) [e] [] r,ifs,0⟩] scope pos) pX::rest) Q:=by
 have hl:=pH 0 n;refine OL (cl:=cl) (qG hh (pL T hn h1 h2 h3 h4 hE hs) hz) (λH hH K=>hH _) (by rw [hl];exact hz) pr f (λk=>[(x,.int k)])
  (λC k a ha acc ia P=>by
   refine b8 (nj ha) λh1 af=>?_;subst af;exact jF (b7 (aw.tail aw.head) (hx C) (hk C)))
  (λC k a ha acc ia P=>j0 C k (nj ha).1 acc ia P) (λC k a ha hp acc ia P=>helt C k (nj ha).1 hp acc ia P) (λacc C=>?_) hsw hclos hkind hcell hnames hfs
 rw [hl,hres];refine cp (h acc) λm bX U h=>?_;exact ⟨_,b7 (aw.tail (aw.tail U)) hy h3,h⟩
end
section
variable {g:Gd}{A:bg}{L L' L₁ L₂ bH:ae}
def yl(g:Gd)(a:ay)(xs:List AV):Prop:=∀(L:ae) (s:aU),St g L s→∃o,s.heap.get? a=some o∧aM xs o
theorem Pl{env:Env}{l r:Expr}{pos:Pos}{a:ay}{xs ys zs:List AV}(Zi:xs++ys=zs)(hl:PE g A L env l (.ref a))(ha:yl g a xs)(hr:NE g A L (eval r env) (aM ys))(hz:xs.length+ys.length≤100000):NE g A L (eval (.BinOp l .Add r pos) env) (aM zs):=λs Q S k=>by
 subst Zi
 exact
 QaX (hl s _ _ S λv aW hv aN=>hr aW _ aN λb bu aS=>by
  cases AV.cW hv;refine ap (ha _ _ aS) λo h1 Vc=>?_;refine cp Vc λvs n af h2=>?_;subst af;refine cp (eI aS (aC _)) λws m h3 h4=>?_;refine PySem.P.add_list h1 h3 (k _ _ ((aS.push (P:=aM (xs++ys)) ⟨_,_,rfl,by rw [lU];exact h2.append h4⟩).cX (aj.pick aR.head iI (aj.skip aj.refl)))) ?_;have e1:=h2.length;have e2:=h4.length;rw [aG] at e1 e2;rw [e1,e2,sizeLine_eq];exact Mo hz)
inductive Af:List Expr→List Int→Prop
 | nil:Af [] []
 | cons {i:Int} {k:Nat} {p:Pos} {es:List Expr} {is:List Int}:Af es is→Af (.Constant (.int i) k p::es) (i::is)
variable {es:List Expr}
theorem Re(h:Af es is):nG g A L (b6 pos (aE es env)) (is.map .int) L:=by
 induction h with
 | nil=>exact dh
 | cons _ ih=>exact b9 gP ih rfl
theorem AG{env:Env}(T:fR g){e:Expr}{q p:Pos}{l:ay}{xs:List AV}(he:PE g A L env e (.ref l))(hl:(l,aM xs)∈L)(hz:xs.length≤100000)(h1:env.globals=cm)(h2:env.builtins=dU)(h3:env.scope.kind = .function)(h4:env.kindOf "len"=some .globalImplicit)
  (hE:eval (.Call (.Name "len" q) [e] [] p) env=(do fJ p (← eval (.Name "len" q) env) [] (b6 p (aE [e] env)) (bj p (aO [] env)))) (hs:aE [e] env=(false,eval e env)::aE [] env) :
  PE g A L env (.Call (.Name "len" q) [e] [] p) (.int xs.length) :=
 PE.jL (mJ (gQ T (by k_mem) h1 h2 h3 h4) (b9 he dh hs) jU (gp λ_ x=>by cases x) (AE hl (bV (.i (.l .A (.c 100000)) (.t .A (.c 9223372036854775808))) rfl hz)) hE rfl hs)
noncomputable def jc(sc:List Int):List Int:=sc++[4,0,8,0,1,9,4,2,7,6,0,5]
noncomputable def eN(sc:List Int):Nat:=(jc sc).length/3
noncomputable def xB(sc:List Int)(i:Nat):Int:=(jc sc).getD (3*i) 0
noncomputable def AH(sc:List Int)(i:Nat):Int:=((jc sc).getD (3*i+1) 0).natAbs+1
noncomputable def xQ(sc:List Int)(i:Nat):Int:=(jc sc).getD (3*i+2) 0
noncomputable def jG(sc:List Int):List Int:=(aF (eN sc)).map (xB sc)
noncomputable def jV(sc:List Int):List Int:=(aF (eN sc)).map (AH sc)
noncomputable def ka(sc:List Int):List Int:=(aF (eN sc)).map (xQ sc)
theorem T3{a:Int}:GC g A L (.builtin "abs") [.int a] [] [] (.int a.natAbs) L:=by
 intro vs be bk eF s Q S k;refine ap bk.one λ_ af Vd=>?_;subst af;refine cT Vd λt af=>?_;subst af;cases eF.zero;refine call_abs_int λu tk=>?_;have e:(if a<0 then -a else a)=(a.natAbs:Int):=by split<;>(first | exact jf (.i (.T .A .Z) (.E (.g .A) (.k (.b .A)))) rfl (by assumption) | exact jf (.i (.n (.T .A .Z)) (.E .A (.k (.b .A)))) rfl (by assumption))
 rw [e];exact k _ _ ⟨_,rfl⟩ (S.toks _)
theorem Ve(n:Nat):(n:Int).fdiv 3=((n/3:Nat):Int):=by
 rw [Gh _ (by decide)];exact Y8
theorem Rf(h:j<(jc sc).length):((jc sc).map AV.int)[((j:Nat):Int).toNat]?=some (.int ((jc sc).getD j 0)):=by
 rw [bY,aA,au h,aI,au h];rfl
noncomputable def ly(sc:List Int)(i j:Nat):Int:=(if j=0 then xB sc i else xQ sc i).fmod (2*i+1)
noncomputable def lC(sc:List Int)(i j:Nat):Bool:=decide (ly sc i j<i)
noncomputable def nr(sc:List Int)(i j:Nat):List AV:=[.int (ly sc i j),.int i]
noncomputable def gU(sc:List Int)(φ:Nat→Nat→ay)(k:Nat):List (ay×List AV):=(aF k).flatMap λi=>eA (lC sc i) (nr sc i) (φ i) 2
noncomputable def l3(sc:List Int):List (Int×Int):=(aF (eN sc)).flatMap λi=>((aF 2).filter (lC sc i)).map λj=>(ly sc i j,(i:Int))
noncomputable def iD(p:Int×Int):List AV:=[.int p.1,.int p.2]
theorem O1(sc:List Int)(φ:Nat→Nat→ay):(gU sc φ (eN sc)).map (·.2)=(l3 sc).map iD:=by
 unfold gU l3;rw [QaM,QaM];congr 1;funext i;rw [C5];simp [nr,iD,wX]
theorem O2(sc:List Int)(φ:Nat→Nat→ay)(ψ:Nat→ay)(k:Nat):gU sc (λi=>if i=k then ψ else φ i) (k+1)=gU sc φ k++eA (lC sc k) (nr sc k) ψ 2:=by
 unfold gU;rw [kl,jC];congr 1
 ·rw [QaP,QaP];congr 1;apply dD;intro i hi
  have:=List.mem_range.mp hi
  dsimp only;rw [Qcs (by exact Mq this)]
 ·simp
theorem Pm(sc:List Int)(φ:Nat→Nat→ay)(k:Nat):(gU sc φ k).length≤2*k:=by
 induction k with
 | zero=>simp [gU]
 | succ k ih =>
  have e:gU sc φ (k+1)=gU sc φ k++eA (lC sc k) (nr sc k) (φ k) 2:=by
   unfold gU;rw [kl,jC];simp
  rw [e,aD]
  have:=Da (lC sc k) (nr sc k) (φ k) 2
  exact bB (.i (.l .A (.m 2 .B)) (.i (.l .C (.c 2)) (.l (.a .A .C) (.m 2 (.a .B .O))))) rfl ih this
theorem Qj(sc:List Int):sc++[4,0,8,0,1,9,4,2,7,6,0,5]=jc sc:=rfl
theorem Db(sc:List Int):(jc sc).length=sc.length+12:=by simp [jc]
theorem T4(sc:List Int):((jc sc).length:Int).fdiv 3=(eN sc:Int):=Ve _
theorem Rg{sc:List Int}:uR g A L .FloorDiv (.int ((jc sc).map AV.int).length) (.int 3) (.int (eN sc)):=by
 have h:=DN (g:=g) (A:=A) (L:=L) (a:=((jc sc).length:Int)) (b:=3) (by decide) (qy (by decide +kernel));rw [T4] at h;rw [ar];exact h
theorem Iw(sc:List Int):3*eN sc≤(jc sc).length:=by unfold eN;exact Y9
theorem Di{tl:ay}{o i:Expr}(ho:PE g A L env o (.ref tl))(hi:PE g A L env i (.int k))(hl:(tl,ai (jc sc))∈L)(hk:k=j)(hj:j<(jc sc).length)(hz:(jc sc).length≤1012)
  (hs : ∀o' i',lV i false o' i'=ix [o',i'] (rq o' i')) (ht : ∀o' r,j8 o o' r=pure ()):PE g A L env (.Subscript o i pos) (.int ((jc sc).getD j 0)) :=
 fM ho hi hl (Mr hk) (pW (.i (.E .A (.k .A)) (.i (.t .A .B) (.i (.l .B (.c 1012)) (.T .A (.c 9223372036854775808))))) rfl hk hj hz) (by rw [hk];exact Rf hj) hs ht
def HN(L:ae)(sc:List Int)(v:aq)(M:ae):Prop :=
 ∃r a b c d ps,v = .ref r∧ps.map (·.2)=(l3 sc).map iD∧M=(r,cg [.ref a,.ref b,.ref c,.ref d])::(a,ai (jG sc))::(b,ai (jV sc))::(c,ai (ka sc))::(d,aM (cH ps))::(d7 ps++L)
theorem Rh(T:fR g){f:ay}(hf:ma g (top 15) "_law_works" "_law_works" (λdV=>dV = .none) f){n:Nat}(hA:bZ (n+1) A){l:ay}{sc:List Int}(hl:yl g l (sc.map .int))(hz:sc.length≤1000){vs:List aq}(bk:bP vs [.ref l]):
  GX g A L (call (.ref f) vs) (HN L sc):=by
 refine nu hf λo dV kV doc pm cq ct ho fX hd eb af=>?_;subst af;refine ap bk.one λv af hv=>?_;subst af;have qh:(jc sc).length≤1012:=by rw [Db];exact bV (.i (.l .A (.c 1000)) (.l (.a .A (.c 12)) (.c 1012))) rfl hz
 have mT:=Iw sc;refine xL (hclo:=by rfl) (hco:=by rfl) (hgen:=by rfl) (binds:=[("script",v)]) (.top ho fX) hd rfl (.top eb) hA.room ?_ (λF=>[("dues",F+1+1+1),("firsts",F+1+1),("told",F+1)]) (λ_=>rfl) λF=>?_
 ·intro s S;exact dY rfl
 generalize (F+1+1+1:Nat)=c3;generalize (F+1+1:Nat)=c2;generalize (F+1:Nat)=c1;show ∃L₂,BX g A.in1 (ol (gy (top 15) "_law_works" "_law_works" .none kV doc pm cq ct) f F [("dues",c3),("firsts",c2),("told",c1)]) [("script",v)] ((c3,az none)::(c2,az none)::(c1,az none)::(F,am [])::L) L₂∧_
 refine ⟨_,BX.cons (a:=.ref l) (b7 (m:=[]) (by exact aw.tail (aw.tail (aw.tail aw.head)))) hv BX.nil,?_⟩;let E:=ol (gy (top 15) "_law_works" "_law_works" .none kV doc pm cq ct) f F [("dues",c3),("firsts",c2),("told",c1)];let j1:=A.deeper E;change SX g j1 _ E _ _
 refine lp λQ0 oF=>?_;have fB:bZ n j1:=hA.deeper;have hh:=fB.handled;refine dS (L:=(c1,az none)::(c2,az none)::(c3,az none)::(F,am [("script",.ref l)])::L) ?_ (aj.pick (aR.tail (aR.tail aR.head)) iI (aj.pick (aR.tail aR.head) iI (aj.pick aR.head iI aj.refl)));refine ul (hs:=by rfl) (P:=ai (jc sc)) (Pl (a:=l) (xs:=sc.map .int) (ys:=[4,0,8,0,1,9,4,2,7,6,0,5].map AV.int) (by rw [← aV,Qj]) ?h1 ?h2 ?h3 ?h4) λtl=>⟨_,iy rfl (aw.tail aw.head),?_⟩
 case h1=>k_all
 case h2=>exact hl
 case h4=>rw [ar];exact f9 (Nat.add_le_add_right hz 12) (by decide)
 case h3 =>
  refine Dw ?a ?b
  case b=>exact aZ rfl
  case a =>
   refine Re ?_;exact .cons (.cons (.cons (.cons (.cons (.cons (.cons (.cons (.cons (.cons (.cons (.cons .nil)))))))))))
 have Fs:((jc sc).map AV.int).length=(jc sc).length:=ar ..;refine iz (a:=.int (eN sc)) ?h1 (b7 (by k_upd)) ?_
 case h1 =>
  refine jX ?h2 gP (Rg (sc:=sc));refine AG (h1:=by rfl) (h2:=by rfl) (h3:=by rfl) (h4:=by rfl) (hE:=by rfl) (hs:=by rfl) T (l:=tl) (xs:=(jc sc).map .int) ?h3 ?h4 ?h5
  case h3=>k_all
  case h4=>k_mem
  case h5=>rw [Fs];exact bV (.i (.l .A (.c 1012)) (.l .A (.c 100000))) rfl qh
 refine ul (hs:=by rfl) (P:=ai (jG sc)) ?a1 ?a2
 case a1 =>
  refine CU (h1:=by rfl) (h2:=by rfl) (h3:=by rfl) (h4:=by rfl) (hE:=by rfl) (hs:=by rfl) (hclos:=by rfl) (hkind:=by rfl) (hcell:=by rfl) (hnames:=by rfl) (hfs:=by kst_p) T hh (cl:=[("told",c1)]) (λ_=>true) (λk=>.int (xB sc k)) ?b1 (n:=eN sc) ?b2 ?b5 (λ_=>rfl) (λ_=>rfl) ?b3 ?b4
  case b1=>rw [vG,jG,bt];rfl
  case b2=>k_all
  case b5=>exact BJ qh mT
  case b3=>intros;exact um
  case b4 =>
   intro C k hk _ acc ia P;exact Di (hs:=by kst_p) (ht:=by kst_p) (tl:=tl) (sc:=sc) (by k_all) (by k_all) (by k_mem) (j:=3*k) (bV (.E (.m 3 (.k .A)) (.k (.m 3 .A))) rfl) (bB (.i (.l (.m 3 .A) .B) (.i (.t .C .A) (.t (.m 3 .C) .B))) rfl mT hk) qh
 intro fa;refine ⟨_,iy rfl (by k_upd),?_⟩;refine GM (h1:=by rfl) (h2:=by rfl) (h3:=by rfl) (h4:=by rfl) (hE:=by rfl) (hs:=by rfl) (hsw:=by rfl) (hclos:=by rfl) (hkind:=by rfl) (hcell:=by rfl) (hnames:=by rfl) (hfs:=by kst_p) T hh (res:=(jV sc).map .int) (cl:=[("told",c1)]) (λ_=>true) (λk=>.int (AH sc k)) ?Zj (n:=eN sc) ?Zk ?Zl (λ_=>rfl) (λ_=>rfl) ?Zm ?Zn rfl ?b6t
 case Zj=>rw [vG,jV,bt];rfl
 case Zk=>k_all
 case Zl=>exact BJ qh mT
 case Zm=>intros;exact um
 case Zn =>
  intro C k hk _ acc ia P;refine jX (a:=.int ((jc sc).getD (3*k+1) 0).natAbs) ?c1t gP uq;refine PE.jL (mJ (gQ T (by k_mem)) (b9 (Di (hs:=by kst_p) (ht:=by kst_p) (tl:=tl) (sc:=sc) (by k_all) (by k_all) (by k_mem) (j:=3*k+1) (bV (.E (.a (.m 3 (.k .A)) .O) (.k (.a (.m 3 .A) .O))) rfl) (bB (.i (.l (.m 3 .A) .B) (.i (.t .C .A) (.t (.a (.m 3 .C) .O) .B))) rfl mT hk) qh) dh) jU (gp λ_ x=>by cases x) T3)
 intro ta;refine ⟨_,_,by k_upd,?_⟩;refine ul (hs:=by rfl) (P:=ai (ka sc)) ?Zo ?a2d
 case Zo =>
  refine CU (h1:=by rfl) (h2:=by rfl) (h3:=by rfl) (h4:=by rfl) (hE:=by rfl) (hs:=by rfl) (hclos:=by rfl) (hkind:=by rfl) (hcell:=by rfl) (hnames:=by rfl) (hfs:=by kst_p) T hh (cl:=[("told",c1)]) (λ_=>true) (λk=>.int (xQ sc k)) ?Zp (n:=eN sc) ?Zq ?Zr (λ_=>rfl) (λ_=>rfl) ?Zs ?Zt
  case Zp=>rw [vG,ka,bt];rfl
  case Zq=>k_all
  case Zr=>exact BJ qh mT
  case Zs=>intros;exact um
  case Zt =>
   intro C k hk _ acc ia P;exact Di (hs:=by kst_p) (ht:=by kst_p) (tl:=tl) (sc:=sc) (by k_all) (by k_all) (by k_mem) (j:=3*k+2) (bV (.E (.a (.m 3 (.k .A)) (.c 2)) (.k (.a (.m 3 .A) (.c 2)))) rfl) (bB (.i (.l (.m 3 .A) .B) (.i (.t .C .A) (.t (.a (.m 3 .C) (.c 2)) .B))) rfl mT hk) qh
 intro da;refine ⟨_,iy rfl (by k_upd),?_⟩;have Zu : ∀k,k<eN sc→((jG sc).map AV.int)[((k:Nat):Int).toNat]?=some (.int (xB sc k)):=λk hk=>by
  rw [bY,aA,jG,aA,dI hk];rfl
 have uY : ∀k,k<eN sc→((ka sc).map AV.int)[((k:Nat):Int).toNat]?=some (.int (xQ sc k)):=λk hk=>by
  rw [bY,aA,ka,aA,dI hk];rfl
 refine C' (cl:=[("firsts",c2),("dues",c3)]) (xs:=(jb 0 (eN sc)).map .int) (qG hh ?w1 ?w2) ?w3
 case w1=>exact pL T (by k_all)
 case w2=>exact BJ qh mT
 refine jE λH hH=>?_;intro acc C;have k0 : ∀k:Nat,(2*(k:Int)+1)≠0:=λk=>bV (.n (.E (.a (.m 2 (.k .A)) .O) .Z)) rfl;refine ⟨Nat→Nat→ay,λk φ=>(C,am [])::(acc,aM (cH (gU sc φ k)))::(d7 (gU sc φ k)++_),λ_ _=>0,λk x=>hH _,aj.pick (aR.tail aR.head) iI (aj.pick aR.head iI aj.refl),?_,?_⟩
 ·intro k φ a ha ia;refine b8 (nj ha) λhk af=>?_;subst af;refine ⟨_,jF (b7 (aw.tail aw.head)),true,um,(λh=>by cases h),λ_ s S=>?_⟩;refine Pi (hs:=by kst_p) (xs:=[.int (ly sc k 0),.int (ly sc k 1)]) rfl rfl S (Qi hh ?v1) ?v2
  case v1 =>
   refine vM ?u1 ?u2
   case u2=>exact aZ rfl
   case u1 =>
    refine b9 ?u3 (b9 ?u4 dh)
    case u3 =>
     refine jX (fM (l:=fa) (xs:=(jG sc).map .int) (k:=k) (a:=.int (xB sc k)) (by k_all) (by k_all) (by k_mem) (gR) (Ms qh mT hk) (Zu k hk)) (jX (jX gP (by k_all) (AC (qC (by decide)))) gP uq) ?_;exact Io (k0 k)
    case u4 =>
     refine jX (fM (l:=da) (xs:=(ka sc).map .int) (k:=k) (a:=.int (xQ sc k)) (by k_all) (by k_all) (by k_mem) (gR) (Ms qh mT hk) (uY k hk)) (jX (jX gP (by k_all) (AC (qC (by decide)))) gP uq) ?_;exact Io (k0 k)
  case v2 =>
   refine xk λH t yQ=>?_;generalize hX:((da,ai (ka sc))::_:ae)=X;refine ⟨Nat→ay,λj ψ=>(C,am [("i",.int k)])::(acc,aM (cH (gU sc φ k++eA (lC sc k) (nr sc k) ψ j)))::(d7 (gU sc φ k++eA (lC sc k) (nr sc k) ψ j)++((t,cg [.int (ly sc k 0),.int (ly sc k 1)])::ia::X)),λ_=>0,λj ψ=>yQ _ (by k_mem),?_,?_,?_⟩
   ·have e:gU sc φ k++eA (lC sc k) (nr sc k) (λ_=>0) 0=gU sc φ k:=by simp [eA]
    show aj ((C,am [("i",.int k)])::(acc,aM (cH (gU sc φ k++eA (lC sc k) (nr sc k) (λ_=>0) 0)))::(d7 (gU sc φ k++eA (lC sc k) (nr sc k) (λ_=>0) 0)++((t,cg [.int (ly sc k 0),.int (ly sc k 1)])::ia::X))) _
    rw [e];refine aj.pick (by k_upd) iI (aj.pick (by k_upd) iI (aj.perm ?_));exact bb (d7 (gU sc φ k)) [_,_] X
   ·refine Pk _ rfl [("i",.int k)] (gU sc φ k) (lC sc k) (nr sc k) (λj=>[("a",.int (ly sc k j)),("i",.int k)]) (λ_=>by k_upd) ?_ ?_ ?_ ?_
    ·have:=Pm sc φ k
     show (gU sc φ k).length+2≤100000
     exact fy (.i (.l .A (.c 1012)) (.i (.l (.m 3 .B) .A) (.i (.t .C .B) (.i (.l .D (.m 2 .C)) (.l (.a .D (.c 2)) (.c 100000)))))) rfl qh mT hk this
    ·intro j a ha ia P K;have ea:a = .int (ly sc k j):=by
      rcases j with _ | _ | j
      ·cases ha;rfl
      ·cases ha;rfl
      ·simp at ha
     subst ea;exact jF (b7 (aw.tail aw.head))
    ·intro j a ha ia P K;exact xA (eP (a:=.int (ly sc k j)) (b:=.int k) (by k_all) (by k_all) qN)
    ·intro j a ha hp ia P K;exact vM (b9 (a:=.int (ly sc k j)) (by k_all) (b9 (a:=.int k) (by k_all) dh)) (aZ rfl)
   ·intro ψ s' S';refine ⟨λi=>if i=k then ψ else φ i,?_⟩;show St g (ia::(C,am [])::(acc,aM (cH (gU sc (λi=>if i=k then ψ else φ i) (k+1))))::(d7 (gU sc (λi=>if i=k then ψ else φ i) (k+1))++X)) s'
    rw [O2];have S2:St g ((C,am [("i",.int k)])::(acc,aM (cH (gU sc φ k++eA (lC sc k) (nr sc k) ψ 2)))::(t,cg [.int (ly sc k 0),.int (ly sc k 1)])::ia::(d7 (gU sc φ k++eA (lC sc k) (nr sc k) ψ 2)++X)) s' :=
     S'.perm (((bb (d7 (gU sc φ k++eA (lC sc k) (nr sc k) ψ 2)) [_,_] X).cons _).cons _)
    exact S2.cX (aj.pick (by k_upd) iI (aj.pick aR.head (λ_ h=>iE.nil.ns _ h) (aj.pick aR.head iI (aj.skip aj.refl))))
 ·intro φ;rw [pH];refine ⟨_,_,aj.refl,b7 (aw.tail (aw.tail (aw.cE (by k_upd)))),?_⟩;have j2:=O1 sc φ;generalize gU sc φ (eN sc)=ps at j2;refine Iq (vM (b9 (a:=.ref fa) ?y1 (b9 (a:=.ref ta) ?y2 (b9 (a:=.ref da) ?y3 (b9 (a:=.ref acc) ?y4 dh)))) ?y5) ?y6
  case y1=>k_all
  case y2=>k_all
  case y3=>k_all
  case y4=>k_all
  case y5=>exact aZ rfl
  case y6 =>
   intro r s' S';refine oF _ _ ⟨_,⟨r,fa,ta,da,acc,ps,rfl,j2,rfl⟩,S'.cX ?_⟩;refine aj.pick aR.head iI (aj.pick (by k_upd) iI (aj.pick (by k_upd) iI (aj.pick (by k_upd) iI (aj.pick aR.head iI (aj.mO ?_)))));kcj_m
end
section
def KH{α:Type}(N:Nat)(bS:Nat→Nat→Bool):KasT α→(α→Prop)→Prop
 | .ret a,Q=>Q a
 | .ask i j k,Q=>i<N∧j<N∧KH N bS (k (bS i j)) Q
variable {N:Nat}{bS:Nat→Nat→Bool}
theorem KH.bind{α β:Type}{f:α→KasT β}{Q:β→Prop}: ∀{t:KasT α},KH N bS t (λa=>KH N bS (f a) Q)→KH N bS (t.bind f) Q
 | .ret _,h=>h
 | .ask i j k,h=>⟨h.1,h.2.1,KH.bind (t:=k (bS i j)) h.2.2⟩
theorem KH.mono{α:Type}{Q Q':α→Prop}(w : ∀a,Q a→Q' a): ∀{t:KasT α},KH N bS t Q→KH N bS t Q'
 | .ret _,h=>w _ h
 | .ask i j k,h=>⟨h.1,h.2.1,KH.mono w (t:=k (bS i j)) h.2.2⟩
theorem KH.wp{α:Type}{cmp:Nat→Nat→(Bool→aU→Prop)→aU→Prop}{Inv:aU→Prop}(hc : ∀i j,i<N→j<N→∀C s,Inv s→(∀s',Inv s'→C (bS i j) s')→cmp i j C s){Q:α→Prop}{R:α→aU→Prop}(hR : ∀a s,Q a→Inv s→R a s):
  ∀{t:KasT α} {s:aU},KH N bS t Q→Inv s→t.kasWp cmp R s
 | .ret a,s,h,hi=>hR a s h hi
 | .ask i j k,s,h,hi=>hc i j h.1 h.2.1 _ s hi λs' df=>KH.wp hc hR (t:=k (bS i j)) h.2.2 df
structure MB(bS:Nat→Nat→Bool):Prop where
 wh : ∀i j,bS i j=true→bS j i=false
 nt : ∀i j k,bS i j=false→bS j k=false→bS i k=false
def bf(bS:Nat→Nat→Bool)(i j:Nat):Prop:=bS j i=false∧(bS i j=false→i<j)
noncomputable abbrev G(p:Array Nat)(k:Nat):Nat:=p.getD k 0
theorem ym{p q:Array Nat}{i j:Nat}(h:p[i]?=q[j]?):G p i=G q j:=by
 show p.getD i 0=q.getD j 0
 rw [eg,eg,h]
structure Base(N:Nat)(p:Array Nat)(n:Nat):Prop where
 size:p.size=N
 le:n≤N
 tail : ∀k,n≤k→k<N→G p k=k
 low : ∀k,k<n→G p k<n
 perm:p.Perm (ba (aF N))
variable {k:Nat}
theorem Base.lt(h:Base N p n)(hk:k<N):G p k<N:=by
 by_cases h1:k<n
 ·exact dX (h.low k h1) h.le
 ·rw [h.tail k (yG h1) hk];exact hk
theorem Base.succ{p:Array Nat}{n:Nat}(h:Base N p n)(hn:n<N):Base N p (n+1) :=
 ⟨h.size,hn,λk h1 h2=>h.tail k (Mt h1) h2,λk hk=>by
  by_cases h1:k<n
  ·have:=h.low k h1;exact wA this
  ·have e:k=n:=BK hk h1;subst e;rw [h.tail k (bV (.l .A .A) rfl) hn];exact yH,h.perm⟩
theorem oZ(hj:j≤p.size):G (Nz p i j) k=if i≤k∧k<j then G p (i+j-1-k) else G p k:=by
 have e:=getElem?_mirror_all (xs:=p) (i:=i) hj k;by_cases h:i≤k∧k<j
 ·rw [Qct h] at e ⊢;exact ym e
 ·rw [Qcs h] at e ⊢;exact ym e
theorem Base.rev(h:Base N p n):Base N (Nz p i n) n:=by
 have hj:n≤p.size:=by rw [h.size];exact h.le
 refine ⟨by rw [Nz,mirror_size];exact h.size,h.le,λk h1 h2=>?_,λk hk=>?_,(mirror_perm ..).trans h.perm⟩
 ·rw [oZ hj,Qcs (by exact bB (.i (.l .A .B) (.n (.a (.l .C .B) (.t .B .A)))) rfl h1)];exact h.tail k h1 h2
 ·rw [oZ hj];split
  ·exact h.low _ (bB (.i (.a (.l .A .B) (.t .B .C)) (.t (.s (.s (.a .A .C) .O) .B) .C)) rfl (by assumption))
  ·exact h.low _ hk
structure kf(N:Nat)(bS:Nat→Nat→Bool)(p:Array Nat)(n:Nat):Prop extends Base N p n where
 pre : ∀a b,a<b→b<n→bf bS (G p a) (G p b)
structure rN(N:Nat)(bS:Nat→Nat→Bool)(p:Array Nat)(n:Nat):Prop extends Base N p n where
 pre : ∀a b,a<b→b<n→bf bS (G p b) (G p a)
structure sf(N:Nat)(bS:Nat→Nat→Bool)(p:Array Nat)(n q:Nat):Prop extends Base N p n where
 qn:q+1≤n
 desc : ∀a b,a<b→b<n-1-q→bf bS (G p b) (G p a)
 xR : ∀a b,a<n-1-q→n-1-q≤b→b<n→bS (G p b) (G p a)=true
 BP : ∀a b,n-1-q≤a→a<b→b<n→bS (G p a) (G p b)=false∧bS (G p b) (G p a)=false∧G p a<G p b
variable (W:MB bS)
include W
theorem kf.ext1(h:kf N bS p n)(hn:n<N)(h0:0<n)(ha:bS (G p n) (G p (n-1))=false):kf N bS p (n+1):=by
 refine ⟨h.toBase.succ hn,λa b fe hb=>?_⟩;by_cases h1:b<n
 ·exact h.pre a b fe h1
 ·have e:b=n:=BK hb h1;subst e;have h2:bS (G p b) (G p a)=false:=by
   by_cases h3:a=b-1
   ·subst h3;exact ha
   ·exact W.nt _ _ _ ha (h.pre a (b-1) (Fh fe h3) (bV (.i (.t .Z .A) (.t (.s .A .O) .A)) rfl h0)).1
  exact ⟨h2,λ_=>by rw [h.tail b (cB _) hn];exact h.low a (Fi fe)⟩
theorem I5: ∀(f n:Nat),kf N bS p n→0<n→n+f=N→KH N bS (kas_asc p f n) λm=>kf N bS p m∧0<m∧(m<N→bS (G p m) (G p (m-1))=true):=by
 intro f
 induction f with
 | zero=>intro n h h0 hf;exact ⟨h,h0,λhm=>by exact eO (bK (.i (.e (.a .A .Z) .B) (.i (.t .A .B) .f)) rfl hf hm)⟩
 | succ f ih =>
  intro n h h0 hf;refine ⟨h.toBase.lt (qZ hf),h.toBase.lt (Fj hf),?_⟩;cases e:bS (p.getD n 0) (p.getD (n-1) 0) with
  | true=>exact ⟨h,h0,λ_=>e⟩
  | false=>exact ih (n+1) (h.ext1 W (qZ hf) h0 e) (bV (.t .Z (.a .A .O)) rfl) (yI hf)
theorem kf.XH(h:kf N bS p n):rN N bS (Nz p 0 n) n:=by
 have hj:n≤p.size:=by rw [h.size];exact h.le
 refine ⟨h.toBase.rev,λa b fe hb=>?_⟩;rw [oZ hj,oZ hj,Qct (by exact Fk hb),Qct (by exact Mu fe hb)];exact h.pre _ _ (J2 fe hb) (J3 hb)
theorem rN.good(h:rN N bS p n):kf N bS (Nz p 0 n) n:=by
 have hj:n≤p.size:=by rw [h.size];exact h.le
 refine ⟨h.toBase.rev,λa b fe hb=>?_⟩;rw [oZ hj,oZ hj,Qct (by exact Mu fe hb),Qct (by exact Fk hb)];exact h.pre _ _ (J2 fe hb) (J3 hb)
theorem rN.Ft(h:rN N bS p n)(hn:n<N)(hc : ∀a,a<n→bS (G p n) (G p a)=true):sf N bS p (n+1) 0:=by
 refine ⟨h.toBase.succ hn,bV (.l (.a .Z .O) (.a .A .O)) rfl,λa b fe hb=>h.pre a b fe (J4 hb),λa b ha hb wH=>?_,λa b h1 h2 h3=>W2 h1 h2 h3⟩;have e:b=n:=bK (.i (.l (.s (.s (.a .A .O) .O) .Z) .B) (.i (.t .B (.a .A .O)) (.e .B .A))) rfl hb wH;subst e;exact hc a (J4 ha)
theorem sf.I6(h:sf N bS p n 0):rN N bS p n:=by
 refine ⟨h.toBase,λa b fe hb=>?_⟩;by_cases h1:b<n-1-0
 ·exact h.desc a b fe h1
 ·have hc:=h.xR a b (bB (.i (.t .A .B) (.i (.t .B .C) (.t .A (.s (.s .C .O) .Z)))) rfl fe hb) (bK (.i (.n (.t .A (.s (.s .B .O) .Z))) (.l (.s (.s .B .O) .Z) .A)) rfl h1) hb;exact ⟨W.wh _ _ hc,λhf=>by rw [hc] at hf;cases hf⟩
theorem sf.flush{q:Nat}(h:sf N bS p n q):rN N bS (Nz p (n-(q+1)) n) n:=by
 have hj:n≤p.size:=by rw [h.size];exact h.le
 have hq:=h.qn;refine ⟨h.toBase.rev,λa b fe hb=>?_⟩;rw [oZ hj,oZ hj];by_cases h1:b<n-1-q
 ·rw [Qcs (by exact J5 h1),Qcs (by exact fy (.i (.t .A .B) (.i (.t .B (.s (.s .C .O) .D)) (.n (.a (.l (.s .C (.a .D .O)) .A) (.t .A .C))))) rfl fe h1)];exact h.desc a b fe h1
 ·rw [Qct (by exact bB (.i (.t .A .B) (.i (.n (.t .A (.s (.s .B .O) .C))) (.a (.l (.s .B (.a .C .O)) .A) (.t .A .B)))) rfl hb h1)];by_cases h2:a<n-1-q
  ·rw [Qcs (by exact J5 h2)];have hc:=h.xR a (n-(q+1)+n-1-b) h2 (J6 hb) (bB (.i (.t .A .B) (.i (.n (.t .A (.s (.s .B .O) .C))) (.t (.s (.s (.a (.s .B (.a .C .O)) .B) .O) .A) .B))) rfl hb h1);exact ⟨W.wh _ _ hc,λhf=>by rw [hc] at hf;cases hf⟩
  ·rw [Qct (by exact fy (.i (.t .A .B) (.i (.t .B .C) (.i (.n (.t .A (.s (.s .C .O) .D))) (.a (.l (.s .C (.a .D .O)) .A) (.t .A .C))))) rfl fe hb h2)];refine fU (h.BP (n-(q+1)+n-1-b) (n-(q+1)+n-1-a) (J6 hb) (fy (.i (.t .A .B) (.i (.t .B .C) (.t (.s (.s (.a (.s .C (.a .D .O)) .C) .O) .B) (.s (.s (.a (.s .C (.a .D .O)) .C) .O) .A)))) rfl fe hb) (fy (.i (.t .A .B) (.i (.n (.t .C (.s (.s .B .O) .D))) (.t (.s (.s (.a (.s .B (.a .D .O)) .B) .O) .C) .B))) rfl hb h2)) λe1 e2 e3=>?_;exact ⟨e2,λ_=>e3⟩
theorem sf.below{p:Array Nat}{n q x:Nat}(h:sf N bS p n q)(hx:bS x (G p (n-1))=true): ∀a,a<n→bS x (G p a)=true:=by
 intro a ha;have hq:=h.qn;cases e:bS x (G p a) with
 | true=>rfl
 | false =>
  have h2:bS (G p a) (G p (n-1))=false:=by
   by_cases h1:a<n-1-q
   ·exact W.wh _ _ (h.xR a (n-1) h1 (J7) (A9 hq))
   ·by_cases h3:a=n-1
    ·subst h3;cases e2:bS (G p (n-1)) (G p (n-1)) with
     | false=>rfl
     | true=>have:=W.wh _ _ e2;rw [e2] at this;cases this
    ·exact (h.BP a (n-1) (bB (.i (.n (.t .A (.s (.s .B .O) .C))) (.l (.s (.s .B .O) .C) .A)) rfl h1) (Fh ha h3) (A9 hq)).1
  rw [W.nt _ _ _ e h2] at hx;cases hx
theorem SJ:∀(f:Nat) (p:Array Nat) (n q:Nat),sf N bS p n q→n+f=N→KH N bS (kas_desc f p n q) λr=>sf N bS r.1 r.2.1 r.2.2:=by
 intro f
 induction f with
 | zero=>intro p n q h hf;exact h
 | succ f ih =>
  intro p n q h hf;have hq:=h.qn;refine ⟨h.toBase.lt (qZ hf),h.toBase.lt (Fj hf),?_⟩;cases e:bS (p.getD n 0) (p.getD (n-1) 0) with
  | true =>
   simp only [if_true];have hb:=h.below W (x:=G p n) e;have hj:n≤p.size:=by rw [h.size];exact h.le
   by_cases uZ:q>0
   ·rw [Qct uZ];refine ih _ (n+1) 0 ((h.flush W).Ft W (qZ hf) λa ha=>?_) (yI hf);rw [oZ hj,oZ hj,Qcs (by exact bK (.n (.a (.l (.s .A (.a .B .O)) .A) (.t .A .A))) rfl)];split
    ·exact hb _ (bB (.i (.a (.l (.s .A (.a .B .O)) .C) (.t .C .A)) (.t (.s (.s (.a (.s .A (.a .B .O)) .A) .O) .C) .A)) rfl (by assumption))
    ·exact hb _ ha
   ·rw [Qcs uZ];have e0:q=0:=J8 uZ;subst e0;exact ih _ (n+1) 0 ((h.I6 W).Ft W (qZ hf) hb) (yI hf)
  | false =>
   simp only [bp,Qcv];refine ⟨h.toBase.lt (Fj hf),h.toBase.lt (qZ hf),?_⟩;cases e2:bS (p.getD (n-1) 0) (p.getD n 0) with
   | true=>exact h
   | false =>
    simp only [bp,Qcv];refine ih p (n+1) (q+1) ⟨h.toBase.succ (qZ hf),bK (.i (.l (.a .A .O) .B) (.l (.a (.a .A .O) .O) (.a .B .O))) rfl hq,λa b fe hb=>h.desc a b fe (Et hb),λa b ha hb wH=>?_,λa b h1 h2 h3=>?_⟩ (yI hf)
    ·by_cases h4:b<n
     ·exact h.xR a b (Et ha) (Eu hb) h4
     ·have e4:b=n:=BK wH h4;subst e4;cases e5:bS (G p b) (G p a) with
      | true=>rfl
      | false =>
       have:=h.xR a (b-1) (Et ha) (J7) (A9 hq)
       rw [W.nt _ _ _ e2 e5] at this;cases this
    ·by_cases h4:b<n
     ·exact h.BP a b (Eu h1) h2 h4
     ·have e4:b=n:=BK h3 h4;subst e4;have yn:G p a<G p b:=by rw [h.tail b (cB _) (qZ hf)];exact h.low a h2
      by_cases h5:a=b-1
      ·subst h5;exact ⟨e2,e,yn⟩
      ·refine fU (h.BP a (b-1) (Eu h1) (Fh h2 h5) (A9 hq)) λf1 f2 f3=>?_;exact ⟨W.nt _ _ _ f1 e2,W.nt _ _ _ e f2,yn⟩
theorem HO(h:rN N bS p n)(h0:0<n):KH N bS (kas_tail3 n N p) λr=>kf N bS r.2 r.1∧0<r.1:=by
 unfold kas_tail3
 have:=h.le
 exact KH.bind (KH.mono (λm hm=>⟨hm.1,hm.2.1⟩) (I5 W (N-n) n (h.good W) h0 (bK (.i (.l .A .B) (.e (.a .A (.s .B .A)) .B)) rfl this)))
theorem G2(h:rN N bS p n)(hn:n<N)(hc : ∀a,a<n→bS (G p n) (G p a)=true):KH N bS (kas_descPart n N p) λr=>kf N bS r.2 r.1∧0<r.1:=by
 unfold kas_descPart;refine KH.bind (KH.mono ?_ (SJ W (N-(n+1)) p (n+1) 0 (h.Ft W hn hc) (bK (.i (.t .A .B) (.e (.a (.a .A .O) (.s .B (.a .A .O))) .B)) rfl hn)));intro bz;obtain ⟨p',n',q'⟩:=bz;intro hd;dsimp only at hd ⊢
 have:=hd.qn
 by_cases hq:q'>0
 ·rw [Qct hq];exact HO W (hd.flush W) (bK (.i (.l (.a .A .O) .B) (.t .Z .B)) rfl this)
 ·rw [Qcs hq];have e0:q'=0:=J8 hq;subst e0;exact HO W (hd.I6 W) (bV (.i (.l (.a .Z .O) .A) (.t .Z .A)) rfl this)
theorem Ix(hk:k<N):G (ba (aF N)) k=k:=by
 show (ba (aF N)).getD k 0=k
 rw [eg];simp [hk]
theorem Ri(hN:0<N):kf N bS (ba (aF N)) 1:=by
 refine ⟨⟨by simp,hN,λk _ hk=>Ix W hk,λk hk=>by rw [Ix W (by exact bK (.i (.t .Z .A) (.i (.t .B .O) (.t .B .A))) rfl hN hk)];exact hk,Array.Perm.refl _⟩,λa b h1 h2=>by exact eO (bK (.i (.t .A .B) (.i (.t .B .O) .f)) rfl h1 h2)⟩
theorem Rj(hN:0<N):KH N bS (kas_count N (ba (aF N))) λr=>kf N bS r.2 r.1∧0<r.1:=by
 unfold kas_count;refine KH.bind (KH.mono ?_ (I5 W (N-1) 1 (Ri W hN) (kU (.t .Z .O) rfl) (bV (.i (.t .Z .A) (.e (.a .O (.s .A .O)) .A)) rfl hN)));intro m bz;refine fU bz λhg h0 hm=>?_;generalize (ba (aF N))=p at hg hm;by_cases h1:m=N
 ·rw [Qct (by simpa using h1)];exact ⟨hg,h0⟩
 ·rw [Qcs (by simpa using h1)];have hle:=hg.le;have aY:m<N:=bK (.i (.n (.e .A .B)) (.i (.l .A .B) (.t .A .B))) rfl h1 hle;have hj:m≤p.size:=by rw [hg.size];exact J9 aY
  by_cases h2:m>1
  ·rw [Qct h2];refine ⟨hg.toBase.lt (bV (.i (.t .Z .A) (.t .Z .A)) rfl hN),hg.toBase.lt (bK (.i (.t .A .B) (.t (.s .A .O) .B)) rfl aY),?_⟩;cases e:bS (p.getD 0 0) (p.getD (m-1) 0) with
   | true=>exact ⟨hg,h0⟩
   | false =>
    simp only [bp,Qcv];refine G2 W (hg.XH W) aY λa ha=>?_;rw [oZ hj,oZ hj,Qcs (by exact bV (.n (.a (.l .Z .A) (.t .A .A))) rfl),Qct (by exact Fk ha)];cases e2:bS (G p m) (G p (0+m-1-a)) with
    | true=>rfl
    | false =>
     have h3:bS (G p (0+m-1-a)) (G p 0)=false:=by
      by_cases h4:0+m-1-a=0
      ·rw [h4];cases e5:bS (G p 0) (G p 0) with
       | false=>rfl
       | true=>have:=W.wh _ _ e5;rw [e5] at this;cases this
      ·exact (hg.pre 0 _ (bK (.i (.n (.e (.s (.s (.a .Z .A) .O) .B) .Z)) (.t .Z (.s (.s (.a .Z .A) .O) .B))) rfl h4) (bK (.i (.t .A .B) (.t (.s (.s (.a .Z .B) .O) .A) .B)) rfl ha)).1
     have:=hm aY
     rw [W.nt _ _ _ e2 (W.nt _ _ _ h3 e)] at this;cases this
  ·rw [Qcs h2];have e1:m=1:=bV (.i (.t .Z .A) (.i (.n (.t .O .A)) (.e .A .O))) rfl bz.2.1 h2;subst e1;refine G2 W ⟨hg.toBase,λa b h3 h4=>by exact eO (bK (.i (.t .A .B) (.i (.t .B .O) .f)) rfl h3 h4)⟩ aY λa ha=>?_;have e0:a=0:=bV (.i (.t .A .O) (.e .A .Z)) rfl ha;subst e0;exact hm aY
theorem Rk(hg:kf N bS p k)(hk:k<N): ∀(f l r:Nat),l≤r→r≤k→r-l≤f→(∀a,a<l→bS (G p k) (G p a)=false)→(∀a,r≤a→a<k→bS (G p k) (G p a)=true) →
  KH N bS (kas_place p k f l r) λm=>m≤k∧(∀a,a<m→bS (G p k) (G p a)=false)∧∀a,m≤a→a<k→bS (G p k) (G p a)=true:=by
 intro f
 induction f with
 | zero =>
  intro l r h1 h2 h3 h4 h5;have e:l=r:=bK (.i (.l .A .B) (.i (.l (.s .B .A) .Z) (.e .A .B))) rfl h1 h3;subst e;exact ⟨h2,h4,h5⟩
 | succ f ih =>
  intro l r h1 h2 h3 h4 h5;unfold kas_place;by_cases tv:l≥r
  ·rw [Qct tv];have e:l=r:=bK (.i (.l .A .B) (.i (.l .B .A) (.e .A .B))) rfl h1 tv;subst e;exact ⟨h2,h4,h5⟩
  ·rw [Qcs tv];refine ⟨hg.toBase.lt hk,hg.toBase.lt (W3 hk h2 tv),?_⟩;cases e:bS (p.getD k 0) (p.getD ((l+r)/2) 0) with
   | true =>
    simp only [if_true];refine ih l _ (W4 tv) (W5 h2 tv) (W6 h3) h4 λa ha Zv=>?_;cases e2:bS (G p k) (G p a) with
    | true=>rfl
    | false =>
     by_cases h6:a=(l+r)/2
     ·subst h6;have e':bS (G p k) (G p ((l+r)/2))=true:=e;rw [e'] at e2;cases e2
     ·have h7:=(hg.pre ((l+r)/2) a (W7 ha h6) Zv).1;have e':bS (G p k) (G p ((l+r)/2))=true:=e;rw [W.nt _ _ _ e2 h7] at e';cases e'
   | false =>
    simp only [bp,Qcv];refine ih _ r (W8 tv) h2 (W9 h3) (λa ha=>?_) h5;by_cases h6:a=(l+r)/2
    ·subst h6;exact e
    ·exact W.nt _ _ _ e (hg.pre a ((l+r)/2) (W' ha h6) (Xa h2 tv)).1
theorem Rl{p:Array Nat}{src d k:Nat}(hs:src<p.size)(hd:d≤src):G (bubble p src d) k=if k=src-d then G p src else if src-d<k∧k≤src then G p (k-1) else G p k:=by
 have e:=getElem?_bubble hs d hd k;by_cases h1:k=src-d
 ·rw [Qct h1] at e ⊢;exact ym e
 ·rw [Qcs h1] at e ⊢;by_cases h2:src-d<k∧k≤src
  ·rw [Qct h2] at e ⊢;exact ym e
  ·rw [Qcs h2] at e ⊢;exact ym e
theorem kf.put{p:Array Nat}{k m:Nat}(h:kf N bS p k)(hk:k<N)(hm:m≤k)(h1 : ∀a,a<m→bS (G p k) (G p a)=false)(h2 : ∀a,m≤a→a<k→bS (G p k) (G p a)=true):kf N bS (bubble p k (k-m)) (k+1):=by
 have hs:k<p.size:=by rw [h.size];exact hk
 have hd:k-m≤k:=bK (.l (.s .A .B) .A) rfl;have em:k-(k-m)=m:=bK (.i (.l .A .B) (.e (.s .B (.s .B .A)) .A)) rfl hm;have gk:=h.tail k (cB _) hk;have g : ∀x,G (bubble p k (k-m)) x=if x=m then G p k else if m<x∧x≤k then G p (x-1) else G p x:=λx=>by rw [Rl W hs hd,em]
 refine ⟨⟨by rw [bubble_size];exact h.size,hk,λx h3 h4=>?_,λx hx=>?_,(bubble_perm ..).trans h.perm⟩,λa b fe hb=>?_⟩
 ·rw [g,Qcs (by exact bB (.i (.e (.s .A (.s .A .B)) .B) (.i (.l (.a .A .O) .C) (.n (.e .C .B)))) rfl em h3),Qcs (by exact bB (.i (.l (.a .A .O) .B) (.n (.a (.t .C .B) (.l .B .A)))) rfl h3)];exact h.tail x (by exact Mt h3) h4
 ·rw [g];by_cases jK:x=m
  ·rw [Qct jK,gk];exact yH
  ·rw [Qcs jK];by_cases tp:m<x∧x≤k
   ·rw [Qct tp];have:=h.low (x-1) (bB (.i (.a (.t .A .B) (.l .B .C)) (.t (.s .B .O) .C)) rfl tp);exact wA this
   ·rw [Qcs tp];have:=h.low x (bB (.i (.e (.s .A (.s .A .B)) .B) (.i (.t .C (.a .A .O)) (.i (.n (.e .C .B)) (.i (.n (.a (.t .B .C) (.l .C .A))) (.t .C .A))))) rfl em hx jK tp);exact wA this
 ·rw [g,g];by_cases wI:b=m
  ·rw [Qct wI,Qcs (by exact bB (.i (.t .A .B) (.i (.e .B .C) (.n (.e .A .C)))) rfl fe wI),Qcs (by exact fy (.i (.t .A .B) (.i (.e .B .C) (.n (.a (.t .C .A) (.l .A .D))))) rfl fe wI)];exact ⟨h1 a (Ev fe wI),λ_=>by rw [gk];exact h.low a (bB (.i (.t .A .B) (.i (.t .B (.a .C .O)) (.t .A .C))) rfl fe hb)⟩
  ·rw [Qcs wI];by_cases yS:a=m
   ·rw [Qct yS,Qct (by exact fy (.i (.t .A .B) (.i (.t .B (.a .C .O)) (.i (.e .A .D) (.a (.t .D .B) (.l .B .C))))) rfl fe hb yS)];have hc:=h2 (b-1) (bB (.i (.t .A .B) (.i (.e .A .C) (.l .C (.s .B .O)))) rfl fe yS) (Ew fe hb);exact ⟨W.wh _ _ hc,λhf=>by rw [hc] at hf;cases hf⟩
   ·rw [Qcs yS];by_cases h3:m<a
    ·rw [Qct (by exact fy (.i (.t .A .B) (.i (.t .B (.a .C .O)) (.i (.t .D .A) (.a (.t .D .A) (.l .A .C))))) rfl fe hb h3),Qct (by exact fy (.i (.t .A .B) (.i (.t .B (.a .C .O)) (.i (.t .D .A) (.a (.t .D .B) (.l .B .C))))) rfl fe hb h3)];exact h.pre _ _ (by exact bB (.i (.t .A .B) (.i (.t .C .A) (.t (.s .A .O) (.s .B .O)))) rfl fe h3) (by exact Ew fe hb)
    ·rw [Qcs (by exact J' h3)];by_cases h4:m<b
     ·rw [Qct (by exact bB (.i (.t .A (.a .B .O)) (.i (.t .C .A) (.a (.t .C .A) (.l .A .B)))) rfl hb h4)];exact h.pre _ _ (by exact bB (.i (.n (.e .A .B)) (.i (.n (.t .B .A)) (.i (.t .B .C) (.t .A (.s .C .O))))) rfl yS h3 h4) (by exact Ew fe hb)
     ·rw [Qcs (by exact J' h4)];exact h.pre _ _ (by exact Fi fe) (by exact bB (.i (.e (.s .A (.s .A .B)) .B) (.i (.n (.e .C .B)) (.i (.n (.t .B .C)) (.t .C .A)))) rfl em wI h4)
theorem T5:∀(f:Nat) (p:Array Nat) (k:Nat),kf N bS p k→k+f=N→KH N bS (kas_bin f p k) λp'=>kf N bS p' N:=by
 intro f
 induction f with
 | zero =>
  intro p k h hf;have e:k=N:=bK (.i (.e (.a .A .Z) .B) (.e .A .B)) rfl hf;subst e;exact h
 | succ f ih =>
  intro p k h hf;unfold kas_bin;refine KH.bind (KH.mono ?_ (Rk W h (qZ hf) k 0 k (bV (.l .Z .A) rfl) (cB _) (bV (.l (.s .A .Z) .A) rfl) (λa ha=>by exact eO (bV (.i (.t .A .Z) .f) rfl ha)) λa h1 h2=>by exact eO (bK (.i (.l .A .B) (.i (.t .B .A) .f)) rfl h1 h2)));intro m bz;refine fU bz λhm h1 h2=>?_;exact ih _ (k+1) (h.put W (qZ hf) hm h1 h2) (yI hf)
theorem Iy(hN:0<N):KH N bS (kas_sort N) λp=>kf N bS p N:=by
 unfold kas_sort;refine KH.bind (KH.mono ?_ (Rj W hN));intro bz;obtain ⟨n,p⟩:=bz;intro eM;refine b8 eM λhg h0=>?_;dsimp only at hg h0 ⊢;have hle:=hg.le;by_cases h1:n<N
 ·rw [Qct h1];have e:max n 1=n:=bV (.i (.t .Z .A) (.e (.x .A .O) .A)) rfl eM.2;rw [e];exact T5 W (N-n) p n hg (bK (.i (.t .A .B) (.e (.a .A (.s .B .A)) .B)) rfl h1)
 ·rw [Qcs h1];have e:n=N:=BI hle h1;subst e;exact hg
end
section
variable {g:Gd}{A:bg}{L L' L₁ L₂ bH:ae}{env:Env}
noncomputable def uw(F:ay)(h:Heap):List (ay×Obj):=(aF h.objs.size).filterMap λb=>if b=F then none else (h.get? b).map λo=>(b,o)
variable {p:ay×Obj}
theorem t7:p∈uw F h↔p.1≠F∧h.get? p.1=some p.2:=by
 unfold uw;rw [List.mem_filterMap];constructor
 ·intro bz;refine ap bz λb _ hb=>?_;split at hb
  ·cases hb
  ·rename_i fw;refine ap (Option.map_eq_some_iff.mp hb) λo ho af=>?_;subst af;exact ⟨fw,ho⟩
 ·intro bz;refine b8 bz λh1 h2=>?_;refine ⟨p.1,List.mem_range.mpr (eu h2),?_⟩;rw [Qcs h1,h2];rfl
noncomputable abbrev wj:Heap:={ objs := #[] }
theorem HP(a:ay):wj.get? a=none:=by unfold Heap.get?;simp
theorem St.fr(S:St g L s)(hF:(F,am m)∈L): ∃mm,Fr wj F s.heap mm∧News wj F s.heap (uw F s.heap)∧∀x a,m.lookup x=some a→∃v,mm x=some v∧AV.Is v a:=by
 refine ap (AS S hF) λmm h1 h2=>?_;exact ⟨mm,⟨h1,λb o e=>by (rw [HP] at e;cases e),cM _⟩,λp hp=>⟨(t7.mp hp).2,(t7.mp hp).1,HP _⟩,h2⟩
theorem St.back{D:ay}(S:St g L s)(hF:(F,am m)∈L)(hm : ∀x a,m.lookup x=some a→∃v,mm x=some v∧AV.Is v a)
  (F':Fr wj F h' mm) (N':News wj F h' ((D,o)::uw F s.heap)) (hD : ∀q∈uw F s.heap,q.1<D) (hP:P o) (tk:Nat):St g ((D,P)::L) { s with heap:=h',toks:=tk }:=by
 have keep : ∀b x,b≠F→s.heap.get? b=some x→h'.get? b=some x:=λb x hb e=>(N' (b,x) (.tail _ (t7.mpr ⟨hb,e⟩))).1;have MC:=N' (D,o) (.head _);have MD:g.dB.objs.size≤F∨F∈g.tabs:=S.bound _ hF;refine ⟨?_,?_,?_,λb x e hn=>keep b x (λhb=>?_) (S.keep b x e hn),S.last,S.gens,S.os,S.ow,S.oz⟩
 ·rw [aB,cG];refine ⟨λhk=>?_,S.nodup⟩;refine ap (List.mem_map.mp hk) λp hp e=>?_;by_cases yT:p.1=F
  ·exact MC.2.1 (by rw [← yT,← e])
  ·refine ap (S.objs p hp) λx h1 h2=>?_
   have:=hD (p.1,x) (t7.mpr ⟨yT,h1⟩)
   dsimp only at this e;rw [e] at this;exact fZ _ this
 ·intro p hp;rcases List.mem_cons.mp hp with rfl | hp
  ·exact ⟨o,MC.1,hP⟩
  ·by_cases yT:p.1=F
   ·have e:p=(F,am m):=by
     have d9:=S.nodup;have : ∀{l:ae},(l.map (·.1)).Nodup→∀{q r:fN},q∈l→r∈l→q.1=r.1→q=r:=by
      intro l
      induction l with
      | nil=>intro _ q r hq;cases hq
      | cons t l ih =>
       intro hn q r hq hr e;rw [aB,cG] at hn;rcases List.mem_cons.mp hq with h1 | h1<;>rcases List.mem_cons.mp hr with h2 | h2
       ·rw [h1,h2]
       ·exact absurd (List.mem_map.mpr ⟨r,h2,by rw [← e,h1]⟩) hn.1
       ·exact absurd (List.mem_map.mpr ⟨q,h1,by rw [e,h2]⟩) hn.1
       ·exact ih hn.2 h1 h2 e
     exact this d9 hp hF yT
    subst e;refine lF F'.ns λx es ep h1 h2 h3 h4=>?_;exact ⟨x,h1,es,ep,h2,h3,λy a hy=>by obtain ⟨v,h5,h6⟩:=hm y a hy;exact ⟨v,by rw [h4];exact h5,h6⟩⟩
   ·refine ap (S.objs p hp) λx h1 h2=>?_;exact ⟨x,keep _ _ yT h1,h2⟩
 ·intro p hp;rcases List.mem_cons.mp hp with rfl | hp
  ·refine ap S.last λx h1 h2=>?_;have h3:g.dB.objs.size-1≠F:=λe=>by
    have h4:(g.dB.objs.size-1:Nat)<g.dB.objs.size:=eu h1;rcases MD with h | h
    ·have h6:g.dB.objs.size≤(g.dB.objs.size-1:Nat):=by rw [← e] at h;exact h
     exact bK (.i (.e (.s .A .O) .B) (.i (.t (.s .A .O) .A) (.i (.l .A .B) .f))) rfl e h4 h
    ·rw [← e] at h;exact h2 h
   have h5:=hD (_,x) (t7.mpr ⟨h3,S.keep _ _ h1 h2⟩);refine .inl ?_;have tw:(g.dB.objs.size-1:Nat)<(D:Nat):=h5;show (g.dB.objs.size:Nat)≤D
   exact z0 tw
  ·exact S.bound p hp
 ·subst hb;rcases MD with h | h
  ·exact fZ _ (dX (eu e) h)
  ·exact hn h
section
variable {prog:QbG}{w:sz}{E:aq→aU→Prop}{s:aU}
theorem Om{a:ay}{vs:List aq}{n:Nat}{P:Qay→aU→Prop}(ho:s.heap.get? a=some (seqObj "list" vs.toArray n))(h2:vs.length<2)
  (h:P (.done (.ret .none)) { s with heap:=sortedHeap s.heap a vs vs.toArray }):aJ (bD prog w) A (ey.«list.sort» ⟨[.ref a],[]⟩) P E s:=by
 rw [list_sort_plain];have ha:a<s.heap.objs.size:=eu ho;refine ab (Qas ho rfl ?_);refine ab (Oa ho rfl ?_ (by rw [eh,sizeLine_eq];exact Ba h2) (cM _));obtain ⟨e1,BQ⟩ : ∃e1,(s.heap.update a (iU λ_ => #[])).get? a=some (seqObj "list" #[] e1):=⟨_,Qb9 ho (λ_ => #[])⟩;refine ab (Gj BQ rfl ?_);refine ab (n4 ?_ (by show vs.length≤_;rw [sizeLine_eq];exact Ba h2));refine ab (lg ?_ (cM _));refine aK ?_;have ME:(((s.heap.update a (iU λ_ => #[])).push (seqObj "tuple" vs.toArray 0)).push (seqObj "list" #[] 0)).get? a=some (seqObj "list" #[] e1):=by
  rw [ru _ _ _ (by rw [Qbp,sD];exact lT (zD ha)),ru _ _ _ (by rw [sD];exact lT ha)];exact BQ
 show aJ (bD prog w) A _ P E { s with heap:=((s.heap.update a (iU λ_ => #[])).push (seqObj "tuple" vs.toArray 0)).push (seqObj "list" #[] 0) };dsimp only;have gB:vs.toArray.size<2:=by simpa using h2
 rw [Qct gB,Qct gB];refine ab (ah ?_);rw [StateT.run_pure];refine ab (ah ?_);dsimp only;have em:(arrOf (SortSt.mk' general' (vs.toArray.zip vs.toArray) #[] 7 none)).map (·.2)=vs.toArray:=by
  show (vs.toArray.zip vs.toArray).map (·.2)=vs.toArray
  apply Array.toList_inj.mp;rw [QaI,QaH,zF (cB _)]
 refine ab (Gj ME rfl ?_);refine ab (Oa ME rfl ?_ (hsz2:=by rw [sizeLine_eq];show (Array.map (·.2) (vs.toArray.zip vs.toArray)).size≤_;rw [Cz,Array.size_zip,eh];exact bV (.i (.t .A (.c 2)) (.l (.n .A .A) (.a (.c 16777216) .O))) rfl h2));simp only [bne_self_eq_false,bp,Qcv];rw [em];exact ah h
theorem OM{l:ay}(hl:s.heap.IsList l vs.toArray)(h2:vs.length<2)
  (h:Q (.ref (s.heap.objs.size+1)) { s with heap:=QbP s.heap vs vs.toArray }):aJ (bD prog w) A (call (.builtin "sorted") [.ref l]) Q E s:=by
 refine CH kind_sorted plain_sorted entry_sorted (args_sorted1 _) ?_;unfold ey.«sorted»;refine ab (m:=checkCount "sorted" 1 1 _) (ah ?_);refine ab (collect_list hl ?_ (by rw [sizeLine_eq];exact Ba h2));refine ab (lg ?_ (by rw [sizeLine_eq];exact Ba h2));have gB:((s.heap.push (seqObj "list" #[] 0)).update s.heap.objs.size (iU (· ++ vs.toArray))).objs.size=s.heap.objs.size+1:=by
  rw [sD,Qbp]
 have yU:(((s.heap.push (seqObj "list" #[] 0)).update s.heap.objs.size (iU (· ++ vs.toArray))).push (seqObj "list" vs.toArray 0)).get? (s.heap.objs.size+1)=some (seqObj "list" vs.toArray 0):=by
  rw [← gB];exact pA _ rfl
 show aJ _ _ _ _ _ { s with heap:=((s.heap.push (seqObj "list" #[] 0)).update s.heap.objs.size (iU (· ++ vs.toArray))).push (seqObj "list" vs.toArray 0) };rw [gB];refine ab (aK (g9 Qcg ⟨_,yU,rfl⟩ Qb' (Om yU h2 ⟨_,rfl,?_⟩) (args_list_sort _)));exact ah ⟨_,rfl,h⟩
end
noncomputable def gH(p q:Int×Int):Bool:=decide (p.1<q.1∨(p.1=q.1∧p.2<q.2))
theorem SK(h:bP vs (cH ps)):vs=ps.map λp=>cV p.1:=by
 induction ps generalizing vs with
 | nil=>cases h;rfl
 | cons p ps ih =>
  cases h with
  | cons hv ht=>rw [ih ht];cases AV.cW hv;rfl
theorem HQ:∀(ps:List (ay×List AV)),bP (ps.map λp=>cV p.1) (cH ps):=by
 intro ps
 induction ps with
 | nil=>exact .nil
 | cons p ps ih=>exact .cons rfl (ih)
def xM(h:Heap)(x:ay)(q:Int×Int):Prop:=∃ws n t u,h.get? x=some { cls:=.type "tuple",data:=.seq ws n }∧ws.toList=[.int q.1 t,.int q.2 u]
variable {q:Int×Int}
theorem Dj(S:St g L s){x:ay}(h:(x,cg (iD q))∈L):xM s.heap x q:=by
 refine cp (pR S h) λvs n h1 h2=>?_;refine eQ h2.two λv w h3 bz eM=>?_;refine cT bz λt af=>?_;subst af;refine cT eM λu af=>?_;subst af;exact ⟨vs,n,t,u,h1,h3⟩
theorem O3: ∀(ps:List (ay×List AV)) (qs:List (Int×Int)),ps.map (·.2)=qs.map iD→(∀p∈ps.zip qs,xM h p.1.1 p.2)→∃fs,KatTups h (ps.map λp=>cV p.1) fs∧fs.length=ps.length∧∀v∈fs,∃a t,v = .int a t:=λps=>by
 induction ps with
 | nil =>
  intro qs e hp;exact ⟨[],trivial,rfl,λv hv=>by cases hv⟩
 | cons p ps ih =>
  intro qs e hp;cases qs with
  | nil=>cases e
  | cons q qs =>
   rw [aB,aB] at e;refine du (ih qs (lQ e).2 (λx hx=>hp x (.tail _ hx))) λfs h1 h2 h3=>?_;refine uL (hp (p,q) (.head _)) λws n t u h4 h5=>?_;refine ⟨.int q.1 t::fs,KatTups.cons h4 rfl rfl ?_ h1,by simp [h2],λv hv=>?_⟩
   ·rw [← Array.getElem?_toList,h5];rfl
   ·rcases List.mem_cons.mp hv with rfl | hv
    ·exact ⟨_,_,rfl⟩
    ·exact h3 v hv
theorem Qk(f:Nat→Int×Int):MB λi j=>gH (f i) (f j):=by
 refine ⟨λi j h=>?_,λi j k h1 h2=>?_⟩
 ·unfold gH at h ⊢;simp only [decide_eq_true_eq,decide_eq_false_iff_not] at h ⊢;exact ii (.i (.o (.T .A .B) (.a (.E .A .B) (.T .C .D))) (.n (.o (.T .B .A) (.a (.E .B .A) (.T .D .C))))) rfl h
 ·unfold gH at h1 h2 ⊢;simp only [decide_eq_false_iff_not] at h1 h2 ⊢;exact v6 (.i (.n (.o (.T .A .B) (.a (.E .A .B) (.T .C .D)))) (.i (.n (.o (.T .B .F) (.a (.E .B .F) (.T .D .G)))) (.n (.o (.T .A .F) (.a (.E .A .F) (.T .C .G)))))) rfl h1 h2
section
variable {prog:QbG}{w:sz}{E:aq→aU→Prop}{s:aU}
theorem SL{x y:ay}{p q:Int×Int}{C:Bool→aU→Prop}(hx:xM s.heap x p)(hy:xM s.heap y q)(h:C (gH p q) s):aJ (bD prog w) A (keyLt' (tuples' true) (.ref x) (.ref y)) C E s:=by
 refine uL hx λws n t u h1 h2=>?_;refine uL hy λvs k t' u' h3 h4=>?_;refine kat_lt h1 rfl h3 rfl ?_;rw [h2,h4];refine kat_cons (t5 (kat_go (λe=>kat_yes (kat_cons (t5 (kat_go (λe2=>kat_yes (kat_nil ?_)) λe2=>kat_no ?_)))) λe=>kat_no ?_))
 ·have e:=beq_iff_eq.mp e;have e2:=beq_iff_eq.mp e2;have hz:decide (ws.size<vs.size)=gH p q:=by
   rw [← aG,← aG,h2,h4];unfold gH;simp [e,e2]
  rw [hz];exact h
 ·have e:=beq_iff_eq.mp e;show aJ _ _ (oneLt' false (.int p.2 u) (.int q.2 u')) _ _ _
  refine kat_one _ _ (lt_int ?_);have hz:decide (p.2<q.2)=gH p q:=by unfold gH;simp [e]
  show C (decide (p.2<q.2)) s
  rw [hz];exact h
 ·have e:p.1≠q.1:=by simpa using e
  show aJ _ _ (oneLt' true (.int p.1 t) (.int q.1 t')) _ _ _
  refine oneLt_int ?_;have hz:decide (p.1<q.1)=gH p q:=by unfold gH;simp [e]
  rw [hz];exact h
end
variable {R:α→α→Prop}{l:List α}
theorem Rm(h:l.length<2):l.Pairwise R:=by
 cases l with
 | nil=>exact .nil
 | cons a l =>
  cases l with
  | nil=>exact ez _ _
  | cons b l=>exact absurd h (Nat.not_lt.mpr (Nat.le_add_left 2 l.length))
theorem On{l F:ay}{m:List (Str×AV)}{ps:List (ay×List AV)}{pairs:List (Int×Int)}(hF:(F,am m)∈L)(hl:(l,aM (cH ps))∈L)(hv:ps.map (·.2)=pairs.map iD)(hp : ∀p∈ps,(p.1,cg p.2)∈L)(j4:ps.length<64){vs:List aq}(bk:bP vs [.ref l]):
  GX g A L (call (.builtin "sorted") vs) λv M=>∃(D:ay) (qs:List ((ay×List AV)×(Int×Int))),v = .ref D∧qs.Perm (ps.zip pairs)∧qs.Pairwise (λx y=>gH y.2 x.2=false)∧M=(D,aM (cH (qs.map (·.1))))::L:=by
 intro s Q S k;refine ap bk.one λv af mU=>?_;subst af;cases AV.cW mU;refine cp (eI S hl) λws n h1 h2=>?_;have hR:=SK h2;generalize BR:(ps.map λp=>cV p.1)=R at hR;have uC:R.length=ps.length:=by rw [← BR,ar]
 have El:ps.length=pairs.length:=by have:=congrArg iQ hv;simpa using this
 have BS:s.heap.IsList l R.toArray:=by
  have:ws=R.toArray:=by apply Array.toList_inj.mp;rw [hR]
  rw [← this];exact gN h1
 refine du (S.fr hF) λmm Fu N0 wJ=>?_;by_cases gd:R.length<2
 ·refine OM BS gd ?_;refine cT (sortedAll_at s.heap R R.toArray) λe he=>?_;have S':St g L { s with heap:=QbP s.heap R R.toArray }:=S.keeps λ_ _=>N8;have hD : ∀q∈uw F s.heap,q.1<s.heap.objs.size+1:=λq hq=>zD (eu (t7.mp hq).2);have N1:News wj F (QbP s.heap R R.toArray) ((s.heap.objs.size+1,seqObj "list" R.toArray e)::uw F s.heap):=N0.kept_cons Fu (λ_ _=>N8) (sr _) he;refine k _ _ _ ⟨_,ps.zip pairs,rfl,dH _,?_,rfl⟩ (S.back hF wJ (Fu.kept λ_ _=>N8) N1 hD ⟨_,_,rfl,?_⟩ _)
  ·have:(ps.zip pairs).length<2:=by rw [zP];exact bB (.i (.e .A .B) (.i (.t .A (.c 2)) (.t (.n .B .C) (.c 2)))) rfl uC gd
   exact Rm this
  ·have e1:(ps.zip pairs).map (·.1)=ps:=List.map_fst_zip (Ka El);show bP R (cH ((ps.zip pairs).map (·.1)))
   rw [e1,← BR];exact HQ ps
 ·have hN:2≤R.length:=Kb gd;refine kat_sorted Fu N0 BS hN (Kc j4 uC) λD e1 h' F' N' hD=>?_;have iN : ∀p∈ps.zip pairs,xM h' p.1.1 p.2:=by
   intro bz;obtain ⟨p,q⟩:=bz;intro MF;have j2:p.2=iD q:=by
    have h3 : ∀(ps:List (ay×List AV)) (qs:List (Int×Int)),ps.map (·.2)=qs.map iD→∀p q,(p,q)∈ps.zip qs→p.2=iD q:=by
     intro ps
     induction ps with
     | nil=>intro qs _ p q h;simp at h
     | cons a ps ih =>
      intro qs e p q h;cases qs with
      | nil=>simp at h
      | cons b qs =>
       rw [aB,aB] at e;rw [wZ] at h;rcases List.mem_cons.mp h with h | h
       ·cases h;exact (lQ e).1
       ·exact ih qs (lQ e).2 p q h
    exact h3 ps pairs hv p q MF
   have hmem:=hp p (zM MF).1;rw [j2] at hmem;refine uL (Dj S hmem) λus n' t u h4 h5=>?_;have fw:p.1≠F:=λe=>by
    refine ap (S.get hF) λo ho Vf=>?_;refine cp Vf λes ep hd _=>?_;rw [e,ho] at h4;cases h4;cases hd
   exact ⟨us,n',t,u,(N' (p.1,_) (.tail _ (t7.mpr ⟨fw,h4⟩))).1,h5⟩
  refine du (O3 ps pairs hv iN) λfs t1 t2 t3=>?_;rw [BR] at t1;refine kat_kind (T:=.type "int") t1 (bB (.i (.e .A .B) (.i (.n (.t .A (.c 2))) (.i (.e .C .B) (.t .Z .C)))) rfl uC gd t2) (λv hv=>?_) rfl ?_
  ·refine s9 (t3 v hv) λa t af=>?_;subst af;exact Looks.of_pure rfl
  have hz : ∀i,i<R.length→∃p q,(ps.zip pairs)[i]?=some (p,q)∧R.getD i cQ = .ref p.1∧pairs.getD i (0,0)=q:=λi hi=>by
   have tx:i<ps.length:=ou uC hi;have mV:i<pairs.length:=fy (.i (.e .A .B) (.i (.e .B .C) (.i (.t .D .A) (.t .D .C)))) rfl uC El hi;refine ⟨ps[i],pairs[i],?_,?_,?_⟩
   ·rw [au (by rw [zP];exact fy (.i (.e .A .B) (.i (.e .B .C) (.i (.t .D .A) (.t .D (.n .B .C))))) rfl uC El hi),List.getElem_zip]
   ·subst BR;rw [aI,aA,au tx];rfl
   ·rw [aI,au mV];rfl
  refine KH.wp (N:=R.length) (bS:=λi j=>gH (pairs.getD i (0,0)) (pairs.getD j (0,0))) (Inv:=λs'=>s'={ s with heap:=h' }) ?_ ?_ (Iy (Qk λi=>pairs.getD i (0,0)) (Kd gd)) rfl
  ·rintro i j hi hj C _ rfl hC;refine eQ (hz i hi) λp q e1 e2 e3=>?_;refine eQ (hz j hj) λp' q' f1 f2 f3=>?_;unfold kas_ask;rw [e2,f2];refine SL (iN _ (bx e1)) (iN _ (bx f1)) ?_
   have:=hC _ rfl
   rw [e3,f3] at this;exact this
  ·rintro p _ hg rfl;refine KasFin.intro F' N' (UpdF.head λq hq=>lT (hD q hq)) λh'' c Zw Zx=>?_;have uD:p.toList.Perm (aF R.length):=by
    have:=hg.perm
    exact Array.perm_iff_toList_perm.mp this
   have Vg:p.size=R.length:=hg.size;have u7 : ∀i,i∈p.toList→i<R.length:=λi hi=>List.mem_range.mp (uD.mem_iff.mp hi);let zf:Nat→(ay×List AV)×(Int×Int):=λi=>(ps.zip pairs).getD i ((0,[]),(0,0));have Zy:(aF R.length).map zf=ps.zip pairs:=by
    apply xh;intro i;rw [aA];by_cases hi:i<R.length
    ·refine eQ (hz i hi) λp' q' e1 _ _=>?_;rw [dI hi,e1];show some ((ps.zip pairs).getD i _)=_
     rw [aI,e1];rfl
    ·rw [dm (by simpa using hi),dm (by rw [zP];exact fy (.i (.e .A .B) (.i (.n (.t .C .A)) (.l (.n .B .D) .C))) rfl uC hi)];rfl
   refine k _ _ _ ⟨D,p.toList.map zf,rfl,?_,?_,rfl⟩ (S.back hF wJ Zw Zx hD ⟨_,_,rfl,?_⟩ _)
   ·rw [← Zy];exact uD.map zf
   ·rw [Qaz,CO];intro a b ha hb fe;have Zz:a<p.size:=by simpa using ha
    have wH:b<p.size:=by simpa using hb
    have h3:=(hg.pre a b fe (ou Vg wH)).1;have ga:G p a=p.toList[a]:=by
     show p.getD a 0=_
     rw [eg,gh Zz];rfl
    have gb:G p b=p.toList[b]:=by
     show p.getD b 0=_
     rw [eg,gh wH];rfl
    rw [ga,gb] at h3;have MH : ∀i,i<R.length→(zf i).2=pairs.getD i (0,0):=λi hi=>by
     refine eQ (hz i hi) λp' q' e1 _ e3=>?_;show ((ps.zip pairs).getD i _).2=_
     rw [aI,e1,e3];rfl
    rw [MH _ (u7 _ (jO _)),MH _ (u7 _ (jO _))];exact h3
   ·show bP (p.toList.map λi=>R.getD i cQ) (cH ((p.toList.map zf).map (·.1)))
    have e:(p.toList.map λi=>R.getD i cQ)=((p.toList.map zf).map (·.1)).map λp=>cV p.1:=by
     rw [bt,bt];apply dD;intro i hi;refine eQ (hz i (u7 i hi)) λp' q' e1 e2 _=>?_;show R.getD i cQ=cV ((ps.zip pairs).getD i _).1.1
     rw [e2,aI,e1];rfl
    rw [e];exact HQ _
end
section
variable {g:Gd}{A:bg}{L L' L₁ L₂ bH:ae}{env:Env}
theorem Ow(l b:ay)(items AI:Array aq)(n n2:Nat)(p q:Int×Int)(t u t' u':Tok)(h1:items.toList=[.int p.1 t,.int p.2 u])(h2:AI.toList=[.int q.1 t',.int q.2 u']):
  Meets (ey.«tuple.__le__» ⟨[.ref l,.ref b],[]⟩) (λA R s=>s.heap.get? l=some { cls:=.type "tuple",data:=.seq items n }∧s.heap.get? b=some { cls:=.type "tuple",data:=.seq AI n2 }∧R (.ok (.ret (.bool (!gH q p)))) s):=by
 intro prog w A R s bz;refine fU bz λhl hb h=>?_;show aJ _ _ (isInstance (.ref b) (.type "tuple")>>=_) _ _ s
 refine ab (lY (T:="tuple") ⟨_,hb,rfl⟩ isSubtype_tuple_tuple ?_);simp only [Gv,bp,Qcv];refine ab (Qbl hl rfl ?_);refine ab (Qbl hb rfl ?_);rw [h1,h2];simp only [wZ,Qai,ee,vv];refine ab (ab (ab (t5 ?_)));cases e:(p.1==q.1) with
 | false =>
  have e:=beq_eq_false_iff_ne.mp e;simp only [Qbj,if_true];refine ab (vx ?_);have hz:decide (p.1≤q.1) = !gH q p:=by
   unfold gH;by_cases h3:p.1≤q.1
   ·have:¬(q.1<p.1∨q.1=p.1∧q.2<p.2):=ii (.i (.n (.E .A .B)) (.i (.L .A .B) (.n (.o (.T .B .A) (.a (.E .B .A) (.T .C .D)))))) rfl e h3
    simp [h3,this]
   ·have:(q.1<p.1∨q.1=p.1∧q.2<p.2):=ii (.i (.n (.L .A .B)) (.o (.T .B .A) (.a (.E .B .A) (.T .C .D)))) rfl h3
    simp [h3,this]
  refine ab (m:=QaZ .LtE (.int p.1 t) (.int q.1 t')) (show aJ _ _ (nc .LtE (.int p.1 t) (.int q.1 t')) _ _ _ from le_int ?_);rw [hz];exact ab (ah (ah (ah (ah h))))
 | true =>
  have e:=beq_iff_eq.mp e;simp only [Gv,bp,Qcv];refine ah ?_;dsimp only;refine ab (ab (t5 ?_));cases e2:(p.2==q.2) with
  | false =>
   have e2:=beq_eq_false_iff_ne.mp e2;simp only [Qbj,if_true];refine ab (vx ?_);have hz:decide (p.2≤q.2) = !gH q p:=by
    unfold gH;by_cases h3:p.2≤q.2
    ·have:¬(q.1<p.1∨q.1=p.1∧q.2<p.2):=ii (.i (.E .A .B) (.i (.L .C .D) (.n (.o (.T .B .A) (.a (.E .B .A) (.T .D .C)))))) rfl e h3
     simp [h3,this]
    ·have:(q.1<p.1∨q.1=p.1∧q.2<p.2):=ii (.i (.E .A .B) (.i (.n (.L .C .D)) (.o (.T .B .A) (.a (.E .B .A) (.T .D .C))))) rfl e h3
     simp [h3,this]
   refine ab (m:=QaZ .LtE (.int p.2 u) (.int q.2 u')) (show aJ _ _ (nc .LtE (.int p.2 u) (.int q.2 u')) _ _ _ from le_int ?_);rw [hz];exact ab (ah (ah (ah (ah h))))
  | true =>
   have e2:=beq_iff_eq.mp e2;simp only [Gv,bp,Qcv];refine ah ?_;dsimp only;refine ah ?_;dsimp only;refine ah ?_;have hs:Builtin.Tuple.tupleCompareSizes .LtE items.size AI.size = .bool (!gH q p):=by
    rw [← aG,← aG,h1,h2];unfold gH;simp [e,e2];rfl
   show R (.ok (.ret (Builtin.Tuple.tupleCompareSizes .LtE items.size AI.size))) s
   rw [hs];exact h
theorem Pn(hu:A.units<w8){a b:ay}{p q:Int×Int}(ha:(a,cg (iD p))∈L)(hb:(b,cg (iD q))∈L):l9 g A L .LtE (.ref a) (.ref b) (!gH q p):=by
 rintro _ _ rfl rfl s Q E S k;refine uL (Dj S ha) λws n t u h1 h2=>?_;refine uL (Dj S hb) λvs m t' u' h3 h4=>?_;exact richCompare_meets_room (op:=.LtE) ⟨_,h1,rfl⟩ ⟨_,h3,rfl⟩ F.slot_tuple_le F.entry_tuple_le (F.args_tuple_le_2 _ _) (Ow a b ws vs n m p q t u t' u' h2 h4) ⟨h1,h3,show QbX (!gH q p)≠Value.notImplemented∧_ from ⟨(λx=>nomatch x),k _ _ rfl S⟩⟩ hu
theorem bZ.unit(h:bZ n A):A.units<w8:=by have:=h.units;exact bB (.i (.t (.a .A (.m 8 .B)) .C) (.t .A .C)) rfl this
theorem Ql{o i:Expr}{pos:Pos}{l:ay}{xs:List AV}{k:Int}{a:AV}(ho:PE g A L env o (.ref l))(hi:PE g A L env i (.int k))(hl:(l,cg xs)∈L)(h0:0≤k)(hk:k<2 ^ 63)(hx:xs[k.toNat]?=some a)
  (hs : ∀o' i',lV i false o' i'=ix [o',i'] (rq o' i')):PE g A L env (.Subscript o i pos) a:=λs Q E S kk=>by
 refine vA (ho s _ E S λv aW hv aN=>hi aW _ E aN λw bu hw aS=>?_);cases AV.cW hv;refine cp (pR aS hl) λvs n h1 h2=>?_;refine cT hw λt af=>?_;subst af;refine ap (h2.get hx) λv h3 h4=>?_;have h5:vs[k.toNat]?=some v:=by simpa using h3
 refine Qap (T:="tuple") (x:=v) ⟨_,h1,rfl⟩ F.slot_tuple_getitem.lookup (getItem_tuple (ue h1) (Ke h0) hk (j:=k.toNat) ?_ h5 ⟨rfl,kk v bu h4 aS⟩) (hs _ _);have aY:k.toNat<vs.size:=by
  by_cases h:k.toNat<vs.size
  ·exact h
  ·rw [tM (zK h)] at h5;cases h5
 have EY:¬k<0:=Int.not_lt.mpr h0;have EZ:k<(vs.size:Int):=by have:=eS h0;rw [← this];exact Int.ofNat_lt.mpr aY
 show (let j:=if k<0 then k+vs.size else k;if (decide (0≤j)&&decide (j<vs.size))=true then some j.toNat else none)=some k.toNat;rw [Qcs EY];simp [h0,EZ]
end
section
variable {g:Gd}{A:bg}{L L' L₁ L₂ bH:ae}
noncomputable def qP(takes:List Int)(j:Int):List (Int×Int)→Int→Bool→Int
 | [],now,_=>now
 | (first,i)::r,now,met =>
  if now≤first then (if met then now else qP takes j r (first+takes.getD i.toNat 0) (met || i==j))
  else qP takes j r (now+takes.getD i.toNat 0) (met || i==j)
noncomputable def wm(gI:List (Int×Int))(j:Nat)(i:Nat):Bool:=!gH (gI.getD j (0,0)) (gI.getD i (0,0))
noncomputable def ko(early:List Int)(gI:List (Int×Int))(j:Nat):List (Int×Int):=((aF early.length).filter (wm gI j)).map λi=>(early.getD i 0,(i:Int))
def D7(early:List Int)(gI:List (Int×Int))(takes:List Int)(j:Nat)(r:Int):Prop :=
 ∃row:List (Int×Int),row.Perm (ko early gI j)∧row.Pairwise (λx y=>gH y x=false)∧r=qP takes j row (row.headD (0,0)).1 false
variable {xs:List Int}
theorem Rn(h:i<xs.length):(xs.map AV.int)[((i:Nat):Int).toNat]?=some (.int (xs.getD i 0)):=by
 rw [bY,aA,au h,aI,au h];rfl
theorem DR{o i:Expr}{l:ay}{k:Nat}(ho:PE g A L env o (.ref l))(hi:PE g A L env i (.int k))(hl:(l,ai xs)∈L)(hk:k<xs.length)(hz:xs.length≤100000)
  (hs : ∀o' i',lV i false o' i'=ix [o',i'] (rq o' i')) (ht : ∀o' r,j8 o o' r=pure ()):PE g A L env (.Subscript o i pos) (.int (xs.getD k 0)) :=
 fM ho hi hl (gR) (bK (.i (.t .A .B) (.i (.l .B (.c 100000)) (.T (.k .A) (.c 9223372036854775808)))) rfl hk hz) (Rn hk) hs ht
theorem HR(h:ps.map (·.2)=qs.map iD)(hi:i<qs.length): ∃x,(cH ps)[i]?=some (.ref x)∧(x,iD (qs.getD i (0,0)))∈ps:=by
 have hl:ps.length=qs.length:=by have:=congrArg iQ h;simpa using this
 have df:i<ps.length:=bB (.i (.t .A .B) (.i (.e .C .B) (.t .A .C))) rfl hi hl;refine ⟨ps[i].1,?_,?_⟩
 ·unfold cH;rw [aA,au df];rfl
 ·have e:ps[i].2=iD (qs.getD i (0,0)):=by
   have h2:(ps.map (·.2))[i]?=(qs.map iD)[i]?:=by rw [h]
   rw [aA,aA,au df,au hi] at h2;rw [aI,au hi];exact fx h2
  rw [← e];exact jO df
theorem DT{env:Env}{o i:Expr}{pos:Pos}{l:ay}{ps:List (ay×List AV)}{k:Nat}{x:ay}(ho:PE g A L env o (.ref l))(hi:PE g A L env i (.int k))(hl:(l,aM (cH ps))∈L)(hx:(cH ps)[k]?=some (.ref x))(hz:ps.length≤100000)
  (hs : ∀o' i',lV i false o' i'=ix [o',i'] (rq o' i')) (ht : ∀o' r,j8 o o' r=pure ()):PE g A L env (.Subscript o i pos) (.ref x) :=
 have hk:k<(cH ps).length:=by
  by_cases h:k<(cH ps).length
  ·exact h
  ·rw [dm (by exact yG h)] at hx;cases hx
 fM ho hi hl (gR) (by have:(cH ps).length=ps.length:=ar ..;exact bB (.i (.l .A (.c 100000)) (.i (.t .B .C) (.i (.e .C .A) (.T (.k .B) (.c 9223372036854775808))))) rfl hz hk this) (by rw [bY];exact hx) hs ht
variable {p:ay×List AV}{q:Int×Int}
theorem SO: ∀{ps:List (ay×List AV)} {qs:List (Int×Int)},ps.map (·.2)=qs.map iD→(p,q)∈ps.zip qs→p.2=iD q:=λ{ps}=>by
 induction ps with
 | nil=>intro qs e h;cases h
 | cons a ps ih =>
  intro qs e h;cases qs with
  | nil=>cases h
  | cons b qs =>
   rw [aB,aB] at e;rw [wZ] at h;rcases List.mem_cons.mp h with h | h
   ·cases h;exact (lQ e).1
   ·exact ih (lQ e).2 h
theorem Po{takes:List Int}{j:Int}{rows:List (Int×Int)}{k:Nat}{first i now:Int}{met:Bool}(h:rows[k]?=some (first,i)):qP takes j (rows.drop k) now met =
  if now≤first then (if met then now else qP takes j (rows.drop (k+1)) (first+takes.getD i.toNat 0) (met || i==j)) else qP takes j (rows.drop (k+1)) (now+takes.getD i.toNat 0) (met || i==j):=by
 have hk:k<rows.length:=by
  by_cases hk:k<rows.length
  ·exact hk
  ·rw [dm (by exact yG hk)] at h;cases h
 have e:rows.drop k=(first,i)::rows.drop (k+1):=by
  rw [au hk] at h;rw [Gg hk,fx h]
 rw [e];rfl
theorem T6(T:fR g){f:ay}(hf:ma g (top 17) "_law_end" "_law_end" (λdV=>dV = .none) f){n:Nat}(hA:bZ (n+1) A){ea ra ta:ay}{early takes:List Int}{BT:List (ay×List AV)}{gI:List (Int×Int)}{j:Nat}
  (he:(ea,ai early)∈L) (hr:(ra,aM (cH BT))∈L) (ht:(ta,ai takes)∈L) (Fv:BT.map (·.2)=gI.map iD) (MI : ∀p∈BT,(p.1,cg p.2)∈L) (h1:gI.length=early.length) (h2:takes.length=early.length) (hj:j<early.length) (j4:early.length<64)
  {vs:List aq} (bk:bP vs [.ref ea,.ref ra,.ref ta,.int j]) :
  GX g A L (call (.ref f) vs) λv M=>∃r,AV.Is v (.int r)∧D7 early gI takes j r∧M=L:=by
 refine nu hf λo dV kV doc pm cq ct ho fX hd eb af=>?_;subst af;refine qT bk.four λv1 v2 v3 v4 af mU kh ty tz=>?_;subst af;refine xL (hclo:=by rfl) (hco:=by rfl) (hgen:=by rfl) (binds:=[("early",v1),("ranks",v2),("takes",v3),("j",v4)]) (.top ho fX) hd rfl (.top eb) hA.room ?_ (λF=>[("j",F+1+1+1),("ranks",F+1+1),("early",F+1)]) (λ_=>rfl) λF=>?_
 ·intro s S;exact dY rfl
 generalize (F+1+1+1:Nat)=c3;generalize (F+1+1:Nat)=c2;generalize (F+1:Nat)=c1;show ∃L₂,BX g A.in1 (ol (gy (top 17) "_law_end" "_law_end" .none kV doc pm cq ct) f F [("j",c3),("ranks",c2),("early",c1)]) [("early",v1),("ranks",v2),("takes",v3),("j",v4)] ((c3,az none)::(c2,az none)::(c1,az none)::(F,am [])::L) L₂∧_
 refine ⟨_,BX.cons (iy rfl (by k_upd)) mU (BX.cons (iy rfl (by k_upd)) kh (BX.cons (b7 (by k_upd)) ty (BX.cons (iy rfl (by k_upd)) tz BX.nil))),?_⟩;let E:=ol (gy (top 17) "_law_end" "_law_end" .none kV doc pm cq ct) f F [("j",c3),("ranks",c2),("early",c1)];let j1:=A.deeper E;change SX g j1 _ E _ _
 refine lp λQ0 oF=>?_;have fB:bZ n j1:=hA.deeper;have hh:=fB.handled;have k7:BT.length=gI.length:=by have:=congrArg iQ Fv;simpa using this
 have hlen:(early.map AV.int).length=early.length:=ar ..;refine ic (K:=λv M=>∃(D cl:ay) (ps:List (ay×List AV)) (qs:List ((ay×List AV)×(Int×Int))),v = .ref D∧ps.map (·.2)=(ko early gI j).map iD∧qs.Perm (ps.zip (ko early gI j))∧qs.Pairwise (λx y=>gH y.2 x.2=false) ∧
  M=(D,aM (cH (qs.map (·.1))))::(cl,aM (cH ps))::(d7 ps++((c3,az (some (.int j)))::(c2,az (some (.ref ra)))::(c1,az (some (.ref ea)))::(F,am [("takes",.ref ta)])::L))) ?row ?_
 case row =>
  refine lr (K:=λvs M=>∃(cl:ay) (ps:List (ay×List AV)),bP vs [.ref cl]∧ps.map (·.2)=(ko early gI j).map iD∧M=(cl,aM (cH ps))::(d7 ps++((c3,az (some (.int j)))::(c2,az (some (.ref ra)))::(c1,az (some (.ref ea)))::(F,am [("takes",.ref ta)])::L))) (gQ T (by k_mem)) ?args ?call
  case args =>
   refine pK (K:=λv M=>∃(cl:ay) (ps:List (ay×List AV)),v = .ref cl∧ps.map (·.2)=(ko early gI j).map iD∧M=(cl,aM (cH ps))::(d7 ps++((c3,az (some (.int j)))::(c2,az (some (.ref ra)))::(c1,az (some (.ref ea)))::(F,am [("takes",.ref ta)])::L))) ?comp ?yP
   case yP =>
    refine zX λcl ps hv=>?_;exact pP.mono λvs N ⟨e1,e2⟩=>⟨cl,ps,by rw [e1];exact .cons rfl .nil,hv,e2⟩
   case comp =>
    refine GX.mono (OZ (hclos:=by rfl) (hkind:=by rfl) (hcell:=by rfl) (hnames:=by rfl) (hs:=by kst_p) (cl:=[("ranks",c2),("j",c3),("early",c1)]) (xs:=(jb 0 early.length).map .int) (qG hh ?i1 ?i2) (λH hH K=>hH _) ?i3 (wm gI j) (λk=>[.int (early.getD k 0),.int k]) (λk=>[("i",.int k)]) ?i4 ?i5 ?i6) ?i7
    case i1 =>
     refine pL T ?_;rw [← hlen];exact AG (h1:=by rfl) (h2:=by rfl) (h3:=by rfl) (h4:=by rfl) (hE:=by rfl) (hs:=by rfl) T (l:=ea) (by k_all) (by k_mem) (bK (.i (.t .A (.c 64)) (.i (.e .B .A) (.l .B (.c 100000)))) rfl j4 hlen)
    case i2=>exact Ex j4
    case i3=>rw [pH];exact Ex j4
    case i4 =>
     intro C k a ha acc ia P K;refine b8 (nj ha) λh1 af=>?_;subst af;exact jF (b7 (by k_upd))
    case i5 =>
     intro C k a ha acc ia P K;refine b8 (nj ha) λhk af=>?_;subst af;refine ap (HR Fv (i:=k) (kb h1 hk)) λx hx yV=>?_;refine ap (HR Fv (i:=j) (kb h1 hj)) λy hy ZA=>?_;refine xA (eP (a:=.ref x) (b:=.ref y) ?z1 ?z2 (Pn fB.unit ?z3 ?z4))
     case z1=>exact DT (hs:=by kst_p) (ht:=by kst_p) (l:=ra) (by k_all) (by k_all) (by k_mem) hx (Kf h1 j4 k7)
     case z2=>exact DT (hs:=by kst_p) (ht:=by kst_p) (l:=ra) (by k_all) (by k_all) (by k_mem) hy (Kf h1 j4 k7)
     case z3=>have:=MI _ yV;k_mem
     case z4=>have:=MI _ ZA;k_mem
    case i6 =>
     intro C k a ha hp acc ia P K;refine b8 (nj ha) λhk af=>?_;subst af;exact vM (b9 (DR (hs:=by kst_p) (ht:=by kst_p) (l:=ea) (by k_all) (by k_all) (by k_mem) hk (Ex j4)) (b9 (by k_all) dh)) (aZ rfl)
    case i7 =>
     refine zX λa ps Fw=>?_;refine ⟨a,ps,rfl,?_,rfl⟩;rw [Fw,pH,ko,bt];rfl
  case call =>
   intro vs;refine Dg λcl ps bk hv=>?_;refine ⟨gp λ_ x=>(by cases x),GX.mono (On (F:=F) (m:=[("takes",.ref ta)]) (l:=cl) (ps:=ps) (pairs:=ko early gI j) ?g1 ?g2 hv ?g3 ?g4 bk) ?g5⟩
   case g1=>k_mem
   case g2=>k_mem
   case g3=>exact λp hp=>aQ _ (ao _ (Av hp))
   case g4 =>
    have e:=congrArg iQ hv;rw [ar,ar] at e;have e2:(ko early gI j).length≤early.length:=by unfold ko;rw [ar];exact zV _ _
    exact bB (.i (.t .A (.c 64)) (.i (.e .B .C) (.i (.l .C .A) (.t .B (.c 64))))) rfl j4 e e2
   case g5 =>
    refine vB λD qs h3 h4=>?_;exact ⟨D,cl,ps,qs,rfl,hv,h3,h4,rfl⟩
 refine OE λD cl ps qs hv MJ ZB=>?_;refine ⟨.ref D,_,rfl,b7 (by k_upd),?_⟩;have gX:ps.length=(ko early gI j).length:=by have:=congrArg iQ hv;simpa using this
 have Em:(qs.map (·.2)).Perm (ko early gI j):=by
  have:=MJ.map (·.2)
  rwa [zF (bK (.i (.e .A .B) (.l .B .A)) rfl gX)] at this
 have rc:(ko early gI j).length≤early.length:=by unfold ko;rw [ar];exact zV _ _
 have MK:qs.length=(ko early gI j).length:=by have:=Em.length_eq;simpa using this
 have hmem : ∀q∈qs,(q.1.1,cg (iD q.2))∈d7 ps∧∃i:Nat,i<early.length∧q.2.2=i:=by
  intro q hq;have hz:=MJ.mem_iff.mp hq;have h3:(q.1,q.2)∈ps.zip (ko early gI j):=hz;refine ⟨?_,?_⟩
  ·rw [← SO hv h3];exact Av (zM h3).1
  ·have h4:=(zM h3).2;unfold ko at h4;refine ap (List.mem_map.mp h4) λi hi e=>?_;exact ⟨i,List.mem_range.mp (List.mem_filter.mp hi).1,by rw [← e]⟩
 have I7:(qs.map (·.2)).Pairwise (λx y=>gH y x=false):=List.pairwise_map.mpr ZB;have fw:0<(ko early gI j).length:=by
  unfold ko;rw [ar];refine iP (a:=j) (List.mem_filter.mpr ⟨List.mem_range.mpr hj,?_⟩);unfold wm gH;simp
 refine s9 (List.exists_cons_of_length_pos (by rw [MK];exact fw)) λq0 qr uZ=>?_;have yo : ∀(k:Nat) (a:AV),(cH (qs.map (·.1)))[k]?=some a→∃q,qs[k]?=some q∧a=AV.ref q.1.1:=by
  intro k a ha;unfold cH at ha;rw [bt,aA] at ha;refine ap (Option.map_eq_some_iff.mp ha) λq hq af=>?_;subst af;exact ⟨q,hq,rfl⟩
 have JA:((qs.map (·.2)).headD (0,0))=q0.2:=by rw [uZ];rfl
 refine iz (a:=.int q0.2.1) ?n1 (b7 (by k_upd)) ?n2
 case n1 =>
  have yW:=(hmem q0 (by rw [uZ];exact .head _)).1;refine Ql (hs:=by kst_p) (l:=q0.1.1) (xs:=iD q0.2) (k:=0) (DT (hs:=by kst_p) (ht:=by kst_p) (l:=D) (ps:=qs.map (·.1)) (k:=0) (by k_all) gP (by k_mem) (by rw [uZ];rfl) (by rw [ar];exact bB (.i (.t .A (.c 64)) (.i (.l .B .A) (.i (.e .C .B) (.l .C (.c 100000))))) rfl j4 rc MK)) gP ?_ (Bb) (Kg) rfl;exact aQ _ (aQ _ (ao _ yW))
 refine iz (a:=.bool false) uj (b7 (by k_upd)) ?_;refine lu (sH hh (l:=D) (xs:=cH (qs.map (·.1))) (by k_all) (by k_mem)) ?_;refine jE λH hH=>?_;refine ⟨Int×Bool,λk x=>(D,aM (cH (qs.map (·.1))))::(cl,aM (cH ps))::(d7 ps++((c3,az (some (.int j)))::(c2,az (some (.ref ra)))::(c1,az (some (.ref ea)))::(F,am [("met",.bool x.2),("now",.int x.1),("row",.ref D),("takes",.ref ta)])::L)),
  λk x=>qP takes j ((qs.map (·.2)).drop k) x.1 x.2=qP takes j (qs.map (·.2)) q0.2.1 false,(q0.2.1,false),rfl,aj.refl,λk x _=>hH _ (aC _),?_,?_⟩
 ·intro k bz;obtain ⟨now,met⟩:=bz;intro a ha hV ia;refine ap (yo k a ha) λq hq af=>?_;subst af;refine b8 (hmem q (bx hq)) λZC Vh=>?_;refine ap Vh λi hi ZD=>?_;have kt:=Po (takes:=takes) (j:=j) (rows:=qs.map (·.2)) (k:=k) (first:=q.2.1) (i:=q.2.2) (now:=now) (met:=met) (by rw [aA,hq];rfl);dsimp only at hV;rw [hV] at kt;refine ⟨_,xp hh (a:=.int q.2.1) (b:=.int q.2.2) (t:=q.1.1) (md 3 (ao _ ZC)) (b7 (by k_upd)) (b7 (by k_upd)),lp λQ1 jj=>?_⟩;rw [ZD] at kt ⊢;rw [bY] at kt;refine mL (c:=decide (now≤q.2.1)) (eP (by k_all) (by k_all) Jx) (λhc=>?_) λhc=>?_
  ·have hc:=of_decide_eq_true hc;rw [Qct hc] at kt;refine mL (c:=met) (vL (he:=by kst_p) (by k_all)) (λhm=>?_) λhm=>?_
   ·subst hm;rw [Qct rfl] at kt;exact pM (a:=.int now) (by k_all) λv s Fx S=>jj _ _ (oF _ _ ⟨L,⟨now,Fx,⟨qs.map (·.2),Em,I7,by rw [JA,kt]⟩,rfl⟩,S.cX (by kcj_m)⟩)
   subst hm;rw [Qcs (by simp)] at kt;refine iz (a:=.int q.2.1) (by k_all) (b7 (by k_upd)) ?_;refine D4 (a:=.int q.2.1) (c:=.int (q.2.1+takes.getD i 0)) (Ar (by k_mem) rfl) (DR (hs:=by kst_p) (ht:=by kst_p) (l:=ta) (k:=i) (by k_all) (by k_all) (by k_mem) (kb h2 hi) (Kh h2 j4)) vT (b7 (by k_upd)) ?_;refine mL (c:=decide ((i:Int)=(j:Int))) (eP (by k_all) (by k_all) qO) (λhe=>?_) λhe=>?_
   ·have he:=of_decide_eq_true he;refine iz (a:=.bool true) uj (b7 (by k_upd)) (eJ λs S=>jj _ _ ⟨(q.2.1+takes.getD i 0,true),?_,S.cX (by kcj_m)⟩);rw [kt,he];simp
   ·have he:=Qcu he;refine eJ λs S=>jj _ _ ⟨(q.2.1+takes.getD i 0,false),?_,S.cX (by kcj_m)⟩;rw [kt]
    have:((i:Int)==(j:Int))=false:=by simpa using he
    simp [this]
  ·have hc:=Qcu hc;rw [Qcs hc] at kt;refine D4 (a:=.int now) (c:=.int (now+takes.getD i 0)) (Ar (by k_mem) rfl) (DR (hs:=by kst_p) (ht:=by kst_p) (l:=ta) (k:=i) (by k_all) (by k_all) (by k_mem) (kb h2 hi) (Kh h2 j4)) vT (b7 (by k_upd)) ?_;refine mL (c:=decide ((i:Int)=(j:Int))) (eP (by k_all) (by k_all) qO) (λhe=>?_) λhe=>?_
   ·have he:=of_decide_eq_true he;refine iz (a:=.bool true) uj (b7 (by k_upd)) (eJ λs S=>jj _ _ ⟨(now+takes.getD i 0,true),?_,S.cX (by kcj_m)⟩);rw [kt,he];simp
   ·have he:=Qcu he;refine eJ λs S=>jj _ _ ⟨(now+takes.getD i 0,met),?_,S.cX (by kcj_m)⟩;rw [kt]
    have:((i:Int)==(j:Int))=false:=by simpa using he
    simp [this]
 ·intro bz;obtain ⟨now,met⟩:=bz;intro hV;refine pM (a:=.int now) (by k_all) λv s Fx S=>oF _ _ ⟨L,⟨now,Fx,⟨qs.map (·.2),Em,I7,?_⟩,rfl⟩,?_⟩
  ·have e:(cH (qs.map (·.1))).length=(qs.map (·.2)).length:=by unfold cH;simp
   dsimp only at hV;rw [e,zG] at hV;rw [JA,← hV];rfl
  ·exact S.cX (by kcj_m)
end
section
variable {g:Gd}{A:bg}{L L' L₁ L₂ bH:ae}{env:Env}
def iF(g:Gd)(K:mz):Prop:=∀a o,K.lookup a=some o→g.dB.get? a=some o∧a∉g.tabs
theorem iF.re{K:mz}(h:iF g K){s:aU}(S:St g L s):K.In s.heap:=λa o e=>S.keep a o (h a o e).1 (h a o e).2
def et(m:List (Str×AV))(o:Obj):Prop:=∃es ep,o.data = .dict es ep∧(NB es∧es.size≤m.length)∧∀x,match m.lookup x with
 | some a=>∃v,qt es x=some v∧AV.Is v a
 | none=>qt es x=none
noncomputable def pS(x:Str)(a:AV):List (Str×AV)→List (Str×AV)
 | []=>[(x,a)]
 | (y,b)::r=>if (y==x)=true then (x,a)::r else (y,b)::pS x a r
theorem Ox(x:Str)(a:AV)(z:Str): ∀m,(pS x a m).lookup z=if (z==x)=true then some a else m.lookup z:=λm=>by
 induction m with
 | nil =>
  unfold pS;rw [aP];cases z==x<;>rfl
 | cons y r ih =>
  obtain ⟨y,b⟩:=y;unfold pS;by_cases h:(y==x)=true
  ·rw [Qct h,aP,aP];have e:=beq_iff_eq.mp h;subst e;cases z==y<;>rfl
  ·rw [Qcs h,aP,aP];cases hz:z==y with
   | true =>
    have e:=beq_iff_eq.mp hz;subst e;rw [Qcs h]
   | false=>exact ih
theorem GG(x:Str)(a:AV): ∀m,(m.lookup x).isSome=true→(pS x a m).length=m.length:=λm h=>by
 induction m with
 | nil=>cases h
 | cons y r ih =>
  obtain ⟨y,b⟩:=y;unfold pS;by_cases e:(y==x)=true
  ·rw [Qct e];rfl
  ·rw [Qcs e];rw [aP] at h;have e':(x==y)=false:=by
    cases q:x==y with
    | false=>rfl
    | true=>exact absurd (by rw [beq_iff_eq.mp q];simp) e
   rw [e'] at h;simp [ih h]
theorem GH(x:Str)(a:AV): ∀m,m.lookup x=none→(pS x a m).length=m.length+1:=λm h=>by
 induction m with
 | nil=>rfl
 | cons y r ih =>
  obtain ⟨y,b⟩:=y;unfold pS;rw [aP] at h;cases q:x==y with
  | true=>rw [q] at h;cases h
  | false =>
   rw [q] at h;have e:¬(y==x)=true:=λe=>by rw [beq_iff_eq.mp e] at q;simp at q
   rw [Qcs e];simp [ih h]
variable {Q:Unit→aU→Prop}{es:Array sx}
theorem ON{a:ay}(ho:s.heap.get? a=some o)(hd:o.data = .dict es ep)(hk:NB es){v:aq}
  (hQ : ∀h' o' aT r7,h'.get? a=some o'→o'.data = .dict aT r7→NB aT→(∀x,qt aT x=if x=name then some v else qt es x)→((qt es name).isSome=true→aT.size=es.size)→aT.size≤es.size+1→xi a s.heap h'→Q () { s with heap:=h',toks:=s.toks+1 }) :
  aJ M A (nsSet a name v) Q E s:=by
 intro Γ p Mv;simp only [nsSet,strHash,QbZ,Sem.wp_cmd_ask,Sem.wp_pure',Sem.wp_cmd_mkText];rw [Sem.wp_loadPart_of M Γ _ p { s with toks:=s.toks+1 } (o:=o) _ ho];have te:es.any (·.refKey)=false:=by
  rw [N5];intro e he;obtain ⟨n,t,h⟩:=hk e he;simp [DictEntry.refKey,h]
 simp only [hd,Qax,NT,te,Qbk,bp,Qcv,Sem.wp_cmd_updatePart];refine ⟨by rw [ho];rfl,?_⟩;obtain ⟨c,d,dt,sl⟩:=o;subst hd;cases hi:es.findIdx? (·.key.isStr name) with
 | some i =>
  refine hQ _ _ _ ep (cF _ ho (by simp only [qz,mG,hi]<;>rfl)) (by simp only [qz,mG,hi]<;>rfl) (hk.modify _ _) (λx=>findBy_modify (λn v=>v.isStr n) Value.isStr_inj es name x v i hi) (λ_=>Array.size_modify ..) (by simp) (cz ..)
 | none =>
  refine hQ _ _ _ (ep+1) (cF _ ho (by simp only [qz,mG,hi]<;>rfl)) (by simp only [qz,mG,hi]<;>rfl) (hk.push _ _ _ _) (λx=>findBy_push (λn v=>v.isStr n) es name x _ _ v (λy=>by
   show (name==y)=decide (y=name)
   by_cases h:y=name
   ·subst h;simp
   ·have:¬name=y:=λe=>h e.symm
    simp [h,this]) hi) (λh=>by
   exfalso
   unfold qt findBy at h;rw [mH,Array.find?_isSome] at h;refine ap h λx hx hp=>?_
   have:=Array.findIdx?_eq_none_iff.mp hi x hx
   have ML:x.key.isStr name=true:=hp;rw [ML] at this;cases this) (by simp) (cz ..)
def dT(C dx:ay)(sl:List AV)(o:Obj):Prop:=∃ws:Array aq,o={ cls:=.ref C,dict:=some dx,data:=.plain,slots:=ws.map some }∧bP ws.toList sl
theorem Ag(hd:o.data = .dict es ep)(hk:NB es):W.lookIn x o=some (qt es x):=by
 have te:es.toList.any (·.refKey)=false:=by
  rw [QaJ,N5];intro e he;obtain ⟨n,t,h⟩:=hk e he;simp [DictEntry.refKey,h]
 unfold W.lookIn;rw [hd];dsimp only;unfold qt findBy;rw [← Qae];cases e:es.toList.find? (·.key.isStr x) with
 | some en=>rfl
 | none=>rw [te];rfl
structure uf(K:mz)(C:ay):Prop where
 cd : ∃cd,clsIn K C=some cd∧cd.hasDict=true
 ga:j' K (.ref C) "__getattribute__"=some (some (.builtin "object.__getattribute__"))
 gt:j' K (.ref C) "__getattr__"=some none
 sa:j' K (.ref C) "__setattr__"=some (some (.builtin "object.__setattr__"))
 over:QbS K C=true
variable {sl:List AV}
theorem inst_of{x:ay}(S:St g L s)(hx:(x,dT C dx sl)∈L)(hd:(dx,et m)∈L): ∃ox od,InstAt s.heap x ox C (some od)∧ox.dict=some dx∧et m od∧s.heap.get? dx=some od∧s.heap.get? x=some ox∧dT C dx sl ox:=by
 refine ap (S.get hx) λox h1 Vi=>?_;refine ap Vi λws af h2=>?_;subst af;refine ap (S.get hd) λod h3 h4=>?_;exact ⟨_,od,⟨h1,rfl,rfl,h3⟩,rfl,h4,h3,h1,ws,rfl,h2⟩
theorem Iz{K:mz}(TK:iF g K){x:ay}(PC:uf K C)(hx:(x,dT C dx sl)∈L)(hd:(dx,et m)∈L)(hn:j' K (.ref C) name=some none)(hm:m.lookup name=some a)(hh : ∀v,AV.Is v a→pF v=true):
  PV g A L (lR (.ref x) name expr) a:=λs Q E S k=>by
 refine uK (inst_of S hx hd) λox od I e1 bz e5 e6 _=>?_;refine eQ bz λes ep e2 e3 e4=>?_;have h5:=e4 name;rw [hm] at h5;refine ap h5 λv h6 h7=>?_;refine ap PC.cd λcd eb yp=>?_;refine get_value (K:=K) (v:=v) (TK.re S) I PC.ga ?_ (hh v h7) (k _ _ h7 (S.toks _));unfold NA;rw [eb,cP,hn,cP];dsimp only;rw [cP,cP];dsimp only;unfold W.ownOf;rw [Qct yp];dsimp only;rw [Ag e2 e3.1,h6];rfl
theorem oW{i:Int}: ∀v,AV.Is v (.int i)→pF v=true:=by rintro _ ⟨t,rfl⟩;rfl
theorem mI{b:ay}: ∀v,AV.Is v (.ref b)→pF v=true:=by rintro _ rfl;rfl
theorem G3:∀v,AV.Is v .none→pF v=true:=by rintro _ rfl;rfl
theorem ie{e:Expr}{name:Str}{pos:Pos}{o a:AV}(he:PE g A L env e o)(h : ∀v,AV.Is v o→PV g A L (lR v name true) a)(hb:dW e name env (eval e env)=eval e env:=by rfl):PE g A L env (.Attribute e name pos) a:=λs Q E S k=>by
 rw [Qbt,hb];refine ab (he s _ _ S λv aW hv aN=>ab (bT (ab (aK (h v hv aW _ _ aN λr bu hr aS=>?_)))));exact ab (QaV (ah (k r bu hr aS)))
def uM(g:Gd)(A:bg)(L:ae)(x:aq)(name:Str)(a:AV)(L':ae):Prop:=∀v s Q E,AV.Is v a→St g L s→(∀s',St g L' s'→Q () s')→aJ (bD g.prog g.w) A (setAttr x name v) Q E s
theorem ug{K:mz}(TK:iF g K){C x dx:ay}(PC:uf K C){m:List (Str×AV)}{sl:List AV}{name:Str}{a:AV}(hx:(x,dT C dx sl)∈L)(U:aw dx (et m) (et (pS name a m)) L L')(ht:GB K C name=some none)(hz:m.length≤1000):uM g A L (.ref x) name a L':=by
 intro v s Q E ha S k;refine uK (inst_of S hx U.mem) λox od I e1 bz e5 e6 Vj=>?_;refine ap Vj λws e7 _=>?_;refine eQ bz λes ep e2 e3 e4=>?_;refine ap PC.cd λcd eb yp=>?_;refine set_plain (K:=K) (TK.re S) I PC.sa ?_;refine osa_open (K:=K) (s:={ s with toks:=s.toks+1 }) (TK.re (S.toks _)) I PC.over ht λb=>?_;subst e7;refine ab (ah (ab (ab (iW e6 (ab ((looks_clsIn (TK.re (S.toks (s.toks+1))) eb).here ?_))))));rw [yp];refine ah (a:=some dx) (ab (ah (ab ?_)));refine ON (s:={ s with toks:=s.toks+1 }) e5 e2 e3.1 λh' o' aT r7 h1 h2 h3 h4 h5 h6 h7=>?_;have gB:aT.size≤(pS name a m).length:=by
  have h8:=e4 name;cases hl:m.lookup name with
  | some b =>
   rw [hl] at h8;refine ap h8 λu h9 _=>?_;rw [h5 (by rw [h9];rfl),GG name a m (by rw [hl];rfl)];exact e3.2
  | none=>rw [GH name a m hl];have:=e3.2;exact bB (.i (.l .A .B) (.i (.l .C (.a .A .O)) (.l .C (.a .B .O)))) rfl e3.2 h6
 have hlen:(pS name a m).length≤m.length+1:=by
  cases hl:m.lookup name with
  | some b=>rw [GG name a m (by rw [hl];rfl)];exact Ey
  | none=>rw [GH name a m hl];exact bV (.l (.a .A .O) (.a .A .O)) rfl
 refine ab (QbK h1 (by rw [h2];exact pastItsLine_dict (by rw [sizeLine_eq];exact bB (.i (.l .A (.c 1000)) (.i (.l .B .A) (.i (.l .C (.a .B .O)) (.l .C (.a (.c 16777216) .O))))) rfl hz e3.2 h6)) ?_);refine ah ?_;refine k _ ?_;refine St.toks (s:={ s with heap:=h' }) (S.gG U h7 h1 ⟨aT,r7,h2,⟨h3,gB⟩,λy=>?_⟩) _;rw [Ox];by_cases e:y=name
 ·subst e;simp only [beq_self_eq_true,if_true];exact ⟨v,by rw [h4];simp,ha⟩
 ·have e':(y==name)=false:=by simpa using e
  rw [e'];simp only [bp,Qcv]
  have:=e4 y
  cases hl:m.lookup y with
  | some b=>rw [hl] at this;obtain ⟨u,h1,h2⟩:=this;exact ⟨u,by rw [h4,Qcs e];exact h1,h2⟩
  | none=>rw [hl] at this;show qt aT y=none;rw [h4,Qcs e];exact this
variable {rest:List fK}{Q:oP→aU→Prop}
variable {o:Expr}
theorem Ac(he:GX g A L (eval e env) K)(h : ∀v M,K v M→∃a x bX,AV.Is v a∧PE g A M env o (.val x)∧uM g A M x name a bX∧SX g A bX env rest Q)
  (hs:iw e (some (.Attribute o name p')) pos.line env=pure false:=by rfl):SX g A L env (.Assign [.Attribute o name p'] e pos::rest) Q :=
 i9 λs S=>plainObj_wpAny_Assign_Attribute (he s _ S λv M aW hv aN=>by
  refine lF (h v M hv) λa x bX h1 h2 h3 h4=>?_;exact h2 aW _ _ aN λxv bu hx aS=>by
   cases AV.cW hx;exact h3 v bu _ _ h1 aS λcC cJ=>h4 cC cJ) hs
variable {x:aq}
theorem sF(he:PE g A L env e a)(ho:PE g A L env o (.val x))(E0:uM g A L x name a L')(h:SX g A L' env rest Q)
  (hs:iw e (some (.Attribute o name p')) pos.line env=pure false):SX g A L env (.Assign [.Attribute o name p'] e pos::rest) Q :=
 Ac (GX.EX he) (λv M ⟨h1,h2⟩=>by subst h2;exact ⟨a,x,L',h1,ho,E0,h⟩) hs
theorem Ad{b c:AV}(ho:PE g A L env o (.val x))(hg:PV g A L (lR x name true) a)(he:PE g A L env e b)(u8 : ∀v w,AV.Is v a→AV.Is w b→PV g A L (CK op v w) c)(E0:uM g A L x name c L')(h:SX g A L' env rest Q):
  SX g A L env (.AugAssign (.Attribute o name p') op e pos::rest) Q :=
 i9 λs S=>wpAny_AugAssign_AttributeAny (ho s _ _ S λxv aW hx aN=>by
  cases AV.cW hx;exact hg aW _ _ aN λv bu hv aS=>he bu _ _ aS λw cC hw cJ=>u8 v w hv hw cC _ _ cJ λr gx hr eK=>E0 r gx _ _ hr eK λkX ij=>h kX ij)
theorem DU{K:mz}(TK:iF g K){C x dx f:ay}(PC:uf K C){m:List (Str×AV)}{sl:List AV}{o:Expr}{name:Str}{apos pos:Pos}{e:Expr}{rest:List Expr}{KA:List aq→ae→Prop}{K':aq→ae→Prop}
  (ho:PE g A L env o (.ref x)) (hx:(x,dT C dx sl)∈L) (hd:(dx,et m)∈L) (hn:m.lookup name=none) (hf:j' K (.ref C) name=some (some (.ref f))) (ht:tR K (.ref f)=some (.type "function"))
  (ha:nK g A L (b6 pos (aE (e::rest) env)) KA) (hc : ∀vs M,KA vs M→jI g A M (.ref f)∧GX g A M (call (.ref f) (.ref x::vs)) K')
  (hbase:dW o name env (eval o env)=eval o env:=by rfl)
  (hfew:i8 ((e::rest).length+([]:List g0).length) (b6 pos (aE (e::rest) env)) (bj pos (aO [] env))=true:=by rfl) (hline:(apos.endLine==pos.line)=true:=by rfl) (he:aE (e::rest) env=(false,eval e env)::aE rest env:=by rfl) :
  GX g A L (eval (.Call (.Attribute o name apos) (e::rest) [] pos) env) K':=λs Q S k=>by
 rw [Oc,hbase];refine ab (ho s _ _ S λxv aW r8 aN=>ab (bT ?_));cases AV.cW r8;refine uK (inst_of aN hx hd) λox od I e1 bz e5 e6 _=>?_;refine eQ bz λes ep e2 e3 e4=>?_;have gd:Gw (some od) name=some false:=by
  have:=e4 name
  rw [hn] at this;unfold Gw;dsimp only;rw [Ag e2 e3.1,this];rfl
 have rO:pC true o env apos pos=pure pos:=by unfold pC;simp [hline]
 unfold Qbq;rw [hfew];refine ab (aK (method_fn (K:=K) (TK.re aN) I PC.ga PC.gt hf ht gd ?_));refine ab (fD rO ?_);exact D6 (first:=[.ref x]) ha hc he aW Q aN k
end
section
variable {g:Gd}{A:bg}{L L' L₁ L₂ bH:ae}{env:Env}
def CX(g:Gd)(A:bg)(L:ae)(c:Code)(K:aq→ae→Prop):Prop:=∀s R,St g L s→(∀v M s',K v M→St g M s'→R (.ok (.ret v)) s')→xd (bD g.prog g.w) A c R s
theorem GX.rf{f:aq}(h:CX g A L (.call f ⟨vs,kw⟩) K):GX g A L (call f vs kw) K:=λs Q S k =>
 jP (h s (λr s'=>match r with | .ok (.ret v)=>Q v s' | .ok _=>False | .error e=>cU e s') S λv M s' hv S'=>k v M s' hv S')
theorem CX.mono{c:Code}(h:CX g A L c K)(w : ∀v M,K v M→K' v M):CX g A L c K':=λs R S k=>h s R S λv M s' hv S'=>k v M s' (w v M hv) S'
theorem rF{f:ay}{o:Obj}{fd:xb}{body:List fK}{vs:List aq}{kw:List (Str×aq)}{binds:List (Str×aq)}{m:List (Str×AV)}{K:aq→ae→Prop}(hf:At g L f o)(hd:o.data = .func fd)(rD:fd.body = .stmts body)(eb:qL g L fd.code fd.qualname)
  (oj:A.depth<iX) (rE : ∀s,St g L s→QbJ s fd ⟨vs,kw⟩ binds) (hb:BA binds m) (d9:ut (m.map (·.1))=true) (ku:uu fd.scope (m.map (·.1))=true)
  (h : ∀F,SX g (A.deeper (jw fd f F)) ((F,am m)::L) (jw fd f F) body λfl s'=>∃M,K (match fl with | .ret v=>v | _=>.none) M∧St g M s')
  (hco:fd.scope.isCoroutine=false:=by rfl) (hgen:fd.scope.isGenerator=false:=by rfl) (hk:fd.scope.kind = .function:=by rfl) (hcell:lq fd.scope=true:=by rfl) :
  CX g A L (.call (.ref f) ⟨vs,kw⟩) K:=λs R S k=>by
 refine oR oj (hf s S) hd hco hgen rD (eb s S) ?_;refine rE s S _ _ _ _ ?_;have uy : ∀x∈binds,fd.scope.names.lookup x.1=some .local:=by
  intro x hx
  have:x.1∈m.map (·.1):=hb.names▸List.mem_map.mpr ⟨x,hx,rfl⟩
  exact z' ku _ this
 refine jB (vE hcell) uy (λdB gW mQ=>⟨S.lim.fresh _ mQ,?_⟩) hk;refine Cr (ja (cw (h s.heap.objs.size _ (Al S gW mQ hb (z9 d9) _)) (λfl s' hq=>?_) λ_ _ x=>x));refine ap hq λM hK SM=>?_;exact k _ M s' hK SM
noncomputable abbrev Around.making(A:bg)(C:ay)(vals:List aq)(kw:List (Str×aq)):bg:=A.under (.builtin "type.__call__" ⟨.ref C::vals,kw⟩)
theorem bZ.making(h:bZ (n+1) A):bZ n (Around.making A C vals kw):=by
 refine ⟨h.handled,?_,?_⟩
 ·have:=h.depth
  show A.depth+1+n<_
  exact z8 this
 ·have:=h.units
  have e:(zA "type.__call__" ⟨.ref C::vals,kw⟩).cUnits≤8:=by
   show 1+3*(zA "type.__call__" ⟨.ref C::vals,kw⟩).frames≤8
   have:(zA "type.__call__" ⟨.ref C::vals,kw⟩).frames≤1:=by exact aZ rfl
   exact bV (.i (.l .A .O) (.l (.a .O (.m 3 .A)) (.c 8))) rfl this
  show A.units+(zA "type.__call__" ⟨.ref C::vals,kw⟩).cUnits+8*n<_
  exact fy (.i (.t (.a .A (.m 8 (.a .B .O))) .C) (.i (.l .D (.c 8)) (.t (.a (.a .A .D) (.m 8 .B)) .C))) rfl this e
def u9(g:Gd)(L:ae)(P:mz→Prop):Prop:=∀s,St g L s→∃K:mz,K.In s.heap∧P K
variable {K:mz}{P:mz→Prop}
theorem u9.top(TK:iF g K)(h:P K):u9 g L P:=λs S=>⟨K,TK.re S,h⟩
variable {rest:List aq}
theorem HS(H:u9 g L λK=>Qar K C=true∧j' K (.ref C) "__init__"=some (some (.ref fI))∧tR K (.ref fI)=some (.type "function"))
  (h : ∀x dx,CX g (Around.making A C rest kw) ((x,dT C dx [])::(dx,et [])::L) (.call (.ref fI) ⟨.ref x::rest,kw⟩) λv M=>v = .none∧K' (.ref x) M):CX g A L (.call (.ref C) ⟨rest,kw⟩) K':=λs R S k=>by
 refine qS (H s S) λK X hm hi hf=>?_;obtain ⟨hh,gg,d,t,os⟩:=s;refine make_core (makes_of X hm) (looks_findIn X hi) (λself=>bind_fn X self hf) (.inl rfl) ?_;have S1:St g ((hh.objs.size,et [])::L) ⟨hh.push QbV,gg,d,t,os⟩:=S.push (s:=⟨hh,gg,d,t,os⟩) (o:=QbV) ⟨#[],0,rfl,⟨λ_ he=>by simp at he,cB _⟩,λx=>rfl⟩;have S2:=S1.push (o:=instObj C hh.objs.size) (P:=dT C hh.objs.size []) ⟨#[],by simp,.nil⟩;have e:(hh.push QbV).objs.size=hh.objs.size+1:=vw ..;dsimp only at S2;rw [e] at S2;refine h _ _ _ _ S2 λv M s' hv S'=>?_;refine b8 hv λaf hk=>?_;subst af;exact ⟨rfl,k _ M s' hk S'⟩
theorem IA(TK:iF g K)(hm:Qar K C=true)(hi:j' K (.ref C) "__init__"=some (some (.ref fI)))(hf:tR K (.ref fI)=some (.type "function"))
  (h : ∀x dx,CX g (Around.making A C rest kw) ((x,dT C dx [])::(dx,et [])::L) (.call (.ref fI) ⟨.ref x::rest,kw⟩) λv M=>v = .none∧K' (.ref x) M):CX g A L (.call (.ref C) ⟨rest,kw⟩) K':=HS (.top TK ⟨hm,hi,hf⟩) h
theorem Hj{C:ay}(H:u9 g L λK=>(∃o cd,K.lookup C=some o∧o.data = .cls cd)∧lZ K (.ref C) "__call__"=some (some (.builtin "type.__call__"))):jI g A L (.ref C):=by
 intro s Q E S k;refine du (H s S) λK X bz hc=>?_;refine cp bz λo cd ho hd=>?_;unfold vo;refine ab (eU (X _ _ ho) ?_);rw [hd];dsimp only;refine ab ((Qb8 X hc).here ?_);exact ah (k _ _ trivial S)
theorem Ro(TK:iF g K)(ho:K.lookup C=some o)(hd:o.data = .cls cd)(hc:lZ K (.ref C) "__call__"=some (some (.builtin "type.__call__"))):jI g A L (.ref C):=Hj (.top TK ⟨⟨o,cd,ho,hd⟩,hc⟩)
end
section
open PySem PySem.W PySem.Builtin PySem.Builtin.ObjectAttr PySem.Builtin.Getset_descriptor PyProof.Rows
variable {g:Gd}{A:bg}{L L' L₁ L₂ bH:ae}{env:Env}
noncomputable def AT(i:Nat)(a:AV)(sl:List AV):List AV:=if i<sl.length then sl.set i a else sl++[a]
variable {sl:List AV}{ws:Array aq}
theorem Qm{v:aq}(h:bP ws.toList sl)(ha:AV.Is v a)(hi:i≤sl.length):
  ∃us:Array aq,((ws.map some)++QaU (i+1-(ws.map some).size) none).setIfInBounds i (some v)=us.map some∧bP us.toList (AT i a sl):=by
 have hl:=h.length;rw [aG] at hl;unfold AT;by_cases aY:i<sl.length
 ·refine ⟨ws.setIfInBounds i v,?_,?_⟩
  ·have e:i+1-(ws.map some).size=0:=by rw [Cz];exact bB (.i (.e .A .B) (.i (.t .C .B) (.e (.s (.a .C .O) .A) .Z))) rfl hl aY
   rw [e];simp
  ·rw [Qct aY,Cy];exact h.set i ha
 ·have ei:i=ws.size:=bB (.i (.l .A .B) (.i (.e .C .B) (.i (.n (.t .A .B)) (.e .A .C)))) rfl hi hl aY;refine ⟨ws.push v,?_,?_⟩
  ·have e:i+1-(ws.map some).size=1:=by rw [Cz];exact bB (.i (.l .A .B) (.i (.e .C .B) (.i (.n (.t .A .B)) (.e (.s (.a .A .O) .C) .O)))) rfl hi hl aY
   rw [e];apply Array.toList_inj.mp;subst ei;simp
  ·rw [Qcs aY,qD];exact h.snoc ha
structure oY(K:mz)(C:ay)(name:Str)(p:ay)(i:Nat):Prop where
 Vk:GB K C name=some (some (.ref p))
 typ:tR K (.ref p)=some (.type "member_descriptor")
 slot:slotIn K p C=some i
 find : ∀od,NA K C od name=some (.bind (.builtin "member_descriptor.__get__") (.ref p))
structure vN(K:mz)(C:ay):Prop where
 ga:j' K (.ref C) "__getattribute__"=some (some (.builtin "object.__getattribute__"))
 gt:j' K (.ref C) "__getattr__"=some none
 sa:j' K (.ref C) "__setattr__"=some (some (.builtin "object.__setattr__"))
 over:QbS K C=true
theorem Hk{C x dx p:ay}{i:Nat}{m:List (Str×AV)}{sl:List AV}{name:Str}{a:AV}(H:u9 g L λK=>vN K C∧oY K C name p i)(hi:i≤sl.length)(mV:i<1000)(hd:(dx,et m)∈L)(U:aw x (dT C dx sl) (dT C dx (AT i a sl)) L L'):uM g A L (.ref x) name a L':=by
 intro v s Q E ha S k;refine du (H s S) λK X BC SC=>?_;refine uK (inst_of S U.mem hd) λox od I e1 e2 e5 e6 Vl=>?_;refine ap Vl λws e7 r9=>?_;refine set_plain (K:=K) X I BC.sa ?_;have aN:=S.toks (s.toks+1);refine osa_descr (K:=K) (s:={ s with toks:=s.toks+1 }) KF.slot_mset X I BC.over SC.Vk SC.typ ?_;refine Xn (slot_of X SC.slot) λn tn owner behind tb d slp cd ho hc hm hb af=>?_;subst af;refine ap (Qm (v:=v) r9 ha hi) λus ZE XI=>?_;obtain ⟨hh,gg,dr,t,os⟩:=s;have L0:=I.type (M:=bD g.prog g.w);have L1:=looks_mroIn (M:=bD g.prog g.w) X hm;have L2:Gp (bD g.prog g.w) hh (Slots.slotNamesOf (.ref C)) cd.slotNames:=(looks_clsIn X hc).andThen .now;have hx:=I.at_;dsimp only at ho hx L0 L1;have f0:=Gk (M:=bD g.prog g.w) ho 0 (v:=.str n tn) rfl;have f1:=Gk (M:=bD g.prog g.w) ho 1 (v:=owner) rfl;have f3:=Gk (M:=bD g.prog g.w) ho 3 (v:=.builtin "proto.slot#set") rfl;have f4:=Gk (M:=bD g.prog g.w) ho 4 (v:=.int behind tb) rfl;refine codeAny_call_builtin KF.slot_mset.plain KF.entry_mset (KF.slot_mset.check _ _ _ _ _ _ _ _ ⟨_,ho,rfl⟩ (KF.args_mset _ _ _) ?_);unfold ey.«member_descriptor.__set__» descrSet descrStoreThrough descrCheckInstance descrNameAndClass isInstance;have f5:Gp (bD g.prog g.w) hh (descrItself (.ref p)) [.ref p]:=((Looks.ld (part:=none) ho).andThen .now).andThen (Looks.of_pure (by kernel_rfl))
 repeat lk
 refine ⟨mF _ (by decide +kernel),m7 KF.entry_slotset ?_⟩;unfold ey.«proto.slot#set» Slots.target
 repeat lk
 rw [Qcs hb];refine ah (ab ?_);unfold QbQ;dsimp only;rw [Qcs (by rw [sizeLine_eq];exact gV (.i (.t (.s (.s .A .O) (.t .A)) (.c 1000)) (.n (.l (.c 16777216) (.s (.s .A .O) (.t .A))))) rfl mV)];refine tY hx (ah ?_);refine k _ ?_;have aS:St g L ⟨hh,gg,dr,t+1,os⟩:=aN;refine aS.gG U (cz ..) (cF _ hx ?_) ?_
 ·subst e7;rfl
 ·subst e7;refine ⟨us,?_,XI⟩;dsimp only;rw [ZE]
variable {K:mz}{p x:ay}
theorem xr(TK:iF g K)(BC:vN K C)(SC:oY K C name p i)(hi:i≤sl.length)(mV:i<1000)(hd:(dx,et m)∈L)(U:aw x (dT C dx sl) (dT C dx (AT i a sl)) L L'):uM g A L (.ref x) name a L':=Hk (.top TK ⟨BC,SC⟩) hi mV hd U
theorem Dx(H:u9 g L λK=>vN K C∧oY K C name p i)(hx:(x,dT C dx sl)∈L)(hd:(dx,et m)∈L)(ha:sl[i]?=some a)(hh : ∀v,AV.Is v a→pF v=true):
  PV g A L (lR (.ref x) name expr) a:=λs Q E S k=>by
 refine du (H s S) λK X BC SC=>?_;refine uK (inst_of S hx hd) λox od I e1 e2 e5 e6 Vm=>?_;refine ap Vm λws e7 r9=>?_;refine ap (r9.get ha) λv h1 h2=>?_;have hv:(ox.slots[i]?).join=some v:=by
  subst e7;have h3:ws[i]?=some v:=by simpa using h1
  dsimp only;rw [Array.getElem?_map,h3];rfl
 refine get_bind (K:=K) X I BC.ga (SC.find _) BC.gt (jP (slot_get (K:=K) (s:={ s with toks:=s.toks+1 }) X I SC.slot hv ?_));dsimp only;rw [handedOut_of (hh v h2)];exact ah (k _ _ h2 (S.toks _))
theorem rz(TK:iF g K)(BC:vN K C)(SC:oY K C name p i)(hx:(x,dT C dx sl)∈L)(hd:(dx,et m)∈L)(ha:sl[i]?=some a)(hh : ∀v,AV.Is v a→pF v=true):
  PV g A L (lR (.ref x) name expr) a:=Dx (.top TK ⟨BC,SC⟩) hx hd ha hh
end
section
variable {g:Gd}{A:bg}{L L' L₁ L₂ bH:ae}
noncomputable def fu(i k:Nat):fK:=bA (ju (top i)) k
structure wo(K:mz)(C:ay):Prop where
 obj : ∃o cd,K.lookup C=some o∧o.data = .cls cd
 call:lZ K (.ref C) "__call__"=some (some (.builtin "type.__call__"))
 makes:Qar K C=true
 base:vN K C
theorem wo.kept{K:mz}(h:wo K C)(TK:iF g K):jI g A L (.ref C):=by
 refine cp h.obj λo cd h1 h2=>?_;exact Ro TK h1 h2 h.call
structure qV(g:Gd)(K:mz)(C:ay)(name qual:Str)(st:fK)(f:ay):Prop where
 find:j' K (.ref C) name=some (some (.ref f))
 typ:tR K (.ref f)=some (.type "function")
 fn:ma g st name qual (λdV=>dV = .none) f
structure Cls(g:Gd) where
 K:mz
 TK:iF g K
 NI:ay
 ni:wo K NI
 Fy:ay
 AJ:qV g K NI "__init__" "_NodeInfo.__init__" (fu 11 1) Fy
 pn:ay
 pp:ay
 ps:ay
 sN:oY K NI "node" pn 0
 sP:oY K NI "npredecessors" pp 1
 sS:oY K NI "successors" ps 2
noncomputable def xm(NI i di l:ay)(key de:Int)(succ:List Int):ae:=[(i,dT NI di [.int key,.int de,.ref l]),(di,et []),(l,ai succ)]
theorem Qn(D:Cls g){n:Nat}(hA:bZ (n+1) A){x dx:ay}{k:Int}{vs:List aq}(bk:bP vs [.ref x,.int k]):
  CX g A ((x,dT D.NI dx [])::(dx,et [])::L) (.call (.ref D.Fy) ⟨vs,[]⟩) λv M=>v = .none∧∃l,M=xm D.NI x dx l k 0 []++L:=by
 refine nu D.AJ.fn λo dV kV doc pm cq ct ho fX hd eb af=>?_;subst af;refine eQ bk.two λv1 v2 af mU kh=>?_;subst af;refine rF (binds:=[("self",v1),("node",v2)]) (m:=[("self",.ref x),("node",.int k)]) (.top ho fX) hd rfl (.top eb) hA.room ?_ (.cons mU (.cons kh .nil)) rfl rfl ?_
 ·intro s S;exact dY rfl
 intro F;refine sF (hs:=by rfl) (a:=.int k) (x:=.ref x) (by k_all) (by k_all) (xr (m:=[]) D.TK D.ni.base D.sN (cM _) (Ez) (by k_mem) (by k_upd)) ?_;refine sF (hs:=by rfl) (a:=.int 0) (x:=.ref x) gP (by k_all) (xr (m:=[]) (sl:=[.int k]) D.TK D.ni.base D.sP (cB 1) (EA) (by k_mem) (by k_upd)) ?_;refine Ac (xq (as:=[]) dh (cM _)) ?_;refine fh λl=>?_;refine ⟨.ref l,.ref x,_,rfl,by k_all,xr (m:=[]) (sl:=[.int k,.int 0]) D.TK D.ni.base D.sS (cB 2) (Ki) (by k_mem) (by k_upd),eJ λs S=>⟨_,⟨rfl,l,rfl⟩,S.cX ?_⟩⟩;exact aj.pick (by k_upd) iI (aj.pick (by k_upd) iI (aj.pick (by k_upd) iI (aj.skip aj.refl)))
end
section
variable {g:Gd}{A:bg}{L L' L₁ L₂ bH:ae}{env:Env}
def iG(be:List (Int×aq))(xs:List (Int×AV)):Prop:=be.map (·.1)=xs.map (·.1)∧bP (be.map (·.2)) (xs.map (·.2))
def kN(g:Gd)(xs:List (Int×AV))(ep:Nat)(o:Obj):Prop:=∃be es,(o.ExactDict∧o.data = .dict es ep∧KeysOf (hJ g.prog g.w) es∧Pairs (hJ g.prog g.w) es.toList be∧(be.map (·.1)).Nodup)∧iG be xs
def eZ(g:Gd)(xs:List (Int×AV))(o:Obj):Prop:=∃ep,kN g xs ep o
structure oB(g:Gd):Prop where
 lt : ∃o,g.dB.get? zI=some o
 no:zI∉g.tabs
theorem vU(M:oB g)(S:St g L s)(h:(d,P)∈L):(d==zI)=false:=by
 refine cT M.lt λo ho=>?_
 have:d≠zI:=by
  rintro rfl;rcases S.bound _ h with h1 | h1
  ·exact fZ _ (dX (eu ho) h1)
  ·exact M.no h1
 simpa using this
theorem vO{s:aU}(S:St g L s){d:ay}{xs:List (Int×AV)}{ep:Nat}(h:(d,kN g xs ep)∈L): ∃be,s.heap.DictAt (hJ g.prog g.w) d be ep∧iG be xs:=by
 refine ap (S.get h) λo ho Vn=>?_;refine cp Vn λbe es h1 h2=>?_;exact ⟨be,⟨o,es,ho,h1⟩,h2⟩
variable {xs:List (Int×AV)}
theorem sM(S:St g L s)(h:(d,eZ g xs)∈L): ∃be,s.heap.DictOf (hJ g.prog g.w) d be∧iG be xs:=by
 refine ap (S.get h) λo ho Vo=>?_;refine Lv Vo λep be es h1 h2=>?_;exact ⟨be,⟨o,es,ep,ho,h1⟩,h2⟩
theorem D8(hd:h.DictOf (hJ g.prog g.w) d be)(hk:iG be xs): ∃o,h.get? d=some o∧eZ g xs o:=by
 refine Lv hd λo es ep ho r=>?_;exact ⟨o,ho,ep,be,es,r,hk⟩
noncomputable def gC(xs:List (Int×AV))(k:Int):Option AV:=(xs.find? λp=>p.1=k).map (·.2)
noncomputable def rP(xs:List (Int×AV))(k:Int)(a:AV):List (Int×AV):=if xs.any (λp=>p.1=k) then xs.map (λp=>if p.1=k then (p.1,a) else p) else xs++[(k,a)]
theorem iG.cases(h:iG be xs):(be=[]∧xs=[])∨∃k v a r r',be=(k,v)::r∧xs=(k,a)::r'∧AV.Is v a∧iG r r':=by
 refine b8 h λh1 h2=>?_;cases be with
 | nil=>cases xs with
  | nil=>exact .inl ⟨rfl,rfl⟩
  | cons x xs=>cases h1
 | cons p r=>cases xs with
  | nil=>cases h1
  | cons x r' =>
   obtain ⟨k,v⟩:=p;obtain ⟨k',a⟩:=x;rw [aB,aB] at h1 h2;refine b8 (lQ h1) λe1 e2=>?_;cases h2 with
   | cons hv ht =>
    dsimp only at e1;subst e1;exact .inr ⟨k,v,a,r,r',rfl,rfl,hv,e2,ht⟩
theorem iG.at(h:iG be xs)(k:Int):(∀a,gC xs k=some a→∃v,Qan be k=some v∧AV.Is v a)∧(gC xs k=none→Qan be k=none):=by
 induction be generalizing xs with
 | nil =>
  rcases h.cases with ⟨_,rfl⟩ | ⟨_,_,_,_,_,e,_⟩
  ·exact ⟨λa ha=>(by cases ha),λ_=>rfl⟩
  ·cases e
 | cons p r ih =>
  rcases h.cases with ⟨e,_⟩ | ⟨k',v,a,r1,r',e,rfl,hv,hr⟩
  ·cases e
  ·cases e;unfold gC Qan;rw [dJ,dJ];by_cases hk:k'=k
   ·rw [decide_eq_true hk];exact ⟨λb hb=>by cases hb;exact ⟨v,rfl,hv⟩,λhb=>by cases hb⟩
   ·rw [decide_eq_false hk];exact ih hr
theorem iG.any(h:iG be xs)(k:Int):be.any (λp=>p.1=k)=xs.any (λp=>p.1=k):=by
 have e1:be.any (λp=>p.1=k)=(be.map (·.1)).any (λx=>x=k):=by rw [NJ];rfl
 have e2:xs.any (λp=>p.1=k)=(xs.map (·.1)).any (λx=>x=k):=by rw [NJ];rfl
 rw [e1,e2,h.1]
theorem iG.T7{v:aq}(hv:AV.Is v a): ∀{be:List (Int×aq)} {xs:List (Int×AV)},iG be xs→iG (be.map λp=>if p.1=k then (p.1,v) else p) (xs.map λp=>if p.1=k then (p.1,a) else p):=by
 intro be
 induction be with
 | nil =>
  intro xs h;rcases h.cases with ⟨_,rfl⟩ | ⟨_,_,_,_,_,e,_⟩
  ·exact ⟨rfl,.nil⟩
  ·cases e
 | cons p r ih =>
  intro xs h;rcases h.cases with ⟨e,_⟩ | ⟨k',u,b,r1,r',e,rfl,hu,hr⟩
  ·cases e
  ·cases e;obtain ⟨i1,i2⟩:=ih hr;by_cases hk:k'=k
   ·refine ⟨?_,?_⟩
    ·simp only [aB,Qct hk];rw [i1]
    ·simp only [aB,Qct hk];exact .cons hv i2
   ·refine ⟨?_,?_⟩
    ·simp only [aB,Qcs hk];rw [i1]
    ·simp only [aB,Qcs hk];exact .cons hu i2
theorem iG.put{be:List (Int×aq)}{xs:List (Int×AV)}(h:iG be xs){k:Int}{v:aq}{a:AV}(hv:AV.Is v a):iG (stored be k v) (rP xs k a):=by
 unfold stored rP;rw [h.any];split
 ·exact iG.T7 hv h
 ·refine ⟨?_,?_⟩
  ·rw [aV,aV,h.1];rfl
  ·rw [aV,aV];exact h.2.append (.cons hv .nil)
theorem iG.length(h:iG be xs):be.length=xs.length:=by have:=congrArg iQ h.1;simpa using this
theorem HT:NE g A L (eval (.Dict [] [] pos) env) (eZ g []):=λs Q S k=>by
 refine wpAny_Dict_empty ?_;refine ap (D8 (g:=g) (xs:=[]) (Heap.DictOf.new s.heap) ⟨rfl,.nil⟩) λo h1 h2=>?_;have h3:(s.heap.push { cls:=.type "dict",data:=.dict #[] }).get? s.heap.objs.size=some { cls:=.type "dict",data:=.dict #[] }:=pA _ rfl;rw [h3] at h1;cases h1;exact k _ _ (S.push h2)
theorem sJ{v:aq}(h:AV.Is v (.int k)):(QbF k v)=true:=by obtain ⟨t,rfl⟩:=h;simp [QbF]
theorem I8{v:aq}(U:aw d (eZ g xs) (eZ g (rP xs k a)) L L')(hz:xs.length≤100000)(hk:AV.Is kv (.int k))(hv:AV.Is v a):GU g A L (GD (.ref d) kv v) L':=λs Q S kk=>by
 refine ap (sM S U.mem) λbe h1 h2=>?_;refine wpAny_setItem_pairs (knd:=hJ g.prog g.w) (k:=k) (sJ hk) h1 (λh' fQ io=>?_) (by rw [h2.length,sizeLine_eq];exact z5 hz);refine ap (D8 fQ (h2.put hv)) λo ho hP=>?_;exact kk _ (St.toks (s:={ s with heap:=h' }) (S.gG U io ho hP) _)
theorem SP{d:ay}{xs:List (Int×AV)}{k:Int}{a:AV}{kv:aq}(hd:(d,eZ g xs)∈L)(hk:AV.Is kv (.int k))(hx:gC xs k=some a):PV g A L (rq (.ref d) kv) a:=λs Q E S kk=>by
 refine ap (sM S hd) λbe h1 h2=>?_;refine ap ((h2.at k).1 a hx) λv h3 h4=>?_;exact QbL (knd:=hJ g.prog g.w) (k:=k) (sJ hk) h1.mapOf h3 (kk _ _ h4 (S.toks _))
def yq(g:Gd)(L:ae)(d:ay)(T:String):Prop:=∀s,St g L s→s.TypeIs (.ref d) T∧∃ob,s.heap.get? d=some ob∧ob.dict=none
theorem Dy(h:(d,eZ g xs)∈L):yq g L d "dict":=λs S=>by
 refine ap (sM S h) λbe h1 h2=>?_;refine Lw (id h1) λo es ep ho he _=>?_;exact ⟨h1.typeIs,o,ho,he.2.1⟩
theorem Ah{d:ay}{xs:List AV}(h:(d,aM xs)∈L):yq g L d "list":=λs S=>by
 refine cp (eI S h) λws n h1 h2=>?_;exact ⟨(gN h1).typeIs,_,h1,rfl⟩
variable {KA:List aq→ae→Prop}{T:String}{o:Expr}
theorem vI{id:String}(ho:PE g A L env o (.ref d))(hb:yq g L d T)(pa:PlainAttrs T)(slot:Slot T name id)
  (uS:n6 (.builtin id)=pure (.type "method_descriptor")) (ha:nK g A L (b6 pos (aE (e::rest) env)) KA) (hc : ∀vs M,KA vs M→GX g A M (call (.builtin id) (.ref d::vs)) K')
  (hbase:dW o name env (eval o env)=eval o env)
  (hfew:((b6 pos (aE (e::rest) env)).all (λx=>!x.1)&&(bj pos (aO [] env)).all (λx=>x.1.isSome)&&decide ((e::rest).length+([]:List g0).length+(if ([]:List g0).isEmpty then 0 else 1)<30))=true)
  (hline:(apos.endLine==pos.line)=true) (he:aE (e::rest) env=(false,eval e env)::aE rest env) :
  GX g A L (eval (.Call (.Attribute o name apos) (e::rest) [] pos) env) K':=λs Q S k=>by
 refine tN hbase hfew hline pa slot uS (PV.v ho s _ _ S λaW aN=>?_);refine b8 (hb aW aN) λhT Vp=>?_;refine ap Vp λob h1 h2=>?_;refine ⟨hT,λa e=>by cases e;exact ⟨ob,h1,h2⟩,?_⟩;have e2:([]:List (Option Str×Sem aq))=bj pos (aO [] env):=rfl;rw [e2];exact D6 (first:=[.ref d]) ha (λvs M h=>⟨gp (λ_ x=>(by cases x)),hc vs M h⟩) he aW Q aN k
theorem Hl{id:String}(ho:PE g A L env o (.ref d))(hb:yq g L d T)(pa:PlainAttrs T)(slot:Slot T name id)
  (uS:n6 (.builtin id)=pure (.type "method_descriptor")) (hc:GX g A L (call (.builtin id) [.ref d]) K')
  (hbase:dW o name env (eval o env)=eval o env:=by rfl)
  (hfew:((b6 pos (aE [] env)).all (λx=>!x.1)&&(bj pos (aO [] env)).all (λx=>x.1.isSome)&&decide (([]:List Expr).length+([]:List g0).length+(if ([]:List g0).isEmpty then 0 else 1)<30))=true:=by rfl)
  (hline:(apos.endLine==pos.line)=true:=by rfl) :
  GX g A L (eval (.Call (.Attribute o name apos) [] [] pos) env) K':=λs Q S k=>by
 refine tN hbase hfew hline pa slot uS (PV.v ho s _ _ S λaW aN=>?_);refine b8 (hb aW aN) λhT Vq=>?_;refine ap Vq λob h1 h2=>?_;refine ⟨hT,λa e=>by cases e;exact ⟨ob,h1,h2⟩,?_⟩;have e2:([]:List (Option Str×Sem aq))=bj pos (aO [] env):=rfl;rw [e2];exact qE (L:=L) (gp λ_ x=>by cases x) (CT aN λbu aS=>⟨aS,λcC cJ=>hc cC _ cJ k⟩)
theorem I9(M:oB g)(hd:(d,eZ g xs)∈L)(bk:bP vs [.int k]):
  GX g A L (call (.builtin "dict.get") (.ref d::vs)) λv N=>(match gC xs k with | some a=>AV.Is v a | none=>v = .none)∧N=L:=λs Q S kk=>by
 refine ap bk.one λv af hv=>?_;subst af;refine ap (sM S hd) λbe h1 h2=>?_;refine Qav tL h1.typeIs PySem.F.entry_dict_get (PySem.F.args_dict_get_2 _ _) (meets_dict_get (hJ g.prog g.w) d (k:=k) (sJ hv) (vU M S hd)) ⟨_,h1.mapOf,?_⟩;refine kk _ L _ ⟨?_,rfl⟩ (S.toks _);have h3:=h2.at k;cases e:gC xs k with
 | some a=>obtain ⟨u,h4,h5⟩:=h3.1 a e;rw [h4];exact h5
 | none=>rw [h3.2 e];rfl
theorem IB{o i:Expr}{pos:Pos}{d:ay}{xs:List (Int×AV)}{k:Int}{a:AV}(ho:PE g A L env o (.ref d))(hi:PE g A L env i (.int k))(hd:(d,eZ g xs)∈L)(hx:gC xs k=some a)
  (hs : ∀o' i',lV i false o' i'=ix [o',i'] (rq o' i')) (ht : ∀o' r,j8 o o' r=pure ()):PE g A L env (.Subscript o i pos) a:=λs Q E S kk=>by
 refine vA (ho s _ E S λv aW hv aN=>hi aW _ E aN λw bu hw aS=>?_);cases AV.cW hv;refine ap (sM aS hd) λbe h1 h2=>?_;exact oQ h1.typeIs PySem.F.slot_dict_getitem.lookup (SP hd hw hx bu Q E aS kk) (hs _ _) (λ_=>ht _ _)
variable {rest:List fK}{Q:oP→aU→Prop}
theorem Hm{p q r c:Pos}{k:Nat}{b o:List fK}(he:GX g A L (eval e env) K)
  (h : ∀v M,K v M→∃a bX,AV.Is v a∧jx g A env x a M bX∧((v == .none)=true→SX g A bX env (b++rest) Q)∧((v == .none)=false→SX g A bX env (o++rest) Q)) :
  SX g A L env (.If (.Compare (.NamedExpr (.Name x p) e q) [.Is] [.Constant .none k r] c) b o pos::rest) Q:=λs S=>by
 have e1:mX (.If (.Compare (.NamedExpr (.Name x p) e q) [.Is] [.Constant .none k r] c) b o pos::rest) env=(standAt pos>>=λ_=>isTrue (.Compare (.NamedExpr (.Name x p) e q) [.Is] [.Constant .none k r] c) env (eval (.Compare (.NamedExpr (.Name x p) e q) [.Is] [.Constant .none k r] c) env)>>=λc=>if c then mX (b++rest) env else mX (o++rest) env):=by
  rw [NQ,exec_If];show bR (bR _ _) _=bR _ _
  rw [qF];congr 1;funext _;show bR (bR _ _) _=bR _ _
  rw [qF];congr 1;funext c;cases c
  ·simp only [bp,Qcv];rw [zZ];rfl
  ·simp only [if_true];rw [zZ];rfl
 rw [e1];refine ab (bT (ab (lP (wpAny_NamedExpr (he s _ S λv M aW hv aN=>?_)) (by with_unfolding_all rfl))));refine tc (h v M hv) λa bX ha hst h1 h2=>?_;refine eY (hst v aW _ _ ha aN λbu aS=>?_);refine oi bu _ _ aS λw cC hw cJ=>?_;cases AV.cW hw;refine wW (hZ ?_);cases e2:v == .none with
 | true=>exact h1 e2 cC cJ
 | false=>exact h2 e2 cC cJ
theorem Qo{o i e:Expr}{x:Str}{p1 p2 pos:Pos}{K:aq→ae→Prop}(he:GX g A L (eval e env) K)
  (h : ∀v M,K v M→∃a d k L1 L2,AV.Is v a∧PE g A M env o (.ref d)∧PE g A M env i (.int k)∧(∀kv,AV.Is kv (.int k)→GU g A M (GD (.ref d) kv v) L1)∧jx g A env x a L1 L2∧SX g A L2 env rest Q)
  (pj:(assignEach [.Subscript o i p1,.Name x p2] env).map (·.2)=[kG (.Subscript o i p1) env,kG (.Name x p2) env]) (hw:swappedStores [.Subscript o i p1,.Name x p2] e env=pure none) :
  SX g A L env (.Assign [.Subscript o i p1,.Name x p2] e pos::rest) Q :=
 i9 λs S=>wpAny_Assign_two (he s _ S λv M aW hv aN=>by
  refine Xl (h v M hv) λa d k L1 L2 h1 h2 h3 h4 h5 h6=>?_;rw [assign_Subscript];refine ab (aK (h2 aW _ _ aN λdv bu hd aS=>ab (aK (h3 bu _ _ aS λkv cC hk cJ=>ab (bT (ab (aK ?_)))))));cases AV.cW hd;refine h4 kv hk cC _ cJ λgx eK=>wpAny_release ?_;exact eY (h5 v gx _ _ h1 eK λkX ij=>h6 kX ij)) pj hw
end
section
variable {g:Gd}{A:bg}{L L' L₁ L₂ bH:ae}
structure Nd where
 key:Int
 i:ay
 di:ay
 l:ay
 de:Int
 succ:List Int
noncomputable def vP(NI:ay)(n:Nd):ae:=xm NI n.i n.di n.l n.key n.de n.succ
noncomputable def gc(NI:ay)(ns:List Nd):ae:=ns.flatMap (vP NI)
noncomputable def dO(ns:List Nd):List (Int×AV):=ns.map λn=>(n.key,.ref n.i)
structure Srt(T:fR g) extends Cls g where
 M:oB g
 MM:T.mg "_NodeInfo"=some (.ref NI)
 TS:ay
 ts:wo K TS
 lI:uf K TS
 xS:ay
 yr:ay
 qW:ay
 AU:ay
 vV:ay
 wq:ay
 AW:ay
 wr:ay
 yX:qV g K TS "_get_nodeinfo" "TopologicalSorter._get_nodeinfo" (fu 13 1) yr
 add:qV g K TS "add" "TopologicalSorter.add" (fu 13 2) qW
 yu:qV g K TS "prepare" "TopologicalSorter.prepare" (fu 13 3) AU
 ready:qV g K TS "get_ready" "TopologicalSorter.get_ready" (fu 13 4) vV
 act:qV g K TS "is_active" "TopologicalSorter.is_active" (fu 13 5) wq
 done:qV g K TS "done" "TopologicalSorter.done" (fu 13 7) AW
 yY:qV g K TS "_find_cycle" "TopologicalSorter._find_cycle" (fu 13 8) wr
 fld : ∀x∈(["_node2info","_ready_nodes","_npassedout","_nfinished"]:List Str),j' K (.ref TS) x=some none∧GB K TS x=some none
noncomputable def gO(nd:ay)(rd:AV)(p f:Int):List (Str×AV):=[("_node2info",.ref nd),("_ready_nodes",rd),("_npassedout",.int p),("_nfinished",.int f)]
noncomputable def cZ(g:Gd)(TS NI x dx nd:ay)(ns:List Nd)(rd:AV)(p f:Int):ae:=(x,dT TS dx [])::(dx,et (gO nd rd p f))::(nd,eZ g (dO ns))::gc NI ns
theorem HU{ns:List Nd}(h:gC (dO ns) k=some a): ∃n∈ns,n.key=k∧a = .ref n.i:=by
 unfold gC dO at h;refine ap (Option.map_eq_some_iff.mp h) λp hp af=>?_;subst af;have h1:=tS hp;obtain ⟨n,hn,rfl⟩:=List.mem_map.mp (CQ hp);exact ⟨n,hn,by simpa using h1,rfl⟩
theorem G8{ns:List Nd}{n:Nd}(h:n∈ns):(gC (dO ns) n.key).isSome=true:=by
 unfold gC dO;rw [mH,xf];exact ⟨(n.key,.ref n.i),List.mem_map.mpr ⟨n,h,rfl⟩,by simp⟩
theorem Rp{ns:List Nd}(h:gC (dO ns) k=none):rP (dO ns) k a=dO ns++[(k,a)]:=by
 unfold rP;rw [Qcs];intro hc;refine ap (List.any_eq_true.mp hc) λp hp hk=>?_;unfold gC at h;rw [Option.map_eq_none_iff,List.find?_eq_none] at h;exact h p hp hk
theorem OO(NI:ay)(ns:List Nd)(n:Nd):gc NI (ns++[n])=gc NI ns++vP NI n:=by
 unfold gc;rw [jC];simp
theorem O4(ns:List Nd)(n:Nd):dO (ns++[n])=dO ns++[(n.key,.ref n.i)]:=by unfold dO;simp
def I'(L:ae)(g:Gd)(TS NI x dx nd:ay)(ns:List Nd)(rd:AV)(p f:Int)(k:Int)(v:aq)(M:ae):Prop :=
 ∃aX n,n∈aX∧n.key=k∧v = .ref n.i∧(((gC (dO ns) k).isSome=true∧aX=ns)∨(gC (dO ns) k=none∧aX=ns++[n]∧n.de=0∧n.succ=[]))∧M=cZ g TS NI x dx nd aX rd p f++L
theorem T8(T:fR g)(D:Srt T){n:Nat}(hA:bZ (n+3) A){x dx nd:ay}{ns:List Nd}{rd:AV}{p f k:Int}(hz:ns.length≤1000){vs:List aq}(bk:bP vs [.ref x,.int k]):
  CX g A (cZ g D.TS D.NI x dx nd ns rd p f++L) (.call (.ref D.yr) ⟨vs,[]⟩) (I' L g D.TS D.NI x dx nd ns rd p f k):=by
 refine nu D.yX.fn λo dV kV doc pm cq ct ho fX hd eb af=>?_;subst af;refine eQ bk.two λv1 v2 af mU kh=>?_;subst af;refine rF (binds:=[("self",v1),("node",v2)]) (m:=[("self",.ref x),("node",.int k)]) (.top ho fX) hd rfl (.top eb) hA.room ?_ (.cons mU (.cons kh .nil)) rfl rfl ?_
 ·intro s S;exact dY rfl
 intro F;let E:=jw (gy (fu 13 1) "_get_nodeinfo" "TopologicalSorter._get_nodeinfo" .none kV doc pm cq ct) D.yr F;let j1:=A.deeper E;change SX g j1 _ E _ _
 refine lp λQ0 oF=>?_;have fB:bZ (n+2) j1:=hA.deeper;unfold cZ;have JB : ∀(M:ae),(x,dT D.TS dx [])∈M→(dx,et (gO nd rd p f))∈M→∀v,AV.Is v (.ref x)→PV g j1 M (lR v "_node2info" true) (.ref nd):=by
  rintro M h1 h2 v rfl;exact Iz D.TK D.lI h1 h2 (D.fld _ (.head _)).1 rfl mI
 refine Hm (K:=λv N=>(match gC (dO ns) k with | some a=>AV.Is v a | none=>v = .none)∧N=(F,am [("self",.ref x),("node",.int k)])::(((x,dT D.TS dx [])::(dx,et (gO nd rd p f))::(nd,eZ g (dO ns))::gc D.NI ns)++L)) ?w1 ?w2
 case w1 =>
  refine vI (hbase:=by rfl) (hfew:=by rfl) (hline:=by rfl) (he:=by rfl) (T:="dict") (d:=nd) (ie (by k_all) (JB _ (by k_mem) (by k_mem))) (Dy (xs:=dO ns) (by k_mem)) rr tL Gm (jH (b9 (a:=.int k) (by k_all) dh)) ?_;intro vs;refine fT λh1=>?_;exact I9 D.M (by k_mem) h1
 case w2 =>
  intro v;refine fT λhv=>?_;cases e:gC (dO ns) k with
  | some a =>
   rw [e] at hv;refine du (HU e) λnn hn hk af=>?_;subst af;cases AV.cW hv;refine ⟨.ref nn.i,_,rfl,b7 (by k_upd),(λh=>by cases h),λ_=>?_⟩;refine pM (a:=.ref nn.i) (by k_all) λv s hv S=>oF _ _ ⟨_,⟨ns,nn,hn,hk,hv,.inl ⟨by rw [e];rfl,rfl⟩,rfl⟩,S.ig⟩
  | none =>
   rw [e] at hv;subst hv;refine ⟨.none,_,rfl,b7 (by k_upd),λ_=>?_,(λh=>by cases h)⟩;refine Qo (pj:=by rfl) (hw:=by rfl) (K:=λv N=>∃i di l,v = .ref i∧N=xm D.NI i di l k 0 []++(F,am [("result",.none),("self",.ref x),("node",.int k)])::(((x,dT D.TS dx [])::(dx,et (gO nd rd p f))::(nd,eZ g (dO ns))::gc D.NI ns)++L)) ?n1 ?n2
   case n1 =>
    refine lr (kJ T.G D.MM (ha:=rfl)) (jH (b9 (a:=.int k) (by k_all) dh)) ?_;intro vs;refine fT λh1=>?_;refine ⟨D.ni.kept D.TK,GX.rf (IA D.TK D.ni.makes D.AJ.find D.AJ.typ λi di=>?_)⟩;exact (Qn D.toCls (n:=n) fB.making (.cons rfl h1)).mono λv M ⟨h2,l,h3⟩=>⟨h2,i,di,l,rfl,h3⟩
   case n2 =>
    refine CY λi di l=>?_;have U:aw nd (eZ g (dO ns)) (eZ g (rP (dO ns) k (.ref i))) (xm D.NI i di l k 0 []++(F,am [("result",.none),("self",.ref x),("node",.int k)])::(((x,dT D.TS dx [])::(dx,et (gO nd rd p f))::(nd,eZ g (dO ns))::gc D.NI ns)++L))
     (xm D.NI i di l k 0 []++(F,am [("result",.none),("self",.ref x),("node",.int k)])::(((x,dT D.TS dx [])::(dx,et (gO nd rd p f))::(nd,eZ g (rP (dO ns) k (.ref i)))::gc D.NI ns)++L)) :=
     aw.cE (aw.tail (aw.tail (aw.tail aw.head)))
    refine ⟨.ref i,nd,k,_,_,rfl,ie (by k_all) (JB _ (by k_mem) (by k_mem)),by k_all,λkv hk=>I8 U (by unfold dO;rw [ar];exact jZ hz) hk rfl,b7 (by k_upd),?_⟩;refine pM (a:=.ref i) (by k_all) λv s hv S=>oF _ _ ⟨_,⟨ns++[⟨k,i,di,l,0,[]⟩],⟨k,i,di,l,0,[]⟩,by simp,rfl,hv,.inr ⟨e,rfl,rfl,rfl⟩,rfl⟩,?_⟩;rw [Rp e] at S;unfold cZ;rw [OO,O4];have S1:St g (vP D.NI ⟨k,i,di,l,0,[]⟩++([(x,dT D.TS dx []),(dx,et (gO nd rd p f)),(nd,eZ g (dO ns++[(k,.ref i)]))]++(gc D.NI ns++L))) s :=
     S.cX (aj.pick aR.head iI (aj.pick aR.head iI (aj.pick aR.head iI (aj.skip aj.refl))))
    refine S1.perm ((bb _ _ _).trans ?_);refine (CN _).mpr ?_;show (vP D.NI ⟨k,i,di,l,0,[]⟩++(gc D.NI ns++L)).Perm ((gc D.NI ns++vP D.NI ⟨k,i,di,l,0,[]⟩)++L)
    rw [aH];exact bb _ _ _
end
section
variable {g:Gd}{A:bg}{L L' L₁ L₂ bH:ae}{env:Env}
theorem Ja{f:ay}(hf:At g L f o)(hd:o.data = .func fd)(rD:fd.body = .stmts body)(eb:qL g L fd.code fd.qualname)
  (oj:A.depth<iX) (rE:GX g A.in1 L (Ct fd ⟨vs,kw⟩) KB)
  (h : ∀binds M,KB binds M→∃m,BA binds m∧ut (m.map (·.1))=true∧uu fd.scope (m.map (·.1))=true∧∀F,SX g (A.deeper (jw fd f F)) ((F,am m)::M) (jw fd f F) body λfl s'=>∃N,K (match fl with | .ret v=>v | _=>.none) N∧St g N s')
  (hco:fd.scope.isCoroutine=false) (hgen:fd.scope.isGenerator=false) (hk:fd.scope.kind = .function) (hcell:lq fd.scope=true) :
  CX g A L (.call (.ref f) ⟨vs,kw⟩) K:=λs R S k=>by
 refine oR oj (hf s S) hd hco hgen rD (eb s S) (ja (rE s _ S λbinds M aW hB aN=>?_));refine qS (h binds M hB) λm hb d9 ku hX=>?_;have uy : ∀x∈binds,fd.scope.names.lookup x.1=some .local:=by
  intro x hx
  have:x.1∈m.map (·.1):=hb.names▸List.mem_map.mpr ⟨x,hx,rfl⟩
  exact z' ku _ this
 refine cw (jB (E:=cU) (Q:=λenv bu=>bu.heap.NoLimit∧xd (bD g.prog g.w) A (.func body env) R bu) (vE hcell) uy (λdB gW mQ=>⟨aN.lim.fresh _ mQ,?_⟩) hk) (λ_ _ q=>q) λ_ _ q=>q.elim;refine Cr (ja (cw (hX aW.heap.objs.size _ (Al aN gW mQ hb (z9 d9) _)) (λfl s' hq=>?_) λ_ _ x=>x));refine ap hq λN hK SN=>?_;exact k _ N s' hK SN
theorem Qp{name qual:Str}{dV kV doc pm cq ct:aq}{st:fK}{a b c:Str}{v1 v2:aq}{rest:List aq}{as:List AV}
  (he:Ct (gy st name qual dV kV doc pm cq ct) ⟨v1::v2::rest,[]⟩=(NP rest>>=λt=>pure [(a,v1),(b,v2),(c,t)])) (h:bP rest as) (hz:as.length≤100000) :
  GX g A L (Ct (gy st name qual dV kV doc pm cq ct) ⟨v1::v2::rest,[]⟩) λbinds M=>∃t,binds=[(a,v1),(b,v2),(c,.ref t)]∧M=(t,cg as)::L:=λs Q S k=>by
 rw [he];refine ab (n4 ?_ (by rw [h.length,sizeLine_eq];exact z5 hz));exact ah (k _ _ _ ⟨_,rfl,rfl⟩ (S.push ⟨_,_,rfl,by simpa using h⟩))
theorem Rq: ∀{rest:List aq},Ct (gy (fu 13 2) name qual .none kV doc pm cq ct) ⟨v1::v2::rest,[]⟩=(NP rest>>=λt=>pure ([("self",v1),("node",v2),("predecessors",t)]:List (Str×aq)))
 | []=>rfl
 | x::r=>rfl
theorem Qq{x:aq}:Ct (gy (fu 13 7) name qual .none kV doc pm cq ct) ⟨[v1,x],[]⟩=(NP [x]>>=λt=>pure ([("self",v1),("nodes",t)]:List (Str×aq))):=rfl
end
section
variable {g:Gd}{A:bg}{L L' L₁ L₂ bH:ae}
abbrev VG:=List (Int×Int×List Int)
noncomputable def bJ(ns:List Nd):VG:=ns.map λn=>(n.key,n.de,n.succ)
noncomputable def ik(vg:VG)(k:Int):VG:=if vg.any (λp=>p.1=k) then vg else vg++[(k,0,[])]
noncomputable def dR(vg:VG)(k:Int)(f:Int×List Int→Int×List Int):VG:=vg.map λp=>if p.1=k then (p.1,f p.2) else p
noncomputable def rQ(vg:VG)(k:Int)(er:List Int):VG :=
 er.foldl (λvg p=>dR (ik vg p) p λq=>(q.1,q.2++[k])) (dR (ik vg k) k λq=>(q.1+er.length,q.2))
noncomputable def fP(ns:List Nd)(k:Int)(f:Nd→Nd):List Nd:=ns.map λn=>if n.key=k then f n else n
def dc(ns:List Nd):Prop:=(ns.map (·.key)).Nodup
variable {f:Nd→Nd}
theorem Hn{ns:List Nd}(hf : ∀n,(f n).key=n.key):(fP ns k f).map (·.key)=ns.map (·.key):=by
 unfold fP;rw [bt];apply dD;intro n _;show (if n.key=k then f n else n).key=n.key
 split
 ·exact hf n
 ·rfl
theorem Dk{ns:List Nd}(hf : ∀n,(f n).key=n.key∧(f n).i=n.i):dO (fP ns k f)=dO ns:=by
 unfold fP dO;rw [bt];apply dD;intro n _;show ((if n.key=k then f n else n).key,AV.ref (if n.key=k then f n else n).i)=(n.key,AV.ref n.i)
 split
 ·rw [(hf n).1,(hf n).2]
 ·rfl
theorem G4{ns:List Nd}(h:k∉ns.map (·.key)):fP ns k f=ns:=by
 unfold fP;apply map_eq_self;intro n hn;rw [Qcs];rintro rfl;exact h (List.mem_map.mpr ⟨n,hn,rfl⟩)
variable {n:Nd}
theorem lA{ns:List Nd}(h:n∈ns):(n.i,dT NI n.di [.int n.key,.int n.de,.ref n.l])∈gc NI ns∧(n.di,et [])∈gc NI ns∧(n.l,ai n.succ)∈gc NI ns:=by
 unfold gc;refine ⟨List.mem_flatMap.mpr ⟨n,h,.head _⟩,List.mem_flatMap.mpr ⟨n,h,.tail _ (.head _)⟩,List.mem_flatMap.mpr ⟨n,h,.tail _ (mi 1 rfl)⟩⟩
theorem vF(NI:ay)(n:Nd)(ns:List Nd):gc NI (n::ns)=vP NI n++gc NI ns:=rfl
theorem Jb{q:Int}: ∀{ns:List Nd},n∈ns→dc ns→aw n.i (dT NI n.di [.int n.key,.int n.de,.ref n.l]) (dT NI n.di [.int n.key,.int q,.ref n.l]) (gc NI ns) (gc NI (fP ns n.key λn=>{ n with de:=q })):=λ{ns} h hk=>by
 induction ns with
 | nil=>cases h
 | cons m ns ih =>
  unfold dc at hk;rw [aB,cG] at hk;rw [vF];rcases List.mem_cons.mp h with e | h
  ·subst e;have e2:fP (n::ns) n.key (λn=>{ n with de:=q })={ n with de:=q }::ns:=by
    show (if n.key=n.key then _ else _)::fP ns n.key _=_
    rw [Qct rfl,G4 hk.1]
   rw [e2,vF];exact aw.oA aw.head
  ·have fw:m.key≠n.key:=λe=>hk.1 (e▸List.mem_map.mpr ⟨n,h,rfl⟩);have e2:fP (m::ns) n.key (λn=>{ n with de:=q })=m::fP ns n.key (λn=>{ n with de:=q }):=by
    show (if m.key=n.key then _ else m)::fP ns n.key _=_
    rw [Qcs fw]
   rw [e2,vF];exact aw.cE (ih h hk.2)
variable {q:List Int}
theorem T9: ∀{ns:List Nd},n∈ns→dc ns→aw n.l (ai n.succ) (ai q) (gc NI ns) (gc NI (fP ns n.key λn=>{ n with succ:=q })):=λ{ns} h hk=>by
 induction ns with
 | nil=>cases h
 | cons m ns ih =>
  unfold dc at hk;rw [aB,cG] at hk;rw [vF];rcases List.mem_cons.mp h with e | h
  ·subst e;have e2:fP (n::ns) n.key (λn=>{ n with succ:=q })={ n with succ:=q }::ns:=by
    show (if n.key=n.key then _ else _)::fP ns n.key _=_
    rw [Qct rfl,G4 hk.1]
   rw [e2,vF];exact aw.oA (aw.tail (aw.tail aw.head))
  ·have fw:m.key≠n.key:=λe=>hk.1 (e▸List.mem_map.mpr ⟨n,h,rfl⟩);have e2:fP (m::ns) n.key (λn=>{ n with succ:=q })=m::fP ns n.key (λn=>{ n with succ:=q }):=by
    show (if m.key=n.key then _ else m)::fP ns n.key _=_
    rw [Qcs fw]
   rw [e2,vF];exact aw.cE (ih h hk.2)
variable {h:Int×List Int→Int×List Int}
theorem xC{ns:List Nd}(hm:n∈ns)(hk:dc ns)(hf:((f n).de,(f n).succ)=h (n.de,n.succ))(fV : ∀m,(f m).key=m.key):bJ (fP ns n.key f)=dR (bJ ns) n.key h:=by
 unfold bJ fP dR;rw [bt,bt];apply dD;intro m wJ;simp only [vr];by_cases e:m.key=n.key
 ·have:m=n:=by
   unfold dc at hk;clear hf
   induction ns with
   | nil=>cases hm
   | cons a ns ih =>
    rw [aB,cG] at hk;rcases List.mem_cons.mp hm with h1 | h1<;>rcases List.mem_cons.mp wJ with h2 | h2
    ·rw [h1,h2]
    ·exact absurd (List.mem_map.mpr ⟨m,h2,by rw [e,h1]⟩) hk.1
    ·exact absurd (List.mem_map.mpr ⟨n,h1,by rw [← e,h2]⟩) hk.1
    ·exact ih h1 hk.2 h2
  subst this;rw [Qct rfl,Qct rfl,fV,← hf]
 ·rw [Qcs e,Qcs e]
theorem SQ{ns:List Nd}:(gC (dO ns) k).isSome=(bJ ns).any (λp=>p.1=k):=by
 unfold gC dO bJ;rw [mH,NJ]
 induction ns with
 | nil=>rfl
 | cons n ns ih =>
  rw [aB,dJ,Qbv];by_cases e:n.key=k
  ·simp [e]
  ·simp only [e,decide_false,Bool.false_or];rw [ih];simp [wX,e]
variable {p:Int}{rd:AV}{x:ay}
theorem SR{nd:ay}{ns:List Nd}{f:Int}{v:aq}{M:ae}(h:I' L g TS NI x dx nd ns rd p f k v M)(hk:dc ns):
  ∃aX n,n∈aX∧n.key=k∧v = .ref n.i∧dc aX∧bJ aX=ik (bJ ns) k∧aX.length≤ns.length+1∧M=cZ g TS NI x dx nd aX rd p f++L:=by
 refine Bh h λaX n h1 h2 h3 h4 h5=>?_;refine ⟨aX,n,h1,h2,h3,?_,?_,?_,h5⟩
 ·rcases h4 with ⟨_,rfl⟩ | ⟨hn,rfl,_,_⟩
  ·exact hk
  ·unfold dc at hk ⊢;rw [aV,QaA];refine ⟨hk,by simp,?_⟩;rintro a ha b hb rfl;simp at hb;refine ap (List.mem_map.mp ha) λm hm e=>?_
   have:=G8 hm
   rw [e,hb,h2,hn] at this;cases this
 ·unfold ik;rw [← SQ];rcases h4 with ⟨hs,rfl⟩ | ⟨hn,rfl,e1,e2⟩
  ·rw [Qct hs]
  ·rw [Qcs (by rw [hn];simp)];unfold bJ;rw [aV];simp [e1,e2,h2]
 ·rcases h4 with ⟨_,rfl⟩ | ⟨_,rfl,_,_⟩
  ·exact Ey
  ·simp
theorem un{T:fR g}(D:Srt T){nd:ay}{f:Int}(h1:(x,dT D.TS dx [])∈L)(h2:(dx,et (gO nd rd p f))∈L)(hn:name∈(["_node2info","_ready_nodes","_npassedout","_nfinished"]:List Str))(hm:(gO nd rd p f).lookup name=some a)(hh : ∀v,AV.Is v a→pF v=true):
  ∀v,AV.Is v (.ref x)→PV g A L (lR v name true) a:=by
 rintro v rfl;exact Iz D.TK D.lI h1 h2 (D.fld _ hn).1 hm hh
variable {n:Nat}
theorem Jc(T:fR g)(D:Srt T)(hA:bZ (n+3) A){R:ae}{nd:ay}{ns:List Nd}{f:Int}(hz:ns.length≤1000)(hk:dc ns){eo:Expr}(Pre:ae)
  (ho:PE g A (Pre++(cZ g D.TS D.NI x dx nd ns rd p f++R)) env eo (.ref x)) (he:PE g A (Pre++(cZ g D.TS D.NI x dx nd ns rd p f++R)) env e (.int k))
  (hbase:dW eo "_get_nodeinfo" env (eval eo env)=eval eo env)
  (hfew:i8 ((e::[]).length+([]:List g0).length) (b6 pos (aE (e::[]) env)) (bj pos (aO [] env))=true) (hline:(apos.endLine==pos.line)=true) (hst:aE (e::[]) env=(false,eval e env)::aE [] env) :
  GX g A (Pre++(cZ g D.TS D.NI x dx nd ns rd p f++R)) (eval (.Call (.Attribute eo "_get_nodeinfo" apos) [e] [] pos) env) λv M =>
   ∃aX nn,nn∈aX∧nn.key=k∧v = .ref nn.i∧dc aX∧bJ aX=ik (bJ ns) k∧aX.length≤ns.length+1∧M=Pre++(cZ g D.TS D.NI x dx nd aX rd p f++R):=by
 refine DU D.TK (C:=D.TS) (x:=x) (dx:=dx) (f:=D.yr) D.lI (m:=gO nd rd p f) (sl:=[]) ho ?_ ?_ rfl D.yX.find D.yX.typ (jH (b9 he dh hst)) ?_ hbase hfew hline hst
 ·exact ag _ (ao _ (aC _))
 ·exact ag _ (ao _ (mi 1 rfl))
 ·intro vs;refine fT λh1=>?_;refine ⟨D.yX.fn.kept,?_⟩;have h2:=T8 (A:=A) (L:=R++Pre) T D hA (x:=x) (dx:=dx) (nd:=nd) (ns:=ns) (rd:=rd) (p:=p) (f:=f) (k:=k) hz (vs:=.ref x::vs) (.cons rfl h1);intro s Q S kk;have S1:St g (cZ g D.TS D.NI x dx nd ns rd p f++(R++Pre)) s:=S.perm (List.perm_append_comm.trans (by rw [aH]));refine GX.rf h2 s Q S1 λv M s' hg S'=>?_;refine Lu (SR hg hk) λaX nn e1 e2 e3 e4 e5 e6 af=>?_;subst af;refine kk v _ s' ⟨aX,nn,e1,e2,e3,e4,e5,e6,rfl⟩ (S'.perm ?_);rw [← aH];exact iV
theorem IC{l:ay}{xs:List AV}(hl:(l,cg xs)∈L)(hz:xs.length≤100000):GC g A L (.builtin "len") [.ref l] [] [] (.int xs.length) L:=by
 intro vs be bk eF s Q S k;cases eF;refine ap bk.one λv af hv=>?_;subst af;cases AV.cW hv;refine cp (pR S hl) λws n h1 h2=>?_;have e:(ws.size:Int)=xs.length:=by rw [← h2.length];simp
 refine PySem.P.len_tuple h1 (by rw [e];exact bV (.i (.l .A (.c 100000)) (.n (.L (.c 9223372036854775808) (.k .A)))) rfl hz) ?_;rw [e];exact k _ _ ⟨_,rfl⟩ ((S.toks _).toks _)
theorem dc.upd{ns:List Nd}(h:dc ns)(hf : ∀n,(f n).key=n.key):dc (fP ns k f):=by
 unfold dc;rw [Hn hf];exact h
def l4(vg:VG)(B:Nat):Prop:=∀p∈vg,p.2.2.length≤B
theorem l4.yZ(h:l4 vg B):l4 (ik vg k) B:=by
 unfold ik;split
 ·exact h
 ·intro p hp;rcases List.mem_append.mp hp with hp | hp
  ·exact h p hp
  ·simp at hp;subst hp;exact cM _
theorem l4.upd{vg:VG}{B C:Nat}{k:Int}{f:Int×List Int→Int×List Int}(h:l4 vg B)(ZF:B≤C)(hf : ∀q,q.2.length≤B→(f q).2.length≤C):l4 (dR vg k f) C:=by
 intro p hp;unfold dR at hp;refine ap (List.mem_map.mp hp) λq hq af=>?_;subst af
 have:=h q hq
 split
 ·exact hf q.2 this
 ·exact bB (.i (.l .A .B) (.i (.l .C .A) (.l .C .B))) rfl ZF this
theorem l4.nd{ns:List Nd}(h:l4 (bJ ns) B){n:Nd}(hn:n∈ns):n.succ.length≤B:=h (n.key,n.de,n.succ) (List.mem_map.mpr ⟨n,hn,rfl⟩)
variable {rest:List aq}
theorem Ua(T:fR g)(D:Srt T)(hA:bZ (n+4) A){nd:ay}{ns:List Nd}{f:Int}(hk:dc ns)(hz:ns.length+er.length≤900)(hB:l4 (bJ ns) B)(BU:B+er.length≤90000)(hr:Cw rest er)(h1:AV.Is v1 (.ref x))(h2:AV.Is v2 (.int k)):
  CX g A (cZ g D.TS D.NI x dx nd ns .none p f++L) (.call (.ref D.qW) ⟨v1::v2::rest,[]⟩) λv M=>v = .none∧∃aX,dc aX∧bJ aX=rQ (bJ ns) k er∧M=cZ g D.TS D.NI x dx nd aX .none p f++L:=by
 refine nu D.add.fn λo dV kV doc pm cq ct ho fX hd eb af=>?_;subst af;refine Ja (hco:=by rfl) (hgen:=by rfl) (hk:=by rfl) (hcell:=by rfl) (.top ho fX) hd rfl (.top eb) hA.room (Qp (as:=er.map .int) Rq (bP.Hf hr) (by rw [ar];exact Kj hz)) ?_;refine fh λt=>?_;refine ⟨[("self",.ref x),("node",.int k),("predecessors",.ref t)],.cons h1 (.cons h2 (.cons rfl .nil)),rfl,rfl,λF=>?_⟩;let E:=jw (gy (fu 13 2) "add" "TopologicalSorter.add" .none kV doc pm cq ct) D.qW F;let j1:=A.deeper E;change SX g j1 _ E _ _
 refine lp λQ0 oF=>?_;have fB:bZ (n+3) j1:=hA.deeper;have hh:=fB.handled;have y0 : ∀ns (Pre:ae),(x,dT D.TS dx [])∈Pre++(cZ g D.TS D.NI x dx nd ns .none p f++L):=λns Pre=>ag _ (ao _ (aC _));have BV : ∀ns (Pre:ae),(dx,et (gO nd .none p f))∈Pre++(cZ g D.TS D.NI x dx nd ns .none p f++L):=λns Pre=>ag _ (ao _ (mi 1 rfl));refine iC (c:=!((cQ) == .none)) rfl (eP (a:=.none) (b:=.none) (ie (by k_all) (un D (y0 ns [_,_]) (BV ns [_,_]) (by k_mem) rfl G3)) oi zW) ?_;refine ic (Jc (hbase:=by rfl) (hfew:=by rfl) (hline:=by rfl) (hst:=by rfl) T D (n:=n) fB (ns:=ns) (bK (.i (.l (.a .A .B) (.c 900)) (.l .A (.c 1000))) rfl hz) hk [(F,am [("self",.ref x),("node",.int k),("predecessors",.ref t)]),(t,cg (er.map .int))] (k:=k) (by k_all) (by k_all)) ?_;refine GO λoG n1 Fz y7 yv mU fY=>?_;refine ⟨.ref n1.i,(F,am [("nodeinfo",.ref n1.i),("self",.ref x),("node",.int k),("predecessors",.ref t)])::(t,cg (er.map .int))::(cZ g D.TS D.NI x dx nd oG .none p f++L),rfl,b7 (by exact aw.head),?_⟩;refine fU (lA (NI:=D.NI) Fz) λm1 m2 m3=>?_;have hS : ∀{q:fN},q∈gc D.NI oG→∀aX (Pre:ae),aX=oG→q∈Pre++(cZ g D.TS D.NI x dx nd aX .none p f++L):=by
  rintro q hq _ Pre rfl;exact ag _ (ao _ (md 3 hq))
 have gX:((er.map AV.int).length:Int)=er.length:=by rw [ar]
 refine Ad (x:=.ref n1.i) (a:=.int n1.de) (b:=.int (er.map AV.int).length) (c:=.int (n1.de+(er.map AV.int).length)) ?a1 ?a2 ?a3 vT (xr (sl:=[.int n1.key,.int n1.de,.ref n1.l]) (m:=[]) D.TK D.ni.base D.sP (by show 1≤3;exact Kk) (EA) (hS m2 _ [_,_] rfl) (aw.tail (aw.tail (aw.oA (aw.tail (aw.tail (aw.tail (Jb Fz yv)))))))) ?_
 case a1=>k_all
 case a2=>exact rz D.TK D.ni.base D.sP (m:=[]) (hS m1 _ [_,_] rfl) (hS m2 _ [_,_] rfl) rfl oW
 case a3=>exact PE.jL (mJ (gQ T (by k_mem)) (b9 (a:=.ref t) (by k_all) dh) jU (gp λ_ x=>by cases x) (IC (xs:=er.map .int) (mi 1 rfl) (by rw [ar];exact bK (.i (.l (.a .A .B) (.c 90000)) (.l .B (.c 100000))) rfl BU)))
 generalize th:fP oG n1.key (λn=>{ n with de:=n1.de+(er.map AV.int).length })=j5;have yx:dc j5:=by rw [← th];refine yv.upd ?_;exact λ_=>rfl
 have wF:dO oG=dO j5:=by rw [← th];refine (Dk ?_).symm;exact λ_=>⟨rfl,rfl⟩
 have sb:j5.length=oG.length:=by rw [← th];unfold fP;rw [ar]
 have kh:bJ j5=dR (ik (bJ ns) k) k λq=>(q.1+er.length,q.2):=by
  rw [← th,xC (f:=λm:Nd=>{ m with de:=n1.de+(er.map AV.int).length }) (h:=λq=>(q.1+er.length,q.2)) Fz yv (by rw [gX]) (λ_=>rfl),mU,y7]
 have ZG:l4 (bJ j5) B:=by rw [kh];exact hB.yZ.upd (cB _) λq hq=>hq
 rw [wF];refine lu (Dv hh (l:=t) (xs:=er.map .int) (by k_all) (mi 1 rfl)) ?_;refine jE λH hH=>?_;refine ⟨List Nd,λj aX=>(F,am [("nodeinfo",.ref n1.i),("self",.ref x),("node",.int k),("predecessors",.ref t)])::(t,cg (er.map .int))::(cZ g D.TS D.NI x dx nd aX .none p f++L),
  λj aX=>dc aX∧bJ aX=(er.take j).foldl (λvg p=>dR (ik vg p) p λq=>(q.1,q.2++[k])) (bJ j5)∧aX.length≤j5.length+j∧l4 (bJ aX) (B+j),j5,⟨yx,rfl,cB _,ZG⟩,aj.refl,λ_ _ _=>hH _ (mi 1 rfl),?_,?_⟩
 ·intro j aX a ha bz;refine kc bz λjk j2 hlen FA=>?_;intro ia;have hj:j<er.length:=by
   have:=(List.getElem?_eq_some_iff.mp ha).1
   rwa [ar] at this
  have ea:a = .int er[j]:=by
   rw [aA,au hj] at ha;exact (fx ha).symm
  subst ea;refine ⟨_,jF (b7 (aw.tail aw.head)),lp λQ1 jj=>?_⟩;refine ic (Jc (hbase:=by rfl) (hfew:=by rfl) (hline:=by rfl) (hst:=by rfl) T D (n:=n) fB (ns:=aX) (v7 (.i (.l (.a .A .B) (.c 900)) (.i (.l .C (.a .A .O)) (.i (.e .D .C) (.i (.l .F (.a .D .G)) (.i (.t .G .B) (.l .F (.c 1000))))))) rfl hz fY sb bz.2.2.1 hj) jk [ia,(F,am [("pred",.int er[j]),("nodeinfo",.ref n1.i),("self",.ref x),("node",.int k),("predecessors",.ref t)]),(t,cg (er.map .int))] (k:=er[j]) (by k_all) (by k_all)) ?_;refine GO λlJ n3 mT wK E1 ty sd=>?_;refine ⟨.ref n3.i,ia::(F,am [("pred_info",.ref n3.i),("pred",.int er[j]),("nodeinfo",.ref n1.i),("self",.ref x),("node",.int k),("predecessors",.ref t)])::(t,cg (er.map .int))::(cZ g D.TS D.NI x dx nd lJ .none p f++L),rfl,b7 (aw.tail aw.head),?_⟩;refine fU (lA (NI:=D.NI) mT) λq1 q2 q3=>?_;have y8 : ∀{q:fN},q∈gc D.NI lJ→∀(Pre:ae),q∈Pre++(cZ g D.TS D.NI x dx nd lJ .none p f++L):=λhq Pre =>
   ag _ (ao _ (md 3 hq))
  have ZH:l4 (bJ lJ) (B+j):=by rw [ty];exact FA.yZ
  have va:n3.succ.length≤B+j:=ZH.nd mT;have U:=T9 (NI:=D.NI) (q:=n3.succ++[k]) mT E1;have e0:ai (n3.succ++[k])=aM (n3.succ.map .int++[.int k]):=by show aM _=_;rw [aV];rfl
  rw [e0] at U;generalize Bj:fP lJ n3.key (λn=>{ n with succ:=n3.succ++[k] })=y9 at U;have ZI:dO lJ=dO y9:=by rw [← Bj];refine (Dk ?_).symm;exact λ_=>⟨rfl,rfl⟩
  have tz:bJ y9=dR (ik (bJ aX) er[j]) er[j] λq=>(q.1,q.2++[k]):=by
   rw [← Bj,xC (f:=λm:Nd=>{ m with succ:=n3.succ++[k] }) (h:=λq=>(q.1,q.2++[k])) mT E1 rfl (λ_=>rfl),ty,wK]
  refine pJ (K:=λv M=>M=ia::(F,am [("pred_info",.ref n3.i),("pred",.int er[j]),("nodeinfo",.ref n1.i),("self",.ref x),("node",.int k),("predecessors",.ref t)])::(t,cg (er.map .int))::(cZ g D.TS D.NI x dx nd y9 .none p f++L)) (vI (hbase:=by rfl) (hfew:=by rfl) (hline:=by rfl) (he:=by rfl) (T:="list") (d:=n3.l) (ie (o:=.ref n3.i) (by k_all) ?b0) (Ah (xs:=n3.succ.map .int) (y8 q3 [_,_,_])) g8 gv qx (jH (b9 (a:=.int k) (by k_all) dh)) ?b1) ?b2
  case b0 =>
   rintro v rfl;exact rz D.TK D.ni.base D.sS (m:=[]) (y8 q1 [_,_,_]) (y8 q2 [_,_,_]) rfl mI
  case b1 =>
   intro vs;refine fT λbk=>?_;refine GX.mono (GX.jL (vH (xs:=n3.succ.map .int) (aw.tail (aw.tail (aw.tail (aw.oA (aw.tail (aw.tail (aw.tail U))))))) (by rw [ar];exact fy (.i (.l (.a .A .B) (.c 90000)) (.i (.t .C .B) (.i (.l .D (.a .A .C)) (.l .D (.c 100000))))) rfl BU hj va) vs bk)) ?_;intro v;refine fT λ_=>?_;rw [ZI];rfl
  case b2 =>
   rintro v M rfl;refine eJ λs S=>jj _ _ ⟨y9,⟨?_,?_,?_,?_⟩,S.cX (aj.pick aR.head iI (aj.pick aR.head (iE.ns (by k_upd)) aj.refl))⟩
   ·rw [← Bj];refine E1.upd ?_;exact λ_=>rfl
   ·rw [tz,j2];have e:er.take (j+1)=er.take j++[er[j]]:=by rw [List.take_succ,au hj];rfl
    rw [e,dE];rfl
   ·have:y9.length=lJ.length:=by rw [← Bj];unfold fP;rw [ar]
    exact Xb (by assumption) sd this
   ·rw [tz];exact FA.yZ.upd (bK (.l (.a .A .B) (.a .A (.a .B .O))) rfl) λq hq=>by rw [aD];simp;exact Kl hq
 ·intro aX bz;refine kc bz λjk j2 hlen FA=>?_;refine eJ λs S=>oF _ _ ⟨_,⟨rfl,aX,jk,?_,rfl⟩,S.ig.ig⟩;rw [ar,gM] at j2;rw [j2,kh];rfl
end
section
variable {g:Gd}{A:bg}{L L' L₁ L₂ bH:ae}{env:Env}
theorem Oo(l:ay)(items:Array aq)(wg:(items.size:Int)<2 ^ 63):
  Meets (ey.«bool.__new__» ⟨[.type "bool",.ref l],[]⟩) (λ_ R s=>s.heap.IsList l items∧R (.ok (.ret (.bool (!items.isEmpty)))) { s with toks:=s.toks+1+1 }) :=
 .of_wp λprog w A R s ⟨hl,h⟩=>by
  have f1:=F.conv_sub_bool
  repeat (any_goals (first | assumption | (with_reducible refine Qby hl wg ?_) | wp_step))
  all_goals first | exact ⟨_,rfl,h⟩ | exact h | skip
theorem Ub{l:ay}{xs:List AV}(hl:(l,aM xs)∈L)(hz:xs.length≤100000):GC g A L (.type "bool") [.ref l] [] [] (.bool (!xs.isEmpty)) L:=by
 intro vs be bk eF s Q S k;cases eF;refine ap bk.one λv af hv=>?_;subst af;cases AV.cW hv;refine cp (eI S hl) λws n h1 h2=>?_;have hlen:=h2.length;have e:(!ws.isEmpty) = !xs.isEmpty:=by
  rcases ws with ⟨ws⟩
  simp only [] at hlen;cases ws<;>cases xs<;>simp_all
 rw [aG] at hlen;refine call_bool_1 (Oo l ws (by rw [hlen];exact bV (.i (.l .A (.c 100000)) (.T (.k .A) (.c 9223372036854775808))) rfl hz)) ⟨gN h1,?_⟩;show _∧_
 rw [e];exact ⟨rfl,k _ _ rfl ((S.toks _).toks _)⟩
theorem Uc{x y:Expr}{pos:Pos}{a b:Bool}(h:PE g A L env x (.bool a))(h':a=false→PE g A L env y (.bool b)):PE g A L env (.BoolOp .Or [x,y] pos) (.bool (a || b)):=λs Q E S k=>by
 have e:eval (.BoolOp .Or [x,y] pos) env=(eval x env>>=λv=>standAt pos>>=λ_=>holding [v] (Qbo v)>>=λt=>match t with | true=>pure v | false=>eval y env):=by
  rw [arm_eval_BoolOp];show boolOp pos .Or [eval x env,eval y env]=_
  show bR _ _=bR _ _
  congr 1;funext v;show bR _ _=bR _ _
  congr 1;funext _;show bR _ _=bR _ _
  congr 1;funext t;cases t<;>rfl
 rw [e];refine ab (h s _ _ S λv aW hv aN=>ab (bT (ab (aK ?_))));cases AV.cW hv;refine hZ ?_;cases a with
 | true=>exact ah (k _ _ rfl aN)
 | false=>exact h' rfl aW Q E aN k
theorem Rs{l:ay}(hl:(l,aM xs)∈L)(hz:xs.length≤100000):NC g A L (.type "tuple") [.ref l] [] [] (cg xs):=by
 intro vs be bk eF s Q S k;cases eF;refine ap bk.one λv af hv=>?_;subst af;cases AV.cW hv;refine cp (eI S hl) λws n h1 h2=>?_;have hlen:=h2.length;rw [aG] at hlen;refine call_tuple_list (gN h1) (λh' hk=>?_) (by rw [hlen,sizeLine_eq];exact z5 hz);exact k _ _ ((S.keeps hk).push (s:={ s with heap:=h' }) ⟨_,_,rfl,h2⟩)
theorem SS{l:ay}{xs:List AV}(U:aw l (aM xs) (aM []) L L')(hz:xs.length≤100000):GE g A L (call (.builtin "list.clear") [.ref l]) .none L':=by
 intro s Q S kk;refine cp (eI S U.mem) λws n h1 h2=>?_;have hlen:=h2.length;rw [aG] at hlen;refine lX CB ⟨_,h1,rfl⟩ PySem.F.entry_list_clear (PySem.F.args_list_clear_1 _) (PySem.AutoSeq1.list_clear_list_0 l ws n (by rw [hlen,sizeLine_eq];exact z5 hz)) ⟨h1,?_⟩;exact kk _ _ rfl (ud S U h1 .nil)
theorem Dz{K:mz}(TK:iF g K){C x dx f:ay}(PC:uf K C){m:List (Str×AV)}{sl:List AV}{o:Expr}{name:Str}{apos pos:Pos}{K':aq→ae→Prop}
  (ho:PE g A L env o (.ref x)) (hx:(x,dT C dx sl)∈L) (hd:(dx,et m)∈L) (hn:m.lookup name=none) (hf:j' K (.ref C) name=some (some (.ref f))) (ht:tR K (.ref f)=some (.type "function"))
  (hk:jI g A L (.ref f)) (tA:GX g A L (call (.ref f) [.ref x]) K')
  (hbase:dW o name env (eval o env)=eval o env:=by rfl)
  (hfew:i8 (([]:List Expr).length+([]:List g0).length) (b6 pos (aE [] env)) (bj pos (aO [] env))=true:=by rfl) (hline:(apos.endLine==pos.line)=true:=by rfl) :
  GX g A L (eval (.Call (.Attribute o name apos) [] [] pos) env) K':=λs Q S k=>by
 rw [Oc,hbase];refine ab (ho s _ _ S λxv aW r8 aN=>ab (bT ?_));cases AV.cW r8;refine uK (inst_of aN hx hd) λox od I e1 bz e5 e6 _=>?_;refine eQ bz λes ep e2 e3 e4=>?_;have gd:Gw (some od) name=some false:=by
  have:=e4 name
  rw [hn] at this;unfold Gw;dsimp only;rw [Ag e2 e3.1,this];rfl
 have rO:pC true o env apos pos=pure pos:=by unfold pC;simp [hline]
 unfold Qbq;rw [hfew];refine ab (aK (method_fn (K:=K) (TK.re aN) I PC.ga PC.gt hf ht gd ?_));refine ab (fD rO ?_);exact qE hk (CT aN λbu aS=>⟨aS,λcC cJ=>tA cC Q cJ k⟩)
end
section
variable {g:Gd}{A:bg}{L L' L₁ L₂ bH:ae}
structure Srt2(T:fR g) extends Srt T where
 E2 : ∃t,T.mg "_NODE_OUT"=some (.int (-1) t)
 JC : ∃t,T.mg "_NODE_DONE"=some (.int (-2) t)
theorem DW:∀{ns:List Nd},dc ns→∀{m n:Nd},m∈ns→n∈ns→m.key=n.key→m=n:=by
 intro ns
 induction ns with
 | nil=>intro _ _ _ h _ _;cases h
 | cons a ns ih =>
  intro hk m n hm hn e;unfold dc at hk;rw [aB,cG] at hk;rcases List.mem_cons.mp hm with h1 | h1<;>rcases List.mem_cons.mp hn with h2 | h2
  ·rw [h1,h2]
  ·exact absurd (List.mem_map.mpr ⟨n,h2,by rw [← e,h1]⟩) hk.1
  ·exact absurd (List.mem_map.mpr ⟨m,h1,by rw [e,h2]⟩) hk.1
  ·exact ih hk.2 h1 h2 e
variable {n:Nd}
theorem AK{ns:List Nd}(hk:dc ns)(hn:n∈ns):gC (dO ns) n.key=some (.ref n.i):=by
 refine cT (Option.isSome_iff_exists.mp (G8 hn)) λa ha=>?_;refine du (HU ha) λm hm qi af=>?_;subst af;rw [ha,DW hk hm hn qi]
noncomputable def bQ(g:Gd)(TS NI x dx nd:ay)(ns:List Nd)(rl:ay)(rd:List Int)(p f:Int)(L:ae):ae:=cZ g TS NI x dx nd ns (.ref rl) p f++((rl,ai rd)::L)
variable {f p:Int}{x:ay}
theorem qQ{nd:ay}{ns:List Nd}:(x,dT TS dx [])∈Pre++bQ g TS NI x dx nd ns rl rd p f L:=ag _ (ao _ (aC _))
theorem sV{nd:ay}{ns:List Nd}:(dx,et (gO nd (.ref rl) p f))∈Pre++bQ g TS NI x dx nd ns rl rd p f L:=ag _ (ao _ (mi 1 rfl))
theorem AX{nd:ay}{ns:List Nd}:(nd,eZ g (dO ns))∈Pre++bQ g TS NI x dx nd ns rl rd p f L:=ag _ (ao _ (mi 2 rfl))
theorem AY{nd:ay}{ns:List Nd}:(rl,ai rd)∈Pre++bQ g TS NI x dx nd ns rl rd p f L:=ag _ (ag _ (aC _))
theorem pU{nd:ay}{ns:List Nd}{q:fN}(h:q∈gc NI ns):q∈Pre++bQ g TS NI x dx nd ns rl rd p f L:=ag _ (ao _ (md 3 h))
theorem Ud(T:fR g)(D:Srt2 T){n:Nat}(hA:bZ (n+1) A){x dx nd rl:ay}{ns:List Nd}{rd:List Int}{p f:Int}(hz:rd.length≤10000){v1:aq}(h1:AV.Is v1 (.ref x)):
  CX g A (bQ g D.TS D.NI x dx nd ns rl rd p f L) (.call (.ref D.wq) ⟨[v1],[]⟩) λv M=>v = .bool (decide (f<p) || !rd.isEmpty)∧M=bQ g D.TS D.NI x dx nd ns rl rd p f L:=by
 refine nu D.act.fn λo dV kV doc pm cq ct ho fX hd eb af=>?_;subst af;refine rF (binds:=[("self",v1)]) (m:=[("self",.ref x)]) (.top ho fX) hd rfl (.top eb) hA.room ?_ (.cons h1 .nil) rfl rfl ?_
 ·intro s S;exact dY rfl
 intro F;show SX g _ ([(F,am [("self",.ref x)])]++bQ g D.TS D.NI x dx nd ns rl rd p f L) _ _ _
 have iN : ∀(name:Str) (a:AV),name∈(["_node2info","_ready_nodes","_npassedout","_nfinished"]:List Str)→(gO nd (.ref rl) p f).lookup name=some a→(∀v,AV.Is v a→pF v=true)→∀v,AV.Is v (.ref x) →
   PV g (A.deeper (jw (gy (fu 13 5) "is_active" "TopologicalSorter.is_active" .none kV doc pm cq ct) D.wq F)) ([(F,am [("self",.ref x)])]++bQ g D.TS D.NI x dx nd ns rl rd p f L) (lR v name true) a :=
  λname a h2 h3 h4=>un D.toSrt qQ sV h2 h3 h4
 have abW:PE g (A.deeper (jw (gy (fu 13 5) "is_active" "TopologicalSorter.is_active" .none kV doc pm cq ct) D.wq F)) ([(F,am [("self",.ref x)])]++bQ g D.TS D.NI x dx nd ns rl rd p f L) (jw (gy (fu 13 5) "is_active" "TopologicalSorter.is_active" .none kV doc pm cq ct) D.wq F) (.Name "self" ⟨0,0,0,0⟩) (.ref x):=by k_all
 refine iC (c:=(cV rl) == .none) rfl (eP (a:=.ref rl) (b:=.none) (ie (by k_all) (iN _ _ (by k_mem) rfl mI)) oi pI) ?_;refine pM (a:=.bool (decide (f<p) || !rd.isEmpty)) ?r1 λv s hv S=>⟨_,⟨hv,rfl⟩,S.ig⟩;have e:(!rd.isEmpty) = !(rd.map AV.int).isEmpty:=by cases rd<;>rfl
 rw [e];refine Uc (I0 (hm:=by kst_p) (a:=.int f) (b:=.int p) ?r2 ?r3 qN) λ_=>?r4
 case r2=>exact ie (by k_all) (iN _ _ (by k_mem) rfl oW)
 case r3=>exact ie (by k_all) (iN _ _ (by k_mem) rfl oW)
 case r4=>exact PE.jL (mJ (gQ T (by k_mem)) (b9 (ie (by k_all) (iN _ _ (by k_mem) rfl mI)) dh) jU (gp λ_ x=>by cases x) (Ub AY (by rw [ar];exact Bc hz)))
noncomputable def im(vg:VG)(ks:List Int):VG:=ks.foldl (λvg k=>dR vg k λq=>(-1,q.2)) vg
theorem Ai{ns:List Nd}(h:k∈ns.map (·.key)): ∃n∈ns,n.key=k:=by
 refine ap (List.mem_map.mp h) λn hn e=>?_;exact ⟨n,hn,e⟩
variable {q:Int}
theorem Pp{nd:ay}{ns:List Nd}(hn:n∈ns)(hk:dc ns):
  aw n.i (dT NI n.di [.int n.key,.int n.de,.ref n.l]) (dT NI n.di [.int n.key,.int q,.ref n.l]) (Pre++bQ g TS NI x dx nd ns rl rd p f L) (Pre++bQ g TS NI x dx nd (fP ns n.key λm=>{ m with de:=q }) rl rd p f L):=by
 refine aw.cE ?_;unfold bQ cZ;have e:dO (fP ns n.key λm=>{ m with de:=q })=dO ns:=by refine Dk ?_;exact λ_=>⟨rfl,rfl⟩
 rw [e];exact aw.oA (aw.tail (aw.tail (aw.tail (Jb hn hk))))
theorem D9(T:fR g)(D:Srt2 T){nd:ay}{ns:List Nd}(hn:n∈ns)(hk:dc ns):
  uM g A (Pre++bQ g D.TS D.NI x dx nd ns rl rd p f L) (.ref n.i) "npredecessors" (.int q) (Pre++bQ g D.TS D.NI x dx nd (fP ns n.key λm=>{ m with de:=q }) rl rd p f L) :=
 xr (sl:=[.int n.key,.int n.de,.ref n.l]) (m:=[]) D.TK D.ni.base D.sP (by show 1≤3;exact Kk) (EA) (pU (lA hn).2.1) (Pp hn hk)
theorem HV(T:fR g)(D:Srt2 T){n:Nat}(hA:bZ (n+1) A){x dx nd rl:ay}{ns:List Nd}{rd:List Int}{p f:Int}(hk:dc ns)(hr : ∀k∈rd,k∈ns.map (·.key))(hz:rd.length≤10000){v1:aq}(h1:AV.Is v1 (.ref x)):
  CX g A (bQ g D.TS D.NI x dx nd ns rl rd p f L) (.call (.ref D.vV) ⟨[v1],[]⟩) λv M=>∃t aX,v = .ref t∧dc aX∧bJ aX=im (bJ ns) rd∧M=(t,cg (rd.map .int))::bQ g D.TS D.NI x dx nd aX rl [] (p+rd.length) f L:=by
 refine nu D.ready.fn λo dV kV doc pm cq ct ho fX hd eb af=>?_;subst af;refine rF (binds:=[("self",v1)]) (m:=[("self",.ref x)]) (.top ho fX) hd rfl (.top eb) hA.room ?_ (.cons h1 .nil) rfl rfl ?_
 ·intro s S;exact dY rfl
 intro F;have hh:=(hA.deeper (env:=jw (gy (fu 13 4) "get_ready" "TopologicalSorter.get_ready" .none kV doc pm cq ct) D.vV F)).handled;have iN : ∀(Pre:ae) (ns:List Nd) (rd:List Int) (p:Int) (name:Str) (a:AV),name∈(["_node2info","_ready_nodes","_npassedout","_nfinished"]:List Str)→(gO nd (.ref rl) p f).lookup name=some a→(∀v,AV.Is v a→pF v=true)→∀v,AV.Is v (.ref x) →
   PV g (A.deeper (jw (gy (fu 13 4) "get_ready" "TopologicalSorter.get_ready" .none kV doc pm cq ct) D.vV F)) (Pre++bQ g D.TS D.NI x dx nd ns rl rd p f L) (lR v name true) a :=
  λPre ns rd p name a h2 h3 h4=>un D.toSrt qQ sV h2 h3 h4
 show SX g _ ([(F,am [("self",.ref x)])]++bQ g D.TS D.NI x dx nd ns rl rd p f L) _ _ _
 refine iC (c:=(cV rl) == .none) rfl (eP (a:=.ref rl) (b:=.none) (ie (by k_all) (iN _ _ _ _ _ _ (by k_mem) rfl mI)) oi pI) ?_;refine ul (hs:=by rfl) (P:=cg (rd.map .int)) (Ir (gQ T (by k_mem)) (b9 (a:=.ref rl) (ie (by k_all) (iN _ _ _ _ _ _ (by k_mem) rfl mI)) dh) jU (gp λ_ x=>by cases x) (Rs AY (by rw [ar];exact Bc hz))) λt=>⟨(t,cg (rd.map .int))::(F,am [("result",.ref t),("self",.ref x)])::bQ g D.TS D.NI x dx nd ns rl rd p f L,b7 (aw.tail aw.head),?_⟩;show SX g _ ([(t,cg (rd.map .int)),(F,am [("result",.ref t),("self",.ref x)])]++bQ g D.TS D.NI x dx nd ns rl rd p f L) _ _ _
 refine iz (a:=.ref nd) (ie (by k_all) (iN _ _ _ _ _ _ (by k_mem) rfl mI)) (bX:=[(t,cg (rd.map .int)),(F,am [("n2i",.ref nd),("result",.ref t),("self",.ref x)])]++bQ g D.TS D.NI x dx nd ns rl rd p f L) (b7 (aw.tail aw.head)) ?_;refine lu (Dv hh (l:=t) (xs:=rd.map .int) (by k_all) (aC _)) ?_;refine jE λH hH=>?_;refine ⟨List Nd,λj aX=>[(t,cg (rd.map .int)),(F,am [("n2i",.ref nd),("result",.ref t),("self",.ref x)])]++bQ g D.TS D.NI x dx nd aX rl rd p f L,
  λj aX=>dc aX∧bJ aX=im (bJ ns) (rd.take j)∧aX.map (·.key)=ns.map (·.key),ns,⟨hk,rfl,rfl⟩,aj.refl,λ_ _ _=>hH _ (aC _),?_,?_⟩
 ·intro j aX a ha bz;refine fU bz λjk j2 xT=>?_;intro ia;have hj:j<rd.length:=by
   have:=(List.getElem?_eq_some_iff.mp ha).1
   rwa [ar] at this
  have ea:a = .int rd[j]:=by
   rw [aA,au hj] at ha;exact (fx ha).symm
  subst ea;obtain ⟨nn,hn,za⟩:=Ai (ns:=aX) (k:=rd[j]) (by rw [xT];exact hr _ (jO hj));have sh:=AK jk hn;rw [za] at sh;refine ⟨[ia,(t,cg (rd.map .int)),(F,am [("node",.int rd[j]),("n2i",.ref nd),("result",.ref t),("self",.ref x)])]++bQ g D.TS D.NI x dx nd aX rl rd p f L,jF (b7 (aw.tail (aw.tail aw.head))),?_⟩;refine cT D.E2 λtk FB=>?_;refine sF (hs:=by rfl) (a:=.int (-1)) (x:=.ref nn.i) (kJ T.G FB (ha:=⟨tk,rfl⟩)) (IB (hs:=by kst_p) (ht:=by kst_p) (d:=nd) (k:=rd[j]) (by k_all) (by k_all) AX sh) (D9 T D (q := -1) hn jk) ?_;refine eJ λs S=>⟨fP aX nn.key λm=>{ m with de := -1 },⟨?_,?_,?_⟩,S.cX (aj.pick aR.head iI (aj.pick aR.head iI (aj.pick aR.head (iE.ns (by k_upd)) aj.refl)))⟩
  ·refine jk.upd ?_;exact λ_=>rfl
  ·rw [xC (f:=λm:Nd=>{ m with de := -1 }) (h:=λq=>(-1,q.2)) hn jk rfl (λ_=>rfl),j2,za];have e:rd.take (j+1)=rd.take j++[rd[j]]:=by rw [kI,au hj];rfl
   rw [e];unfold im;rw [dE];rfl
  ·rw [Hn ?_]
   ·exact xT
   ·exact λ_=>rfl
 ·intro aX bz;refine fU bz λjk j2 xT=>?_;rw [ar,gM] at j2;refine pJ (K:=λv M=>M=[(t,cg (rd.map .int)),(F,am [("n2i",.ref nd),("result",.ref t),("self",.ref x)])]++bQ g D.TS D.NI x dx nd aX rl [] p f L) (Hl (T:="list") (d:=rl) (ie (by k_all) (iN _ _ _ _ _ _ (by k_mem) rfl mI)) (Ah (xs:=rd.map .int) AY) g8 CB PySem.F.type_list_clear ?c1) ?c2
  case c1 =>
   refine GX.mono (GX.jL (SS (l:=rl) (xs:=rd.map .int) (aw.cE (aw.cE aw.head)) (by rw [ar];exact Bc hz))) ?_;intro v;refine fT λ_=>?_;rfl
  rintro v M rfl;have gX:((rd.map AV.int).length:Int)=rd.length:=by rw [ar]
  refine Ad (x:=.ref x) (a:=.int p) (b:=.int rd.length) (c:=.int (p+rd.length)) (L':=[(t,cg (rd.map .int)),(F,am [("n2i",.ref nd),("result",.ref t),("self",.ref x)])]++bQ g D.TS D.NI x dx nd aX rl [] (p+rd.length) f L) ?d1 ?d2 ?d3 vT ?d4 ?d5
  case d1=>k_all
  case d2=>exact iN _ _ _ _ _ _ (by k_mem) rfl oW _ rfl
  case d3 =>
   have:=IC (g:=g) (A:=A.deeper (jw (gy (fu 13 4) "get_ready" "TopologicalSorter.get_ready" .none kV doc pm cq ct) D.vV F)) (l:=t) (xs:=rd.map .int) (L:=[(t,cg (rd.map .int)),(F,am [("n2i",.ref nd),("result",.ref t),("self",.ref x)])]++bQ g D.TS D.NI x dx nd aX rl [] p f L) (aC _) (by rw [ar];exact Bc hz)
   rw [gX] at this;exact PE.jL (mJ (gQ T (by k_mem)) (b9 (a:=.ref t) (by k_all) dh) jU (gp λ_ x=>by cases x) this)
  case d4=>exact ug (hz:=by exact aZ rfl) D.TK D.lI qQ (aw.cE (aw.oA (aw.tail aw.head))) (D.fld _ (by k_mem)).2
  case d5=>exact pM (a:=.ref t) (by k_all) λv s hv S=>⟨_,⟨t,aX,hv,jk,j2,rfl⟩,S.cX (aj.pick aR.head iI (aj.skip aj.refl))⟩
noncomputable def eG(vg:VG)(k:Int):Int:=((vg.find? λp=>p.1=k).map (·.2.1)).getD 0
noncomputable def jW(k:VG×List Int)(s:Int):VG×List Int :=
 (dR k.1 s λq=>(q.1-1,q.2),if eG (dR k.1 s λq=>(q.1-1,q.2)) s=0 then k.2++[s] else k.2)
noncomputable def lD(n:Nd):Int×ay×ay×ay×List Int:=(n.key,n.i,n.di,n.l,n.succ)
theorem Ho{ns:List Nd}{k q:Int}:(fP ns k λm=>{ m with de:=q }).map lD=ns.map lD:=by
 unfold fP;rw [bt];apply dD;intro n _;simp only [vr];split<;>rfl
theorem Hp{ns aX:List Nd}(h:aX.map lD=ns.map lD){n:Nd}(hn:n∈ns): ∃m∈aX,lD m=lD n:=by
 have:lD n∈aX.map lD:=by rw [h];exact List.mem_map.mpr ⟨n,hn,rfl⟩
 refine ap (List.mem_map.mp this) λm hm e=>?_;exact ⟨m,hm,e⟩
theorem Pq{ns aX:List Nd}(h:aX.map lD=ns.map lD):aX.map (·.key)=ns.map (·.key):=by
 have e : ∀l:List Nd,l.map (·.key)=(l.map lD).map (·.1):=λl=>by rw [bt];rfl
 rw [e,e,h]
theorem DA{ns:List Nd}(hk:dc ns)(hn:n∈ns):eG (bJ ns) n.key=n.de:=by
 induction ns with
 | nil=>cases hn
 | cons a ns ih =>
  unfold eG bJ;rw [aB,dJ];by_cases e:a.key=n.key
  ·have:=DW hk (.head _) hn e
   subst this;simp
  ·have si:=hk;unfold dc at si;rw [aB,cG] at si;rcases List.mem_cons.mp hn with h | h
   ·exact absurd (by rw [h]) e
   ·simp only [e,decide_false];exact ih si.2 h
theorem ID(T:fR g)(D:Srt2 T){n:Nat}(hA:bZ (n+1) A){nd:ay}{ns:List Nd}(hk:dc ns){n0:Nd}(jl:n0∈ns)(tB:n0.key=k)(FC:n0.de = -1)(FD : ∀s∈n0.succ,s∈ns.map (·.key))(hz:rd.length+n0.succ.length≤10000)(h1:AV.Is v1 (.ref x))(h2:AV.Is v2 (.int k)):
  CX g A (bQ g D.TS D.NI x dx nd ns rl rd p f L) (.call (.ref D.AW) ⟨[v1,v2],[]⟩) λv M=>v = .none∧∃aX d6,dc aX∧(bJ aX,d6)=n0.succ.foldl jW (dR (bJ ns) k λq=>(-2,q.2),rd)∧M=bQ g D.TS D.NI x dx nd aX rl d6 p (f+1) L:=by
 refine nu D.done.fn λo dV kV doc pm cq ct ho fX hd eb af=>?_;subst af;refine Ja (hco:=by rfl) (hgen:=by rfl) (hk:=by rfl) (hcell:=by rfl) (KB:=λbinds M=>∃t,binds=([("self",v1),("nodes",.ref t)]:List (Str×aq))∧M=(t,cg [.int k])::bQ g D.TS D.NI x dx nd ns rl rd p f L) (.top ho fX) hd rfl (.top eb) hA.room ?_ ?_
 ·intro s Q S kk;rw [Qq];refine ab (n4 ?_ (by show 1≤_;rw [sizeLine_eq];exact kU (.l .O (.c 16777216)) rfl));exact ah (kk _ _ _ ⟨_,rfl,rfl⟩ (S.push ⟨_,_,rfl,.cons h2 .nil⟩))
 refine fh λt=>?_;refine ⟨[("self",.ref x),("nodes",.ref t)],.cons h1 (.cons rfl .nil),rfl,rfl,λF=>?_⟩;let E:=jw (gy (fu 13 7) "done" "TopologicalSorter.done" .none kV doc pm cq ct) D.AW F;let B:=A.deeper E;let rA:=λns rd f=>bQ g D.TS D.NI x dx nd ns rl rd p f L;let dA:=λ(I:ae) (m:List (Str×AV)) ns rd f=>(I++[(F,am (m++([("n2i",.ref nd),("self",.ref x),("nodes",.ref t)]:List (Str×AV)))),(t,cg [.int k])])++rA ns rd f;have hh:=(hA.deeper (env:=E)).handled;have iN : ∀(Pre:ae) (ns:List Nd) (rd:List Int) (f:Int) (name:Str) (a:AV),name∈(["_node2info","_ready_nodes","_npassedout","_nfinished"]:List Str)→(gO nd (.ref rl) p f).lookup name=some a→(∀v,AV.Is v a→pF v=true)→∀v,AV.Is v (.ref x) →
   PV g B (Pre++rA ns rd f) (lR v name true) a :=
  λPre ns rd f name a h2 h3 h4=>un D.toSrt qQ sV h2 h3 h4
 change SX g B ([(F,am [("self",.ref x),("nodes",.ref t)]),(t,cg [.int k])]++rA ns rd f) E _ _
 refine lp λQ1 jj=>?_;refine iC (c:=(cV rl) == .none) rfl (eP (a:=.ref rl) (b:=.none) (ie (by k_all) (iN _ _ _ _ _ _ (by k_mem) rfl mI)) oi pI) ?_;refine iz (a:=.ref nd) (ie (by k_all) (iN _ _ _ _ _ _ (by k_mem) rfl mI)) (bX:=dA [] [] ns rd f) (b7 aw.head) ?_;refine lu (Dv hh (l:=t) (xs:=[.int k]) (by k_all) (mi 1 rfl)) ?_;refine jE λH hH=>?_;refine ⟨List Nd×List Int×Int,λj y=>dA [] [] y.1 y.2.1 y.2.2,
  λj y=>(j=0→y=(ns,rd,f))∧(j=1→dc y.1∧(bJ y.1,y.2.1)=n0.succ.foldl jW (dR (bJ ns) k λq=>(-2,q.2),rd)∧y.2.2=f+1),(ns,rd,f),⟨λ_=>rfl,λh=>by cases h⟩,aj.refl,λ_ _ _=>hH _ (mi 1 rfl),?_,?_⟩
 ·intro j y a ha bz;refine b8 bz λhy _=>?_;intro ia;have hj:j=0:=by
   have:=(List.getElem?_eq_some_iff.mp ha).1
   simp at this;exact this
  subst hj;cases hy rfl;cases ha;refine ⟨dA [ia] [("node",.int k)] ns rd f,jF (b7 (aw.tail aw.head)),?_⟩;have sh:=AK hk jl;rw [tB] at sh;refine Hm (K:=λv N=>v = .ref n0.i∧N=dA [ia] [("node",.int k)] ns rd f) ?w1 ?w2
  case w1 =>
   refine vI (hbase:=by rfl) (hfew:=by rfl) (hline:=by rfl) (he:=by rfl) (T:="dict") (d:=nd) (by k_all) (Dy (xs:=dO ns) AX) rr tL Gm (jH (b9 (a:=.int k) (by k_all) dh)) ?_;intro vs;refine fT λhv=>?_;refine GX.mono (I9 D.M AX hv) ?_;intro v;refine fT λhx=>?_;rw [sh] at hx;exact ⟨hx,rfl⟩
  refine t6 ?_;refine ⟨.ref n0.i,dA [ia] [("nodeinfo",.ref n0.i),("node",.int k)] ns rd f,rfl,b7 (aw.tail aw.head),(λh=>by cases h),λ_=>?_⟩;refine iz (a:=.int n0.de) (ie (o:=.ref n0.i) (by k_all) ?s1) (bX:=dA [ia] [("stat",.int n0.de),("nodeinfo",.ref n0.i),("node",.int k)] ns rd f) (b7 (aw.tail aw.head)) ?_
  case s1=>rintro v rfl;exact rz D.TK D.ni.base D.sP (m:=[]) (pU (lA jl).1) (pU (lA jl).2.1) rfl oW
  refine cT D.E2 λtk FB=>?_;refine cT D.JC λZJ XJ=>?_;refine iC (c:=!decide (n0.de=(-1:Int))) (by rw [FC];rfl) (eP (a:=.int n0.de) (b:=.int (-1)) (by k_all) (kJ T.G FB (ha:=⟨tk,rfl⟩)) Jy) ?_;refine sF (hs:=by rfl) (a:=.int (-2)) (x:=.ref n0.i) (kJ T.G XJ (ha:=⟨ZJ,rfl⟩)) (by k_all) (D9 T D (q := -2) jl hk) ?_;generalize E3:fP ns n0.key (λm=>{ m with de := -2 })=oG;have yv:dc oG:=by rw [← E3];refine hk.upd ?_;exact λ_=>rfl
  have LB:oG.map lD=ns.map lD:=by rw [← E3];exact Ho
  have mU:bJ oG=dR (bJ ns) k λq=>(-2,q.2):=by
   rw [← E3,xC (f:=λm:Nd=>{ m with de := -2 }) (h:=λq=>(-2,q.2)) jl hk rfl (λ_=>rfl),tB]
  refine ap (Hp LB jl) λm0 yW oH=>?_;have e1:m0.i=n0.i:=by have:=congrArg (·.2.1) oH;exact this
  have e3:m0.l=n0.l:=by have:=congrArg (·.2.2.2.1) oH;exact this
  have e4:m0.succ=n0.succ:=by have:=congrArg (·.2.2.2.2) oH;exact this
  refine lu (sH hh (l:=n0.l) (xs:=n0.succ.map .int) (ie (o:=.ref n0.i) (by k_all) ?s2) ?s3) ?_
  case s2 =>
   rintro v rfl;rw [← e1,← e3];exact rz D.TK D.ni.base D.sS (m:=[]) (pU (lA yW).1) (pU (lA yW).2.1) rfl mI
  case s3 =>
   rw [← e3,← e4];exact pU (lA yW).2.2
  refine jE λH yQ=>?_;refine ⟨List Nd×List Int,λj y=>dA [ia] [("stat",.int n0.de),("nodeinfo",.ref n0.i),("node",.int k)] y.1 y.2 f,
   λj y=>dc y.1∧y.1.map lD=ns.map lD∧(bJ y.1,y.2)=(n0.succ.take j).foldl jW (bJ oG,rd)∧y.2.length≤rd.length+j,(oG,rd),⟨yv,LB,rfl,cB _⟩,aj.refl,?_,?_,?_⟩
  ·intro j y bz;refine kc bz λ_ gd _ _=>?_;refine ap (Hp gd jl) λm hm oH=>?_;have e3:m.l=n0.l:=by have:=congrArg (·.2.2.2.1) oH;exact this
   have e4:m.succ=n0.succ:=by have:=congrArg (·.2.2.2.2) oH;exact this
   refine yQ _ ?_;rw [← e3,← e4];exact pU (lA hm).2.2
  ·intro j bz;obtain ⟨aX,d6⟩:=bz;intro a ha eM;refine kc eM λjk gd j2 hlen=>?_;intro ib;dsimp only at jk gd j2 hlen;have hj:j<n0.succ.length:=by
    have:=(List.getElem?_eq_some_iff.mp ha).1
    rwa [ar] at this
   have ea:a = .int n0.succ[j]:=by
    rw [aA,au hj] at ha;exact (fx ha).symm
   subst ea;obtain ⟨ms,oH,FE⟩:=Ai (ns:=aX) (k:=n0.succ[j]) (by rw [Pq gd];exact FD _ (jO hj));have LD:=AK jk oH;rw [FE] at LD;refine ⟨dA [ib,ia] [("successor",.int n0.succ[j]),("stat",.int n0.de),("nodeinfo",.ref n0.i),("node",.int k)] aX d6 f,jF (b7 (aw.tail (aw.tail aw.head))),?_⟩;refine iz (a:=.ref ms.i) (IB (hs:=by kst_p) (ht:=by kst_p) (d:=nd) (k:=n0.succ[j]) (by k_all) (by k_all) AX LD) (bX:=dA [ib,ia] [("successor_info",.ref ms.i),("successor",.int n0.succ[j]),("stat",.int n0.de),("nodeinfo",.ref n0.i),("node",.int k)] aX d6 f) (b7 (aw.tail (aw.tail aw.head))) ?_;refine Ad (x:=.ref ms.i) (a:=.int ms.de) (b:=.int 1) (c:=.int (ms.de-1)) (by k_all) ?u1 gP I2 (D9 T D (q:=ms.de-1) oH jk) ?_
   case u1=>exact rz D.TK D.ni.base D.sP (m:=[]) (pU (lA oH).1) (pU (lA oH).2.1) rfl oW
   have hin:({ ms with de:=ms.de-1 }:Nd)∈fP aX ms.key (λm=>{ m with de:=ms.de-1 }):=List.mem_map.mpr ⟨ms,oH,by rw [Qct rfl]⟩;generalize th:fP aX ms.key (λm=>{ m with de:=ms.de-1 })=j5 at hin;have yx:dc j5:=by rw [← th];refine jk.upd ?_;exact λ_=>rfl
   have LF:j5.map lD=ns.map lD:=by rw [← th,← gd];exact Ho
   have kh:bJ j5=dR (bJ aX) n0.succ[j] λq=>(q.1-1,q.2):=by
    rw [← th,xC (f:=λm:Nd=>{ m with de:=ms.de-1 }) (h:=λq=>(q.1-1,q.2)) oH jk rfl (λ_=>rfl),FE]
   have jM:eG (bJ j5) n0.succ[j]=ms.de-1:=by
    have:=DA yx hin
    rw [← FE];exact this
   have kt:(bJ j5,if ms.de-1=0 then d6++[n0.succ[j]] else d6)=(n0.succ.take (j+1)).foldl jW (bJ oG,rd):=by
    have e:n0.succ.take (j+1)=n0.succ.take j++[n0.succ[j]]:=by rw [kI,au hj];rfl
    rw [e,dE,← j2];show _=jW (bJ aX,d6) n0.succ[j]
    unfold jW;dsimp only;rw [← kh,jM]
   refine mL (c:=decide (ms.de-1=0)) (eP (a:=.int (ms.de-1)) (b:=.int 0) (ie (o:=.ref ms.i) (by k_all) ?u2) gP qO) (λhc=>?_) λhc=>?_
   case u2 =>
    rintro v rfl;exact rz D.TK D.ni.base D.sP (m:=[]) (pU (lA hin).1) (pU (lA hin).2.1) rfl oW
   ·have hc:=of_decide_eq_true hc;rw [Qct hc] at kt;refine pJ (K:=λv M=>M=dA [ib,ia] [("successor_info",.ref ms.i),("successor",.int n0.succ[j]),("stat",.int n0.de),("nodeinfo",.ref n0.i),("node",.int k)] j5 (d6++[n0.succ[j]]) f) (vI (hbase:=by rfl) (hfew:=by rfl) (hline:=by rfl) (he:=by rfl) (T:="list") (d:=rl) (ie (by k_all) (iN _ _ _ _ _ _ (by k_mem) rfl mI)) (Ah (xs:=d6.map .int) AY) g8 gv qx (jH (b9 (a:=.int n0.succ[j]) (by k_all) dh)) ?x1) ?x2
    case x1 =>
     intro vs;refine fT λbk=>?_;refine GX.mono (GX.jL (vH (xs:=d6.map .int) (aw.cE (aw.cE aw.head)) (by rw [ar];exact fy (.i (.l (.a .A .B) (.c 10000)) (.i (.l .C (.a .A .D)) (.i (.t .D .B) (.l .C (.c 100000))))) rfl hz hlen hj) vs bk)) ?_;intro v;refine fT λ_=>?_;have e0:ai (d6++[n0.succ[j]])=aM (d6.map .int++[.int n0.succ[j]]):=by show aM _=_;rw [aV];rfl
     rw [← e0];rfl
    case x2 =>
     rintro v M rfl;refine eJ λs S=>⟨(j5,d6++[n0.succ[j]]),⟨yx,LF,kt,by rw [aD];simp;exact Kl hlen⟩,S.cX (aj.pick aR.head iI (aj.pick aR.head iI (aj.pick aR.head (iE.ns (by k_upd)) aj.refl)))⟩
   ·have hc:=Qcu hc;rw [Qcs hc] at kt;exact eJ λs S=>⟨(j5,d6),⟨yx,LF,kt,by dsimp only;exact bB (.i (.l .A (.a .B .C)) (.l .A (.a .B (.a .C .O)))) rfl hlen⟩,S.cX (aj.pick aR.head iI (aj.pick aR.head iI (aj.pick aR.head (iE.ns (by k_upd)) aj.refl)))⟩
  ·intro bz;obtain ⟨aX,d6⟩:=bz;intro eM;refine kc eM λjk gd j2 hlen=>?_;dsimp only at jk gd j2 hlen;rw [ar,gM,mU] at j2;refine Ad (x:=.ref x) (a:=.int f) (b:=.int 1) (c:=.int (f+1)) (L':=dA [ia] [("stat",.int n0.de),("nodeinfo",.ref n0.i),("node",.int k)] aX d6 (f+1)) (by k_all) (iN _ _ _ _ _ _ (by k_mem) rfl oW _ rfl) gP vT (ug (hz:=by exact aZ rfl) D.TK D.lI qQ (aw.cE (aw.oA (aw.tail aw.head))) (D.fld _ (by k_mem)).2) ?_;exact eJ λs S=>⟨(aX,d6,f+1),⟨λh=>(by cases h),λ_=>⟨jk,j2,rfl⟩⟩,S.cX (aj.pick aR.head iI (aj.pick aR.head (iE.ns (by k_upd)) aj.refl))⟩
 ·intro y bz;refine b8 bz λ_ hy=>?_;refine fU (hy rfl) λh3 h4 h5=>?_;refine eJ λs S=>?_;have S':St g (rA y.1 y.2.1 y.2.2) s:=S.ig.ig;rw [h5] at S';exact jj _ _ ⟨_,⟨rfl,y.1,y.2.1,h3,h4,rfl⟩,S'⟩
structure rR(T:fR g) extends Srt2 T where
 FF:T.mg "TopologicalSorter"=some (.ref TS)
 JD:j' K (.ref TS) "__init__"=some (some (.ref xS))
 LG:tR K (.ref xS)=some (.type "function")
 MN:ma g (fu 13 0) "__init__" "TopologicalSorter.__init__" (qU g [.none]) xS
theorem Qr(T:fR g)(D:rR T){n:Nat}(hA:bZ (n+1) A){x dx:ay}{v1:aq}(h1:AV.Is v1 (.ref x)):
  CX g A ((x,dT D.TS dx [])::(dx,et [])::L) (.call (.ref D.xS) ⟨[v1],[]⟩) λv M=>v = .none∧∃nd,M=cZ g D.TS D.NI x dx nd [] .none 0 0++L:=by
 refine nu D.MN λo dV kV doc pm cq ct ho fX hd eb Vr=>?_;refine qT Vr λTT oT ws nT af hT yK yL r9=>?_;subst af;refine ap r9.one λd1 af wE=>?_;subst af;refine rF (binds:=[("self",v1),("graph",d1)]) (m:=[("self",.ref x),("graph",.none)]) (.top ho fX) hd rfl (.top eb) hA.room ?_ (.cons h1 (.cons wE .nil)) rfl rfl ?_
 ·intro s S;exact vu rfl (S.keep TT oT hT yK) yL rfl rfl
 intro F;refine Ac (GX.se HT) ?_;refine fh λnd=>?_;refine ⟨.ref nd,.ref x,(nd,eZ g [])::(F,am [("self",.ref x),("graph",.none)])::(x,dT D.TS dx [])::(dx,et [("_node2info",.ref nd)])::L,rfl,by k_all,ug (hz:=by exact aZ rfl) (m:=[]) D.TK D.lI (by k_mem) (by k_upd) (D.fld _ (by k_mem)).2,?_⟩;refine sF (hs:=by rfl) (a:=.none) (x:=.ref x) oi (by k_all) (L':=(nd,eZ g [])::(F,am [("self",.ref x),("graph",.none)])::(x,dT D.TS dx [])::(dx,et [("_node2info",.ref nd),("_ready_nodes",.none)])::L) (ug (hz:=by exact aZ rfl) (m:=[("_node2info",.ref nd)]) D.TK D.lI (by k_mem) (by k_upd) (D.fld _ (by k_mem)).2) ?_;refine sF (hs:=by rfl) (a:=.int 0) (x:=.ref x) gP (by k_all) (L':=(nd,eZ g [])::(F,am [("self",.ref x),("graph",.none)])::(x,dT D.TS dx [])::(dx,et [("_node2info",.ref nd),("_ready_nodes",.none),("_npassedout",.int 0)])::L) (ug (hz:=by exact aZ rfl) (m:=[("_node2info",.ref nd),("_ready_nodes",.none)]) D.TK D.lI (by k_mem) (by k_upd) (D.fld _ (by k_mem)).2) ?_;refine sF (hs:=by rfl) (a:=.int 0) (x:=.ref x) gP (by k_all) (L':=(nd,eZ g [])::(F,am [("self",.ref x),("graph",.none)])::(x,dT D.TS dx [])::(dx,et (gO nd .none 0 0))::L) (ug (hz:=by exact aZ rfl) (m:=[("_node2info",.ref nd),("_ready_nodes",.none),("_npassedout",.int 0)]) D.TK D.lI (by k_mem) (by k_upd) (D.fld _ (by k_mem)).2) ?_;refine iC (c:=!((cQ) == .none)) rfl (eP (a:=.none) (b:=.none) (by k_all) oi zW) ?_;refine eJ λs S=>⟨_,⟨rfl,nd,rfl⟩,S.cX ?_⟩;exact aj.pick (by k_upd) iI (aj.pick (by k_upd) iI (aj.pick aR.head iI (aj.skip aj.refl)))
theorem Hq(T:fR g)(D:rR T){n:Nat}(hA:bZ (n+2) A):GX g A L (call (.ref D.TS) []) λv M=>∃x dx nd,v = .ref x∧M=cZ g D.TS D.NI x dx nd [] .none 0 0++L:=by
 refine GX.rf (IA D.TK D.ts.makes D.JD D.LG λx dx=>?_);exact (Qr T D (n:=n) hA.making rfl).mono λv M ⟨h1,nd,h2⟩=>⟨h1,x,dx,nd,rfl,h2⟩
end
section
variable {g:Gd}{A:bg}{L L' L₁ L₂ bH:ae}{env:Env}
structure E4(K:mz)(f:ay):Prop where
 get:lZ K (.ref f) "__get__"=some (some (.builtin "function.__get__"))
 takes:QbC K (.ref f)=some false
variable {o:Expr}{sl:List AV}
theorem OP{K:mz}(TK:iF g K){x f:ay}(PC:uf K C)(MG:E4 K f)
  (ho:PE g A L env o (.ref x)) (hx:(x,dT C dx sl)∈L) (hd:(dx,et m)∈L) (hn:m.lookup name=none) (ZK:copiedNames.contains name=false) (hf:j' K (.ref C) name=some (some (.ref f))) (ht:tR K (.ref f)=some (.type "function"))
  (ha : ∀mo,nK g A ((mo,bW (vm (.ref f) (.ref x)))::L) (b6 pos (aE (e::rest) env)) (KA mo)) (hk : ∀M,jI g A M (.ref f)) (ZL : ∀mo vs M,KA mo vs M→(mo,bW (vm (.ref f) (.ref x)))∈M)
  (hc : ∀mo vs M,KA mo vs M→CX g A M (.call (.ref f) ⟨.ref x::vs,[]⟩) K') (ZM : ∃of fd,K.lookup f=some of∧of.data = .func fd)
  (hbase:dW o name env (eval o env)=eval o env:=by rfl)
  (hfew:i8 ((e::rest).length+([]:List g0).length) (b6 pos (aE (e::rest) env)) (bj pos (aO [] env))=false:=by rfl) (hst:(b6 pos (aE (e::rest) env)).any (·.1)=true:=by rfl)
  (he:aE (e::rest) env=(false,eval e env)::aE rest env:=by rfl) :
  GX g A L (eval (.Call (.Attribute o name apos) (e::rest) [] pos) env) K':=λs Q S k=>by
 rw [Oc,hbase];refine ab (ho s _ _ S λxv aW r8 aN=>ab (bT ?_));cases AV.cW r8;refine uK (inst_of aN hx hd) λox od I e1 bz e5 e6 _=>?_;refine eQ bz λes ep e2 e3 e4=>?_;refine ap PC.cd λcd eb yp=>?_;have ZN:NA K C (some od) name=some (.bind (.builtin "function.__get__") (.ref f)):=by
  unfold NA;rw [eb,cP,hf,cP];dsimp only;rw [MG.get,cP];dsimp only;rw [MG.takes,cP];dsimp only;unfold W.ownOf;rw [Qct yp];dsimp only;have h5:=e4 name;rw [hn] at h5;rw [Ag e2 e3.1,h5,cP];dsimp only;rw [ZK];rfl
 have rO:pC false o env apos pos=pure pos:=by unfold pC;rfl
 unfold Qbq;rw [hfew];refine ab (aK ?_);show aJ _ _ (lR (.ref x) name true>>=λv=>pure (v,([]:List aq))) _ _ _
 refine ab (get_bind (K:=K) (TK.re aN) I PC.ga ZN PC.gt (jP (fn_get (K:=K) (s:={ aW with toks:=aW.toks+1 }) (TK.re (aN.toks _)) ht ?_)));dsimp only;rw [handedOut_of rfl];refine ah (ah (ab (fD rO ?_)));have aS:St g ((aW.heap.objs.size,bW (vm (.ref f) (.ref x)))::L) { aW with heap:=aW.heap.push (vm (.ref f) (.ref x)),toks:=aW.toks+1 } :=
  St.push (s:={ aW with toks:=aW.toks+1 }) (aN.toks _) rfl
 generalize aW.heap.objs.size=mo at aS;generalize ({ aW with heap:=aW.heap.push (vm (.ref f) (.ref x)),toks:=aW.toks+1 }:aU)=bu at aS;unfold fJ;refine ab (aK (DQ (K':=λvs be M=>be=[]∧KA mo vs M) (ha mo) (λvs M bk=>(Dh (pos:=pos) (env:=env)).mono λbe N ⟨h1,h2⟩=>⟨h1,h2▸bk⟩) rfl he bu _ aS ?_));intro ax M cC bz;refine eQ bz λvs be af fG bk=>?_;subst af;subst fG;intro cJ;refine ab (bT ?_);refine ap (cJ.get (ZL mo vs M bk)) λom MO XK=>?_;cases XK;have Vs:aJ (bD g.prog g.w) A (vo (.ref mo)) (λkp s'=>kp = .boundFrame∧s'=cC) cU cC:=by
  refine cp ZM λof fd h1 h2=>?_;unfold vo;refine ab (eU MO ?_);dsimp only;refine ab (eU (TK.re cJ _ _ h1) ?_);rw [h2];exact ah ⟨rfl,rfl⟩
 refine ab (cw Vs (λkp gx h4=>?_) λ_ _ q=>q.elim);refine b8 h4 λaf fG=>?_;subst af;subst fG;rw [hst];show aJ _ _ (operate _ (call (.ref mo) ([]++vs) [])>>=_) _ _ _
 refine ab (NM (jP (method_call MO (hc mo vs M bk gx _ cJ λv M' s' hv S'=>?_))));exact ab (aK (wpAny_point (ah (k v M' s' hv S'))))
theorem St.spec(S:St g L s){a:ay}{o:Obj}(U:aw a P P' L L')(ho:s.heap.get? a=some o)(hP:P' o):St g L' s:=S.gG U (Heap.SameBut.refl ..) ho hP
theorem G9{a:ay}{P P':Obj→Prop}: ∀{L:ae},(a,P)∈L→∃L',aw a P P' L L'
 | q::L,h=>by
  by_cases e:q=(a,P)
  ·subst e;exact ⟨_,aw.head⟩
  ·have h':(a,P)∈L:=by
    rcases List.mem_cons.mp h with h | h
    ·exact absurd h.symm e
    ·exact h
   refine cT (G9 (P':=P') h') λL' U=>?_;exact ⟨_,aw.tail U⟩
variable {xs:List (Int×AV)}
theorem HW(S:St g L s)(hU : ∀ep,aw d (eZ g xs) (kN g xs ep) L (LE ep)): ∃ep,St g (LE ep) s:=by
 refine ap (S.get (hU 0).mem) λo ho Vt=>?_;refine cT Vt λep hE=>?_;exact ⟨ep,S.spec (hU ep) ho hE⟩
theorem O5{a:ay}{P P':Obj→Prop}(w : ∀o,P' o→P o){L L':ae}(h:aw a P P' L L'):aj L L':=by
 induction h with
 | head=>exact aj.pick aR.head w aj.refl
 | tail _ ih=>exact aj.pick aR.head iI ih
theorem Jd: ∀o,kN g xs ep o→eZ g xs o:=λo h=>⟨ep,h⟩
def Je(d:ay)(n ep k:Nat)(o:Obj):Prop:=o.cls = .type "dict_keyiterator"∧o.data = .fields #[.ref d,.int k 0,.int n 0,.int ep 0]
def Jf(d:ay)(n ep k:Nat)(o:Obj):Prop:=o.cls = .type "dict_valueiterator"∧o.data = .fields #[.ref d,.int k 0,.int n 0,.int ep 0]
theorem iG.get{be:List (Int×aq)}{xs:List (Int×AV)}(h:iG be xs){i:Nat}{k:Int}{a:AV}(hx:xs[i]?=some (k,a)): ∃v,be[i]?=some (k,v)∧AV.Is v a:=by
 have e1:(be.map (·.1))[i]?=some k:=by rw [h.1,aA,hx];rfl
 have e2:(xs.map (·.2))[i]?=some a:=by rw [aA,hx];rfl
 refine ap (h.2.get e2) λv h3 h4=>?_;rw [aA] at e1 h3;refine ap (Option.map_eq_some_iff.mp e1) λp hp af=>?_;subst af;rw [hp] at h3;cases h3;exact ⟨p.2,hp,h4⟩
theorem Rt(hh:A.handled=none)(it:ay):qg g A it (xs.map λp=>AV.int p.1) (Je d xs.length ep) λL=>(d,kN g xs ep)∈L where
 next:=λk a ha L hl s Q S kk=>by
  refine du (S.get (aC _)) λo h1 h2 h3=>?_;refine ap (vO S (aQ _ hl)) λbe h4 h5=>?_;rw [aA] at ha;refine ap (Option.map_eq_some_iff.mp ha) λp hp af=>?_;subst af;refine ap (h5.get (k:=p.1) (a:=p.2) hp) λv h6 h7=>?_;have hit:s.heap.IsKeyIter it d k be.length ep:=⟨o,h1,h2,by rw [h5.length];exact h3⟩;refine wpAny_pyNext_dict_item (knd:=hJ g.prog g.w) hit h4 h6 λkey h' fV df io=>?_;refine du df λo' uW ph nI=>?_;refine cT (Value.isInt_shape fV) λt af=>?_;subst af;exact kk _ _ _ ⟨⟨_,rfl,t,rfl⟩,rfl⟩ (S.gG aw.head io uW ⟨ph,by rw [h5.length] at nI;exact nI⟩)
 stop:=λL hl s Q S kk=>by
  refine du (S.get (aC _)) λo h1 h2 h3=>?_;refine ap (vO S (aQ _ hl)) λbe h4 h5=>?_;rw [ar] at h3;have hit:s.heap.IsKeyIter it d be.length be.length ep:=⟨o,h1,h2,by rw [h5.length];exact h3⟩;exact wpAny_pyNext_dict_end (knd:=hJ g.prog g.w) hh hit h4 (dm (cB _)) λh' hx=>kk _ _ _ ⟨rfl,rfl⟩ (S.ext hx)
 self:=λk L _ s Q E S kk=>by
  refine du (S.get (aC _)) λo h1 h2 h3=>?_;exact wpAny_pyIter_keyiter ⟨o,h1,h2,h3⟩ (kk _ _ rfl S)
 own:=λk L t v=>xJ (T:="dict_keyiterator") (λo h=>h.1) (by decide) L t v
theorem Ru(hh:A.handled=none)(it:ay):qg g A it (xs.map (·.2)) (Jf d xs.length ep) λL=>(d,kN g xs ep)∈L where
 next:=λk a ha L hl s Q S kk=>by
  refine du (S.get (aC _)) λo h1 h2 h3=>?_;refine ap (vO S (aQ _ hl)) λbe h4 h5=>?_;rw [aA] at ha;refine ap (Option.map_eq_some_iff.mp ha) λp hp af=>?_;subst af;refine ap (h5.get (k:=p.1) (a:=p.2) hp) λv h6 h7=>?_;have hit:s.heap.IsValIter it d k be.length ep:=⟨o,h1,h2,by rw [h5.length];exact h3⟩;refine wpAny_pyNext_values_item (knd:=hJ g.prog g.w) hit h4 h6 λh' df io=>?_;refine du df λo' uW ph nI=>?_;exact kk _ _ _ ⟨⟨v,rfl,h7⟩,rfl⟩ (S.gG aw.head io uW ⟨ph,by rw [h5.length] at nI;exact nI⟩)
 stop:=λL hl s Q S kk=>by
  refine du (S.get (aC _)) λo h1 h2 h3=>?_;refine ap (vO S (aQ _ hl)) λbe h4 h5=>?_;rw [ar] at h3;have hit:s.heap.IsValIter it d be.length be.length ep:=⟨o,h1,h2,by rw [h5.length];exact h3⟩;exact wpAny_pyNext_values_end (knd:=hJ g.prog g.w) hh hit h4 (dm (cB _)) λh' hx=>kk _ _ _ ⟨rfl,rfl⟩ (S.ext hx)
 self:=λk L _ s Q E S kk=>by
  refine du (S.get (aC _)) λo h1 h2 h3=>?_;exact wpAny_pyIter_valiter ⟨o,h1,h2,h3⟩ (kk _ _ rfl S)
 own:=λk L t v=>xJ (T:="dict_valueiterator") (λo h=>h.1) (by decide) L t v
theorem Qs(hh:A.handled=none)(M:oB g){iter:Expr}(he:PE g A L env iter (.ref d))(hU : ∀ep,aw d (eZ g xs) (kN g xs ep) L (LE ep)):
  jv g A L env iter (xs.map λp=>AV.int p.1) λN H=>∃ep,N=LE ep∧∀N',(d,kN g xs ep)∈N'→H N' :=
 GX.mono (GX.EX he) λv N ⟨hv,hN⟩=>by
  cases AV.cW hv;subst hN;intro s Q S k;have hd:=(hU 0).mem;refine cT (HW S hU) λep S'=>?_;refine ap (vO S' (hU ep).Ly) λbe h4 h5=>?_;refine wpAny_pyIter_dict (knd:=hJ g.prog g.w) (vU M S hd) h4 ?_;refine k _ _ _ ⟨_,LE ep,_,_,rfl,rfl,⟨ep,rfl,λ_ h=>h⟩,Rt hh _⟩ (S'.push (P:=Je d xs.length ep 0) ⟨rfl,by rw [h5.length];rfl⟩)
def Vu(d:ay)(o:Obj):Prop:=o.cls = .type "dict_values"∧o.data = .fields #[.ref d]
theorem Qt(hh:A.handled=none)(M:oB g)(ho:PE g A L env o (.ref d))(hU : ∀ep,aw d (eZ g xs) (kN g xs ep) L (LE ep))
  (hbase:dW o "values" env (eval o env)=eval o env)
  (hfew:((b6 pos (aE [] env)).all (λx=>!x.1)&&(bj pos (aO [] env)).all (λx=>x.1.isSome)&&decide (([]:List Expr).length+([]:List g0).length+(if ([]:List g0).isEmpty then 0 else 1)<30))=true)
  (hline:(apos.endLine==pos.line)=true) :
  jv g A L env (.Call (.Attribute o "values" apos) [] [] pos) (xs.map (·.2)) λN H=>∃ep,N=LE ep∧∀N',(d,kN g xs ep)∈N'→H N':=by
 have hd:=(hU 0).mem;refine GX.mono (Hl (K':=λv N=>∃w,v = .ref w∧N=(w,Vu d)::L) ho (Dy hd) rr Cv PySem.F.type_dict_values ?_ hbase hfew hline) ?_
 ·intro s Q S k;refine ap (sM S hd) λbe h1 h2=>?_;refine Qav Cv h1.typeIs PySem.F.entry_dict_values (PySem.F.args_dict_values_1 _) (meets_dict_values (hJ g.prog g.w) d (vU M S hd)) ⟨⟨be,h1⟩,?_⟩;exact k _ _ _ ⟨_,rfl,rfl⟩ (S.push ⟨rfl,rfl⟩)
 ·refine fh λw=>?_;intro s Q S k;refine cT (HW S.ig hU) λep S'=>?_;refine ap (vO S' (hU ep).Ly) λbe h4 h5=>?_;refine du (S.get (aC _)) λov h1 h2 h3=>?_;refine wpAny_pyIter_values (knd:=hJ g.prog g.w) ⟨ov,h1,h2,h3⟩ h4 ?_;refine k _ _ _ ⟨_,LE ep,_,_,rfl,rfl,⟨ep,rfl,λ_ h=>h⟩,Ru hh _⟩ (S'.push (P:=Jf d xs.length ep 0) ⟨rfl,by rw [h5.length];rfl⟩)
end
section
variable {g:Gd}{A:bg}{L L' L₁ L₂ bH:ae}
theorem G'{α β:Type}(d:α)(q:α→Bool)(h:α→β): ∀l:List α,((aF l.length).filter λk=>q (l.getD k d)).map (λk=>h (l.getD k d))=(l.filter q).map h:=by
 intro l;have e:(aF l.length).map (λk=>l.getD k d)=l:=by
  apply xh;intro i;rw [aA];by_cases hi:i<l.length
  ·rw [dI hi,au hi];simp [aI,au hi]
  ·rw [dm (by simpa using hi),dm (by exact yG hi)];rfl
 have e2:l.filter q=((aF l.length).filter λk=>q (l.getD k d)).map λk=>l.getD k d:=by
  conv=>lhs;rw [← e,tT]
  rfl
 rw [e2,bt];rfl
noncomputable def gw(vg:VG):List Int:=(vg.filter λp=>decide (p.2.1=0)).map (·.1)
def jg(A:bg)(L:ae):Prop:=∃envs,A.frames=some envs∧∀e∈envs,e.scope.kind = .function∧∃F m,e.frame=some F∧(F,am m)∈L
theorem jg.deeper(h:jg A L){f:ay}(hk:fd.scope.kind = .function:=by rfl):jg (A.deeper (jw fd f F)) ((F,am m)::L):=by
 refine ap h λenvs h1 h2=>?_;refine ⟨jw fd f F::envs,?_,λe he=>?_⟩
 ·show A.frames.map _=_
  rw [h1];rfl
 ·rcases List.mem_cons.mp he with rfl | he
  ·exact ⟨hk,F,m,rfl,.head _⟩
  ·obtain ⟨h3,F',m',h4,h5⟩:=h2 e he;exact ⟨h3,F',m',h4,.tail _ h5⟩
theorem jg.inc{M:ae}(h:jg A L)(hi:cu L M):jg A M:=by
 refine ap h λenvs h1 h2=>?_;exact ⟨envs,h1,λe he=>by obtain ⟨h3,F,m,h4,h5⟩:=h2 e he;exact ⟨h3,F,m,h4,hi _ h5⟩⟩
def HX(T:fR g)(D:rR T)(n:Nat)(P:VG→Prop):Prop:=∀(A:bg) (L:ae) (x dx nd rl:ay) (ns:List Nd) (rd:List Int) (p f:Int),bZ n A→jg A L→dc ns→P (bJ ns)→∀v1,AV.Is v1 (.ref x) →
 CX g A (bQ g D.TS D.NI x dx nd ns rl rd p f L) (.call (.ref D.wr) ⟨[v1],[]⟩) λv M=>v = .none∧M=bQ g D.TS D.NI x dx nd ns rl rd p f L
noncomputable def nM:Nd:=⟨0,0,0,0,0,[]⟩
variable {P:VG→Prop}
theorem ST(T:fR g)(D:rR T)(hA:bZ (n+1) A)(XM:HX T D n P)(iq:jg A L){x nd:ay}{ns:List Nd}{p f:Int}(hk:dc ns)(hP:P (bJ ns))(hz:ns.length≤1000)(h1:AV.Is v1 (.ref x)):
  CX g A (cZ g D.TS D.NI x dx nd ns .none p f++L) (.call (.ref D.AU) ⟨[v1],[]⟩) λv M=>v = .none∧∃rl,M=bQ g D.TS D.NI x dx nd ns rl (gw (bJ ns)) p f L:=by
 refine nu D.yu.fn λo dV kV doc pm cq ct ho fX hd eb af=>?_;subst af;refine rF (binds:=[("self",v1)]) (m:=[("self",.ref x)]) (.top ho fX) hd rfl (.top eb) hA.room ?_ (.cons h1 .nil) rfl rfl ?_
 ·intro s S;exact dY rfl
 intro F;let E:=jw (gy (fu 13 3) "prepare" "TopologicalSorter.prepare" .none kV doc pm cq ct) D.AU F;let j1:=A.deeper E;change SX g j1 _ E _ _
 refine lp λQ0 oF=>?_;have fB:bZ n j1:=hA.deeper;have hh:=fB.handled;have y0:(x,dT D.TS dx [])∈(F,am [("self",.ref x)])::(cZ g D.TS D.NI x dx nd ns .none p f++L):=aQ _ (ao _ (aC _));have BV:(dx,et (gO nd .none p f))∈(F,am [("self",.ref x)])::(cZ g D.TS D.NI x dx nd ns .none p f++L):=aQ _ (ao _ (mi 1 rfl));refine iC (c:=!((cQ) == .none)) rfl (eP (a:=.none) (b:=.none) (ie (by k_all) (un D.toSrt y0 BV (by k_mem) rfl G3)) oi zW) ?_;have MP:((dO ns).map (·.2)).length=ns.length:=by unfold dO;rw [ar,ar]
 have iN : ∀(k:Nat) (a:AV),((dO ns).map (·.2))[k]?=some a→ns.getD k nM∈ns∧a = .ref (ns.getD k nM).i:=by
  intro k a ha;unfold dO at ha;rw [bt,aA] at ha;refine ap (Option.map_eq_some_iff.mp ha) λm hm af=>?_;subst af;have e:ns.getD k nM=m:=by rw [aI,hm];rfl
  rw [e];exact ⟨bx hm,rfl⟩
 refine Ac (K:=λv M=>∃rl,v = .ref rl∧M=(rl,ai (gw (bJ ns)))::(F,am [("self",.ref x)])::(cZ g D.TS D.NI x dx nd ns .none p f++L)) ?c1 ?c2
 case c1 =>
  refine Aa (cl:=[]) (Qt (hbase:=by rfl) (hfew:=by rfl) (hline:=by rfl) hh D.M (d:=nd) (xs:=dO ns) (LE:=λep=>(F,am [("self",.ref x)])::((x,dT D.TS dx [])::(dx,et (gO nd .none p f))::(nd,kN g (dO ns) ep)::(gc D.NI ns++L))) (ie (by k_all) (un D.toSrt y0 BV (by k_mem) rfl mI)) (λep=>aw.tail (aw.tail (aw.tail aw.head)))) ?_;refine xk λH ep hH acc C=>?_;have hg : ∀{q:fN},q∈gc D.NI ns→∀(a b c:fN) ,q∈a::b::c::(F,am [("self",.ref x)])::((x,dT D.TS dx [])::(dx,et (gO nd .none p f))::(nd,kN g (dO ns) ep)::(gc D.NI ns++L)):=λhq a b c =>
   aQ _ (md 6 (ao _ hq))
  refine ⟨Unit,λk _=>(C,am [])::(acc,aM (((aF k).filter λk=>decide ((ns.getD k nM).de=0)).map λk=>.int (ns.getD k nM).key))::((F,am [("self",.ref x)])::((x,dT D.TS dx [])::(dx,et (gO nd .none p f))::(nd,kN g (dO ns) ep)::(gc D.NI ns++L))),(),λk _=>hH _ (by k_mem),?_,Ab _ (λk=>decide ((ns.getD k nM).de=0)) (λk=>.int (ns.getD k nM).key) (λk=>[("i",.ref (ns.getD k nM).i)]) (by rw [MP];exact jZ hz) ?_ ?_ ?_,λ_=>⟨(acc,_)::_,aj.pick aR.head iI (aj.pick aR.head iI (O5 Jd (aw.tail (aw.tail (aw.tail aw.head))))),acc,rfl,?_⟩⟩
  ·exact aj.pick (aR.tail aR.head) iI (aj.pick aR.head iI aj.refl)
  ·intro k a ha ia P;refine b8 (iN k a ha) λ_ af=>?_;subst af;exact jF (b7 (aw.tail aw.head))
  ·intro k a ha ia P;refine b8 (iN k a ha) λhm af=>?_;subst af;refine fU (lA (NI:=D.NI) hm) λm1 m2 m3=>?_;refine xA (eP (a:=.int (ns.getD k nM).de) (b:=.int 0) (ie (o:=.ref (ns.getD k nM).i) (by k_all) ?_) gP qO);rintro v rfl;exact rz D.TK D.ni.base D.sP (m:=[]) (hg m1 _ _ _) (hg m2 _ _ _) rfl oW
  ·intro k a ha hp ia P;refine b8 (iN k a ha) λhm af=>?_;subst af;refine fU (lA (NI:=D.NI) hm) λm1 m2 m3=>?_;refine ie (o:=.ref (ns.getD k nM).i) (by k_all) ?_;rintro v rfl;exact rz D.TK D.ni.base D.sN (m:=[]) (hg m1 _ _ _) (hg m2 _ _ _) rfl oW
  ·have e:(((aF ((dO ns).map (·.2)).length).filter λk=>decide ((ns.getD k nM).de=0)).map λk=>AV.int (ns.getD k nM).key)=(gw (bJ ns)).map .int:=by
    rw [MP,G' nM (λm=>decide (m.de=0)) (λm=>AV.int m.key) ns];unfold gw bJ;rw [tT,bt,bt];rfl
   show (acc,aM _)::_=(acc,aM ((gw (bJ ns)).map .int))::_
   rw [← e];rfl
 refine fh λrl=>?_;refine ⟨.ref rl,.ref x,(F,am [("self",.ref x)])::bQ g D.TS D.NI x dx nd ns rl (gw (bJ ns)) p f L,rfl,by k_all,?_,?_⟩
 ·have h:=ug (hz:=by exact aZ rfl) (A:=j1) (g:=g) (m:=gO nd .none p f) (sl:=[]) (name:="_ready_nodes") (a:=.ref rl) (x:=x) (dx:=dx) D.TK D.lI (L:=(rl,ai (gw (bJ ns)))::(F,am [("self",.ref x)])::(cZ g D.TS D.NI x dx nd ns .none p f++L)) (L':=(rl,ai (gw (bJ ns)))::(F,am [("self",.ref x)])::(cZ g D.TS D.NI x dx nd ns (.ref rl) p f++L)) (aQ _ y0) (aw.tail (aw.tail (aw.oA (aw.tail aw.head)))) (D.fld _ (by k_mem)).2;intro v s Q E ha S k;refine h v s Q E ha S λs' S'=>k s' (S'.perm ?_);unfold bQ;refine (fp _ _ _).trans (mw _ ?_);exact List.perm_middle.symm
 ·have hm : ∀(Pre:ae),(x,dT D.TS dx [])∈Pre++bQ g D.TS D.NI x dx nd ns rl (gw (bJ ns)) p f L∧(dx,et (gO nd (.ref rl) p f))∈Pre++bQ g D.TS D.NI x dx nd ns rl (gw (bJ ns)) p f L:=λPre=>⟨qQ,sV⟩;refine ic (K:=λv M=>v = .none∧M=(F,am [("self",.ref x)])::bQ g D.TS D.NI x dx nd ns rl (gw (bJ ns)) p f L) (Dz D.TK (C:=D.TS) (x:=x) (dx:=dx) (f:=D.wr) D.lI (m:=gO nd (.ref rl) p f) (sl:=[]) (by k_all) (hm [_]).1 (hm [_]).2 rfl D.yY.find D.yY.typ D.yY.fn.kept ?_) ?_
  ·have h:=XM _ ((F,am [("self",.ref x)])::L) x dx nd rl ns (gw (bJ ns)) p f fB iq.deeper hk hP (.ref x) rfl;intro s Q S kk;have S1:St g (bQ g D.TS D.NI x dx nd ns rl (gw (bJ ns)) p f ((F,am [("self",.ref x)])::L)) s:=S.perm (by
    unfold bQ;refine (bq (a:=(F,am [("self",.ref x)])) (l₁:=cZ g D.TS D.NI x dx nd ns (.ref rl) p f) (l₂:=(rl,ai (gw (bJ ns)))::L)).symm.trans ?_;exact dG _ (fp _ _ _))
   refine GX.rf h s Q S1 λv M s' ⟨e1,e2⟩ S'=>?_;subst e2;refine kk v _ s' ⟨e1,rfl⟩ (S'.perm ?_);unfold bQ;refine sv ?_ (bq (a:=(F,am [("self",.ref x)])) (l₁:=cZ g D.TS D.NI x dx nd ns (.ref rl) p f) (l₂:=(rl,ai (gw (bJ ns)))::L));exact dG _ (fp _ _ _)
  refine t6 ?_;refine ⟨.none,_,rfl,b7 aw.head,?_⟩;refine iC (c:=false) rfl (Sv (he:=by kst_p) (by k_all)) ?_;exact eJ λs S=>oF _ _ ⟨_,⟨rfl,rl,rfl⟩,S.ig⟩
end
section
variable {g:Gd}{A:bg}{L L' L₁ L₂ bH:ae}{env:Env}
theorem DB{a:ay}{P:Obj→Prop}: ∀{L:ae},(a,P)∈L→aw a P P L L
 | q::L,h=>by
  by_cases e:q=(a,P)
  ·subst e;exact aw.head
  ·rcases List.mem_cons.mp h with h | h
   ·exact absurd h.symm e
   ·exact aw.tail (DB h)
theorem OQ:∀(envs:List Env),(∀e∈envs,e.scope.kind = .function∧∃F m,e.frame=some F∧(F,am m)∈L)→fz g A L (Qa0 envs) λ_=>True:=by
 intro envs
 induction envs with
 | nil=>intro _;exact fz.pure trivial
 | cons e outer ih =>
  intro h s Q E S k;refine b8 (h e (.head _)) λhk Vv=>?_;refine cp Vv λF m hF hm=>?_;refine ap (S.get hm) λo ho Vw=>?_;refine eQ Vw λes ep hd qb wJ=>?_;simp only [Qa0,hF];refine ab (eU ho ?_);by_cases hr:((o.slots.getD 3 none).isSome)=true
  ·rw [Qct hr];exact ah (k _ _ trivial S)
  ·rw [Qcs hr];refine ab (fD (a:=false) (by simp [behindIsImport,hk]) ?_);have key : ∀back:aq,aJ (bD g.prog g.w) A (update F (λo=>{ o with slots := #[some e.code,some (.ref e.globals),o.slots.getD 2 none,some back,o.slots.getD 4 none,e.func.map .ref,some (.ref e.builtins)]++(e.cells.map λc=>some (.ref c.2)).toArray })>>=λ_=>Qa0 outer) Q E s:=by
    intro back;refine ab (wpAny_update ho ?_);have hg:=cF (λo:Obj=>{ o with slots := #[some e.code,some (.ref e.globals),o.slots.getD 2 none,some back,o.slots.getD 4 none,e.func.map .ref,some (.ref e.builtins)]++(e.cells.map λc=>some (.ref c.2)).toArray }) ho (by obtain ⟨c,d,dt,sl⟩:=o;cases dt<;>first | rfl | cases hd);have S':=S.gG (DB hm) (cz ..) hg ⟨es,ep,hd,qb,wJ⟩;exact ih (λe he=>h e (.tail _ he)) _ Q E S' k
   exact ab (wpAny_keptBack_false key)
def o9(cls:aq)(tb:Option ay)(o:Obj):Prop:=o.cls=cls∧∃vs,o.data = .fields vs∧vs[1]?=some (match tb with | some a=>.ref a | none=>.none)
def zb(F:ay)(o:Obj):Prop:=∃vs,o.data = .fields vs∧3<vs.size∧vs[3]?=some (gj F)
theorem Rv(iq:jg A L){env:Env}{rest:List Env}(hA:A.frames=some (env::rest)){F:ay}(hF:env.frame=some F):fz g A L (Qbc env) (· = .ref F):=λs Q E S k=>by
 refine ap iq λenvs h1 h2=>?_;rw [hA] at h1;cases h1;unfold Qbc;refine ab (m:=frameEnvs) (wpAny_frameEnvs hA ?_);have rg:((env::rest).dropWhile λx=>x.frame != env.frame)=env::rest:=by simp [CG]
 rw [rg];unfold frameObject;refine ab (ab (OQ _ h2 s _ _ S λ_ s' _ S'=>ah ?_));rw [hF];exact ah (k _ _ rfl S')
variable {Q:Unit→aU→Prop}{rest:List Env}
theorem Pr(iq:jg A L)(hA:A.frames=some (env::rest))(hF:env.frame=some F)(he:(ea,o9 cls none)∈L)(S:St g L s)
  (k : ∀tb L' s',aw ea (o9 cls none) (o9 cls (some tb)) L L'→St g ((tb,zb F)::L') s'→Q () s'):aJ (bD g.prog g.w) A (CJ (.ref ea) env) Q E s:=by
 refine du (S.get he) λoe h1 h2 Vx=>?_;refine ap Vx λvs h3 h4=>?_;unfold CJ;simp only [hF];refine ab (m9 h1 h3 h4 ?_);rw [Qcs (by decide)];refine ab (Rv iq hA hF s _ _ S λv aW hv aN=>?_);subst hv;refine ab (wpAny_entryPlaceOf λpl gX=>?_);unfold EntryCells.newEntry newFields;refine ab (eX ?_ (gX.sizeOk5 _ _ _ _ _));have aS:=aN.push (o:={ cls:=.type "traceback",dict:=none,data:=.fields ([cQ,.ref F,.none,gj F,.none]++(if pl.isEmpty then dM 6 cQ else pl)).toArray }) (P:=zb F) ⟨_,rfl,by simp,by simp⟩;generalize aW.heap.objs.size=tb at aS;refine cT (G9 (P':=o9 cls (some tb)) he) λL' U=>?_;refine du (aS.get (aQ _ he)) λoe' q1 q2 Vy=>?_;refine ap Vy λwL q3 q4=>?_;have gB:1<wL.size:=(Array.getElem?_eq_some_iff.mp q4).1;refine NK q1 q3 gB ?_;refine k tb L' _ U (aS.gG (aw.tail U) (cz ..) (cF _ q1 (kH (gT q3 _))) ⟨(QaK ..).trans q2,_,gT q3 _,?_⟩);simp [gB]
def Bk(o:Obj):Prop:=∃vs,o.data = .fields vs∧3<vs.size
theorem zb.w: ∀o,zb F o→Bk o:=λo ⟨vs,h1,h2,_⟩=>⟨vs,h1,h2⟩
theorem Ha{tb:ay}(he:(ea,o9 cls (some tb))∈L)(ht:(tb,Bk)∈L)(S:St g L s)
  (k : ∀s',St g L s'→Q () s'):aJ (bD g.prog g.w) A (setFlight (.ref ea) none) Q E s:=by
 refine du (S.get he) λoe h1 h2 Vz=>?_;refine ap Vz λvs h3 h4=>?_;refine ap (S.get ht) λot h5 VA=>?_;refine ap VA λts h6 h7=>?_;refine wpAny_setFlight_none h1 h3 h4 h5 h6 h7 (k _ ?_);exact S.gG (DB ht) (cz ..) (cF _ h5 (kH (gT h6 _))) ⟨_,gT h6 _,by simp;exact h7⟩
theorem Oy:rv (.type "StopIteration") (.type "BaseException")=pure true:=by rw [j9];kernel_rfl
theorem Ot:rv (.type ((Manifest.find? "StopIteration").elim "type" λx=>x.metatype)) (.type "tuple")=pure false:=by rw [j9];kernel_rfl
variable {rest:List fK}{Q:oP→aU→Prop}
theorem O6(T:fR g){JE:List fK}{LH:fK}(hA:A.frames=some (env::fs))(hF:env.frame=some F)
  (h : ∀s,St g L s→aJ (bD g.prog g.w) A (mX body env) (λf aW=>match f with | .next=>aJ (bD g.prog g.w) A (mX rest env) Q cU aW | f=>Q f aW)
   (λe aW=>∃ea Lx,e = .ref ea∧St g ((ea,o9 (.type "StopIteration") none)::Lx) aW∧jg A Lx ∧
    SX g (A.mark (some (.ref ea))) Lx env (LH::JE) λf bu=>match f with | .next=>aJ (bD g.prog g.w) A (mX rest env) Q cU bu | f=>Q f bu) s)
  (h1:env.globals=cm) (h2:env.builtins=dU) (h3:env.scope.kind = .function) (h4:env.kindOf "StopIteration"=some .globalImplicit) :
  SX g A L env (.Try body [.ExceptHandler (some (.Name "StopIteration" p1)) none (LH::JE) p2] [] [] pos::rest) Q:=i9 λs S=>by
 refine wpAny_Try_except (cw (h s S) (λf aW hf=>?_) λe aW he=>?_)
 ·cases f with
  | next=>exact qq hf
  | cont=>exact hf
  | brk=>exact hf
  | ret v=>exact hf
 refine tc he λea Lx af aN iq hX=>?_;subst af;refine Pr (iq.inc (cu.cons (cu.refl _))) hA hF (aC _) aN λtb L' bu U aS=>?_;have hU:L'=(ea,o9 (.type "StopIteration") (some tb))::Lx:=by
  have:=U.eq aN.nodup
  rw [← this];have d9:=aN.nodup;rw [aB,cG] at d9;show (if ea=ea then _ else _)::upd ea _ Lx=_
  rw [Qct rfl,GK d9.1]
 subst hU;have cJ:St g ((tb,Bk)::(ea,o9 (.type "StopIteration") (some tb))::Lx) bu:=aS.Ej zb.w;refine Ha (mi 1 rfl) (aC _) cJ λgx eK=>?_;refine wpAny_handleBy_builtin (T:="StopIteration") (X:="StopIteration") (b:=true) Oy Ot isSubtype_stop ?_;refine gQ (g:=g) (A:=A.mark (some (.ref ea))) (L:=(tb,Bk)::(ea,o9 (.type "StopIteration") (some tb))::Lx) T (x:="StopIteration") (v:=.type "StopIteration") (by k_mem) h1 h2 h3 h4 (by decide) gx _ _ eK λc kX hc ij=>?_;cases AV.cW hc;refine du (ij.get (mi 1 rfl)) λoe q1 q2 _=>?_;refine ⟨rfl,⟨oe,q1,q2⟩,?_⟩;rw [Qct rfl];refine Ha (mi 1 rfl) (aC _) ij λny mM=>?_;refine ja (cw (hX ny mM.ig.ig) (λf Bl hf=>?_) λ_ _ q=>q.elim);cases f with
 | next=>exact hf
 | cont=>exact hf
 | brk=>exact hf
 | ret v=>exact hf
end
section
open PySem PySem.W PySem.Builtin PySem.Builtin.ObjectAttr PyProof.Rows
variable {g:Gd}{A:bg}{L L' L₁ L₂ bH:ae}{env:Env}
noncomputable def BW:mz:=[]
theorem D'(h:Heap):BW.In h:=λa o e=>by cases e
theorem VB:j' BW (.type "list_iterator") "__next__"=some (some (.builtin "list_iterator.__next__")):=by kernel_rfl
theorem Ue:lZ BW (.builtin "list_iterator.__next__") "__get__"=some (some (.builtin "wrapper_descriptor.__get__")):=by kernel_rfl
theorem Rw:QbC BW (.builtin "list_iterator.__next__")=some false:=by kernel_rfl
noncomputable def kP(it:ay):Obj:={ cls:=.type "method-wrapper",data:=.fields #[.builtin "list_iterator.__next__",.ref it] }
noncomputable def rG(l:ay):Obj:={ cls:=.type "list_iterator",data:=.fields #[.ref l,.int 0 0] }
theorem OR:n6 (.builtin "list_iterator.__next__")=pure (.type "wrapper_descriptor"):=by show builtinType _=_;rw [builtinType_eq_fast];kernel_rfl
theorem Rx:Manifest.owners.lookup (String.ofList ['r','o','t','p','i','r','c','s','e','d','_','r','e','p','p','a','r','w'].reverse)=some Manifest.sig_wrapper_descriptor:=by kernel_rfl
theorem O7(a b c:aq):vz "wrapper_descriptor.__get__" ⟨[a,b,c],[]⟩:=by
 unfold vz;rw [signature?_of (id:="wrapper_descriptor.__get__") (n:=['_','_','t','e','g','_','_']) (o:=['r','o','t','p','i','r','c','s','e','d','_','r','e','p','p','a','r','w']) (by kernel_rfl) Rx];kernel_rfl
theorem OS:".".intercalate ("list_iterator.__next__".cutAt '.').dropLast = "list_iterator":=by
 have e0 : "list_iterator.__next__".cutAt '.'=["list_iterator","__next__"]:=by first | rfl | decide +kernel
 rw [e0];decide +kernel
theorem Uf:rv (.type "list_iterator") (.type "list_iterator")=pure true:=by rw [j9];kernel_rfl
variable {Q:Fin→aU→Prop}{l:ay}
theorem Qu(ho:s.heap.get? it=some (rG l))
  (q:Q (.done (.ret (.ref s.heap.objs.size))) { s with heap:=s.heap.push (kP it) }) :
  aJ M A (ey.«wrapper_descriptor.__get__» ⟨[.builtin "list_iterator.__next__",.ref it,.type "list_iterator"],[]⟩) Q E s:=by
 show aJ M A (_>>=_) _ _ _
 refine ab (ah ?_);show aJ M A (_>>=_) _ _ _
 refine ab ?_;show aJ M A (_>>=_) _ _ _
 refine ab (ah ?_);dsimp only;refine ab ?_;rw [show (_:aq) = .type "list_iterator" from congrArg nU OS];refine lY (T:="list_iterator") ⟨_,ho,rfl⟩ Uf ?_;refine ah ?_;refine ab (eX ?_);exact ah q
theorem SU(ho:h.get? it=some (rG l)):Gp M h (find (.ref it) (.type "list_iterator") "__next__") (.bind (.builtin "wrapper_descriptor.__get__") (.builtin "list_iterator.__next__")):=by
 have L1:=looks_findIn (M:=M) (D' h) VB;have L2:Gp M h (getOf (some (.builtin "list_iterator.__next__"))) (some (.builtin "wrapper_descriptor.__get__")):=Qb8 (D' h) Ue;have L3:=looks_takesIn (M:=M) (D' h) Rw;refine L1.andThen (L2.andThen ?_);have L4:Gp M h (dataDescriptor? (some (.builtin "list_iterator.__next__")) (some (.builtin "wrapper_descriptor.__get__"))) none:=L3.andThen .now;refine L4.andThen ?_;have L5:Gp M h (inOwnDict "__next__" (.ref it)) none:=by
  intro A Q E s k q;refine ab (ab (iW (k _ _ ho) ?_));show aJ M A (instanceDict it false) _ E s
  unfold instanceDict;refine ab (iW (k _ _ ho) ?_);exact ah (ah q)
 refine L5.andThen ?_;exact Looks.tag .now
theorem OT{it l:ay}(hit:(it,bW (rG l))∈L):GX g A L (lR (.ref it) "__next__" true) λv M=>∃w,v = .ref w∧M=(w,bW (kP it))::L:=λs Q S k=>by
 refine ap (S.get hit) λo ho af=>?_;subst af;obtain ⟨hh,gg,d,t,os⟩:=s;have L0:Gp (bD g.prog g.w) hh (n6 (.ref it)) (.type "list_iterator"):=(Looks.ld ho).andThen .now;have Lf:=SU (M:=bD g.prog g.w) ho;have hT : ∀t',(⟨hh,gg,d,t',os⟩:aU).TypeIs (.ref it) "list_iterator":=λ_=>⟨_,ho,rfl⟩;have slot:Slot "list_iterator" "__getattribute__" "object.__getattribute__" :=
  .of (owner:="object") (n:="__getattribute__") (by rw [jA,fj];kernel_rfl) (by decide +kernel) (by decide +kernel) (by decide +kernel)
   (by first | exact .inl (by decide +kernel) | exact .inr (by decide +kernel)) (by rw [j9];kernel_rfl)
 unfold lR QbU;refine ab (n5 (aK (ab (Qal (hT _) (ab (fD slot.lookup ?_))))));show aJ _ _ (mZ (.ref it) (.str "__next__" t) (.type "list_iterator") (.builtin "object.__getattribute__") true true) _ _ _
 unfold mZ Qbs CL NS;refine ab (fD (show (if onTheHeap (.type "list_iterator") then oU (.type "list_iterator") "__getattr__" else pure none)=pure none from rfl) ?_);refine ab (tQ (aK ?_));show aJ _ _ (Qa4 (.builtin "object.__getattribute__") (.ref it)>>=_) _ _ _
 refine ab (fD (slot.bind _) ?_);refine cw (Q:=λv s'=>v = .ref hh.objs.size∧s'=⟨hh.push (kP it),gg,d,t+1,os⟩) (E:=λ_ _=>False)
  (g9 slot (hT _) F.entry_object_getattribute ?_ (F.args_object_getattribute_2 _ _)) (λv s' hv=>?_) λ_ _ z=>z.elim
 ·show aJ _ _ (n6 (.ref it)>>=_) _ _ _
  have L0:Gp (bD g.prog g.w) hh (n6 (.ref it)) (.type "list_iterator"):=(Looks.ld ho).andThen .now;refine ab (L0.at (ab (Lf.at ?_)));show aJ _ _ (holding [.builtin "list_iterator.__next__"] (call (.builtin "wrapper_descriptor.__get__") [.builtin "list_iterator.__next__",.ref it,.type "list_iterator"])>>=ret) _ _ _
  refine ab (aK ?_);have VC:Slot "wrapper_descriptor" "__get__" "wrapper_descriptor.__get__" :=
   .of (owner:="wrapper_descriptor") (n:="__get__") (by rw [jA,fj];kernel_rfl) (by decide +kernel) (by decide +kernel) (by decide +kernel)
    (by first | exact .inl (by decide +kernel) | exact .inr (by decide +kernel)) (by rw [j9];kernel_rfl)
  have ZO : ∀s:aU,s.TypeIs (.builtin "list_iterator.__next__") "wrapper_descriptor":=by
   exact λs=>OR
  refine g9 (b:=ey.«wrapper_descriptor.__get__») VC (ZO _) (ki (by kernel_rfl)) ?_ (O7 _ _ _);exact Qu (s:=⟨hh,gg,d,t+1,os⟩) ho ⟨_,rfl,ah ⟨_,rfl,rfl,rfl⟩⟩
 ·refine b8 hv λaf fG=>?_;subst af;subst fG;have S':St g ((hh.objs.size,bW (kP it))::L) ⟨hh.push (kP it),gg,d,t,os⟩:=S.push (s:=⟨hh,gg,d,t,os⟩) rfl;exact ah (k _ _ _ ⟨_,rfl,rfl⟩ (S'.toks (t+1)))
end
section
variable {g:Gd}{A:bg}{L L' L₁ L₂ bH:ae}{env:Env}
theorem SV:Qa3 "list_iterator.__next__"=some .slot:=by decide +kernel
theorem HY:plainId "list_iterator.__next__"=true:=PySem.slot_listiter_next.plain
theorem Ug(a:aq):lW "list_iterator.__next__" ⟨[a],[]⟩=pure ():=by
 have h:=PySem.args_listiter_next a;unfold vz at h;unfold lW;rw [SV];cases e:Manifest.signature? "list_iterator.__next__" with
 | none=>rfl
 | some sig =>
  rw [e] at h;show (if ((Manifest.AttrKind.slot != .method)&&(Manifest.AttrKind.slot != .classMethod))=true then _ else _)=_
  rw [Qct (by decide)];exact h
theorem IE{w it:ay}(hw:(w,bW (kP it))∈L){s:aU}(S:St g L s){Q E:aq→aU→Prop}
  (h:aJ (bD g.prog g.w) A.in1 (ey.«list_iterator.__next__» ⟨[.ref it],[]⟩) (λfin s'=>∃v,fin = .done (.ret v)∧Q v s') E s):aJ (bD g.prog g.w) A (call (.ref w) [] []) Q E s:=by
 refine ap (S.get hw) λo ho e=>?_;cases e;refine jP (m6 ?_);show aJ _ _ (Cs (.ref w) ⟨[],[]⟩) _ _ s
 unfold Cs;refine ab (eU ho ?_);show aJ _ _ (lW _ ⟨[.ref it],[]⟩>>=λ_=>Qag (.builtin "list_iterator.__next__" ⟨[.ref it],[]⟩)) _ _ _
 refine ab (fD (Ug _) ?_);refine ah ⟨plainId_quiet HY _,m7 PySem.entry_listiter_next ?_⟩;rw [Around.under_plainId HY];refine cw h (λfin s' hf=>?_) λ_ _ x=>x;refine ap hf λv af hv=>?_;subst af;exact hv
theorem IF{w:ay}(hw:(w,bW (kP it))∈L):jI g A L (.ref w):=by
 intro s Q E S k;refine ap (S.get hw) λo ho e=>?_;cases e;unfold vo;refine ab (eU ho ?_);exact ah (k _ _ trivial S)
theorem SW{w l:ay}{k:Nat}(hw:(w,bW (kP it))∈L)(hl:(l,aM xs)∈L)(U:aw it (pQ l k) (pQ l (k+1)) L L')(hx:xs[k]?=some a):
  GE g A L (call (.ref w) [] []) a L':=λs Q S kk=>by
 refine IE hw S ?_;refine du (S.get U.mem) λo ho hc hd=>?_;refine cp (eI S hl) λvs n h4 h5=>?_;refine ap (h5.get hx) λv h6 h7=>?_;have FG:vs[k]?=some v:=by simpa using h6
 show aJ _ _ (field (.ref it) 0>>=_) _ _ s
 refine ab (m9 ho hd (x:=.ref l) rfl ?_);show aJ _ _ (if (cV l==cQ)=true then _ else _) _ _ s
 rw [Qcs (show ¬((cV l==cQ)=true) from gS)];show aJ _ _ (field (.ref it) 1>>=_) _ _ s
 refine ab (m9 ho hd (x:=.int k 0) rfl ?_);show aJ _ _ (QbR (.ref l)>>=_) _ _ s
 refine ab (NL h4 rfl ?_);simp only [bY,FG];refine ab (NK ho hd (by simp) (ah ⟨v,rfl,kk v _ h7 ?_⟩));exact S.gG U (cz ..) (cF _ ho (kH (gT hd _))) ⟨(QaK ..).trans hc,by rw [gT hd];simp [gj]⟩
theorem SY{w it l:ay}{xs:List AV}{P:Obj→Prop}(hh:A.handled=none)(hw:(w,bW (kP it))∈L)(hl:(l,aM xs)∈L)(U:aw it (pQ l xs.length) (λ_=>True) L L'){s:aU}(S:St g L s){Q E:aq→aU→Prop}
  (kk : ∀ea s',St g ((ea,o9 (.type "StopIteration") none)::L') s'→E (.ref ea) s'):aJ (bD g.prog g.w) A (call (.ref w) [] []) Q E s:=by
 refine IE hw S ?_;refine du (S.get U.mem) λo ho hc hd=>?_;refine cp (eI S hl) λvs n h4 h5=>?_;have FG:vs[xs.length]?=none:=by rw [tM];have:=h5.length;rw [aG] at this;exact Ka this
 show aJ _ _ (field (.ref it) 0>>=_) _ _ s
 refine ab (m9 ho hd (x:=.ref l) rfl ?_);show aJ _ _ (if (cV l==cQ)=true then _ else _) _ _ s
 rw [Qcs (show ¬((cV l==cQ)=true) from gS)];show aJ _ _ (field (.ref it) 1>>=_) _ _ s
 refine ab (m9 ho hd (x:=.int xs.length 0) rfl ?_);show aJ _ _ (QbR (.ref l)>>=_) _ _ s
 refine ab (NL h4 rfl ?_);simp only [bY,FG];refine ab (vx (ab (NK ho hd (by simp) ?_)));have aN:=S.gG (P':=λ_=>True) U (cz ..) (cF _ ho (kH (gT hd (λvs=>vs.set! 0 .none)))) trivial;show aJ _ _ (newExc (.type "StopIteration") []>>=_) _ _ _
 refine ab ?_;simp only [newExc,NP];refine ab (eX ?_ (by size_fits));have aS:=aN.push (P:=λ_=>True) (o:={ cls:=.type "tuple",data:=.seq #[] }) trivial;refine ab (m:=Qcm _ _) (fD (a:=cQ) (by first | rfl | (simp only [Qcm];rfl)) ?_);refine eX ?_ (by size_fits);unfold raiseNew;refine ab (wpAny_handled ?_);rw [show A.in1.handled=none from hh];refine ab (ah (wpAny_throw ?_));refine kk _ _ ?_;refine St.cX (aS.push (P:=o9 (.type "StopIteration") none) ⟨rfl,_,rfl,?_⟩) (aj.pick aR.head iI (aj.skip aj.refl));exact Array.getElem?_append_left (show 1<6 by decide)
end
section
variable {g:Gd}{A:bg}{L L' bX L₁ L₂ bH:ae}{env:Env}
def l5(g:Gd)(S:Int→Bool)(n:Nat)(o:Obj):Prop:=n<scanBound∧o.SetObjOf (hJ g.prog g.w) S n
theorem Ea{s:aU}(S:St g L s){a:ay}{X:Int→Bool}{n:Nat}(h:(a,l5 g X n)∈L):s.heap.SetOf (hJ g.prog g.w) a X n:=by
 refine du (S.get h) λo h1 h2 h3=>?_;exact h3.setOf h1 h2
theorem HZ{v:aq}(h:AV.Is v (.int k)):v.scannable=true:=by obtain ⟨t,rfl⟩:=h;rfl
theorem SZ:NC g A L (.type "set") [] [] [] (l5 g (λ_=>false) 0):=by
 intro vs be bk eF s Q S k;cases bk;cases eF;refine PySem.call_set_0 λled=>k _ _ (S.push ⟨by decide,setObjOf_fresh led⟩)
theorem S0:GX g A L (call (.type "set") []) λv M=>∃a,v = .ref a∧M=(a,l5 g (λ_=>false) 0)::L:=GX.se (SZ [] [] .nil .nil)
theorem Hr{a:ay}{X:Int→Bool}{n:Nat}{k:Int}(h:(a,l5 g X n)∈L):l9 g A L .In (.int k) (.ref a) (X k):=by
 intro v w hv hw s Q E S kk;cases AV.cW hw;exact wpAny_inSet_of (knd:=hJ g.prog g.w) (k:=k) (sJ hv) (HZ hv) (Ea S h) (kk _ _ rfl (S.toks _))
theorem Qv{a:ay}{X:Int→Bool}{n:Nat}{k:Int}(U:aw a (l5 g X n) (l5 g (λj=>X j || decide (j=k)) (if X k then n else n+1)) L L')(hz:n+1<scanBound){v:aq}(hv:AV.Is v (.int k)):
  GX g A L (call (.builtin "set.add") [.ref a,v]) λr M=>r = .none∧M=L':=λs Q S kk=>by
 refine call_set_add (knd:=hJ g.prog g.w) (k:=k) (sJ hv) (HZ hv) (Ea S U.mem) hz λh' hs ZP=>?_;refine ap ZP.objOf λo ho hP=>?_;refine kk _ _ _ ⟨rfl,rfl⟩ (St.toks (s:={ s with heap:=h' }) (S.gG U hs ho ⟨?_,hP⟩) _);split<;>(first | exact bK (.i (.t (.a .A .O) .B) (.t .A .B)) rfl hz | exact bK (.i (.t (.a .A .O) .B) (.t (.a .A .O) .B)) rfl hz)
variable {X:Int→Bool}
theorem Ry(h:(d,l5 g X n)∈L):yq g L d "set":=λs S=>by
 have h1:=Ea S h;exact ⟨h1.typeIs,h1.noDict _ rfl⟩
variable {xs:List (Int×AV)}
theorem Qw(M:oB g)(h:(d,eZ g xs)∈L):l9 g A L .In (.int k) (.ref d) (gC xs k).isSome:=by
 intro v w hv hw s Q E S kk;cases AV.cW hw;refine ap (sM S h) λbe h1 h2=>?_;refine wpAny_in_of (knd:=hJ g.prog g.w) (k:=k) (sJ hv) (vU M S h) h1.mapOf ?_;have h3:=h2.at k;have e:(Qan be k).isSome=(gC xs k).isSome:=by
  cases e:gC xs k with
  | some a=>obtain ⟨u,h4,h5⟩:=h3.1 a e;rw [h4];rfl
  | none=>rw [h3.2 e];rfl
 rw [e];exact kk _ _ rfl (S.toks _)
noncomputable def yy(xs:List (Int×AV))(k:Int):List (Int×AV):=xs.filter λp=>decide (p.1≠k)
theorem iG.del(h:iG be xs)(k:Int):iG (without be k) (yy xs k):=by
 induction be generalizing xs with
 | nil =>
  rcases h.cases with ⟨_,rfl⟩ | ⟨k',v,a,r,r',e,rfl,hv,hr⟩
  ·exact ⟨rfl,.nil⟩
  ·cases e
 | cons p be ih =>
  rcases h.cases with ⟨e,rfl⟩ | ⟨k',v,a,r,r',e,rfl,hv,hr⟩
  ·cases e
  ·cases e;have h1:=ih hr;unfold without yy at h1 ⊢;rw [eD,eD];by_cases hk:k'=k
   ·subst hk;simpa using h1
   ·simp only [ne_eq,hk,not_false_eq_true,decide_true,if_true];exact ⟨by rw [aB,aB,h1.1],by rw [aB,aB];exact .cons hv h1.2⟩
theorem S3{d:ay}{xs:List (Int×AV)}{k:Int}{kv:aq}(U:aw d (eZ g xs) (eZ g (yy xs k)) L L')(hz:xs.length≤100000)(hk:AV.Is kv (.int k))(hx:(gC xs k).isSome=true):GU g A L (delItem (.ref d) kv) L':=λs Q S kk=>by
 refine ap (sM S U.mem) λbe h1 h2=>?_;have h3:(Qan be k).isSome=true:=by
  refine cT (Option.isSome_iff_exists.mp hx) λa ha=>?_;refine ap ((h2.at k).1 a ha) λu h4 h5=>?_;rw [h4];rfl
 unfold delItem;refine aK ?_;refine ab (Qbz h1.typeIs (by decide) ?_);refine ab (Qaf (name:=Str.ofString "__delitem__") h1.typeIs zL
  (Qav zL h1.typeIs PySem.F.entry_dict_delitem (PySem.F.args_dict_delitem_2 _ _) (meets_dict_delitem_pairs (hJ g.prog g.w) d (k:=k) (sJ hk)) ⟨be,h1,(by rw [h2.length,sizeLine_eq];exact z5 hz),h3,λh' hm hs=>?_⟩))
 refine ap (D8 hm (h2.del k)) λo ho hP=>?_;exact ah (kk _ (St.toks (s:={ s with heap:=h' }) (S.gG U hs ho hP) _))
variable {l:ay}{xs:List AV}
theorem JF(U:aw l (aM (xs++[a])) (aM xs) L L')(hz:xs.length≤100000):GE g A L (call (.builtin "list.pop") [.ref l]) a L':=λs Q S kk=>by
 refine cp (eI S U.mem) λws n h1 h2=>?_;have hlen:=h2.length;rw [aG,aD,nV] at hlen;refine ap (h2.get (k:=xs.length) (a:=a) (by simp)) λv h3 h4=>?_;have nI:ws[ws.size-1]?=some v:=by rw [hlen,w9];simpa using h3
 refine lX kj ⟨_,h1,rfl⟩ CM (PySem.F.args_list_pop_1 _) (PySem.MeetsSeq.list_pop_last l ws n v nI (by rw [hlen,sizeLine_eq];exact Km hz)) ⟨h1,?_⟩;refine kk _ _ h4 (ud S U h1 ?_);have e:(ws.eraseIdxIfInBounds (ws.size-1)).toList=ws.toList.take xs.length:=by
  have aY:ws.size-1<ws.size:=bK (.i (.e .A (.a .B .O)) (.t (.s .A .O) .A)) rfl hlen;rw [pB,dif_pos aY,tW,nS];rw [show ws.size-1+1=ws.toList.length from by simp;exact bV (.i (.t (.s .A .O) .A) (.e (.a (.s .A .O) .O) .A)) rfl aY,zG,fg,hlen,w9]
 rw [e]
 have:=h2.take xs.length
 rwa [List.take_left'  rfl] at this
theorem IG{k:Nat}{p pos:Pos}{i:Int}:PE g A L env (.UnaryOp .USub (.Constant (.int i) k p) pos) (.int (-i)):=λs Q E S kk=>by
 refine wpAny_UnaryOp (gP (g:=g) (A:=A) (L:=L) s _ _ S λv aW hv aN=>?_);refine cT hv λt af=>?_;subst af;exact PyProof.Rows.neg_int (kk _ _ ⟨_,rfl⟩ (aN.toks _))
theorem IH{o i:Expr}(ho:PE g A L env o (.ref l))(hi:PE g A L env i (.int (-1)))(hl:(l,aM (xs++[a]))∈L)
  (hs : ∀o' i',lV i false o' i'=ix [o',i'] (rq o' i')) (ht : ∀o' r,j8 o o' r=pure ()):PE g A L env (.Subscript o i pos) a:=λs Q E S kk=>by
 refine vA (ho s _ E S λv aW hv aN=>hi aW _ E aN λw bu hw aS=>?_);cases AV.cW hv;refine cp (eI aS hl) λvs n h1 h2=>?_;have hlen:=h2.length;rw [aG,aD,nV] at hlen;refine ap (h2.get (k:=xs.length) (a:=a) (by simp)) λv h3 h4=>?_;refine cT hw λt af=>?_;subst af;have e:((-1:Int)+(vs.size:Int)).toNat=xs.length:=bK (.i (.e .A (.a .B .O)) (.e (.t (.a (.g .O) (.k .A))) .B)) rfl hlen;refine oQ (gN h1).typeIs GF (wpAny_getItem_list_neg (gN h1) (kU (.T (.g .O) .Z) rfl) (bK (.i (.e .A (.a .B .O)) (.L (.g (.k .A)) (.g .O))) rfl hlen) (by decide) (x:=v) ?_ ?_) (hs _ _) (λ_=>ht _ _)
 ·rw [e];simpa using h3
 ·exact kk _ _ h4 aS
theorem Qx:Qa3 "iter"=none:=by decide +kernel
theorem Ps:plainId "iter"=true:=by decide +kernel
theorem Pt:w7 QaY "iter"=some ey.«iter»:=entryFor_of_fast (by kernel_rfl)
theorem Pu(a:aq):vz "iter" ⟨[a],[]⟩:=by unfold vz;kernel_rfl
theorem S4(hl:(l,aM xs)∈L):GX g A L (call (.builtin "iter") [.ref l]) λv M=>∃it,v = .ref it∧M=(it,bW (rG l))::L:=λs Q S kk=>by
 refine CH Qx Ps Pt (Pu _) ?_;refine cp (eI S hl) λws n h1 h2=>?_;show aJ _ _ (Qaq (.ref l)>>=λv=>ret v) _ _ _
 refine ab (QbA (gN h1) ?_);exact ah ⟨_,rfl,kk _ _ _ ⟨_,rfl,rfl⟩ (S.push rfl)⟩
end
section
variable {g:Gd}{A:bg}{L L' bX L₁ L₂ bH:ae}{env:Env}{rest:List fK}{Q:oP→aU→Prop}
theorem Hs{α:Type}(V:α→Prop)(I:α→ae)(μ:α→Nat)(c0:α)(h0:V c0){t:Expr}{b MQ:List fK}{pos:Pos}
  (turn : ∀x,V x→∃c,PT g A (I x) env t c∧(c=true→SX g A (I x) env b λf s'=>match f with
    | .next | .cont=>∃y,V y∧μ y<μ x∧St g (I y) s'
    | .brk=>aJ (bD g.prog g.w) A (mX rest env) Q cU s'
    | .ret v=>Q (.ret v) s')∧(c=false→SX g A (I x) env MQ λf s'=>match f with | .next=>aJ (bD g.prog g.w) A (mX rest env) Q cU s' | f=>Q f s')):SX g A (I c0) env (.While t b MQ pos::rest) Q :=
 i9 λs S=>by
  refine wpAny_While ?_;refine QbE (λn s=>∃x,V x∧μ x=n∧St g (I x) s) (λn s hI=>?_) (μ c0) ⟨c0,h0,rfl,S⟩;refine du hI λx hx af S=>?_;subst af;refine du (turn x hx) λc ht h1 h2=>?_;refine ht s _ _ S λc' s' hc S'=>?_;subst hc;cases c' with
  | true =>
   simp only [if_true];refine cw (h1 rfl s' S') (λf cC nw=>?_) λ_ _ q=>q.elim;cases f with
   | next=>obtain ⟨y,hv,hy,Sy⟩:=nw;exact ⟨_,hy,y,hv,rfl,Sy⟩
   | cont=>obtain ⟨y,hv,hy,Sy⟩:=nw;exact ⟨_,hy,y,hv,rfl,Sy⟩
   | brk=>exact nw
   | ret v=>exact nw
  | false =>
   simp only [bp,Qcv];refine cw (h2 rfl s' S') (λf cC nw=>?_) λ_ _ q=>q.elim;cases f with
   | next=>exact nw
   | cont=>exact nw
   | brk=>exact nw
   | ret v=>exact nw
theorem Pv{o i e:Expr}{p1 pos:Pos}{K:aq→ae→Prop}(he:GX g A L (eval e env) K)
  (h : ∀v M,K v M→∃c a L1,PE g A M env o (.ref c)∧PE g A M env i a∧(∀kv,AV.Is kv a→GU g A M (GD (.ref c) kv v) L1)∧SX g A L1 env rest Q)
  (hs:iw e (some (.Subscript o i p1)) pos.line env=pure false):SX g A L env (.Assign [.Subscript o i p1] e pos::rest) Q :=
 i9 λs S=>by
  refine Qam (he s _ S λv M aW hv aN=>?_) hs;refine lF (h v M hv) λc a L1 h1 h2 h3 h4=>?_;refine h1 aW _ _ aN λcv bu hc aS=>h2 bu _ _ aS λkv cC hk cJ=>?_;cases AV.cW hc;exact h3 kv hk cC _ cJ λgx eK=>h4 gx eK
theorem Pw{o i:Expr}{p1 pos:Pos}{c:ay}{K:aq→ae→Prop}(ho:PE g A L env o (.ref c))(hi:GX g A L (eval i env) K)
  (h : ∀v M,K v M→∃L1,GU g A M (delItem (.ref c) v) L1∧SX g A L1 env rest Q):SX g A L env (.Delete [.Subscript o i p1] pos::rest) Q :=
 i9 λs S=>by
  refine wpAny_Delete (wpAny_deleteEach_cons (wpAny_delete_Subscript (ho s _ _ S λcv aW hc aN=>hi aW _ aN λv M bu hv aS=>?_)));cases AV.cW hc;refine ap (h v M hv) λL1 h1 h2=>?_;exact h1 bu _ aS λcC cJ=>wpAny_deleteEach_nil (h2 cC cJ)
theorem Rz{w l:ay}(hh:A.handled=none)(hf:PE g A L env func (.ref w))(hw:(w,bW (kP it))∈L)(hl:(l,aM xs)∈L)(U:aw it (pQ l xs.length) (λ_=>True) L L')
   (S:St g L s)  (kk : ∀ea s',St g ((ea,o9 (.type "StopIteration") none)::L') s'→E (.ref ea) s')
  (hE:eval (.Call func [] [] p2) env=(do fJ p2 (← eval func env) [] (b6 p2 (aE [] env)) (bj p2 (aO [] env))))
  (hs:iw (.Call func [] [] p2) (some (.Name x p')) pos.line env=pure false):aJ (bD g.prog g.w) A (mX (.Assign [.Name x p'] (.Call func [] [] p2) pos::rest) env) Q E s:=by
 refine tZ (tO ?_ hs);rw [hE];refine ab (PV.v hf s _ _ S λaW aN=>?_);exact qE (L:=L) (IF hw) (Ob ⟨aN,λbu aS=>SY (P:=λ_=>True) hh hw hl U aS kk⟩)
theorem VD{w l:ay}{k:Nat}(hf:PE g A L env func (.ref w))(hw:(w,bW (kP it))∈L)(hl:(l,aM xs)∈L)(U:aw it (pQ l k) (pQ l (k+1)) L L')(hx:xs[k]?=some a)
  (hE:eval (.Call func [] [] p2) env=(do fJ p2 (← eval func env) [] (b6 p2 (aE [] env)) (bj p2 (aO [] env)))):GX g A L (eval (.Call func [] [] p2) env) λv M=>AV.Is v a∧M=L' :=
 An hf (IF hw) (GX.jL (SW hw hl U hx)) hE
end
section
variable {g:Gd}{A:bg}{L L' L₁ L₂ bH:ae}{env:Env}
structure SE where
 key:Int
 sc:ay
 ss:List Int
 it:ay
 w:ay
 p:Nat
noncomputable def xD(e:SE):ae:=[(e.w,bW (kP e.it)),(e.it,pQ e.sc e.p)]
noncomputable def sK(st:List SE):ae:=st.flatMap xD
structure DS where
 st:List SE
 D:List (Int×AV)
 sl:List Int
 cur:Int
noncomputable def oI(f:Nd→Nat):List Nd→List Int→Nat
 | [],_=>0
 | n::ns,sl=>(if n.key∈sl then 0 else f n)+oI f ns sl
theorem RA(f:Nd→Nat)(k:Int): ∀(ns:List Nd) (sl:List Int),oI f ns (k::sl)≤oI f ns sl:=by
 intro ns
 induction ns with
 | nil=>intro _;exact cB _
 | cons n ns ih =>
  intro sl
  have:=ih sl
  unfold oI;by_cases h:n.key∈sl
  ·rw [Qct h,Qct (NZ _ h)];exact bK (.i (.l .A .B) (.l (.a .Z .A) (.a .Z .B))) rfl this
  ·rw [Qcs h];split<;>(first | exact bB (.i (.l .A .B) (.l (.a .Z .A) (.a .C .B))) rfl this | exact EB this)
variable {n:Nd}{sl:List Int}
theorem H0(f:Nd→Nat): ∀{ns:List Nd},n∈ns→n.key∉sl→oI f ns (n.key::sl)+f n≤oI f ns sl:=λ{ns} h hn=>by
 induction ns with
 | nil=>cases h
 | cons m ns ih =>
  unfold oI;rcases List.mem_cons.mp h with rfl | h
  ·rw [Qct (mC ..),Qcs hn]
   have:=RA f n.key ns sl
   exact bB (.i (.l .A .B) (.l (.a (.a .Z .A) .C) (.a .C .B))) rfl this
  ·have:=ih h
   by_cases h1:m.key∈sl
   ·rw [Qct h1,Qct (NZ _ h1)];exact bB (.i (.l (.a .A .B) .C) (.l (.a (.a .Z .A) .B) (.a .Z .C))) rfl this
   ·rw [Qcs h1];split<;>(first | exact fy (.i (.l (.a .A .B) .C) (.l (.a (.a .Z .A) .B) (.a .D .C))) rfl this | exact fy (.i (.l (.a .A .B) .C) (.l (.a (.a .D .A) .B) (.a .D .C))) rfl this)
noncomputable def SE.rem(e:SE):Nat:=e.ss.length-e.p+1
noncomputable def mh(ns:List Nd)(x:DS):Nat:=oI (λn=>n.succ.length+2) ns x.sl+(x.st.map SE.rem).sum
structure DV(ns:List Nd)(r:Int→Int)(x:DS):Prop where
 ent : ∀e∈x.st,∃n∈ns,e.key=n.key∧e.sc=n.l∧e.ss=n.succ∧e.p≤e.ss.length
 path:x.st.Pairwise λa b=>r a.key<r b.key
 dk:x.D.map (·.1)=x.st.map (·.key)
 cnt:x.sl.length+oI (λ_=>1) ns x.sl≤ns.length
 cur : ∃n∈ns,n.key=x.cur
 yz:x.st.length≤x.sl.length
def BY(ns:List Nd)(r:Int→Int):Prop:=∀n∈ns,∀c∈n.succ,(∃m∈ns,m.key=c)∧r n.key<r c
noncomputable def kA(g:Gd)(F a b c d:ay)(m0:List (Str×AV))(x:DS)(B:ae):ae :=
 (F,am (("node",.int x.cur)::m0))::(a,ai (x.st.map (·.key)))::(b,aM (x.st.map λe=>.ref e.w))::(c,l5 g (λj=>decide (j∈x.sl)) x.sl.length)::(d,eZ g x.D)::(sK x.st++B)
theorem C0(st:List SE)(e:SE):sK (st++[e])=sK st++xD e:=by unfold sK;rw [jC,List.flatMap_singleton]
variable {r:Int→Int}{st:List SE}
theorem S9{ns:List Nd}{e:SE}{cur:Int}(h:DV ns r ⟨st++[e],D,sl,cur⟩): ∃D0 a,D=D0++[(e.key,a)]∧DV ns r ⟨st,D0,sl,cur⟩∧(∀q∈st,r q.key<r e.key)∧yy D e.key=D0∧(gC D e.key).isSome=true:=by
 have h1:=h.dk;simp only [aV,aB,jS] at h1;refine eQ (List.map_eq_append_iff.mp h1) λD0 D1 af h2 h3=>?_;subst af;refine eQ (List.map_eq_cons_iff.mp h3) λp D2 af h4 h5=>?_;subst af;cases List.map_eq_nil_iff.mp h5;obtain ⟨k,a⟩:=p;simp only at h4;subst h4;have hp:=List.pairwise_append.mp h.path;have aY : ∀q∈st,r q.key<r e.key:=λq hq=>hp.2.2 q hq e (.head _);have fw : ∀q∈D0,q.1≠e.key:=by
  intro q hq he
  have:q.1∈st.map (·.key):=by rw [← h2];exact List.mem_map.mpr ⟨q,hq,rfl⟩
  refine ap (List.mem_map.mp this) λq' zc h6=>?_
  have:=aY q' zc
  rw [h6,he] at this;exact Kn this
 refine ⟨D0,a,rfl,⟨λq hq=>h.ent q (ao _ hq),hp.1,h2,h.cnt,h.cur,by have:=h.yz;simp only [aD] at this;show st.length≤sl.length;exact EC this⟩,aY,?_,?_⟩
 ·unfold yy;rw [mE,List.filter_eq_self.mpr (λq hq=>by simpa using fw q hq)];simp
 ·unfold gC;rw [mH,xf];exact ⟨(e.key,a),ag _ (.head _),by simp⟩
noncomputable def II:List fK:=ju (fu 13 8)
noncomputable def Uh:fK:=bA II 5
noncomputable def H1:fK:=bA (ju Uh) 1
noncomputable def H3:fK:=bA (ju H1) 1
noncomputable abbrev qM(kV doc pm cq ct:aq)(f F:ay):Env:=jw (gy (fu 13 8) "_find_cycle" "TopologicalSorter._find_cycle" .none kV doc pm cq ct) f F
noncomputable abbrev j3(nd a b c d:ay):List (Str×AV):=[("node2stacki",.ref d),("seen",.ref c),("itstack",.ref b),("stack",.ref a),("n2i",.ref nd)]
theorem Ta{ns:List Nd}{r:Int→Int}(hU:BY ns r){st:List SE}{e:SE}{D:List (Int×AV)}{sl:List Int}{cur:Int}(h:DV ns r ⟨st++[e],D,sl,cur⟩)(aY : ∀q∈st,r q.key<r e.key)(hp:e.p<e.ss.length):
  DV ns r ⟨st++[{ e with p:=e.p+1 }],D,sl,e.ss[e.p]⟩∧mh ns ⟨st++[{ e with p:=e.p+1 }],D,sl,e.ss[e.p]⟩ < mh ns ⟨st++[e],D,sl,cur⟩∧∀q∈st++[{ e with p:=e.p+1 }],r q.key<r e.ss[e.p]:=by
 refine ET (h.ent e (ag _ (.head _))) λn hn y7 qi wK ML=>?_;have hc:e.ss[e.p]∈n.succ:=by rw [← wK];exact jO hp
 refine b8 (hU n hn _ hc) λhm hr=>?_;rw [← y7] at hr;have ZQ:=List.pairwise_append.mp h.path;refine ⟨⟨λq hq=>?_,List.pairwise_append.mpr ⟨ZQ.1,ez _ _,λq hq q' zc=>?_⟩,?_,h.cnt,hm,?_⟩,?_,λq hq=>?_⟩
 ·rcases List.mem_append.mp hq with hq | hq
  ·exact h.ent q (ao _ hq)
  ·cases List.mem_singleton.mp hq;exact ⟨n,hn,y7,qi,wK,hp⟩
 ·cases List.mem_singleton.mp zc;exact aY q hq
 ·have:=h.dk
  simp only [aV,aB,jS] at this ⊢;exact this
 ·have:=h.yz
  simp only [aD,nV] at this ⊢;exact this
 ·unfold mh;simp only [aV,aB,jS,oS,ef,QbH];unfold SE.rem;simp only;exact fy (.i (.t .A .B) (.t (.a .C (.a .D (.a (.a (.s .B (.a .A .O)) .O) .Z))) (.a .C (.a .D (.a (.a (.s .B .A) .O) .Z))))) rfl hp
 ·rcases List.mem_append.mp hq with hq | hq
  ·have:=aY q hq;exact Ko hr this
  ·cases List.mem_singleton.mp hq;exact hr
theorem Qy(T:fR g){kV doc pm cq ct:aq}{f F nd a b c d:ay}{ns:List Nd}{r:Int→Int}{B:ae}(hh:A.handled=none){fs:List Env}(hA:A.frames=some (qM kV doc pm cq ct f F::fs))
  (iq : ∀m Lx,(F,am m)∈Lx→cu B Lx→jg A Lx) (hU:BY ns r) (hz:ns.length≤1000) (hB : ∀n∈ns,(n.l,ai n.succ)∈B) {x:DS} (hx:DV ns r x) {rest:List fK} {Q:oP→aU→Prop}
  (h1 : ∀y,DV ns r y→mh ns y<mh ns x→(∀e∈y.st,r e.key<r y.cur)→y.sl=x.sl→SX g A (kA g F a b c d (j3 nd a b c d) y B) (qM kV doc pm cq ct f F) rest Q)
  (h2 : ∀y,DV ns r y→y.st=[]→y.sl=x.sl→∀s,St g (kA g F a b c d (j3 nd a b c d) y B) s→Q .brk s) :
  SX g A (kA g F a b c d (j3 nd a b c d) x B) (qM kV doc pm cq ct f F) (H3::rest) Q:=by
 refine Hs (λy=>DV ns r y∧mh ns y≤mh ns x∧y.sl=x.sl) (λy=>kA g F a b c d (j3 nd a b c d) y B) (λy=>y.st.length) x ⟨hx,cB _,rfl⟩ ?turn
 case turn =>
  rintro y ⟨hy,hle,va⟩;have hlen:y.st.length≤1000:=by have h3:=hy.yz;have h4:=hy.cnt;exact fy (.i (.l .A (.c 1000)) (.i (.l .B .C) (.i (.l (.a .C .D) .A) (.l .B (.c 1000))))) rfl hz h3 h4
  refine ⟨!((y.st.map (·.key)).map AV.int).isEmpty,Sx (he:=by kst_p) (l:=a) (by k_all) (mi 1 rfl) (by rw [ar,ar];exact bV (.i (.l .A (.c 1000)) (.t .A (.c 9223372036854775808))) rfl hlen),λhc=>?_,λhc=>?_⟩
  ·rcases NW y.st with h | ⟨st,e,h⟩
   ·rw [h] at hc;cases hc
   rw [List.concat_eq_append] at h;obtain ⟨lK,yD,kD,yA⟩:=y;simp only at h va hlen;subst h va;refine Bh (S9 hy) λD0 dv af ZR aY E5 iN=>?_;subst af;refine ET (hy.ent e (ag _ (.head _))) λn hn y7 qi wK hp=>?_;have hl:(e.sc,aM (e.ss.map .int))∈B:=by rw [qi,wK];exact hB n hn
   have hst:st.length≤1000:=by rw [aD] at hlen;exact bK (.i (.l (.a .A .B) (.c 1000)) (.l .A (.c 1000))) rfl hlen
   have hD:(D0++[(e.key,dv)]).length≤100000:=by
    have h5:=congrArg iQ hy.dk;simp only [ar,aD,cj,zQ] at h5 ⊢;exact bK (.i (.l .A (.c 1000)) (.i (.e (.a .B (.a .Z .O)) (.a .A (.a .Z .O))) (.l (.a .B (.a .Z .O)) (.c 100000)))) rfl hst h5
   have ZS : ∀(m:List (Str×AV)),kA g F a b c d m ⟨st++[e],D0++[(e.key,dv)],x.sl,yA⟩ B=(F,am (("node",.int yA)::m))::(a,aM ((st.map (·.key)).map AV.int++[.int e.key]))::(b,aM (st.map (λe=>.ref e.w)++[.ref e.w]))::(c,l5 g (λj=>decide (j∈x.sl)) x.sl.length)::(d,eZ g (D0++[(e.key,dv)]))::((sK st++xD e)++B):=by
    intro m;unfold kA;rw [C0];simp only [ai,aV,aB,jS]
   rw [ZS];refine O6 (h1:=by rfl) (h2:=by rfl) (h3:=by rfl) (h4:=by rfl) T hA rfl λs S=>?_;by_cases sj:e.p<e.ss.length
   ·refine ja (?_:aJ _ _ _ _ cU _);refine (ic (VD (hE:=by rfl) (a:=.int (e.ss[e.p])) (w:=e.w) (it:=e.it) (l:=e.sc) (k:=e.p) (xs:=e.ss.map .int) (IH (hs:=by kst_p) (ht:=by kst_p) (l:=b) (xs:=st.map (λe=>.ref e.w)) (a:=.ref e.w) (by k_all) IG (mi 2 rfl)) (md 5 (ao _ (ag _ (aC _)))) (md 5 (ag _ hl)) (aw.tail (aw.tail (aw.tail (aw.tail (aw.tail (aw.oA (aw.cE (aw.tail aw.head)))))))) (by rw [aA,au sj];rfl)) ?_) s S;intro v;refine fT λhv=>?_;refine ⟨.int (e.ss[e.p]),_,hv,b7 aw.head,?_⟩;refine I1 λs S=>?_;refine fU (Ta hU hy aY sj) λg1 g2 g3=>?_;refine h1 _ g1 (dX g2 hle) g3 rfl s (S.cX ?_);unfold kA;rw [C0];simp only [ai,aV,aB,jS];refine aj.pick aR.head (iE.ns (by k_upd)) ?_;exact aj.refl
   ·have FH:e.p=(e.ss.map AV.int).length:=by rw [ar];exact BI hp sj
    have ZT:xD e=[(e.w,bW (kP e.it)),(e.it,pQ e.sc (e.ss.map AV.int).length)]:=by unfold xD;rw [← FH]
    rw [ZT] at S;refine Rz (hE:=by rfl) (hs:=by rfl) (w:=e.w) (it:=e.it) (l:=e.sc) (xs:=e.ss.map .int) hh (IH (hs:=by kst_p) (ht:=by kst_p) (l:=b) (xs:=st.map (λe=>.ref e.w)) (a:=.ref e.w) (by k_all) IG (mi 2 rfl)) (md 5 (ao _ (ag _ (aC _)))) (md 5 (ag _ hl)) (aw.tail (aw.tail (aw.tail (aw.tail (aw.tail (aw.oA (aw.cE (aw.tail aw.head)))))))) S λea s' S'=>?_;refine ⟨ea,_,rfl,S',iq _ _ (aC _) (λq hq=>aQ _ (md 4 (ag _ hq))),?_⟩;refine Pw (c:=d) (by k_all) (GX.jL (Hh (hbase:=by rfl) (hfew:=by rfl) (hline:=by rfl) (l:=a) (by k_all) (mi 1 rfl) kj sE (JF (a:=.int e.key) (aw.tail aw.head) (by rw [ar,ar];exact jZ hst)))) ?_;intro v;refine fT λhv=>?_;refine ⟨_,S3 (xs:=D0++[(e.key,dv)]) (k:=e.key) (aw.tail (aw.tail (aw.tail (aw.tail aw.head)))) hD hv iN,?_⟩;refine qI (Hh (hbase:=by rfl) (hfew:=by rfl) (hline:=by rfl) (l:=b) (by k_all) (mi 2 rfl) kj sE (JF (a:=.ref e.w) (aw.tail (aw.tail aw.head)) (by rw [ar];exact jZ hst))) ?_;refine eJ λbu aS=>qq ⟨⟨st,D0,x.sl,yA⟩,⟨ZR,?_,rfl⟩,?_,aS.cX ?_⟩
    ·refine f9 ?_ hle;unfold mh;simp only [aV,oS];exact bB (.l (.a .A .B) (.a .A (.a .B .C))) rfl
    ·simp only [aD,nV];exact yH
    ·rw [E5];unfold kA;refine aj.pick aR.head iI (aj.pick aR.head iI (aj.pick aR.head iI (aj.pick aR.head iI (aj.pick aR.head iI ?_))));rw [aH];exact aj.mO (aj.skip (aj.skip aj.refl))
  ·have hs:y.st=[]:=by
    cases XN:y.st with
    | nil=>rfl
    | cons q l=>rw [XN] at hc;cases hc
   exact I1 λs S=>h2 y hy hs va s S
theorem Tb{k:Nat}{p:Pos}:PT g A L env (.Constant (.bool true) k p) true:=vL (he:=by kst_p) uj
theorem RB{e:Expr}{name:Str}{pos:Pos}{K K':aq→ae→Prop}(he:GX g A L (eval e env) K)(h : ∀v M,K v M→GX g A M (lR v name true) K')(hb:dW e name env (eval e env)=eval e env):GX g A L (eval (.Attribute e name pos) env) K':=λs Q S k=>by
 rw [Qbt,hb];refine ab (he s _ S λv M aW hv aN=>ab (bT (ab (aK (h v M hv aW _ aN λr N bu hr aS=>?_)))));exact ab (QaV (ah (k r N bu hr aS)))
theorem RC{o i:Expr}{pos:Pos}{d:ay}{xs:List (Int×AV)}{ep:Nat}{k:Int}{a:AV}(ho:PE g A L env o (.ref d))(hi:PE g A L env i (.int k))(hd:(d,kN g xs ep)∈L)(hx:gC xs k=some a)
  (hs : ∀o' i',lV i false o' i'=ix [o',i'] (rq o' i')) (ht : ∀o' r,j8 o o' r=pure ()):PE g A L env (.Subscript o i pos) a:=λs Q E S kk=>by
 refine vA (ho s _ E S λv aW hv aN=>hi aW _ E aN λw bu hw aS=>?_);cases AV.cW hv;refine ap (aS.get hd) λo' rb VE=>?_;refine cp VE λbe es h1 h2=>?_;have hD:bu.heap.DictOf (hJ g.prog g.w) d be:=⟨o',es,ep,rb,h1⟩;refine ap ((h2.at k).1 a hx) λu h3 h4=>?_;exact oQ hD.typeIs PySem.F.slot_dict_getitem.lookup (QbL (knd:=hJ g.prog g.w) (k:=k) (sJ hw) hD.mapOf h3 (kk _ _ h4 (aS.toks _))) (hs _ _) (λ_=>ht _ _)
theorem IJ{ns:List Nd}(h:DV ns r ⟨st,D,sl,n.key⟩)(hn:n∈ns)(ht : ∀q∈st,r q.key<r n.key)(hs:n.key∉sl)(it w:ay)(a:AV):
  DV ns r ⟨st++[⟨n.key,n.l,n.succ,it,w,0⟩],D++[(n.key,a)],n.key::sl,n.key⟩∧mh ns ⟨st++[⟨n.key,n.l,n.succ,it,w,0⟩],D++[(n.key,a)],n.key::sl,n.key⟩ < mh ns ⟨st,D,sl,n.key⟩∧sl.length+1≤ns.length:=by
 have h1:=H0 (λ_=>1) hn hs;have h2:=H0 (λn=>n.succ.length+2) hn hs;have h3:=h.cnt;simp only at h3;refine ⟨⟨λq hq=>?_,List.pairwise_append.mpr ⟨h.path,ez _ _,λq hq q' zc=>?_⟩,?_,?_,⟨n,hn,rfl⟩,?_⟩,?_,fy (.i (.l (.a .A .O) .B) (.i (.l (.a .C .B) .D) (.l (.a .C .O) .D))) rfl h1 h3⟩
 ·rcases List.mem_append.mp hq with hq | hq
  ·exact h.ent q hq
  ·cases List.mem_singleton.mp hq;exact ⟨n,hn,rfl,rfl,rfl,cM _⟩
 ·cases List.mem_singleton.mp zc;exact ht q hq
 ·have:=h.dk
  simp only [aV,aB,jS] at this ⊢;rw [this]
 ·simp only [cj];exact fy (.i (.l (.a .A .O) .B) (.i (.l (.a .C .B) .D) (.l (.a (.a .C .O) .A) .D))) rfl h1 h3
 ·have:=h.yz
  simp only [aD,cj,zQ] at this ⊢;exact bK (.i (.l .A .B) (.l (.a .A (.a .Z .O)) (.a .B .O))) rfl this
 ·unfold mh;simp only [aV,aB,jS,oS,ef,QbH];unfold SE.rem;simp only;exact fy (.i (.l (.a .A (.a .B (.c 2))) .C) (.t (.a .A (.a .D (.a (.a (.s .B .Z) .O) .Z))) (.a .C .D))) rfl h2
theorem Ui{D:List (Int×AV)}{k:Int}(h : ∀q∈D,q.1≠k):gC D k=none:=by
 unfold gC;rw [List.find?_eq_none.mpr λq hq=>by simpa using h q hq];rfl
theorem Tc(h : ∀q∈D,q.1≠k):rP D k a=D++[(k,a)]:=by
 unfold rP;rw [Qcs];rw [sC];intro bz;refine ap bz λq hq h1=>?_;exact h q hq (by simpa using h1)
theorem Td{ns:List Nd}{r:Int→Int}{x:DS}(h:DV ns r x)(ht : ∀e∈x.st,r e.key<r x.cur): ∀q∈x.D,q.1≠x.cur:=by
 intro q hq he;have h1:q.1∈x.st.map (·.key):=by rw [← h.dk];exact List.mem_map.mpr ⟨q,hq,rfl⟩
 refine ap (List.mem_map.mp h1) λe h2 h3=>?_
 have:=ht e h2
 rw [h3,he] at this;exact Kn this
theorem RD{p0 q0 p q:fN}(hp:p0.1=p.1)(ZU : ∀o,p0.2 o→p.2 o)(hq:q0.1=q.1)(ZV : ∀o,q0.2 o→q.2 o){B:ae}: ∀X:ae,aj (X++(p::q::B)) (p0::q0::(X++B)):=by
 intro X
 induction X with
 | nil =>
  obtain ⟨a,P⟩:=p;obtain ⟨a',P'⟩:=p0;obtain ⟨b,R⟩:=q;obtain ⟨b',R'⟩:=q0;cases hp;cases hq;exact aj.pick aR.head ZU (aj.pick aR.head ZV aj.refl)
 | cons x X ih=>exact aj.pick (aR.tail (aR.tail aR.head)) iI (ih)
theorem Qz(T:fR g)(D:rR T){kV doc pm cq ct:aq}{f F nd a b c d:ay}{ep:Nat}{ns:List Nd}{r:Int→Int}{B:ae}(hh:A.handled=none){fs:List Env}(hA:A.frames=some (qM kV doc pm cq ct f F::fs))
  (iq : ∀m Lx,(F,am m)∈Lx→cu B Lx→jg A Lx) (hU:BY ns r) (hk:dc ns) (hz:ns.length≤1000) (hB : ∀q∈gc D.NI ns,q∈B) (hN:(nd,kN g (dO ns) ep)∈B) {x:DS} (hx:DV ns r x) (FI : ∀e∈x.st,r e.key<r x.cur) {rest:List fK} {Q:oP→aU→Prop}
  (h : ∀y,DV ns r y→y.st=[]→SX g A (kA g F a b c d (j3 nd a b c d) y B) (qM kV doc pm cq ct f F) rest Q) :
  SX g A (kA g F a b c d (j3 nd a b c d) x B) (qM kV doc pm cq ct f F) (H1::rest) Q:=by
 refine Hs (λy=>DV ns r y∧∀e∈y.st,r e.key<r y.cur) (λy=>kA g F a b c d (j3 nd a b c d) y B) (mh ns) x ⟨hx,FI⟩ ?turn
 case turn =>
  rintro y ⟨hy,ht⟩;refine ⟨true,Tb,λ_=>?_,λhc=>by cases hc⟩;have En:=Td hy ht;have ZW : ∀n∈ns,(n.l,ai n.succ)∈B:=λn hn=>hB _ (lA hn).2.2;have hin : ∀z,DV ns r z→mh ns z≤mh ns y→SX g A (kA g F a b c d (j3 nd a b c d) z B) (qM kV doc pm cq ct f F) (H3::[]) (λfl s'=>match fl with
    | .next | .cont=>∃y',(DV ns r y'∧∀e∈y'.st,r e.key<r y'.cur)∧mh ns y' < mh ns y∧St g (kA g F a b c d (j3 nd a b c d) y' B) s'
    | .brk=>aJ (bD g.prog g.w) A (mX rest (qM kV doc pm cq ct f F)) Q cU s'
    | .ret v=>Q (.ret v) s'):=λz ZX ZY =>
   Qy T hh hA iq hU hz ZW ZX (λy' g1 g2 g3 _=>eJ λs S=>⟨y',⟨g1,g3⟩,dX g2 ZY,S⟩) (λy' g1 g2 _ s S=>h y' g1 g2 s S)
  have mS:(c,l5 g (λj=>decide (j∈y.sl)) y.sl.length)∈kA g F a b c d (j3 nd a b c d) y B:=aQ _ (mi 2 rfl);have mD:(d,eZ g y.D)∈kA g F a b c d (j3 nd a b c d) y B:=aQ _ (mi 3 rfl);have mB : ∀q∈B,q∈kA g F a b c d (j3 nd a b c d) y B:=λq hq=>aQ _ (md 4 (ag _ hq));refine mL (c:=decide (y.cur∈y.sl)) (eP (a:=.int y.cur) (b:=.ref c) (bU (aC _) rfl) (bU (aC _) rfl) (Hr mS)) (λhc=>?seen) (λhc=>?new)
  case seen =>
   refine mL (c:=(gC y.D y.cur).isSome) (eP (a:=.int y.cur) (b:=.ref d) (bU (aC _) rfl) (bU (aC _) rfl) (Qw D.M mD)) (λhc=>?_) (λhc=>?_)
   ·rw [Ui En] at hc;cases hc
   ·exact hin y hy (cB _)
  case new =>
   have gW:y.cur∉y.sl:=by simpa using hc
   obtain ⟨lK,yD,kD,yA⟩:=y;simp only at gW En ht hc;refine ap hy.cur λn hn za=>?_;simp only at za;subst za;have hlen:=hy.cnt;have ze:=hy.yz;simp only at hlen ze;have ZZ:yD.length=lK.length:=by have h5:=congrArg iQ hy.dk;simpa using h5
   refine fU (lA (NI:=D.NI) hn) λm1 m2 m3=>?_;have gB:kD.length+1≤ns.length:=(IJ hy hn ht gW 0 0 .none).2.2;unfold kA;simp only;refine pJ (vI (hbase:=by rfl) (hfew:=by rfl) (hline:=by rfl) (he:=by rfl) (d:=c) (bU (aC _) rfl) (Ry (mi 3 rfl)) PySem.F.plainAttrs_set PySem.F.slot_set_add PySem.F.type_set_add (jH (b9 (a:=.int n.key) (bU (aC _) rfl) dh)) (K':=λv M=>v = .none∧M=(F,am (("node",.int n.key)::j3 nd a b c d))::(a,ai (lK.map (·.key)))::(b,aM (lK.map λe=>.ref e.w))::(c,l5 g (λj=>decide (j∈n.key::kD)) (n.key::kD).length)::(d,eZ g yD)::(sK lK++B)) ?a1) ?a2
   case a1 =>
    intro vs;refine fT λbk=>?_;refine ap bk.one λv af hv=>?_;subst af;have hX:(λj=>decide (j∈n.key::kD))=λj=>decide (j∈kD) || decide (j=n.key):=by
     funext j;by_cases h1:j=n.key<;>by_cases h2:j∈kD<;>simp [h1,h2]
    refine Qv (X:=λj=>decide (j∈kD)) (n:=kD.length) (k:=n.key) ?_ (by show _<4096;exact bK (.i (.l .A (.c 1000)) (.i (.l (.a .B .O) .A) (.t (.a .B .O) (.c 4096)))) rfl hz gB) hv;rw [hX];have e1:(if (decide (n.key∈kD))=true then kD.length else kD.length+1)=(n.key::kD).length:=by rw [Qcs (by simpa using gW)];rfl
    rw [← e1];exact aw.tail (aw.tail (aw.tail aw.head))
   case a2 =>
    intro _;refine fT λ_=>?_;generalize BZ:(F,am (("node",.int n.key)::j3 nd a b c d))::(a,ai (lK.map (·.key)))::(b,aM (lK.map λe=>.ref e.w))::(c,l5 g (λj=>decide (j∈n.key::kD)) (n.key::kD).length)::(d,eZ g yD)::(sK lK++B)=L1;have i0:(F,am (("node",.int n.key)::j3 nd a b c d))∈L1:=by subst BZ;exact aC _
    have i2:(b,aM (lK.map λe=>.ref e.w))∈L1:=by subst BZ;exact aQ _ (mi 1 rfl)
    have iB : ∀q∈B,q∈L1:=λq hq=>by subst BZ;exact aQ _ (md 4 (ag _ hq))
    refine pJ (vI (hbase:=by rfl) (hfew:=by rfl) (hline:=by rfl) (he:=by rfl) (d:=b) (KA:=λvs M=>∃it w,vs=[.ref w]∧M=(w,bW (kP it))::(it,bW (rG n.l))::L1) (K':=λv M=>∃it w,M=(w,bW (kP it))::(it,bW (rG n.l))::(F,am (("node",.int n.key)::j3 nd a b c d))::(a,ai (lK.map (·.key)))::(b,aM ((lK.map λe=>.ref e.w)++[.ref w]))::(c,l5 g (λj=>decide (j∈n.key::kD)) (n.key::kD).length)::(d,eZ g yD)::(sK lK++B)) (bU i0 rfl) (Ah i2) g8 gv Gy (pK (K:=λv M=>∃it w,v = .ref w∧M=(w,bW (kP it))::(it,bW (rG n.l))::L1) ?b1 ?b2) ?b3) ?b4
    case b1 =>
     refine RB (hb:=by rfl) (K:=λv M=>∃it,v = .ref it∧M=(it,bW (rG n.l))::L1) (lr (gQ T (by k_mem)) (jH (b9 (a:=.ref n.l) (ie (o:=.ref n.i) (RC (hs:=by kst_p) (ht:=by kst_p) (d:=nd) (bU i0 rfl) (bU i0 rfl) (iB _ hN) (AK hk hn)) ?c1) dh)) ?c2) ?c3
     case c1 =>
      rintro v rfl;exact rz D.TK D.ni.base D.sS (m:=[]) (iB _ (hB _ m1)) (iB _ (hB _ m2)) rfl mI
     case c2 =>
      intro vs;refine fT λbk=>?_;refine ap bk.one λv af hv=>?_;subst af;cases AV.cW hv;exact ⟨gp (λ_ x=>by cases x),S4 (iB _ (hB _ m3))⟩
     case c3 =>
      refine fh λit=>?_;exact (OT (aC _)).mono λv N ⟨w,h1,h2⟩=>⟨it,w,h1,h2⟩
    case b2 =>
     refine CW λit w=>?_;exact pP.mono λvs N ⟨h1,h2⟩=>⟨it,w,by rw [h1],h2⟩
    case b3 =>
     refine CW λit w=>?_;subst BZ;refine GX.mono (GX.jL (vH (xs:=lK.map λe=>.ref e.w) (a:=.ref w) (aw.tail (aw.tail (aw.tail (aw.tail aw.head)))) (by rw [ar];exact Kp hz ze gB) [.ref w] (.cons rfl .nil))) ?_;rintro v N ⟨_,h2⟩;exact ⟨it,w,h2⟩
    case b4 =>
     intro _;refine PY λit w=>?_;refine Pv (hs:=by rfl) (GX.jL (mJ (gQ T (by k_mem)) (b9 (a:=.ref a) (bU (mi 2 rfl) rfl) dh) jU (gp λ_ x=>by cases x) (AE (l:=a) (xs:=(lK.map (·.key)).map AV.int) (mi 3 rfl) (by rw [ar,ar];exact bB (.i (.l .A (.c 1000)) (.i (.l .B .C) (.i (.l (.a .C .O) .A) (.t .B (.c 9223372036854775808))))) rfl hz ze gB)))) ?d1
     case d1 =>
      intro v;refine fT λhv=>?_;refine ⟨d,.int n.key,_,bU (mi 2 rfl) rfl,bU (mi 2 rfl) rfl,λkv kB=>I8 (xs:=yD) (k:=n.key) (aw.tail (aw.tail (aw.tail (aw.tail (aw.tail (aw.tail aw.head)))))) (fy (.i (.l .A (.c 1000)) (.i (.l .B .C) (.i (.e .D .B) (.i (.l (.a .C .O) .A) (.l .D (.c 100000)))))) rfl hz ze ZZ gB) kB hv,?_⟩;refine qI (sI (hbase:=by rfl) (hfew:=by rfl) (hline:=by rfl) (he:=by rfl) (l:=a) (bU (mi 2 rfl) rfl) (mi 3 rfl) gv Gy (b9 (a:=.int n.key) (bU (mi 2 rfl) rfl) dh) (vH (xs:=(lK.map (·.key)).map AV.int) (a:=.int n.key) (aw.tail (aw.tail (aw.tail aw.head))) (by rw [ar,ar];exact Kp hz ze gB))) ?_;refine fU (IJ hy hn ht gW it w (.int ((lK.map (·.key)).map AV.int).length)) λg1 g2 g3=>?_;refine dS (hin _ g1 (Nat.le_of_lt g2)) ?_;unfold kA;rw [C0,Tc En];simp only [ai,aV,aB,jS];refine aj.pick (aR.tail (aR.tail aR.head)) iI (aj.pick (aR.tail (aR.tail aR.head)) iI (aj.pick (aR.tail (aR.tail aR.head)) iI (aj.pick (aR.tail (aR.tail aR.head)) iI (aj.pick (aR.tail (aR.tail aR.head)) iI ?_))));rw [aH];exact RD (p0:=(w,bW (kP it))) (q0:=(it,bW (rG n.l))) (p:=(w,bW (kP it))) (q:=(it,pQ n.l 0)) rfl iI rfl (λo h=>by cases (show o=_ from h);exact ⟨rfl,rfl⟩) _
def zg(vg:VG):Prop:=vg.length≤1000∧∃r:Int→Int,∀p∈vg,∀c∈p.2.2,(∃q∈vg,q.1=c)∧r p.1<r c
theorem zg.Z0{ns:List Nd}(h:zg (bJ ns)):ns.length≤1000∧∃r,BY ns r:=by
 refine b8 h λh1 VF=>?_;refine cT VF λr h2=>?_;unfold bJ at h1 h2;rw [ar] at h1;refine ⟨h1,r,λn hn c hc=>?_⟩;refine b8 (h2 _ (List.mem_map.mpr ⟨n,hn,rfl⟩) c hc) λbz h4=>?_;refine ap bz λq hq h3=>?_;refine ap (List.mem_map.mp hq) λm hm af=>?_;subst af;exact ⟨⟨m,hm,h3⟩,h4⟩
theorem Uj(T:fR g)(D:rR T){n:Nat}:HX T D (n+1) zg:=by
 intro A L x dx nd rl ns rd p f hA iq hk hP v1 h1;refine b8 hP.Z0 λhz VH=>?_;refine cT VH λr hU=>?_;refine nu D.yY.fn λo dV kV doc pm cq ct ho fX hd eb af=>?_;subst af;refine rF (binds:=[("self",v1)]) (m:=[("self",.ref x)]) (.top ho fX) hd rfl (.top eb) hA.room ?_ (.cons h1 .nil) rfl rfl ?_
 ·intro s S;exact dY rfl
 intro F;let E:=qM kV doc pm cq ct D.wr F;let j1:=A.deeper E;change SX g j1 _ E _ _
 refine lp λQ0 oF=>?_;have fB:bZ n j1:=hA.deeper;have hh:=fB.handled;refine ap (id iq) λfs hfs XO=>?_;show SX g j1 ([(F,am [("self",.ref x)])]++bQ g D.TS D.NI x dx nd ns rl rd p f L) E II _
 refine iz (a:=.ref nd) (ie (bU (aC _) rfl) (un D.toSrt qQ sV (by k_mem) rfl mI)) (b7 aw.head) ?_;refine ul (hs:=by rfl) (P:=ai []) (Dw (as:=[]) (dh) (cM _)) λa=>⟨_,b7 (aw.tail aw.head),?_⟩;refine ul (hs:=by rfl) (P:=aM []) (Dw (as:=[]) (dh) (cM _)) λb=>⟨_,b7 (aw.tail (aw.tail aw.head)),?_⟩;refine ic (An (gQ T (by k_mem)) (gp λ_ x=>by cases x) S0) ?_;refine fh λc=>?_;refine ⟨.ref c,_,rfl,b7 (aw.tail (aw.tail (aw.tail aw.head))),?_⟩;refine ul (hs:=by rfl) (P:=eZ g []) HT λd=>⟨_,b7 (aw.tail (aw.tail (aw.tail (aw.tail aw.head)))),?_⟩;have Bm : ∀(ia:fN) (B:ae),cu L B→∀m Lx,(F,am m)∈Lx→cu (ia::B) Lx→jg j1 Lx:=by
  intro ia B Z1 m Lx hm hi;refine ⟨qM kV doc pm cq ct D.wr F::fs,?_,λe he=>?_⟩
  ·show A.frames.map _=_
   rw [hfs];rfl
  ·rcases List.mem_cons.mp he with rfl | he
   ·exact ⟨rfl,F,m,rfl,hm⟩
   ·refine b8 (XO e he) λh3 VI=>?_;refine cp VI λF' m' h4 h5=>?_;exact ⟨h3,F',m',h4,hi _ (.tail _ (Z1 _ h5))⟩
 refine lu (Qs hh D.M (d:=nd) (xs:=dO ns) (LE:=λep=>(d,eZ g [])::(c,l5 g (λ_=>false) 0)::(b,aM [])::(a,ai [])::(F,am (j3 nd a b c d++[(("self",AV.ref x):Str×AV)]))::((x,dT D.TS dx [])::(dx,et (gO nd (.ref rl) p f))::(nd,kN g (dO ns) ep)::(gc D.NI ns++((rl,ai rd)::L)))) (bU (m:=j3 nd a b c d++[(("self",AV.ref x):Str×AV)]) (by k_mem) rfl) (λep=>aw.tail (aw.tail (aw.tail (aw.tail (aw.tail (aw.tail (aw.tail aw.head)))))))) ?_;refine xk λH ep hH=>?_;generalize hB:(x,dT D.TS dx [])::(dx,et (gO nd (.ref rl) p f))::(nd,kN g (dO ns) ep)::(gc D.NI ns++((rl,ai rd)::L))=B;have bL:cu L B:=by subst hB;exact λq hq=>.tail _ (md 2 (ag _ (.tail _ hq)))
 have bG : ∀q∈gc D.NI ns,q∈B:=by subst hB;exact λq hq=>.tail _ (md 2 (ao _ hq))
 have bN:(nd,kN g (dO ns) ep)∈B:=by subst hB;exact .tail _ (mi 1 rfl)
 refine ⟨List Int,λ_ sl=>(F,am (j3 nd a b c d))::(a,ai [])::(b,aM [])::(c,l5 g (λj=>decide (j∈sl)) sl.length)::(d,eZ g [])::B,λ_ sl=>sl.length+oI (λ_=>1) ns sl≤ns.length,[],?v0,?XQ,?Z2,?turn,?done⟩
 case v0 =>
  have : ∀l:List Nd,oI (λ_=>1) l []=l.length:=by
   intro l
   induction l with
   | nil=>rfl
   | cons m l ih=>unfold oI;rw [ih,Qcs (by simp),cj];exact bV (.e (.a .O .A) (.a .A .O)) rfl
  show ([]:List Int).length+oI (λ_=>1) ns []≤ns.length
  rw [this];exact Nat.le_of_eq (zC _)
 case XQ =>
  refine aj.pick (aR.tail (aR.tail (aR.tail (aR.tail aR.head)))) (iE.ns (by k_upd)) (aj.pick (aR.tail (aR.tail (aR.tail aR.head))) iI (aj.pick (aR.tail (aR.tail aR.head)) iI (aj.pick (aR.tail aR.head) (λo h=>?_) (aj.pick aR.head iI aj.refl))));simpa using h
 case Z2=>exact λk sl _=>hH _ (md 5 bN)
 case turn =>
  intro k sl av lL hV ia;obtain ⟨n,hn,rfl⟩ : ∃n∈ns,av = .int n.key:=by
   unfold dO at lL;rw [bt,aA] at lL;refine ap (Option.map_eq_some_iff.mp lL) λm hm af=>?_;subst af;exact ⟨m,bx hm,rfl⟩
  refine ⟨_,jF (b7 (aw.tail aw.head)),lp λQ1 jj=>?_⟩;refine mL (c:=decide (n.key∈sl)) (eP (a:=.int n.key) (b:=.ref c) (bU (mi 1 rfl) rfl) (bU (mi 1 rfl) rfl) (Hr (X:=λj=>decide (j∈sl)) (n:=sl.length) (mi 4 rfl))) (λhc=>?_) (λhc=>?_)
  ·exact SA λs S=>jj _ _ ⟨sl,hV,S.cX (aj.pick aR.head iI (aj.pick aR.head (iE.ns (by k_upd)) aj.refl))⟩
  ·refine dS (L:=kA g F a b c d (j3 nd a b c d) ⟨[],[],sl,n.key⟩ (ia::B)) (Qz T D (x:=⟨[],[],sl,n.key⟩) (ep:=ep) hh (fs:=fs) ?fr (Bm ia B bL) hU hk hz (λq hq=>.tail _ (bG q hq)) (.tail _ bN) ⟨(λe he=>absurd he nY),List.Pairwise.nil,rfl,hV,⟨n,hn,rfl⟩,cM _⟩ (λe he=>absurd he nY) ?fin) ?sub
   case fr =>
    show A.frames.map _=_
    rw [hfs];rfl
   case sub =>
    refine aj.perm ?_;show List.Perm ((F,_)::(a,_)::(b,_)::(c,_)::(d,_)::([]++ia::B)) _
    exact (bq (a:=ia) (l₁:=[(F,am (("node",.int n.key)::j3 nd a b c d)),(a,ai []),(b,aM []),(c,l5 g (λj=>decide (j∈sl)) sl.length),(d,eZ g [])]) (l₂:=B))
   case fin =>
    intro bz;obtain ⟨lK,yD,kD,yA⟩:=bz;intro hy hst;simp only at hst;subst hst;have Z3:yD=[]:=List.map_eq_nil_iff.mp hy.dk;subst Z3;refine eJ λs S=>jj _ _ ⟨kD,hy.cnt,S.cX ?_⟩;refine aj.pick (aR.tail (aR.tail (aR.tail (aR.tail (aR.tail aR.head))))) iI (aj.pick aR.head (iE.ns (by k_upd)) (aj.pick aR.head iI (aj.pick aR.head iI (aj.pick aR.head iI (aj.pick aR.head iI aj.refl)))))
 case done =>
  intro sl _;refine pM (a:=.none) oi λv s hv S=>oF _ _ ⟨_,⟨hv,rfl⟩,S.cX ?_⟩;subst hB;refine aj.skip (aj.skip (aj.skip (aj.skip (aj.skip ?_))));exact aj.pick aR.head iI (aj.pick aR.head iI (aj.pick aR.head Jd aj.refl))
end
section
variable {g:Gd}{A:bg}{L L' bX L₁ L₂ bH R:ae}{env:Env}
theorem St.yB(S:St g L s)(ho:s.heap.get? c=some o)(hP:P o)(hc:c∉L.map (·.1))(hb:g.dB.objs.size≤c∨c∈g.tabs):St g ((c,P)::L) s:=by
 refine ⟨?_,?_,?_,S.keep,S.last,S.gens,S.os,S.ow,S.oz⟩
 ·rw [aB,cG];exact ⟨hc,S.nodup⟩
 ·intro q hq;rcases List.mem_cons.mp hq with rfl | hq
  ·exact ⟨o,ho,hP⟩
  ·exact S.objs q hq
 ·intro q hq;rcases List.mem_cons.mp hq with rfl | hq
  ·exact hb
  ·exact S.bound q hq
theorem St.LI{s:aU}{a:ay}{P P':Obj→Prop}{h':Heap}{o':Obj}(S:St g ((a,P)::L) s)(k:Qb5 a s.heap h')(ho:h'.get? a=some o')(hP:P' o'):St g ((a,P')::L) { s with heap:=h' }:=by
 have d9:=S.nodup;rw [aB,cG] at d9;exact (S.ext k).yB ho hP d9.1 (S.bound _ (.head _))
theorem St.fresh{s':aU}(S:St g L s)(S':St g L s')(hc:s.heap.objs.size≤c)(ho:s'.heap.get? c=some o)(hP:P o):St g ((c,P)::L) s' :=
 S'.yB ho hP (λhm=>by
  refine ap (List.mem_map.mp hm) λp hp e=>?_;refine ap (S.objs p hp) λo h1 _=>?_;have h2:=eu h1;rw [e] at h2;exact fZ _ (dX h2 hc)) (.inl (f9 S.size hc))
noncomputable def o0(p q:Pos):Bool:=(p.line:Int)==(q.line:Int)&&(p.col:Int)==(q.col:Int)
noncomputable def sW(es:List (Pos×ay))(pos:Pos):Option ay:=(es.find? λe=>o0 e.1 pos).map (·.2)
def gz(es:List (Pos×ay))(o:Obj):Prop:=∃ps,o=Qao ps∧QbY ps.toList∧∀pos,oV pos ps.toList=(sW es pos).map cV
def je(q:Str)(o:Obj):Prop:=∃vs t,o.data = .fields vs∧vs[1]?=some (.str q t)
def oJ(qf:Pos→Str)(es:List (Pos×ay))(q:Str)(c:ay):Prop:=∃e∈es,e.2=c∧qf e.1=q
theorem oJ.inc{aT:List (Pos×ay)}(h:oJ qf es q c)(hi : ∀e∈es,e∈aT):oJ qf aT q c:=let ⟨e,a,b⟩:=h;⟨e,hi e a,b⟩
noncomputable def bM(P:ay)(qf:Pos→Str)(es:List (Pos×ay)):ae:=(P,gz es)::es.map λe=>(e.2,je (qf e.1))
variable {P:ay}
theorem oJ.mem(h:oJ qf es q c):(c,je q)∈bM P qf es:=by
 refine du h λe he af fG=>?_;subst af;subst fG;exact aQ _ (List.mem_map.mpr ⟨e,he,rfl⟩)
theorem Oz{pos pos':Pos}{c:aq}: ∀(l:List aq),QbY l→oV pos (l++[gj pos'.line,gj pos'.col,c])=(oV pos l).or (if o0 pos' pos then some c else none):=by
 intro l h
 fun_induction QbY l with
 | case1 =>
  show (if ((pos'.line:Int)==(pos.line:Int)&&(pos'.col:Int)==(pos.col:Int))=true then some c else none)=Option.or none (if o0 pos' pos then some c else none)
  rw [k9];rfl
 | case2 i t j u x rest ih =>
  simp only [zH,oV];split
  ·rfl
  ·exact ih h
 | case3=>exact h.elim
theorem QA{pos':Pos}:sW (es++[(pos',c)]) pos=(sW es pos).or (if o0 pos' pos then some c else none):=by
 unfold sW;rw [QaE,Option.map_or];congr 1;by_cases h:o0 pos' pos=true
 ·rw [Qct h,NH (by exact h)];rfl
 ·rw [Qcs h,List.find?_cons_of_neg (by exact h)];rfl
theorem Ht{ps:Array aq}{es:List (Pos×ay)}{pos:Pos}{c:ay}(h:gz es (Qao ps)):gz (es++[(pos,c)]) (Qao (ps ++ #[gj pos.line,gj pos.col,.ref c])):=by
 refine du h λps' e h1 h2=>?_;cases e;refine ⟨_,rfl,?_,λpos'=>?_⟩
 ·rw [lU];exact TriplesOk_snoc _ _ _ _ h1
 ·rw [lU];show oV pos' (ps.toList++[gj pos.line,gj pos.col,.ref c])=_
  rw [Oz _ h1,h2,QA];cases sW es pos' with
  | some x=>rfl
  | none=>rw [Option.map_none,k9,k9];split<;>rfl
def oC(g:Gd)(L:ae)(c P:ay):Prop:=∀s,St g L s→Qbx s.heap c P
theorem oC.top{c P:ay}(h:Qbx g.dB c P)(hn:c∉g.tabs):oC g L c P:=λs S=>by
 refine Xo h λo vs file tf flags tg qj text tt e r=>?_;exact ⟨o,vs,file,tf,flags,tg,qj,text,tt,S.keep _ _ e hn,r⟩
theorem RE{c P:ay}{qf:Pos→Str}{es:List (Pos×ay)}{pos:Pos}{fl:Nat}{name:Str}{ps:mA}{scope:Scope}{fb:NY}(lG:env.code = .ref c)(hC:oC g (bM P qf es++R) c P)(hq : ∀p,o0 p pos=true→qf p=qf pos):
  GX g A (bM P qf es++R) (functionCode env pos fl name (qf pos) ps scope fb) λv M=>∃c' aT,v = .ref c'∧oJ qf aT (qf pos) c'∧(∀e∈es,e∈aT)∧M=bM P qf aT++R:=by
 intro s Q S k;refine ap (S.get (aC _)) λo hP VJ=>?_;refine du VJ λxs af h1 h2=>?_;subst af;have C:=hC s S;cases ht:sW es pos with
 | some c' =>
  refine wpAny_functionCode_hit lG (C.code hP h1) (c':=.ref c') (by rw [h2,ht];rfl) ?_;refine k _ _ s ⟨c',es,rfl,?_,λ_ h=>h,rfl⟩ S;unfold sW at ht;refine ap (Option.map_eq_some_iff.mp ht) λe he af=>?_;subst af;have FH:o0 e.1 pos=true:=by have:=tS he;exact this
  exact ⟨e,CQ he,rfl,hq e.1 FH⟩
 | none =>
  refine wpAny_functionCodeX lG (C.code hP h1) (C.tab hP) (by rw [h2,ht];rfl) λc' h' tk hx gs aY _ XR XS _=>?_;have MR:St g ((P,gz (es++[(pos,c')]))::(es.map (λe=>(e.2,je (qf e.1)))++R)) { s with heap:=h',toks:=tk } :=
   St.toks (s:={ s with heap:=h' }) (S.LI hx XS.2 (Ht ⟨xs,rfl,h1,h2⟩)) tk
  refine EU XR λc₂ E6 JG LJ XT LK LL LM=>?_;cases XT;have hS2:=S.ig.fresh MR.ig gs LK (P:=je (qf pos)) ⟨JG,LJ,LL,LM⟩;have y8:St g ((c',je (qf pos))::(P,gz (es++[(pos,c')]))::(es.map (λe=>(e.2,je (qf e.1)))++R)) { s with heap:=h',toks:=tk }:=by
   refine MR.yB LK ⟨JG,LJ,LL,LM⟩ (λhm=>?_) (.inl (f9 S.size gs));have aY : ∀q∈((P,gz es)::(es.map (λe=>(e.2,je (qf e.1)))++R):ae).map (·.1),q<s.heap.objs.size:=λq hq=>by
    refine ap (List.mem_map.mp hq) λp hp af=>?_;subst af;refine ap (S.objs p hp) λo h1 _=>?_;exact eu h1
   exact fZ _ (dX (aY c' hm) gs)
  refine k _ _ _ ⟨c',es++[(pos,c')],rfl,⟨(pos,c'),ag _ (aC _),rfl,rfl⟩,λe he=>ao _ he,rfl⟩ (y8.perm ?_)
  ·unfold bM;rw [aV,zH,aH];refine (fp _ _ _).trans (mw _ ?_);exact List.perm_middle.symm
structure uF(g:Gd)(mg:Str→Option aq):Prop where
 bm : ∃bm ob,mg "__builtins__"=some (.ref bm)∧bm≠dU∧g.dB.get? bm=some ob∧bm∉g.tabs∧ob.cls = .type "module"∧ob.dict=some dU∧ob.data = .plain
theorem GL(G:l6 g mg mb)(B:uF g mg){run:ay}:GX g A L (builtinsFor cm run) λv M=>v=dU∧M=L:=λs Q S k=>by
 refine Lu B.bm λbm ob h1 h2 h3 h4 h5 h6 h7=>?_;exact wpAny_builtinsFor (S.sT G.mn G.m1) h1 h2 (S.keep _ _ h3 h4) h5 h6 h7 (k _ _ s ⟨rfl,rfl⟩ S)
noncomputable abbrev Bn(name qual:Str)(ps:mA)(fb:NY)(scope:Scope)(cl:List (Str×ay))(dv kv doc pm cq ct:aq):xb :=
 { name:=name,qualname:=qual,params:=ps,body:=fb,scope:=scope,globals:=cm,closure:=cl,defaults:=dv,kwdefaults:=kv,doc:=doc,pyModule:=pm,annotations:=none,code:=cq,closureTuple:=ct,builtins:=dU }
def B0(name qual:Str)(ps:mA)(fb:NY)(scope:Scope)(cl:List (Str×ay))(c:ay)(o:Obj):Prop:=∃pm ct,o={ cls:=.type "function",data:=.func (Bn name qual ps fb scope cl .none .none .none pm (.ref c) ct) }
variable {ps:mA}
theorem IK(G:l6 g mg mb)(B:uF g mg)
  (lG:env.code = .ref c) (gs:env.globals=cm) (hC:oC g (bM P qf es++R) c P) (hq : ∀p,o0 p pos=true→qf p=qf pos) (jN:gm scope env=pure cl)
  (Bo : ∀b,fb = .stmts b→docOf b=none) :
  GX g A (bM P qf es++R) (makeFunction name (qf pos) ps fb scope env [] [] [] pos fl) λv M=>∃f c' aT,v = .ref f∧oJ qf aT (qf pos) c'∧(∀e∈es,e∈aT)∧M=(f,B0 name (qf pos) ps fb scope cl c')::(bM P qf aT++R):=by
 intro s Q S k;rw [makeFunction_eq];simp only [Qai,List.filterMap_nil,QaO,if_true,pure_bind];unfold makeTail;rw [jN,gs];refine ab (ah ?_);have main : ∀(FJ:aq) (F:aq→ay→Option aq→Sem aq) (hF : ∀x y z,F x y z=newObj (.type "function") (Data.func { Bn name (qf pos) ps fb scope cl .none .none .none (z.getD .none) x FJ with builtins:=y })) (s:aU),St g (bM P qf es++R) s →
   aJ (bD g.prog g.w) A (functionCode env pos fl name (qf pos) ps scope fb>>=λx=>builtinsFor cm env.builtins>>=λy=>nsGet cm "__name__">>=λz=>F x y z) Q cU s:=by
  intro FJ F hF s S;refine ab (RE lG hC hq s _ S ?_);refine OI λaW c' aT hm hi=>?_;intro aN;refine ab (GL G B aW _ aN ?_);refine vC λbu=>?_;intro aS;refine ab (Gi (aS.sT G.mn G.m1) ?_);rw [hF];refine eX ?_ (by size_fits);exact k _ _ _ ⟨_,c',aT,rfl,hm,hi,rfl⟩ (aS.push (P:=B0 name (qf pos) ps fb scope cl c') ⟨_,FJ,rfl⟩)
 cases cl with
 | nil =>
  simp only [QaO,if_true];refine ab (ah (main .none _ (λx y z=>?_) s S));cases fb with
  | expr b=>rfl
  | stmts b=>dsimp only;rw [Bo b rfl];rfl
 | cons q r =>
  simp only [List.isEmpty_cons,bp,Qcv];refine ab (Qbm (main (.ref s.heap.objs.size) _ (λx y z=>?_) _ (S.xP _)));cases fb with
  | expr b=>rfl
  | stmts b=>dsimp only;rw [Bo b rfl];rfl
inductive iH:List (Str×aq)→List sx→Prop
 | nil:iH [] []
 | cons {n:Str} {t:Tok} {h:Int} {v:aq} {l:List (Str×aq)} {es:List sx}:iH l es→iH ((n,v)::l) (⟨h,.str n t,v⟩::es)
variable {t:Tok}
theorem Dl{n:Str}:(Qca n t).isStr x=(n==x):=rfl
theorem RF(x n:Str):(x==n)=(n==x):=by rw [tV,beq_iff_eq,beq_iff_eq];exact eq_comm
variable {es:List sx}
theorem iH.find(h:iH l es)(x:Str):(es.find? (·.key.isStr x)).map (·.val)=l.lookup x:=by
 induction h with
 | nil=>rfl
 | @cons n t hh v l es _ ih =>
  rw [dJ,aP,Dl,← RF];cases x==n with
  | true=>rfl
  | false=>exact ih
theorem iH.any(h:iH l es)(x:Str):es.any (·.key.isStr x)=(l.lookup x).isSome:=by
 rw [← h.find x,mH,tV,sC,xf]
theorem iH.noRef(h:iH l es):es.any (·.refKey)=false:=by
 induction h with
 | nil=>rfl
 | cons _ ih=>rw [Qbv,ih];rfl
theorem iH.length(h:iH l es):es.length=l.length:=by
 induction h with
 | nil=>rfl
 | cons _ ih=>rw [cj,cj,ih]
def oo(l:List (Str×aq))(x:Str)(v:aq):List (Str×aq) :=
 l.rec [(x,v)] λp r ih=>if (p.1==x)=true then (p.1,v)::r else p::ih
theorem iH.put{v:aq}{h:Int}(H:iH l es):
  iH (oo l x v) (match es.findIdx? (·.key.isStr x) with | some i=>es.modify i λe=>{ e with val:=v } | none=>es++[⟨h,.str x t,v⟩]):=by
 induction H with
 | nil=>exact .cons .nil
 | @cons n u hh w l es H ih =>
  show iH (if (n==x)=true then (n,v)::l else (n,w)::oo l x v) _
  rw [Qak,Dl];cases n==x with
  | true=>exact .cons H
  | false =>
   rw [Qcs gS,Qcs gS];cases r:es.findIdx? (·.key.isStr x) with
   | none=>rw [r] at ih;exact .cons ih
   | some i=>rw [r] at ih;exact .cons ih
def oq(l:List (Str×aq))(x:Str):List (Str×aq) :=
 l.rec [] λp r ih=>if (p.1==x)=true then r else p::ih
theorem iH.del(H:iH l es): ∀i,es.findIdx? (·.key.isStr x)=some i→iH (oq l x) (es.eraseIdx i):=by
 induction H with
 | nil=>intro i e;cases e
 | @cons n u hh w l es H ih =>
  intro i hi;show iH (if (n==x)=true then l else (n,w)::oq l x) _
  rw [Qak,Dl] at hi;cases q:n==x with
  | true=>rw [q,Qct rfl] at hi;cases hi;exact H
  | false =>
   rw [q,Qcs gS] at hi;obtain ⟨j,hj,rfl⟩:=Option.map_eq_some_iff.mp hi;exact .cons (ih j hj)
def fH(l:List (Str×aq))(o:Obj):Prop:=∃es ep,o={ cls:=.type "dict",data:=.dict es ep }∧iH l es.toList
theorem fH.look(h:fH l o)(x:Str):nsLook x o=pure (l.lookup x):=by
 obtain ⟨es,ep,rfl,h⟩:=h;rw [nsLook_eq];unfold nsLookByArray;dsimp only;have h1:=h.find x;rw [Qae] at h1;cases q:es.find? (·.key.isStr x) with
 | some e=>rw [q] at h1;rw [← h1];rfl
 | none =>
  rw [q] at h1;dsimp only;rw [← QaJ,h.noRef,← h1];rfl
variable {a:ay}
theorem Jg(h:(a,fH l)∈L)(x:Str):fz g A L (nsGet a x) (· = l.lookup x):=λs Q E S k=>by
 obtain ⟨o,ho,hd⟩:=S.get h;refine ab (iW ho ?_);rw [hd.look];exact ah (k _ _ rfl S)
variable {Q:Unit→aU→Prop}
theorem Eb{v:aq}(S:St g L s)(U:aw a (fH l) (fH (oo l x v)) L L')(k : ∀s',St g L' s'→Q () s'):aJ (bD g.prog g.w) A (nsSet a x v) Q E s:=by
 refine ap (S.get U.mem) λo ho VK=>?_;refine cp VK λbz ep af hd=>?_;subst af;obtain ⟨es⟩:=bz;have te:aRefKeyMayBeTheName x ⟨es⟩=false:=by rw [Qax];unfold NT;rw [nZ (p:=DictEntry.refKey),hd.noRef,Qbk]
 unfold nsSet strHash;refine ab (ab (QbM ?_));refine ah (ab (n5 (ab (iW ho ?_))));dsimp only;rw [te];refine tY ho (k _ ?_);have S':=S.toks (s.toks+1);have key : ∀h t,∃aT r7,Obj.putName x h (.str x t) v { cls:=.type "dict",data:=.dict ⟨es⟩ ep }={ cls:=.type "dict",data:=.dict aT r7 }∧iH (oo l x v) aT.toList:=λh t=>by
  rw [qz];unfold mG
  have:=hd.put (x:=x) (v:=v) (h:=h) (t:=t)
  dsimp only;rw [NV];dsimp only at this;cases q:es.findIdx? (·.key.isStr x) with
  | some i=>rw [q] at this;exact ⟨_,_,rfl,by rw [Array.toList_modify];exact this⟩
  | none=>rw [q] at this;exact ⟨_,_,rfl,by rw [qD];exact this⟩
 obtain ⟨aT,r7,h1,h2⟩:=key _ s.toks;refine St.toks (s:={ s with heap:=_ }) (S.gG U (cz ..) (cF _ ho ?_) ⟨aT,r7,h1,h2⟩) _;rw [h1];rfl
variable {Q:Bool→aU→Prop}
theorem Uk(S:St g L s)(U:aw a (fH l) (fH (oq l x)) L L')(hx:(l.lookup x).isSome=true)(k : ∀b s',St g L' s'→Q b s'):aJ (bD g.prog g.w) A (nsDel a x) Q E s:=by
 refine ap (S.get U.mem) λo ho VL=>?_;refine cp VL λbz ep af hd=>?_;subst af;obtain ⟨es⟩:=bz;have ha:=hd.any x;rw [hx] at ha;unfold nsDel;refine ab (iW ho ?_);rw [nsHas_eq];unfold nsHasByArray;dsimp only;rw [nZ,ha];refine ab (ah (ab (tY ho (ah (k _ _ ?_)))));refine ap (List.any_eq_true.mp ha) λe he hp=>?_;have hi : ∃i,es.findIdx? (·.key.isStr x)=some i:=by
  cases q:es.findIdx? (·.key.isStr x) with
  | some i=>exact ⟨i,rfl⟩
  | none =>
   have:=List.findIdx?_eq_none_iff.mp q e he
   rw [hp] at this;cases this
 refine cT hi λi hi=>?_;have key:Obj.dropName x { cls:=.type "dict",data:=.dict ⟨es⟩ ep }={ cls:=.type "dict",data:=.dict ((⟨es⟩:Array sx).eraseIdxIfInBounds i) (ep+1) }:=by
  rw [Obj.dropName_eq];unfold Obj.dropNameByArray;dsimp only;rw [NV,hi]
 refine S.gG U (cz ..) (cF _ ho (by rw [key];rfl)) ⟨_,_,key,?_⟩
 have:=hd.del i hi
 rw [Array.toList_eraseIdxIfInBounds];exact this
end
section
open PySem PySem.W PyProof.Rows PySem.Builtin
variable {g:Gd}{A:bg}{L L' bX L₁ L₂ bH R:ae}{env:Env}
section
variable {s:aU}
theorem xE{α:Type}{a:ay}{o o':Obj}{i:Nat}{v:Option aq}{f:Unit→Sem α}{Q:α→aU→Prop}(S:St g L s)(U:aw a (bW o) (bW o') L L')(e:{ o with slots:=(o.slots++QaU (i+1-o.slots.size) none).setIfInBounds i v }=o')(hi:i<1000)(hf:o'.isFreed=false)
  (k : ∀s',St g L' s'→aJ (bD g.prog g.w) A (f ()) Q cU s'):aJ (bD g.prog g.w) A (QbQ a i v>>=f) Q cU s:=by
 refine ap (S.get U.mem) λE6 ho af=>?_;subst af;unfold QbQ;rw [Qcs (by rw [sizeLine_eq];exact bV (.i (.t .A (.c 1000)) (.n (.l (.c 16777216) .A))) rfl hi)];refine ab (ab (ah (tY ho (k _ ?_))));exact S.gG U (cz ..) (cF _ ho (by rw [← e] at hf;exact hf)) (by rw [← e];rfl)
theorem Jh{a:ay}{o o':Obj}{cd:vt}{h:vt→vt}{Q:Unit→aU→Prop}(S:St g L s)(hd:o.data = .cls cd)(U:aw a (bW o) (bW o') L L')(e:o.mapCls h=o')(hf:o'.isFreed=false)(hp:o'.data.pastItsLine=none)
  (k : ∀s',St g L' s'→Q () s'):aJ (bD g.prog g.w) A (QbN a h) Q cU s:=by
 refine ap (S.get U.mem) λE6 ho af=>?_;subst af;subst e;unfold QbN;refine ab (eU ho ?_);rw [hd];refine ab (wpAny_update ho ?_);have hg:=cF (h:=s.heap) (Obj.mapCls h) ho hf;exact QbK hg hp (k _ (S.gG U (cz ..) hg rfl))
theorem Dc{l:List (Str×aq)}{x y:Str}(h:y≠x):(oq l x).lookup y=l.lookup y:=by
 induction l with
 | nil=>rfl
 | cons p l ih =>
  obtain ⟨n,v⟩:=p;show rt y (if (n==x)=true then l else (n,v)::oq l x)=_
  by_cases e:n=x
  ·subst e;rw [Qct (beq_self_eq_true n),aP]
   have:(y==n)=false:=by simpa using h
   rw [this]
  ·have:(n==x)=false:=by simpa using e
   rw [this,Qcs gS,aP,aP,ih]
theorem Dd{v:aq}:(oo l x v).lookup y=if (y==x)=true then some v else l.lookup y:=by
 induction l with
 | nil =>
  show rt y [(x,v)]=_
  rw [aP];cases y==x<;>rfl
 | cons p l ih =>
  obtain ⟨n,w⟩:=p;show rt y (if (n==x)=true then (n,v)::l else (n,w)::oo l x v)=_
  by_cases e:n=x
  ·subst e;rw [Qct (beq_self_eq_true n),aP,aP];cases y==n<;>rfl
  ·have:(n==x)=false:=by simpa using e
   rw [this,Qcs gS,aP,aP,ih];cases q:y==n with
   | false=>rfl
   | true =>
    have hy:=beq_iff_eq.mp q;subst hy;rw [this];rfl
end
variable {Q:β→aU→Prop}{f:α→Sem β}{t:Sem α}
theorem d8{a:α}(e:t=pure a)(h:aJ M A (f a) Q E s):aJ M A (t>>=f) Q E s:=ab (fD e h)
variable {c:Prop}{x y:Sem β}
theorem fq[Decidable c](hc:¬c)(h:aJ M A y Q E s):aJ M A (if c then x else y) Q E s:=by rw [Qcs hc];exact h
theorem lB[Decidable c](hc:c)(h:aJ M A x Q E s):aJ M A (if c then x else y) Q E s:=by rw [Qct hc];exact h
theorem RG:rv (.type "dict") (.type "dict")=pure true:=by kernel_rfl
theorem QB:rv (.type "tuple") (.type "tuple")=pure true:=by kernel_rfl
theorem Px:notOverATurnedClass [.type "object"]=pure ():=by kernel_rfl
theorem Te:extendedBase [.type "object"]=pure (.type "object"):=by kernel_rfl
theorem RH:mroHook? (.type "type")=pure none:=by kernel_rfl
theorem Tf:linearize [.type "object"] mroOf=pure [.type "object"]:=by kernel_rfl
theorem RI:Bind.madeBy (.type "object")=pure (some "object.__new__"):=by kernel_rfl
theorem RJ:Slots.givesWeak (.type "object")=pure false:=by kernel_rfl
theorem QC:oU (.type "dict") "__iter__"=pure (some (.builtin "dict.__iter__")):=by rw [jA,fj];kernel_rfl
end
section
open PySem PySem.W PyProof.Rows PySem.Builtin
variable {g:Gd}{A:bg}{L L' bX L₁ L₂ bH R:ae}{env:Env}
variable {Q:Slots.Plan→aU→Prop}{es:Array sx}
theorem Py{sl:ay}{u:Tok}(S:St g L s)(hE:iH l es.toList)(h1:l.lookup ("__slots__":Str)=some (cV sl))(h2:l.lookup ("obj":Str)=none)(hs:(sl,aM [.val (.str "obj" u)])∈L)
  (k : ∀s',St g L s'→Q { names:=["obj"],dict:=false,weak:=false,inherited:=[] } s'):aJ (bD g.prog g.w) A (Slots.read "K" [.type "object"] es) Q cU s:=by
 refine cp (eI S hs) λvs n h3 h4=>?_;refine ap h4.one λv hv kh=>?_;cases AV.cW kh;obtain ⟨es⟩:=es;have hf:=hE.find "__slots__";rw [h1] at hf;refine ap (Option.map_eq_some_iff.mp hf) λe he Z4=>?_;have te:=hE.any "obj";rw [h2] at te;unfold Slots.read;refine d8 (a:=.type "object") (by kernel_rfl) ?_;refine d8 (a:=[]) (by kernel_rfl) ?_;refine d8 (a:=false) (by kernel_rfl) ?_;refine d8 (a:=false) (by kernel_rfl) ?_;refine d8 (a:=false) (by kernel_rfl) ?_;rw [List.find?_toArray,he];refine ab (vx ?_);rw [Z4];refine ab (ab (eU h3 (ah ?_)));refine fq (by decide) ?_;refine ab (QbB sl (.inl rfl) h3 rfl rfl (λh' hk=>?_) (by rw [← aG,hv,sizeLine_eq];exact aZ rfl));have S':=S.keeps hk;rw [hv];refine lB rfl ?_;refine d8 (a:=false) (by kernel_rfl) ?_;refine fq (by decide) ?_;refine d8 (a:=((false,false,#[("obj":Str)],[]):Bool×Bool×Array Str×List Str)) (by kernel_rfl) ?_;have hm:Slots.mangle "K" "obj"=("obj":Str):=by kernel_rfl
 refine ab ?_;show aJ _ _ (forIn (ba [("obj":Str)]) (([],0):List Str×Nat) _) _ _ _
 rw [qo,ee];refine ab ?_;refine fq (by rw [hm,sizeLine_eq];decide) ?_;change aJ _ _ (ite _ _ _) _ _ _
 refine fq (by rw [hm,nZ,te];decide) ?_;change aJ _ _ (ite _ _ _) _ _ _
 refine fq (by rw [hm];decide) ?_;refine ah (ah ?_);rw [hm];refine d8 (a:=((false,false):Bool×Bool)) (by kernel_rfl) ?_;exact ah (k _ S')
variable {Q:α→aU→Prop}{f:Option aq→Sem α}
theorem oX{a:ay}(S:St g L s)(h:(a,fH l)∈L)(hr:l.lookup x=r)(k:aJ (bD g.prog g.w) A (f r) Q cU s):aJ (bD g.prog g.w) A (nsGet a x>>=f) Q cU s:=by
 refine ap (S.get h) λo ho hd=>?_;refine ab (ab (iW ho ?_));rw [hd.look,hr];exact ah k
theorem RK{ns:ay}(hC:(C,bW o)∈L)(hd:o.data = .cls cd)(hm:cd.mro=[.ref C,.type "object"])(hn:cd.ns=ns)(hN:(ns,fH l)∈L)(hr:(l.lookup name).or (builtinOwn "object" name)=r):
  fz g A L (oU (.ref C) name) (· = r):=λs Q E S k=>by
 refine ap (S.get hC) λo' ho af=>?_;subst af;subst hn;unfold oU mroOf classData;refine ab (ab (ab (eU ho ?_)));rw [hd];refine ah (ah ?_);rw [hm,ee];unfold classOwn classData;refine ab (ab (ab (ab (ab (eU ho ?_)))));rw [hd];refine ah (Jg hN name s _ _ S λx aW hx aN=>?_);subst hx;cases hl:l.lookup name with
 | some v =>
  rw [hl] at hr;exact ah (ah (ah (k _ _ hr aN)))
 | none =>
  rw [hl,k9] at hr;refine ah ?_;change aJ _ _ (forIn [nU "object"] _ _) _ _ _
  rw [ee];refine ab (ab (ah ?_));rw [hr];cases r with
  | some v=>exact ah (ah (ah (k _ _ rfl aN)))
  | none=>exact ah (ah (ah (k _ _ rfl aN)))
noncomputable def qk(ns:ay)(qn:Str)(mro:List aq)(hd:Bool)(sl:List Str):vt:={ name:="K",bases:=[.type "object"],mro:=mro,ns:=ns,qualname:=qn,hasDict:=hd,slotNames:=sl }
noncomputable def kO(cd:vt)(sl:List (Option aq)):Obj:={ cls:=.type "type",data:=.cls cd,slots:=⟨sl⟩ }
variable {Q:Unit→aU→Prop}
theorem O8{ns:ay}(S:St g L s)(hC:(C,bW (kO cd sl))∈L)(hm:cd.mro=[.ref C,.type "object"])(hn:cd.ns=ns)(hN:(ns,fH l)∈L)(hl:l.lookup ("__new__":Str)=none)(h4:((⟨sl⟩:Array (Option aq))[4]?).join=some (.builtin "object.__new__"))
  (k : ∀s',St g L s'→Q () s'):aJ (bD g.prog g.w) A (Bind.refreshMaker C) Q cU s:=by
 refine ap (S.get hC) λo' ho af=>?_;subst af;unfold Bind.refreshMaker slotAt;refine ab (ab (iW ho ?_));show aJ _ _ (pure ((⟨sl⟩:Array (Option aq))[4]?).join) _ _ _
 rw [h4];refine ah ?_;refine fq (by decide) ?_;change aJ _ _ (fo _ _) _ _ _
 refine ab (RK (r:=some (.builtin "object.__new__")) hC rfl hm hn hN (by rw [hl,k9];kernel_rfl) s _ _ S λx aW hx aN=>?_);subst hx;refine fq (by decide +kernel) ?_;exact ah (k _ aN)
theorem RL{ns:ay}(S:St g ((C,bW (kO cd sl))::(ns,fH l)::R) s)(hl:l.lookup ("obj":Str)=none)(hz:l.length≤1000)(hp:(kO { cd with hasDict:=false,slotNames:=["obj"] } sl).data.pastItsLine=none)
  (k : ∀p tn s',St g ((C,bW (kO { cd with hasDict:=false,slotNames:=["obj"] } sl))::(ns,fH (oo l "obj" (.ref p)))::(p,bW { cls:=.type "member_descriptor",data:=.fields #[.str "obj" tn,.ref C,.builtin "proto.slot",.builtin "proto.slot#set",gj 0] })::R) s'→Q () s') :
  aJ (bD g.prog g.w) A (Slots.install (.ref C) ns [.type "object"] { names:=["obj"],dict:=false,weak:=false }) Q cU s:=by
 unfold Slots.install;change aJ _ _ (fo (forIn [("obj":Str)] _ _) _) _ _ _
 rw [ee];refine ab (ab (oX S (mi 1 rfl) hl ?_));refine lB rfl ?_;refine ab (wpAny_mkStr ?_);refine ab (eX ?_ (by size_fits));have aN:=(S.toks (s.toks+1)).push (o:={ cls:=.type "member_descriptor",data:=.fields #[.str "obj" s.toks,.ref C,.builtin "proto.slot",.builtin "proto.slot#set",gj 0] }) (P:=bW { cls:=.type "member_descriptor",data:=.fields #[.str "obj" s.toks,.ref C,.builtin "proto.slot",.builtin "proto.slot#set",gj 0] }) rfl;refine ap (aN.get (mi 2 rfl)) λo ho VM=>?_;refine cp VM λes ep af hE=>?_;subst af;unfold nsSetByValue;refine ab (ab (iW ho ?_));refine fq (by
  have:es.size=l.length:=by rw [← aG,hE.length]
  have:¬es.size>sizeLine:=by rw [this,sizeLine_eq];exact bV (.i (.l .A (.c 1000)) (.n (.t (.c 16777216) .A))) rfl hz
  simp [this]) ?_
 change aJ _ _ (nsSet _ _ _) _ _ _
 refine Eb aN (aw.tail (aw.tail aw.head)) λbu aS=>?_;refine ah (ah ?_);refine d8 (a:=false) (by kernel_rfl) ?_;refine fq (by rw [sizeLine_eq];decide) ?_;change aJ _ _ (QbN _ _) _ _ _
 refine Jh aS (o':=kO { cd with hasDict:=false,slotNames:=["obj"] } sl) rfl (aw.tail aw.head) rfl rfl hp λcC cJ=>k s.heap.objs.size s.toks cC ?_;exact cJ.perm ((fp _ _ _).trans (mw _ (fp _ _ _)))
def rS(g:Gd):Prop:=NR∉g.tabs∧∃o es ep,g.dB.get? NR=some o∧o.data = .dict es ep∧NB es∧qt es "thirdparty.any"=none
theorem QD(N:rS g)(S:St g L s):Gp (bD g.prog g.w) s.heap (QbT (.ref C)) none:=by
 refine b8 N λh1 VN=>?_;refine lF VN λo es ep h2 h3 h4 h5=>?_;have hn:s.heap.Ns NR (qt es):=⟨o,es,ep,S.keep _ _ h2 h1,h3,h4,λ_=>rfl⟩;intro A Q E s' k q;unfold QbT anyOpaqueLoaded;refine ab (ab (Gi (hn.keeps k) ?_));rw [h5];refine ah ?_;exact ah q
theorem IL{b:aq}(hC:s.heap.get? C=some (kO cd sl))(hm:cd.mro=[.ref C,.type "object"])(hb:b∈cd.mro):Gp (bD g.prog g.w) s.heap (rv (.ref C) b) true:=by
 have X:Frag.In [(C,kO cd sl)] s.heap:=λa o e=>by
  rw [aP] at e;cases q:a==C with
  | true=>rw [q] at e;cases e;rw [beq_iff_eq.mp q];exact hC
  | false=>rw [q] at e;cases e
 have h1:clsIn [(C,kO cd sl)] C=some cd:=by unfold clsIn;rw [aP,beq_self_eq_true];rfl
 refine looks_mroIn X ?_;unfold mroIn;rw [h1,cP];have h2:cd.mro.isEmpty=false:=by rw [hm];rfl
 rw [h2,List.contains_iff_mem.mpr hb];rfl
variable {Q:aq→aU→Prop}
theorem QE(S:St g L s)(hC:(C,bW (kO cd sl))∈L)(hm:cd.mro=[.ref C,.type "object"])
  (k : ∀so s',St g ((so,bW { cls:=.type "super",dict:=none,data:=.fields #[.ref C,.ref C,.ref C],slots := #[] })::L) s'→Q (.ref so) s'):aJ (bD g.prog g.w) A (call (.type "super") [.ref C,.ref C]) Q cU s:=by
 refine ap (S.get hC) λo' ho af=>?_;subst af;obtain ⟨hh,gg,d,t,os⟩:=s;refine ks_callType_codesW (Q₁:=λobj aW=>obj = .ref hh.objs.size∧aW=⟨hh.push { cls:=.type "super",data:=.fields #[.none,.none,.none] },gg,d,t,os⟩) F.ks_called_super (ks_wpAny_checkTypeCall_super ho rfl) F.ks_entry_super_init
  (ks_code_super_new _ _ ⟨rfl,rfl⟩) λobj aW dB=>?_
 refine b8 dB λaf fG=>?_;subst af;subst fG;have aN:=S.push (o:={ cls:=.type "super",data:=.fields #[.none,.none,.none] }) (P:=bW { cls:=.type "super",dict:=none,data:=.fields #[.none,.none,.none],slots := #[] }) rfl;refine ap (aN.get (aC _)) λo2 lM e2=>?_;cases e2;refine ap (aN.get (aQ _ hC)) λo2 rb e2=>?_;cases e2;have E7:=IL (g:=g) (s:=⟨hh.push { cls:=.type "super",data:=.fields #[.none,.none,.none] },gg,d,t,os⟩) (b:=.ref C) rb hm (by rw [hm];exact .head _);refine ⟨⟨_,lM,rfl⟩,F.ks_initArgs_super _ _ _,?_⟩;unfold ey.«super.__init__» noKeywords
 repeat (first | (with_reducible refine zB rb rfl ?_) | (with_reducible refine Looks.at E7 ?_) | (with_reducible refine ks_wpAny_super_set3 lM ?_) | wp_step)
 all_goals
  intro h' e kk;exact ⟨rfl,k _ _ (aN.LI (h':=h') kk e rfl)⟩
theorem C1:Slot "classmethod_descriptor" "__get__" "classmethod_descriptor.__get__":=.of (owner:="classmethod_descriptor") (n:="__get__") (by rw [jA,fj];kernel_rfl) (by decide +kernel) (by decide +kernel) (by decide +kernel)
 (by first | exact .inl (by decide +kernel) | exact .inr (by decide +kernel)) (by rw [j9];kernel_rfl)
theorem GN:w7 QaY "classmethod_descriptor.__get__"=some ey.«classmethod_descriptor.__get__»:=ki (by kernel_rfl)
theorem GZ(a b c:aq):vz "classmethod_descriptor.__get__" ⟨[a,b,c],[]⟩:=by unfold vz;kernel_rfl
theorem Hu:n6 (.builtin "object.__init_subclass__")=pure (.type "classmethod_descriptor"):=by kernel_rfl
theorem O9(N:rS g){tk:Tok}{Q:Qay→aU→Prop}(S:St g L s)(lM:(so,bW { cls:=.type "super",dict:=none,data:=.fields #[.ref C,.ref C,.ref C],slots := #[] })∈L)(hC:(C,bW (kO cd sl))∈L)(hm:cd.mro=[.ref C,.type "object"])
  (k : ∀f s',St g ((f,bW { cls:=.type "builtin_function_or_method",data:=.fields #[.builtin "object.__init_subclass__",.ref C] })::L) s'→Q (.done (.ret (.ref f))) s') :
  aJ (bD g.prog g.w) A (ey.«super.__getattribute__» ⟨[.ref so,.str "__init_subclass__" tk],[]⟩) Q E s:=by
 obtain ⟨hh,gg,dd,tt,os⟩:=s;refine ap (S.get lM) λo2 lM e2=>?_;cases e2;refine ap (S.get hC) λo2 ho e2=>?_;cases e2;have tC:=QD N S (C:=C);have sh:({ cls:=.type "super",dict:=none,data:=.fields #[.ref C,.ref C,.ref C],slots := #[] }:Obj).data = .fields #[.ref C,.ref C,.ref C]:=rfl;have f0:(#[.ref C,.ref C,.ref C]:Array aq)[0]?=some (.ref C):=rfl;have f1:(#[.ref C,.ref C,.ref C]:Array aq)[1]?=some (.ref C):=rfl;have f2:(#[.ref C,.ref C,.ref C]:Array aq)[2]?=some (.ref C):=rfl;unfold ey.«super.__getattribute__»;refine d8 (a:=some ("__init_subclass__":Str)) (by rfl) ?_;refine fq (by decide) ?_;change aJ _ _ (fo _ _) _ _ _
 refine d8 (a:=some ("__init_subclass__":Str)) (by rfl) ?_;refine ab (m9 lM sh f0 ?_);refine ab (m9 lM sh f1 ?_);refine ab (m9 lM sh f2 ?_);refine fq (by rw [show (("__init_subclass__":Str)==("__class__":Str))=false by decide +kernel];simp) ?_;change aJ _ _ (fo _ _) _ _ _
 refine ab (ks_wpAny_notOpaque tC ?_);refine fq (by simp) ?_;change aJ _ _ (fo _ _) _ _ _
 refine ab (ab (ab (eU ho (ah ?_))));refine ah ?_;have Ul:Qcq 1 (CG (λx=>x != cV C) cd.mro)=[nU "object"]:=by rw [hm];simp
 change aJ _ _ (fo (forIn (Qcq 1 (CG (λx=>x != cV C) cd.mro)) _ _) _) _ _ _
 rw [Ul,ee];refine ab (ab ?_);refine d8 (a:=some (.builtin "object.__init_subclass__")) (by kernel_rfl) ?_;refine d8 Hu (d8 C1.lookup ?_);refine ab (aK ?_);rw [Qct (by simp)];refine g9 C1 Hu GN ?_ (GZ _ _ _);unfold ey.«classmethod_descriptor.__get__»;refine d8 (a:=(.builtin "object.__init_subclass__",none,some (.ref C))) (by kernel_rfl) ?_;change aJ _ _ (fo (pure (cV C)) _) _ _ _
 refine ab (ah ?_);refine ab (zB ho rfl ?_);refine fq (by decide) ?_;change aJ _ _ (fo _ _) _ _ _
 have XU : ".".intercalate ("object.__init_subclass__".cutAt '.').dropLast = "object":=by decide +kernel
 rw [XU];refine ab (Looks.at (IL (g:=g) (s:=⟨hh,gg,dd,tt,os⟩) (b:=.type "object") ho hm (by rw [hm];exact .tail _ (.head _))) ?_);refine fq (by decide) ?_;change aJ _ _ (fo _ _) _ _ _
 refine ab (eX (ah ⟨_,rfl,?_⟩) (by size_fits));refine ab (ah (ah (ah (ah ?_))));exact k _ _ (S.push rfl)
theorem OA(N:rS g)(S:St g L s)(lM:(so,bW { cls:=.type "super",dict:=none,data:=.fields #[.ref C,.ref C,.ref C],slots := #[] })∈L)(hC:(C,bW (kO cd sl))∈L)(hm:cd.mro=[.ref C,.type "object"])
  (k : ∀f s',St g ((f,bW { cls:=.type "builtin_function_or_method",data:=.fields #[.builtin "object.__init_subclass__",.ref C] })::L) s'→Q (.ref f) s') :
  aJ (bD g.prog g.w) A (lR (.ref so) "__init_subclass__") Q cU s:=by
 have Z5:=F.ks_slot_super_ga.lookup;have hT : ∀s,St g L s→s.TypeIs (.ref so) "super":=λs S=>by
  refine ap (S.get lM) λo2 h e2=>?_;cases e2;exact ⟨_,h,rfl⟩
 have aN:=S.toks (s.toks+1);unfold lR QbU;refine ab (n5 (aK (ab (Qal (hT _ aN) (ab (fD Z5 ?_))))));show aJ _ _ (mZ (.ref so) (.str "__init_subclass__" s.toks) (.type "super") (.builtin "super.__getattribute__") true false) _ _ _
 unfold mZ Qbs CL NS;refine ab (fD (show (if onTheHeap (.type "super") then oU (.type "super") "__getattr__" else pure none)=pure none from rfl) ?_);refine ab (tQ (aK ?_));show aJ _ _ (Qa4 (.builtin "super.__getattribute__") (.ref so)>>=_) _ _ _
 refine ab (fD (F.ks_slot_super_ga.bind _) ?_);refine cw (Q:=λv s'=>∃f,v = .ref f∧St g ((f,bW { cls:=.type "builtin_function_or_method",data:=.fields #[.builtin "object.__init_subclass__",.ref C] })::L) s') (E:=λ_ _=>False)
  (g9 F.ks_slot_super_ga (hT _ aN) F.ks_entry_super_ga (O9 N aN lM hC hm λf s' S'=>⟨_,rfl,f,rfl,S'⟩) (F.ks_gaArgs_super _ _)) (λv s' hv=>?_) λ_ _ z=>z.elim
 refine ap hv λf af S'=>?_;subst af;exact ah (k f s' S')
theorem Pz:w7 QaY "object.__init_subclass__"=some ey.«object.__init_subclass__»:=ki (by kernel_rfl)
noncomputable abbrev qnK:Str:="cmp_to_key.<locals>.K"
theorem RM:Manifest.signature? "object.__init_subclass__"=some { machinery:=.noArgs,full:="object.__init_subclass__",short:="__init_subclass__",receiver:=.cls,params:=[] }:=by kernel_rfl
theorem QF:Qa3 "object.__init_subclass__"=some .classMethod:=by kernel_rfl
theorem RN(C:ay):Bind.checkArgs "object.__init_subclass__" { machinery:=.noArgs,full:=s!"{qnK.toString}.{Bind.lastOf "object.__init_subclass__"}",short:="__init_subclass__",receiver:=.cls,params:=[] } ⟨[.ref C],[]⟩=pure ():=by kernel_rfl
theorem Pa:rv (.type "type") (.type "module")=pure false:=by kernel_rfl
theorem Pb:Manifest.varargsMethods.contains "object.__init_subclass__"=false:=by decide +kernel
theorem RO{f C:ay}{cd:vt}{sl:List (Option aq)}{s:aU}{Q:aq→aU→Prop}(S:St g L s)(hf:(f,bW { cls:=.type "builtin_function_or_method",data:=.fields #[.builtin "object.__init_subclass__",.ref C] })∈L)(hC:(C,bW (kO cd sl))∈L)(hq:cd.qualname=qnK)(k : ∀s',St g L s'→Q .none s'):aJ (bD g.prog g.w) A (call (.ref f) []) Q cU s:=by
 refine ap (S.get hf) λo2 h e2=>?_;cases e2;refine ap (S.get hC) λo2 ho e2=>?_;cases e2;refine jP (m6 ?_);show aJ _ A.in1 (Cs (.ref f) _) _ _ _
 unfold Cs;refine ab (eU h ?_);change aJ _ _ (ite _ _ _) _ _ _
 refine lB (by rfl) ?_;change aJ _ _ (ite _ _ _) _ _ _
 refine lB (by rfl) ?_;show aJ _ _ (lW "object.__init_subclass__" ⟨[.ref C],[]⟩>>=λ_=>Qag (.builtin "object.__init_subclass__" ⟨[.ref C],[]⟩)) _ _ _
 refine ab ?_;unfold lW;rw [RM,QF];change aJ _ _ (ite _ _ _) _ _ _
 refine fq (by decide) ?_;change aJ _ _ (fo _ _) _ _ _
 refine ab (lY (T:="type") (U:="module") ⟨_,ho,rfl⟩ Pa ?_);rw [Pb];refine fq (by decide) ?_;obtain ⟨hh,gg,dd,tt,os⟩:=s;change aJ _ _ (fo _ _) _ _ _
 refine ab (zB ho rfl ?_);refine lB (by rfl) ?_;change aJ _ _ (fo (pure (cV C)) _) _ _ _
 refine ab (ah ?_);change aJ _ _ (fo _ _) _ _ _
 refine ab (ab (eU ho (ah ?_)));refine ab (Qal (T:="type") ⟨_,ho,rfl⟩ ?_);refine lB (by rfl) ?_;rw [hq];refine fD (RN C) ?_;refine ah ⟨mF _ (by decide +kernel),m7 Pz ?_⟩;unfold ey.«object.__init_subclass__»;refine lB (by rfl) ?_;exact ah (k _ S)
theorem QG(l:List (Str×aq))(x:Str):(oq l x).length≤l.length:=by
 induction l with
 | nil=>exact cB _
 | cons p l ih =>
  show (if (p.1==x)=true then l else p::oq l x).length≤_
  split
  ·simp
  ·simpa using ih
variable {es:List sx}
theorem RP(h:iH l es):(forIn es false λe (Tg:Bool)=>do
  let x ← asStr? e.key
  if x.isNone then pure (nX true) else pure (nX Tg))=(pure false:Sem Bool):=by
 induction h with
 | nil=>rfl
 | cons _ ih=>rw [ee];exact ih
def pV(L:ae)(v:aq):Prop:=(∃x t,v = .str x t)∨(∃i t,v = .int i t)∨v = .none∨∃a P T,v = .ref a∧(a,P)∈L∧(∀o:Obj,P o→o.cls = .type T)∧T∈(["function","list","tuple","member_descriptor"]:List String)
theorem pV.inc{M:ae}{v:aq}(h:pV L v)(hi:cu L M):pV M v:=by
 rcases h with h | h | h | ⟨a,P,T,h1,h2,h3⟩
 ·exact .inl h
 ·exact .inr (.inl h)
 ·exact .inr (.inr (.inl h))
 ·exact .inr (.inr (.inr ⟨a,P,T,h1,hi _ h2,h3⟩))
theorem AL(T:String)(hT:T∈(["str","int","NoneType","function","list","tuple","member_descriptor"]:List String)):oU (.type T) "__set_name__"=pure none:=by
 simp only [fS,nY,or_false] at hT;rw [jA,fj];rcases hT with rfl | rfl | rfl | rfl | rfl | rfl | rfl<;>kernel_rfl
theorem pV.special{v:aq}(h:pV L v):fz g A L (specialOf v "__set_name__") (· = none):=λs Q E S k=>by
 rcases h with ⟨x,t,rfl⟩ | ⟨i,t,rfl⟩ | rfl | ⟨a,P,T,rfl,h2,h3,h4⟩
 ·exact jr (T:="str") (show n6 _=_ by rfl) (AL _ (by simp)) (k _ s rfl S)
 ·exact jr (T:="int") (show n6 _=_ by rfl) (AL _ (by simp)) (k _ s rfl S)
 ·exact jr (T:="NoneType") (show n6 _=_ by rfl) (AL _ (by simp)) (k _ s rfl S)
 ·refine ap (S.get h2) λo ho hp=>?_;exact jr (T:=T) ⟨o,ho,h3 o hp⟩ (AL _ (by revert h4;simp;rintro (h | h | h | h)<;>simp [h])) (k _ s rfl S)
theorem pV.held{v:aq}(h:pV L v)(x:Str):heldUnderItsOwnName x v=false:=by
 rcases h with ⟨x,t,rfl⟩ | ⟨i,t,rfl⟩ | rfl | ⟨a,P,T,rfl,h2,h3,h4⟩<;>rfl
variable {Q:PUnit→aU→Prop}{f:sx→PUnit→Sem (ForInStep PUnit)}
theorem QH(h:iH l es)(hf : ∀n t hh v s,(n,v)∈l→St g L s→aJ (bD g.prog g.w) A (f ⟨hh,.str n t,v⟩ ⟨⟩) (λr s'=>r = .yield ⟨⟩∧St g L s') cU s)
    (S:St g L s) (k : ∀s',St g L s'→Q ⟨⟩ s'):aJ (bD g.prog g.w) A (forIn es ⟨⟩ f) Q cU s:=by
 induction h generalizing s with
 | nil=>rw [vv];exact ah (k s S)
 | cons _ ih =>
  rw [ee];refine ab (cw (hf _ _ _ _ s (.head _) S) (λr s' hr=>?_) λ_ _ q=>q);refine b8 hr λaf S'=>?_;subst af;exact ih (λn t hh v s hm=>hf n t hh v s (.tail _ hm)) S'
theorem Hv{l:List (Str×aq)}{x:Str}{v:aq}{q:Str×aq}(h:q∈oo l x v):q.2=v∨q∈l:=by
 induction l with
 | nil=>exact .inl (by rw [List.mem_singleton.mp h])
 | cons p l ih =>
  have h:q∈(if (p.1==x)=true then (p.1,v)::l else p::oo l x v):=h;split at h
  ·rcases List.mem_cons.mp h with rfl | h
   ·exact .inl rfl
   ·exact .inr (.tail _ h)
  ·rcases List.mem_cons.mp h with rfl | h
   ·exact .inr (.head _)
   ·rcases ih h with h | h
    ·exact .inl h
    ·exact .inr (.tail _ h)
theorem QI{q:Str×aq}(h:q∈oq l x):q∈l:=by
 induction l with
 | nil=>cases h
 | cons p l ih =>
  have h:q∈(if (p.1==x)=true then l else p::oq l x):=h;split at h
  ·exact .tail _ h
  ·rcases List.mem_cons.mp h with rfl | h
   ·exact .head _
   ·exact .tail _ (ih h)
noncomputable def wt(C:ay)(tn:Tok):Obj:={ cls:=.type "member_descriptor",data:=.fields #[.str "obj" tn,.ref C,.builtin "proto.slot",.builtin "proto.slot#set",gj 0] }
noncomputable def wu(B C ns:ay)(t tq:Tok):Obj:=kO (qk ns qnK [.ref C,.type "object"] false ["obj"]) [some (.ref B),none,some (.str "K" t),some (.str qnK tq),some (.builtin "object.__new__"),some (.bool false)]
def rC(l:List (Str×aq))(p:ay):List (Str×aq):=oo (oo (oq l "__qualname__") "obj" (.ref p)) "__doc__" .none
theorem RQ{po B sl:ay}{l:List (Str×aq)}{t u tq:Tok}(M:oB g)(NO:rS g)(hB:(B,cg [.val (.type "object")])∈R)(hs:(sl,aM [.val (.str "obj" u)])∈R)
  (hz:l.length≤1000) (h1:l.lookup ("__slots__":Str)=some (cV sl)) (h2:l.lookup ("obj":Str)=none) (h3:l.lookup ("__module__":Str)≠none) (h4:l.lookup ("__qualname__":Str)=some (Qca qnK tq)) (h6:(l.lookup ("__eq__":Str)).isSome=true) (h7:l.lookup ("__hash__":Str)=some cQ) (Z6 : ∀q∈l,pV R q.2) (h5 : ∀x∈(["__doc__","__del__","__new__","__init_subclass__","__class_getitem__","__classcell__","__classdictcell__"]:List Str),l.lookup x=none) :
  GX g A ((po,fH l)::R) (ey.«type.__new__» ⟨[.type "type",.str "K" t,.ref B,.ref po],[]⟩) λfin M=>∃C ns p tn,fin = .done (.ret (.ref C))∧M=(C,bW (wu B C ns t tq))::(ns,fH (rC l p))::(p,bW (wt C tn))::R:=by
 intro s Q S k;refine cp (pR S (aQ _ hB)) λvs n MS hv=>?_;refine ap hv.one λv hv kh=>?_;cases AV.cW kh;refine ap (S.get (aC _)) λo hN VO=>?_;refine cp VO λes ep af hE=>?_;subst af;unfold ey.«type.__new__»;refine d8 (a:=some ("K":Str)) (by rfl) ?_;refine ab (lY (T:="tuple") ⟨_,MS,rfl⟩ QB ?_);refine fq (by decide) ?_;refine ab (lY (T:="dict") ⟨_,hN,rfl⟩ RG ?_);refine fq (by decide) ?_;refine ab (NL MS rfl ?_);rw [Qah,hv];refine fq (by decide) ?_;refine d8 (a:=PUnit.unit) (by kernel_rfl) ?_;refine d8 (a:=nU "type") (by kernel_rfl) ?_;refine fq (by decide) ?_;refine d8 Px (d8 Te ?_);refine fq (by rw [vU M S (aC _)];decide) ?_;refine ab (zS hN rfl ?_);refine ab (jr (T:="dict") ⟨_,hN,rfl⟩ QC ?_);refine lB (by simp) ?_;refine ab (ah ?_);refine ab (aK (Py (A:=A) S hE h1 h2 (aQ _ hs) λaW aN=>?_));refine ab (eX ?_ ?_)
 case refine_2=>exact (show es.size≤sizeLine+1 by rw [← aG,hE.length,sizeLine_eq];exact Kq hz)
 have aS:=aN.push (o:={ cls:=.type "dict",data:=.dict es }) (P:=fH l) ⟨es,0,rfl,hE⟩;generalize aW.heap.objs.size=ns at aS ⊢;have XV:es.any (λx=>x.key.isStr ("__module__":Str))=true:=by
  obtain ⟨es⟩:=es;rw [nZ,hE.any];exact Option.isSome_iff_ne_none.mpr h3
 refine fq (by show ¬(!(es.any λx=>x.key.isStr ("__module__":Str)))=true;rw [XV];decide) ?_;refine d8 (a:=()) (by kernel_rfl) ?_;refine fq (by decide +kernel) ?_;refine oX aS (aC _) h4 (oX aS (aC _) h4 ?_);refine d8 (a:=some qnK) (by rfl) ?_;refine oX aS (aC _) (h5 _ (by simp)) ?_;refine ab (QaW ?_);have cJ:=aS.push (o:=kO (qk ns qnK [] true []) []) (P:=bW (kO (qk ns qnK [] true []) [])) rfl;generalize hC:Array.size _=C at cJ;clear hC;refine xE cJ (o':=kO (qk ns qnK [] true []) [some (.ref B)]) aw.head rfl (Ez) rfl λgx eK=>?_;refine xE eK (o':=kO (qk ns qnK [] true []) [some (.ref B),none,some (.str "K" t)]) aw.head rfl (Ki) rfl λkX ij=>?_;refine xE ij (o':=kO (qk ns qnK [] true []) [some (.ref B),none,some (.str "K" t),some (.str qnK tq)]) aw.head rfl (kU (.t (.c 3) (.c 1000)) rfl) rfl λny mM=>?_;refine ab (Uk mM (aw.tail aw.head) (x:="__qualname__") (by rw [h4];rfl) λ_ Bl qX=>?_);have tw : ∀x∈(["__doc__","__del__","__new__","__init_subclass__","__class_getitem__","__classcell__","__classdictcell__"]:List Str),(oq l "__qualname__").lookup x=none:=λx hx=>by
  rw [Dc,h5 x hx];rintro rfl
  revert hx;decide +kernel
 refine oX qX (mi 1 rfl) (tw _ (by simp)) ?_;rw [ee];refine ab (ab (oX qX (mi 1 rfl) (tw _ (by simp)) (ah ?_)));change aJ _ _ (forIn [("__class_getitem__":Str)] PUnit.unit _) _ _ _
 rw [ee];refine ab (oX qX (mi 1 rfl) (tw _ (by simp)) (ah (ah ?_)));refine oX qX (mi 1 rfl) (tw _ (by simp)) ?_;refine oX qX (mi 1 rfl) (tw _ (by simp)) ?_;refine d8 RH ?_;refine d8 Tf ?_;have XW:N3 (λx=>x != cV C) [cV C,nU "object"]=[nU "object"]:=by simp
 refine ab (ah ?_);change aJ _ _ (fo (List.anyM _ (N3 (λx=>x != cV C) [cV C,nU "object"])) _) _ _ _
 rw [XW];refine d8 (a:=false) (by kernel_rfl) ?_;have E5:es.any (λx=>x.key.isStr ("__del__":Str))=false:=by
  obtain ⟨es⟩:=es;rw [nZ,hE.any,h5 _ (by simp)];rfl
 refine ab (Jh qX (o':=kO (qk ns qnK [.ref C,.type "object"] true []) [some (.ref B),none,some (.str "K" t),some (.str qnK tq)]) rfl aw.head ?e1 rfl rfl λBp yC=>?_)
 case e1 =>
  show kO { qk ns qnK [.ref C,.type "object"] true [] with hasDel:=es.any (λx=>x.key.isStr ("__del__":Str)) || false } _=_;rw [E5];rfl
 refine d8 RI ?_;refine xE yC (o':=kO (qk ns qnK [.ref C,.type "object"] true []) [some (.ref B),none,some (.str "K" t),some (.str qnK tq),some (.builtin "object.__new__")]) aw.head rfl (kU (.t (.c 4) (.c 1000)) rfl) rfl λLN ti=>?_;refine ab (O8 ti (aC _) rfl rfl (mi 1 rfl) (tw _ (by simp)) rfl λTh xF=>?_);have Z7:(oq l "__qualname__").length≤1000:=f9 (QG _ _) hz;refine ab (RL xF (by rw [Dc (by decide +kernel),h2]) Z7 rfl λp tn abN Ti=>?_);refine d8 RJ ?_;refine xE Ti (o':=kO (qk ns qnK [.ref C,.type "object"] false ["obj"]) [some (.ref B),none,some (.str "K" t),some (.str qnK tq),some (.builtin "object.__new__"),some (.bool false)]) aw.head rfl (kU (.t (.c 5) (.c 1000)) rfl) rfl λabO IM=>?_;refine fq (by decide) ?_;refine fq (by decide) ?_;have lk : ∀x:Str,x ≠ "obj"→x ≠ "__qualname__"→(oo (oq l "__qualname__") "obj" (.ref p)).lookup x=l.lookup x:=λx h1 h2=>by
  rw [Dd,Qcs (by simpa using h1),Dc h2]
 refine oX IM (mi 1 rfl) (r:=none) (by rw [lk _ (by decide +kernel) (by decide +kernel),h5 _ (by simp)]) ?_;refine lB rfl ?_;refine ab (Eb IM (aw.tail aw.head) λabP Aw=>?_);refine cT (Option.isSome_iff_exists.mp h6) λve Z8=>?_;refine oX Aw (mi 1 rfl) (r:=some ve) (by rw [Dd,Qcs (by decide +kernel),lk _ (by decide +kernel) (by decide +kernel),Z8]) ?_;refine lB rfl ?_;refine oX Aw (mi 1 rfl) (r:=some .none) (by rw [Dd,Qcs (by decide +kernel),lk _ (by decide +kernel) (by decide +kernel),h7]) ?_;refine fq (by decide) ?_;refine d8 (a:=PUnit.unit) (by kernel_rfl) ?_;refine ab (wpAny_tryCatch (aK ?_));refine ap (Aw.get (mi 1 rfl)) λoN MT VP=>?_;refine cp VP λbz epN af MU=>?_;subst af;obtain ⟨esN⟩:=bz;refine ab (zS MT rfl ?_);rw [qo];refine d8 (RP MU) ?_;refine fq (by decide) ?_;refine ab (zS MT rfl ?_);rw [qo];refine ja (ab (QH MU ?hf Aw λabQ Tj=>?_))
 case hf =>
  intro n u hh v s hm S;have kd:pV ((C,bW (wu B C ns t tq))::(ns,fH (rC l p))::(p,bW (wt C tn))::(po,fH l)::R) v:=by
   rcases Hv hm with rfl | hm
   ·exact .inr (.inr (.inl rfl))
   ·rcases Hv hm with rfl | hm
    ·exact .inr (.inr (.inr ⟨p,_,"member_descriptor",rfl,.tail _ (mi 1 rfl),(λo e=>by cases e;rfl),by simp⟩))
    ·exact (Z6 _ (QI hm)).inc (cu.refl R).cons.cons.cons.cons
  refine fq (by show ¬heldUnderItsOwnName n v=true;rw [kd.held];decide) ?_;refine ab (kd.special s _ _ S λr s' hr S'=>?_);subst hr;exact ah ⟨rfl,S'⟩
 refine ab (QE Tj (aC _) rfl λso abR Tk=>?_);refine ab (aK (OA NO Tk (aC _) (mi 1 rfl) rfl λf abS Tl=>?_));refine ab (RO Tl (aC _) (mi 2 rfl) rfl λabT Tm=>?_);refine ah (ah (k _ _ _ ⟨C,ns,p,tn,rfl,rfl⟩ (Tm.cX ?_)));exact aj.skip (aj.skip (aj.pick aR.head iI (aj.pick aR.head iI (aj.pick aR.head iI (aj.skip aj.refl)))))
theorem QJ:Bind.madeBy (.type "type")=pure (some "type.__new__"):=by kernel_rfl
theorem RR:mroOf (.type "type")=pure [.type "type",.type "object"]:=by kernel_rfl
theorem Ou:w7 QaY "type.__new__"=some ey.«type.__new__»:=ki (by kernel_rfl)
theorem CR:Slot "type" "__init__" "type.__init__":=.of (owner:="type") (n:="__init__") (by rw [jA,fj];kernel_rfl) (by decide +kernel) (by decide +kernel) (by decide +kernel)
 (by first | exact .inl (by decide +kernel) | exact .inr (by decide +kernel)) (by rw [j9];kernel_rfl)
theorem Op:w7 QaY "type.__init__"=some ey.«type.__init__»:=ki (by kernel_rfl)
theorem Um:rv (.type "type") (.type "type")=pure true:=by kernel_rfl
theorem RS(a b c:aq):QbW "type.__new__" ⟨[.type "type",a,b,c],[]⟩=pure ():=by kernel_rfl
theorem QK(a b c:aq):checkTypeCall "type" ⟨[a,b,c],[]⟩=pure ():=by kernel_rfl
theorem PA(a b c d:aq):vz "type.__init__" ⟨[a,b,c,d],[]⟩:=by unfold vz;kernel_rfl
theorem QL{a b c:aq}{K:aq→ae→Prop}(ww : ∀A,GX g A L (ey.«type.__new__» ⟨[.type "type",a,b,c],[]⟩) λfin M=>∃v,fin = .done (.ret v)∧K v M)(hK : ∀v M,K v M→∃C P,v = .ref C∧(C,P)∈M∧∀o:Obj,P o→o.cls = .type "type"):
  GX g A L (call (.type "type") [a,b,c]) K:=by
 intro s Q S k;refine jP (m6 ?_);show aJ _ _ (Cs (.type "type") _) _ _ _
 refine ah ⟨mF _ (by decide +kernel),m7 F.entry_type_call ?_⟩;unfold ey.«type.__call__»;refine lB (by rfl) ?_;refine fq (by simp) ?_;change aJ _ _ (ite _ _ _) _ _ _
 refine fq (by simp) ?_;change aJ _ _ (ite _ _ _) _ _ _
 refine fq (by decide +kernel) ?_;change aJ _ _ (fo _ _) _ _ _
 refine d8 (QK a b c) (d8 RR ?_);refine fq (by decide) ?_;change aJ _ _ (fo _ _) _ _ _
 refine d8 QJ ?_;change aJ _ _ (fo (pure (Value.builtin "type.__new__")) _) _ _ _
 refine ab (ah ?_);refine ab (aK (jP (m6 ?_)));show aJ _ _ (QbW "type.__new__" ⟨[.type "type",a,b,c],[]⟩>>=λ_=>Qag (.builtin "type.__new__" ⟨[.type "type",a,b,c],[]⟩)) _ _ _
 refine d8 (RS a b c) (ah ⟨mF _ (by decide +kernel),m7 Ou ?_⟩);refine ja (ww _ s _ S ?_);refine Qc λM aW v hv=>?_;intro aN;refine eQ (hK v M hv) λC P af hC hP=>?_;subst af;refine ap (aN.get hC) λo ho hp=>?_;have hT:aW.TypeIs (.ref C) "type":=⟨o,ho,hP o hp⟩;refine ab (lY (T:="type") hT Um ?_);refine fq (by decide) ?_;refine ab (aK ?_);unfold callSpecial?;refine ab (jr hT CR.lookup ?_);change aJ _ _ (holding _ _) _ _ _
 refine aK (d8 (CR.bind _) ?_);refine ab (g9 CR hT Op ?_ (PA _ _ _ _));unfold ey.«type.__init__»;change aJ _ _ (ite _ _ _) _ _ _
 refine fq (by simp) ?_;change aJ _ _ (ite _ _ _) _ _ _
 refine fq (by simp) (ah ⟨_,rfl,ah ?_⟩);change aJ _ _ (ite _ _ _) _ _ _
 refine fq (by decide) (ah ?_);exact k _ _ _ hv aN
theorem Tn(tk:Tok):ey.«type.__getattribute__» ⟨[.type "type",.str "__prepare__" tk],[]⟩=(holding [.builtin "type.__prepare__"] (call (.builtin "classmethod_descriptor.__get__") [.builtin "type.__prepare__",.none,.type "type"])>>=ret):=by kernel_rfl
theorem RT:ey.«classmethod_descriptor.__get__» ⟨[.builtin "type.__prepare__",.none,.type "type"],[]⟩=(newFields "builtin_function_or_method" [.builtin "type.__prepare__",.type "type"]>>=ret):=by kernel_rfl
theorem C2:Slot "type" "__getattribute__" "type.__getattribute__":=.of (owner:="type") (n:="__getattribute__") (by rw [jA,fj];kernel_rfl) (by decide +kernel) (by decide +kernel) (by decide +kernel)
 (by first | exact .inl (by decide +kernel) | exact .inr (by decide +kernel)) (by rw [j9];kernel_rfl)
theorem OB:w7 QaY "type.__getattribute__"=some ey.«type.__getattribute__»:=ki (by kernel_rfl)
theorem OU(a b:aq):vz "type.__getattribute__" ⟨[a,b],[]⟩:=by unfold vz;kernel_rfl
theorem QM:n6 (.builtin "type.__prepare__")=pure (.type "classmethod_descriptor"):=by kernel_rfl
theorem Hw:n6 (.type "type")=pure (.type "type"):=by kernel_rfl
theorem PD:w7 QaY "type.__prepare__"=some ey.«type.__prepare__»:=ki (by kernel_rfl)
theorem RU(t:Tok)(B:ay):lW "type.__prepare__" ⟨[.type "type",.str "K" t,.ref B],[]⟩=pure ():=by kernel_rfl
theorem To:GX g A L (getAttr? (.type "type") "__prepare__") λv M=>∃b,v=some (.ref b)∧M=(b,bW { cls:=.type "builtin_function_or_method",data:=.fields #[.builtin "type.__prepare__",.type "type"] })::L:=by
 intro s Q S k;unfold getAttr? getAttrBy? QbU;refine ab (n5 ?_);refine ab (tQ (aK (d8 Hw (d8 C2.lookup ?_))));show aJ _ _ (mZ (.type "type") (.str "__prepare__" s.toks) (.type "type") (.builtin "type.__getattribute__") false false) _ _ _
 unfold mZ Qbs CL NS;refine d8 (a:=none) rfl ?_;refine ab (tQ (aK ?_));show aJ _ _ (Qa4 (.builtin "type.__getattribute__") (.type "type")>>=_) _ _ _
 refine d8 (C2.bind _) ?_;have aN:=S.toks (s.toks+1);refine cw (Q:=λv s'=>∃b,v = .ref b∧St g ((b,bW { cls:=.type "builtin_function_or_method",data:=.fields #[.builtin "type.__prepare__",.type "type"] })::L) s') (E:=λ_ _=>False) (g9 C2 (show n6 _=_ from Hw) OB ?_ (OU _ _)) (λv s' hv=>?_) λ_ _ z=>z.elim
 ·show aJ _ _ (ey.«type.__getattribute__» ⟨[.type "type",.str "__prepare__" s.toks],[]⟩) _ _ _
  rw [Tn];refine ab (aK (g9 C1 (show n6 _=_ from QM) GN ?_ (GZ _ _ _)));rw [RT];refine ab (eX (ah ⟨_,rfl,ah ⟨_,rfl,_,rfl,aN.push rfl⟩⟩) (by size_fits))
 ·refine ap hv λb af S'=>?_;subst af;exact ah (ah (k _ _ s' ⟨b,rfl,rfl⟩ S'))
theorem Pc{b B:ay}{t:Tok}(hb:(b,bW { cls:=.type "builtin_function_or_method",data:=.fields #[.builtin "type.__prepare__",.type "type"] })∈L):GX g A L (call (.ref b) [.str "K" t,.ref B] []) λv M=>∃n,v = .ref n∧M=(n,fH [])::L:=by
 intro s Q S k;refine ap (S.get hb) λo2 h e2=>?_;cases e2;refine jP (m6 ?_);show aJ _ A.in1 (Cs (.ref b) _) _ _ _
 unfold Cs;refine ab (eU h ?_);change aJ _ _ (ite _ _ _) _ _ _
 refine lB (by decide) ?_;change aJ _ _ (ite _ _ _) _ _ _
 refine lB (by decide) ?_;show aJ _ _ (lW "type.__prepare__" ⟨[.type "type",.str "K" t,.ref B],[]⟩>>=λ_=>Qag (.builtin "type.__prepare__" ⟨[.type "type",.str "K" t,.ref B],[]⟩)) _ _ _
 refine d8 (RU t B) (ah ⟨mF _ (by decide +kernel),m7 PD ?_⟩);unfold ey.«type.__prepare__»;refine ab (eX ?_ (by size_fits));exact ah (k _ _ _ ⟨_,rfl,rfl⟩ (S.push ⟨_,_,rfl,.nil⟩))
def mj(c P:ay)(q:Str)(o:Obj):Prop:=∃vs file tf flags tg qj text tt t,o.cls = .type "code"∧o.data = .fields vs∧vs[11]?=some (.ref P)∧vs.getD 11 .none = .ref P∧vs.getD 18 .none = .str file tf ∧
 vs.getD 7 .none = .int flags tg∧vs.getD 9 .none = .bool qj∧vs.getD 10 .none = .int text tt∧c≠P∧vs[1]?=some (.str q t)
theorem oC.atom{c P:ay}{q:Str}(h:(c,mj c P q)∈L):oC g L c P:=λs S=>by
 refine ap (S.get h) λo ho VQ=>?_;refine Jw VQ λvs file tf flags tg qj text tt t e1 e2 e3 e4 e5 e6 e7 e8 e9 e10=>?_;exact ⟨o,vs,file,tf,flags,tg,qj,text,tt,ho,e1,e2,e3,e4,e5,e6,e7,e8,e9⟩
variable {ps:Array aq}
theorem mj.of{P:ay}(h1:h.IsCode c P ps)(h2:h.TableAt c P ps)(h3:h.CodeRec (.ref c) q): ∃o,h.get? c=some o∧mj c P q o:=by
 refine Jw (CodeHd.of h1 h2) λo vs file tf flags tg qj text tt e0 e1 e2 e3 e4 e5 e6 e7 e8 e9=>?_;refine EU h3 λc' o' wL t f0 f1 f2 f3=>?_;cases f0;rw [e0] at f1;cases f1;rw [e2] at f2;cases f2;exact ⟨o,e0,vs,file,tf,flags,tg,qj,text,tt,t,e1,e2,e3,e4,e5,e6,e7,e8,e9,f3⟩
def ml(P0:ay)(pos:Pos)(q:Str)(qf:Pos→Str)(X:ae):Prop:=X=[(P0,gz [])]∨∃c P es,X=(P0,gz [(pos,c)])::(c,mj c P q)::bM P qf es
theorem RV{P:ay}(hX:ml P pos q qf X)(lG:env.code = .ref c)(hC : ∀R,oC g R c P)(rO:o0 pos pos=true):
  GX g A (X++R) (classCode env pos fl name q scope) λv M=>∃c' P' es,v = .ref c'∧M=(P,gz [(pos,c')])::(c',mj c' P' q)::(bM P' qf es++R):=by
 intro s Q S k;have C:=hC _ s S;rcases hX with rfl | ⟨c',P',es,rfl⟩
 ·refine ap (S.get (aC _)) λo hP VR=>?_;refine du VR λxs af h1 h2=>?_;subst af;have B1:oV pos xs.toList=none:=h2 pos;have jk:=C.code hP h1;have htb:=C.tab hP;obtain ⟨o,vs,file,tf,flags,tg,qj,text,tt,op,ho,hd,Z9,g2,h7,h9,B3,u8,FK,Z',fw⟩:=id jk;unfold classCode codeAt;rw [lG,Qcs (show ¬((cV c==cQ)=true) from gS)];refine ab (NN ho hd ?_);rw [Z9];refine ab (NN u8 FK ?_);rw [B1,g2,h7,h9,B3];refine ab (wpAny_newCodeX λc' P' h' tk hk pd MV Un JH VS=>?_);refine ap (mj.of Un JH VS) λoc hoc eb=>?_;have aN:St g ((P,gz [])::R) { s with heap:=h',toks:=tk }:=(St.keeps S hk).toks tk;have aY : ∀q∈((P,gz [])::R:ae).map (·.1),q<s.heap.objs.size:=λq hq=>by
   refine ap (List.mem_map.mp hq) λp hp af=>?_;subst af;refine ap (S.objs p hp) λo h1 _=>?_;exact eu h1
  have aS:St g ((P',gz [])::(P,gz [])::R) { s with heap:=h',toks:=tk } :=
   aN.yB (o:=Qao #[]) JH.2 ⟨#[],rfl,trivial,λ_=>rfl⟩ (λhm=>fZ _ (dX (aY _ hm) MV)) (.inl (f9 S.size MV))
  have cJ:St g ((c',mj c' P' q)::(P',gz [])::(P,gz [])::R) { s with heap:=h',toks:=tk } :=
   aS.yB hoc eb (λhm=>by
    rcases List.mem_cons.mp hm with h | h
    ·obtain ⟨_,_,_,_,_,_,_,_,_,_,_,_,_,_,_,_,_,e,_⟩:=eb;exact e h
    ·exact fZ _ (dX (aY _ h) pd)) (.inl (f9 S.size pd))
  have LO:=hk _ _ u8;refine ab (wpAny_updateFieldsOfTheText LO FK ?_);have ww:(wY (λvs=>if (oV pos vs.toList).isSome=true then vs else vs ++ #[gj pos.line,gj pos.col,.ref c']) op).data =
    .fields (xs ++ #[gj pos.line,gj pos.col,.ref c']):=by
   rw [gT FK,B1];rfl
  have yo:=cF (h:=h') (λo=>wY (λvs=>if (oV pos vs.toList).isSome=true then vs else
   vs ++ #[gj pos.line,gj pos.col,.ref c']) o) LO (kH ww)
  refine ab (NN yo ww ?_);have hl:(xs ++ #[gj pos.line,gj pos.col,cV c']).toList=xs.toList++[gj pos.line,gj pos.col,.ref c']:=by simp
  rw [hl,codeAmong_snoc _ Z' B1];have e1:op=Qao xs:=fx (u8.symm.trans hP);have e2:wY (λvs=>if (oV pos vs.toList).isSome=true then vs else vs ++ #[gj pos.line,gj pos.col,.ref c']) op=Qao (xs ++ #[gj pos.line,gj pos.col,.ref c']):=by
   rw [e1];simp only [wY,B1];rfl
  rw [e2] at yo;have eK:=cJ.gG (a:=P) (P':=gz [(pos,c')]) (.tail (.tail .head)) (cz ..) yo (Ht (es:=[]) ⟨xs,rfl,h1,h2⟩);exact ah (k _ _ _ ⟨c',P',[],rfl,rfl⟩ (eK.perm (bq (l₁:=[(c',mj c' P' q),(P',gz [])]))))
 ·refine ap (S.get (aC _)) λo hP VT=>?_;refine du VT λxs af h1 h2=>?_;subst af;refine wpAny_codeAt_hit lG (C.code hP h1) (c':=.ref c') ?_ (k _ _ s ⟨c',P',es,rfl,rfl⟩ S);rw [h2];unfold sW;rw [NH (by exact rO)];rfl
theorem oh{v:aq}{l':List (Str×aq)}(e:oo l x v=l')(U:aw env.locals (fH l) (fH l') L L')(hs : ∀w,QbO env x w=localSet env x w):jx g A env x (.val v) L L':=by
 rintro v s Q E rfl S k;subst e;rw [hs];refine ap (S.get U.mem) λo ho VU=>?_;refine cp VU λes ep af _=>?_;subst af;unfold localSet;refine ab (eU ho ?_);change aJ _ _ (ite _ _ _) _ _ _
 refine lB (by rfl) ?_;exact Eb S U k
variable {Q:oP→aU→Prop}{es:List (Pos×ay)}{ps:mA}
theorem vW(G:l6 g mg mb)(B:uF g mg){P:ay}{rest:List fK}
  (lG:env.code = .ref c) (gs:env.globals=cm) (hC:oC g (bM P qf es++R) c P) (hq : ∀p,o0 p pos=true→qf p=qf pos) (hqn:qualnameIn env name name=qf pos) (hd:defaultsOf ps env=([],[])) (ha:annTrees ps none env=[])
  (jN:gm scope env=pure cl) (Bo:docOf body=none)
  (h : ∀f c' aT,oJ qf aT (qf pos) c'→(∀e∈es,e∈aT)→∃L',jx g A env name (.ref f) ((f,B0 name (qf pos) ps (.stmts body) scope cl c')::(bM P qf aT++R)) L'∧SX g A L' env rest Q) :
  SX g A (bM P qf es++R) env (.FunctionDef name ps body [] none [] scope none name pos::rest) Q :=
 i9 λs S=>by
  rw [exec_def,hqn,hd,ha];refine ab (bT (ab (aK ?_)));refine ab (ah (ab (aK (ah (aK (ab (ah ?_)))))));refine IK G B lG gs hC hq jN (λb hb=>by cases hb;exact Bo) s _ S ?_;refine GV λs' f c' aT hm hi=>?_;intro S';refine ap (h f c' aT hm hi) λL' hst hX=>?_;refine ab (bT (ab (Qcd (hst _ s' _ _ rfl S' λnF pe=>ah ?_))));exact hX nF pe
noncomputable abbrev zh:Scope:=mK (fu 7 0)
noncomputable abbrev rH:List fK:=ju (fu 7 0)
noncomputable def fC(p:Pos):Str:=match p.line with
 | 64=>"cmp_to_key.<locals>.K.__init__"
 | 67=>"cmp_to_key.<locals>.K.__lt__"
 | 70=>"cmp_to_key.<locals>.K.__gt__"
 | 73=>"cmp_to_key.<locals>.K.__eq__"
 | 76=>"cmp_to_key.<locals>.K.__le__"
 | _=>"cmp_to_key.<locals>.K.__ge__"
theorem vX{p q:Pos}(h:o0 p q=true):fC p=fC q:=by
 unfold o0 at h;rw [QaT,beq_iff_eq,beq_iff_eq] at h
 have:p.line=q.line:=by exact_mod_cast h.1
 unfold fC;rw [this]
noncomputable abbrev E8(po cK fr c:ay):Env:={ scope:=zh,locals:=po,globals:=cm,qual:=qnK ++ ".",code:=.ref cK,frame:=some fr,builtins:=dU,cells:=[("mycmp",c)] }
abbrev gY(k:Nat)(name qual:Str)(cl:List (Str×ay))(c':ay):Obj→Prop:=B0 name qual (Am (bA rH k)) (.stmts (ju (bA rH k))) (mK (bA rH k)) cl c'
noncomputable def kL(m q f s i lt gt eq le ge:aq):List (Str×aq):=[("__module__",m),("__qualname__",q),("__firstlineno__",f),("__slots__",s),("__init__",i),("__lt__",lt),("__gt__",gt),("__eq__",eq),("__le__",le),("__ge__",ge),("__hash__",.none)]
variable {K:List aq→ae→Prop}{es:List Expr}
theorem Tp(ha:nK g A L (b6 pos (aE es env)) K)(h : ∀vs M,K vs M→∃as,bP vs as∧as.length≤100000∧∀a,K' (.ref a) ((a,aM as)::M)):
  GX g A L (eval (.List es pos) env) K':=λs Q S k=>by
 have e:eval (.List es pos) env=(standAt pos>>=λ_=>vy (b6 pos (aE es env))>>=λvs=>newList vs):=rfl;rw [e];refine ab (bT (ab (ha s _ S λvs M aW bk aN=>?_)));refine du (h vs M bk) λas h1 h2 h3=>?_;exact lg (k _ _ _ (h3 _) (aN.push ⟨_,_,rfl,by simpa using h1⟩)) (by rw [h1.length,sizeLine_eq];exact z5 h2)
theorem Ji{p:Pos}:GX g A L (eval (.Constant (.str x) n p) env) λv M=>(∃t,v = .str x t)∧M=L:=λs Q S k=>n5 (k _ _ _ ⟨⟨_,rfl⟩,rfl⟩ (S.toks _))
theorem PF{mg mb:Str→Option aq}(G:l6 g mg mb)(B:uF g mg){po cK PK fr c:ay}{es:List (Pos×ay)}{td qv fv:aq}
  (wM:(cK,mj cK PK qnK)∈R) :
  SX g A (bM PK fC es++(po,fH [("__module__",td),("__qualname__",qv),("__firstlineno__",fv)])::R) (E8 po cK fr c) rH λfl s=>fl = .next∧∃aT sl u m t f1 f2 f3 f4 f5 f6 c1 c2 c3 c4 c5 c6,
   oJ fC aT "cmp_to_key.<locals>.K.__init__" c1∧oJ fC aT "cmp_to_key.<locals>.K.__lt__" c2 ∧
   St g (bM PK fC aT++(f6,gY 7 "__ge__" "cmp_to_key.<locals>.K.__ge__" [("mycmp",c)] c6)::(f5,gY 6 "__le__" "cmp_to_key.<locals>.K.__le__" [("mycmp",c)] c5)::(f4,gY 5 "__eq__" "cmp_to_key.<locals>.K.__eq__" [("mycmp",c)] c4)
    :: (f3,gY 4 "__gt__" "cmp_to_key.<locals>.K.__gt__" [("mycmp",c)] c3)::(f2,gY 3 "__lt__" "cmp_to_key.<locals>.K.__lt__" [("mycmp",c)] c2)::(f1,gY 2 "__init__" "cmp_to_key.<locals>.K.__init__" [] c1)
    :: (sl,aM [.val (.str "obj" u)])::(po,fH (kL (.str m t) qv fv (.ref sl) (.ref f1) (.ref f2) (.ref f3) (.ref f4) (.ref f5) (.ref f6)))::R) s:=by
 refine ic Ji ?_;rintro v M ⟨⟨t,rfl⟩,rfl⟩;refine ⟨.val _,_,rfl,oh (l':=[("__module__",.str "cpy313.functools" t),("__qualname__",qv),("__firstlineno__",fv)]) (by kernel_rfl) (.cE .head) (λw=>by kernel_rfl),?_⟩;refine ic (Tp (K:=λvs M=>∃u,vs=[.str "obj" u]∧M=bM PK fC es++(po,fH [("__module__",.str "cpy313.functools" t),("__qualname__",qv),("__firstlineno__",fv)])::R) (K':=λv M=>∃sl u,v = .ref sl∧M=(sl,aM [.val (.str "obj" u)])::(bM PK fC es++(po,fH [("__module__",.str "cpy313.functools" t),("__qualname__",qv),("__firstlineno__",fv)])::R)) (pK Ji ?_) ?_) ?_
 ·rintro v M ⟨⟨u,rfl⟩,rfl⟩;intro s Q S k;exact pP s Q S λvs M s' h S'=>k vs M s' (by obtain ⟨rfl,rfl⟩:=h;exact ⟨u,rfl,rfl⟩) S'
 ·refine fh λu=>?_;exact ⟨[.val (.str "obj" u)],.cons rfl .nil,aZ rfl,λa=>⟨a,u,rfl,rfl⟩⟩
 refine CW λsl u=>?_;refine ⟨.val _,_,rfl,oh (l':=[("__module__",.str "cpy313.functools" t),("__qualname__",qv),("__firstlineno__",fv),("__slots__",.ref sl)]) (by kernel_rfl) (.tail (.cE .head)) (λw=>by kernel_rfl),?_⟩;refine dS (L:=bM PK fC es++(sl,aM [.val (.str "obj" u)])::(po,fH [("__module__",.str "cpy313.functools" t),("__qualname__",qv),("__firstlineno__",fv),("__slots__",.ref sl)])::R) ?_ (aj.perm bq);refine vW G B rfl rfl (.atom (ag _ (by repeat (first | exact wM | apply aQ)))) (λp h=>vX h) (by kernel_rfl) rfl rfl (cl:=[]) (by kernel_rfl) rfl ?_;intro f1 c1 FL h1 i1;refine ⟨_,oh (l':=[("__module__",.str "cpy313.functools" t),("__qualname__",qv),("__firstlineno__",fv),("__slots__",.ref sl),("__init__",.ref f1)]) (by kernel_rfl) (.tail (.cE (.tail .head))) (λw=>by kernel_rfl),dS ?_ (aj.perm bq)⟩;refine vW G B rfl rfl (.atom (ag _ (by repeat (first | exact wM | apply aQ)))) (λp h=>vX h) (by kernel_rfl) rfl rfl (cl:=[("mycmp",c)]) (by kernel_rfl) rfl ?_;intro f2 c2 mq h2 i2;refine ⟨_,oh (l':=[("__module__",.str "cpy313.functools" t),("__qualname__",qv),("__firstlineno__",fv),("__slots__",.ref sl),("__init__",.ref f1),("__lt__",.ref f2)]) (by kernel_rfl) (.tail (.cE (.tail (.tail .head)))) (λw=>by kernel_rfl),dS ?_ (aj.perm bq)⟩;refine vW G B rfl rfl (.atom (ag _ (by repeat (first | exact wM | apply aQ)))) (λp h=>vX h) (by kernel_rfl) rfl rfl (cl:=[("mycmp",c)]) (by kernel_rfl) rfl ?_;intro f3 c3 es3 h3 i3;refine ⟨_,oh (l':=[("__module__",.str "cpy313.functools" t),("__qualname__",qv),("__firstlineno__",fv),("__slots__",.ref sl),("__init__",.ref f1),("__lt__",.ref f2),("__gt__",.ref f3)]) (by kernel_rfl) (.tail (.cE (.tail (.tail (.tail .head))))) (λw=>by kernel_rfl),dS ?_ (aj.perm bq)⟩;refine vW G B rfl rfl (.atom (ag _ (by repeat (first | exact wM | apply aQ)))) (λp h=>vX h) (by kernel_rfl) rfl rfl (cl:=[("mycmp",c)]) (by kernel_rfl) rfl ?_;intro f4 c4 nN h4 i4;refine ⟨_,oh (l':=[("__module__",.str "cpy313.functools" t),("__qualname__",qv),("__firstlineno__",fv),("__slots__",.ref sl),("__init__",.ref f1),("__lt__",.ref f2),("__gt__",.ref f3),("__eq__",.ref f4)]) (by kernel_rfl) (.tail (.cE (.tail (.tail (.tail (.tail .head)))))) (λw=>by kernel_rfl),dS ?_ (aj.perm bq)⟩;refine vW G B rfl rfl (.atom (ag _ (by repeat (first | exact wM | apply aQ)))) (λp h=>vX h) (by kernel_rfl) rfl rfl (cl:=[("mycmp",c)]) (by kernel_rfl) rfl ?_;intro f5 c5 es5 h5 i5;refine ⟨_,oh (l':=[("__module__",.str "cpy313.functools" t),("__qualname__",qv),("__firstlineno__",fv),("__slots__",.ref sl),("__init__",.ref f1),("__lt__",.ref f2),("__gt__",.ref f3),("__eq__",.ref f4),("__le__",.ref f5)]) (by kernel_rfl) (.tail (.cE (.tail (.tail (.tail (.tail (.tail .head))))))) (λw=>by kernel_rfl),dS ?_ (aj.perm bq)⟩;refine vW G B rfl rfl (.atom (ag _ (by repeat (first | exact wM | apply aQ)))) (λp h=>vX h) (by kernel_rfl) rfl rfl (cl:=[("mycmp",c)]) (by kernel_rfl) rfl ?_;intro f6 c6 MW h6 i6;refine ⟨_,oh (l':=[("__module__",.str "cpy313.functools" t),("__qualname__",qv),("__firstlineno__",fv),("__slots__",.ref sl),("__init__",.ref f1),("__lt__",.ref f2),("__gt__",.ref f3),("__eq__",.ref f4),("__le__",.ref f5),("__ge__",.ref f6)]) (by kernel_rfl) (.tail (.cE (.tail (.tail (.tail (.tail (.tail (.tail .head)))))))) (λw=>by kernel_rfl),dS ?_ (aj.perm bq)⟩;refine ic (K:=λv M=>v = .none∧M=bM PK fC MW++_) (λs Q S k=>ah (k _ _ _ ⟨rfl,rfl⟩ S)) ?_;refine t6 ?_;refine ⟨.val _,_,rfl,oh (l':=[("__module__",.str "cpy313.functools" t),("__qualname__",qv),("__firstlineno__",fv),("__slots__",.ref sl),("__init__",.ref f1),("__lt__",.ref f2),("__gt__",.ref f3),("__eq__",.ref f4),("__le__",.ref f5),("__ge__",.ref f6),("__hash__",.none)]) (by kernel_rfl) (.cE (.tail (.tail (.tail (.tail (.tail (.tail (.tail .head)))))))) (λw=>by kernel_rfl),eJ λs S=>⟨rfl,?_⟩⟩;exact ⟨MW,sl,u,_,t,f1,f2,f3,f4,f5,f6,c1,c2,c3,c4,c5,c6,h1.inc λe he=>i6 _ (i5 _ (i4 _ (i3 _ (i2 _ he)))),h2.inc λe he=>i6 _ (i5 _ (i4 _ (i3 _ he))),S⟩
noncomputable abbrev jh:Pos:=⟨60,4,81,23⟩
noncomputable def wN(m q f s i lt gt eq le ge st:aq):List (Str×aq):=[("__module__",m),("__qualname__",q),("__firstlineno__",f),("__slots__",s),("__init__",i),("__lt__",lt),("__gt__",gt),("__eq__",eq),("__le__",le),("__ge__",ge),("__hash__",.none),("__static_attributes__",st)]
theorem OV:oU (.type "dict") "__getitem__"=pure (some (.builtin "dict.__getitem__")):=by rw [jA,fj];kernel_rfl
theorem PG{mg mb:Str→Option aq}(G:l6 g mg mb){nm:aq}(wO:mg "__name__"=some nm){n cK fr c:ay}{l:List (Str×aq)}(hn:(n,fH l)∈L)(hl:l.lookup ("__name__":Str)=none){s:aU}{Q:aq→aU→Prop}(S:St g L s)(k : ∀s',St g L s'→Q nm s'):
  aJ (bD g.prog g.w) A (Cq (E8 n cK fr c) "__name__") Q cU s:=by
 change aJ _ _ (fo (localGet (E8 n cK fr c) "__name__") _) _ _ _
 refine ap (S.get hn) λo ho VV=>?_;refine cp VV λes ep af he=>?_;subst af;unfold localGet;refine ab (ab (eU ho ?_));refine lB (by rfl) ?_;refine Jg hn _ s _ _ S ?_;rintro _ s' rfl S';rw [hl];exact Gu (mg:=mg) (S'.sT G.mn G.m1) wO (k s' S')
theorem pV.fn{f c':ay}{k:Nat}{name qual:Str}{cl:List (Str×ay)}(h:(f,gY k name qual cl c')∈L):pV L (.ref f):=.inr (.inr (.inr ⟨f,_,"function",rfl,h,λo ⟨pm,ct,e⟩=>by rw [e],by simp⟩))
theorem VW{a b c:fN}:(a::b::(T++c::X)).Perm (T++c::a::b::X):=by
 refine sv ?_ (bb [a,b] T (c::X)) |>.trans ?_
 ·exact dH _
 ·refine dG T ?_;exact (bq (l₁:=[a,b]) (a:=c) (l₂:=X))
theorem RW(G:l6 g mg mb)(BM:uF g mg)(M:oB g)(NO:rS g){nm:aq}(wO:mg "__name__"=some nm){cc P0:ay}(hX:ml P0 jh qnK fC X)(lG:env.code = .ref cc)(gs:env.globals=cm)(hC : ∀R,oC g R cc P0)(jN:gm zh env=pure [(("mycmp":Str),c)])(oj:A.depth<iX):
  GX g A (X++R) (buildClass "K" qnK [.type "object"] [] rH zh ["obj"] 60 env jh none) λv M=>∃C B ns p t tq tn m tm f1 f2 f3 f4 f5 f6 sl fl st c1 c2 cK PK es,v = .ref C∧oJ fC es "cmp_to_key.<locals>.K.__init__" c1∧oJ fC es "cmp_to_key.<locals>.K.__lt__" c2 ∧
   M=(C,bW (wu B C ns t tq))::(ns,fH (rC (wN (.str m tm) (.str qnK tq) fl (.ref sl) (.ref f1) (.ref f2) (.ref f3) (.ref f4) (.ref f5) (.ref f6) (.ref st)) p))::(p,bW (wt C tn)) ::
    (f1,gY 2 "__init__" "cmp_to_key.<locals>.K.__init__" [] c1)::(f2,gY 3 "__lt__" "cmp_to_key.<locals>.K.__lt__" [("mycmp",c)] c2)::(((P0,gz [(jh,cK)])::(cK,mj cK PK qnK)::bM PK fC es)++R):=by
 intro s Q S k;unfold buildClass;refine ab (n4 ?_ (by decide));have S:=S.push (o:={ cls:=.type "tuple",data:=.seq #[.type "object"] }) (P:=cg [.val (.type "object")]) ⟨_,_,rfl,.cons rfl .nil⟩;generalize s.heap.objs.size=B at S ⊢;refine d8 (a:=(([.type "object"],false):List aq×Bool)) (by kernel_rfl) ?_;refine d8 (a:=(.type "type")) (by kernel_rfl) ?_;refine d8 (a:=true) (by kernel_rfl) ?_;refine lB rfl ?_;refine d8 (a:=(.type "type":aq)) (by kernel_rfl) ?_;refine ab (n5 ?_);have S:=S.toks (s.toks+1);generalize s.toks=t at S ⊢;refine ab (ah (aK ?_));refine ab (To _ _ S ?_);refine GT λaW b=>?_;intro aN;refine ab (Pc (aC _) aW _ aN ?_);refine GT λbu n=>?_;intro aS;refine ap (aS.get (aC _)) λE6 hn VX=>?_;refine cp VX λabX abY af _=>?_;subst af;refine d8 (a:=()) (by unfold notTheModulesDict;rw [vU M aS (aC _)];rfl) ?_;refine ab (jr (T:="dict") ⟨_,hn,rfl⟩ OV ?_);refine fq (by decide) ?_;refine aK ?_;refine d8 (a:=(none:Option ay)) (by kernel_rfl) ?_;refine d8 (a:=(none:Option ay)) (by kernel_rfl) ?_;have cJ:=(aS.perm (fp ..)).ig.perm (L':=X++((n,fH [])::(B,cg [.val (.type "object")])::R)) (bb [(n,fH []),(B,cg [.val (.type "object")])] X R);refine ab (RV hX lG hC (by decide) bu _ cJ ?_);refine OJ λcC cK PK es=>?_;intro cJ;rw [gs];refine ab (GL G BM cC _ cJ ?_);refine vC λgx=>?_;intro eK;unfold newBodyFrame;refine ab (ab (Gi (eK.sT G.mn G.m1) ?_));rw [wO];refine QaW ?_;have ij:=eK.xP { cls:=.type "frame",slots := #[some (.ref cK),some (.ref cm),some (.ref n),none,some nm,none,some (.ref dU)] };generalize gx.heap.objs.size=fr at ij ⊢;rw [jN];refine ab (ah (aK (ab (wpAny_enterFrame ij.lim oj ?_))));refine ab (N6 (cw (Q:=λ_ s'=>∃tq fv,St g ((P0,gz [(jh,cK)])::(cK,mj cK PK qnK)::(bM PK fC es++(n,fH [("__module__",nm),("__qualname__",.str qnK tq),("__firstlineno__",.int 60 fv)])::(B,cg [.val (.type "object")])::R)) s') (E:=cU) ?_ ?_ λ_ _ z=>z.elim))
 ·refine ab (PG G wO (l:=[]) (md 2 (ag _ (aC _))) rfl ij λkX ij=>?_);refine ab (oh (l:=[]) (l':=[("__module__",nm)]) (by kernel_rfl) (.tail (.tail (.cE .head))) (λw=>by kernel_rfl) _ _ _ _ rfl ij λny mM=>?_);refine ab (n5 ?_);refine ab (oh (l':=[("__module__",nm),("__qualname__",.str qnK ny.toks)]) (by kernel_rfl) (.tail (.tail (.cE .head))) (λw=>by kernel_rfl) _ _ _ _ rfl (mM.toks (ny.toks+1)) λBl qX=>?_);refine ab (wpAny_mkInt ?_);refine ab (oh (l':=[("__module__",nm),("__qualname__",.str qnK ny.toks),("__firstlineno__",.int 60 Bl.toks)]) (by kernel_rfl) (.tail (.tail (.cE .head))) (λw=>by kernel_rfl) _ _ _ _ rfl (qX.toks (Bl.toks+1)) λBp yC=>?_);exact ah ⟨_,_,yC⟩
 intro _ ny bz;refine s9 bz λtq fv mM=>?_;have qX:=mM.perm (L':=bM PK fC es++(n,fH [("__module__",nm),("__qualname__",.str qnK tq),("__firstlineno__",.int 60 fv)])::((P0,gz [(jh,cK)])::(cK,mj cK PK qnK)::(B,cg [.val (.type "object")])::R)) VW;refine ab (wpAny_run (codeAny_body rfl rfl (cw (PF G BM (c:=c) (fr:=fr) (mi 1 rfl) ny qX) ?_ λ_ _ z=>z.elim)) (by intro x;cases x));refine jE λBp VY=>?_;refine U3 VY λaT sl u m tm f1 f2 f3 f4 f5 f6 c1 c2 c3 c4 c5 c6 i1 i2 yC=>?_;refine ab (N6 (cw (Q:=λ_ s'=>∃st ws,St g ((st,bW { cls:=.type "tuple",data:=.seq ws })::(bM PK fC aT++(f6,gY 7 "__ge__" "cmp_to_key.<locals>.K.__ge__" [("mycmp",c)] c6)::(f5,gY 6 "__le__" "cmp_to_key.<locals>.K.__le__" [("mycmp",c)] c5)::(f4,gY 5 "__eq__" "cmp_to_key.<locals>.K.__eq__" [("mycmp",c)] c4)
    :: (f3,gY 4 "__gt__" "cmp_to_key.<locals>.K.__gt__" [("mycmp",c)] c3)::(f2,gY 3 "__lt__" "cmp_to_key.<locals>.K.__lt__" [("mycmp",c)] c2)::(f1,gY 2 "__init__" "cmp_to_key.<locals>.K.__init__" [] c1)
    :: (sl,aM [.val (.str "obj" u)])::(n,fH (wN (.str m tm) (.str qnK tq) (.int 60 fv) (.ref sl) (.ref f1) (.ref f2) (.ref f3) (.ref f4) (.ref f5) (.ref f6) (.ref st)))::(P0,gz [(jh,cK)])::(cK,mj cK PK qnK)::(B,cg [.val (.type "object")])::R)) s') (E:=cU) ?_ ?_ λ_ _ z=>z.elim))
 ·refine ab (wpAny_mkStrs λfs=>?_);refine ab (Qbm ?_);have ti:=(yC.toks (Bp.toks+["obj"].length)).push (o:={ cls:=.type "tuple",data:=.seq fs.toArray }) (P:=bW { cls:=.type "tuple",data:=.seq fs.toArray }) rfl;refine ab (oh (l':=wN (.str m tm) (.str qnK tq) (.int 60 fv) (.ref sl) (.ref f1) (.ref f2) (.ref f3) (.ref f4) (.ref f5) (.ref f6) (.ref Bp.heap.objs.size)) (by kernel_rfl) (.tail (.cE (.tail (.tail (.tail (.tail (.tail (.tail (.tail .head)))))))))  (λw=>by kernel_rfl) _ _ _ _ rfl ti λTh xF=>?_);exact ah ⟨_,_,xF⟩
 intro _ LN bz;refine s9 bz λst ws ti=>?_;generalize hle:wN (.str m tm) (.str qnK tq) (.int 60 fv) (.ref sl) (.ref f1) (.ref f2) (.ref f3) (.ref f4) (.ref f5) (.ref f6) (.ref st)=le at ti;have ti:=ti.perm ((bb (bM PK fC aT) [_,_,_,_,_,_,_,_,_,_,_] R).cons _);have xF:=ti.cX (L':=(n,fH le)::(B,cg [.val (.type "object")])::(sl,aM [.val (.str "obj" u)])::(st,bW { cls:=.type "tuple",data:=.seq ws })::(f6,gY 7 "__ge__" "cmp_to_key.<locals>.K.__ge__" [("mycmp",c)] c6)::(f5,gY 6 "__le__" "cmp_to_key.<locals>.K.__le__" [("mycmp",c)] c5)::(f4,gY 5 "__eq__" "cmp_to_key.<locals>.K.__eq__" [("mycmp",c)] c4)
    :: (f3,gY 4 "__gt__" "cmp_to_key.<locals>.K.__gt__" [("mycmp",c)] c3)::(f1,gY 2 "__init__" "cmp_to_key.<locals>.K.__init__" [] c1)::(f2,gY 3 "__lt__" "cmp_to_key.<locals>.K.__lt__" [("mycmp",c)] c2)::(((P0,gz [(jh,cK)])::(cK,mj cK PK qnK)::bM PK fC aT)++R)) (by kcj_m)
 refine ab (QL (K:=λv N=>∃C ns p tn,v = .ref C∧N=(C,bW (wu B C ns t tq))::(ns,fH (rC le p))::(p,bW (wt C tn))::(B,cg [.val (.type "object")])::(sl,aM [.val (.str "obj" u)])::(st,bW { cls:=.type "tuple",data:=.seq ws })::(f6,gY 7 "__ge__" "cmp_to_key.<locals>.K.__ge__" [("mycmp",c)] c6)::(f5,gY 6 "__le__" "cmp_to_key.<locals>.K.__le__" [("mycmp",c)] c5)::(f4,gY 5 "__eq__" "cmp_to_key.<locals>.K.__eq__" [("mycmp",c)] c4)
    :: (f3,gY 4 "__gt__" "cmp_to_key.<locals>.K.__gt__" [("mycmp",c)] c3)::(f1,gY 2 "__init__" "cmp_to_key.<locals>.K.__init__" [] c1)::(f2,gY 3 "__lt__" "cmp_to_key.<locals>.K.__lt__" [("mycmp",c)] c2)::(((P0,gz [(jh,cK)])::(cK,mj cK PK qnK)::bM PK fC aT)++R)) (λA' s Q S k=>RQ (tq:=tq) M NO (aC _) (mi 1 rfl) ?a1 ?a2 ?a3 ?a4 ?a5 ?a6 ?a7 ?a8 ?a9 s Q S λfin N s' hv S'=>?pZ) ?p9 LN _ xF ?qa)
 case a1=>subst hle;exact aZ rfl
 case a2=>subst hle;kernel_rfl
 case a3=>subst hle;kernel_rfl
 case a4=>subst hle;intro h;cases h
 case a5=>subst hle;kernel_rfl
 case a6=>subst hle;kernel_rfl
 case a7=>subst hle;kernel_rfl
 case a8 =>
  subst hle;unfold wN;simp only [N2,nY,false_imp_iff,implies_true,and_true];exact ⟨.inl ⟨_,_,rfl⟩,.inl ⟨_,_,rfl⟩,.inr (.inl ⟨_,_,rfl⟩),.inr (.inr (.inr ⟨sl,_,"list",rfl,.tail _ (.head _),λo ⟨vs,n,e,_⟩=>by rw [e],by simp⟩)),.fn (by k_mem),.fn (by k_mem),.fn (by k_mem),.fn (by k_mem),.fn (by k_mem),.fn (by k_mem),.inr (.inr (.inl rfl)),.inr (.inr (.inr ⟨st,_,"tuple",rfl,.tail _ (mi 1 rfl),λo e=>by rw [show o=_ from e],by simp⟩))⟩
 case a9 =>
  subst hle;simp only [N2,nY,false_imp_iff,implies_true,and_true];exact ⟨by kernel_rfl,by kernel_rfl,by kernel_rfl,by kernel_rfl,by kernel_rfl,by kernel_rfl,by kernel_rfl⟩
 case pZ =>
  refine uL hv λC ns p tn af fG=>?_;subst af;subst fG;exact k _ _ s' ⟨_,rfl,C,ns,p,tn,rfl,rfl⟩ S'
 case p9 =>
  refine OD λC ns p tn=>?_;exact ⟨C,_,rfl,aC _,λo ho=>by rw [show o=_ from ho];rfl⟩
 case qa =>
  refine OK λs' C ns p tn=>?_;intro S';refine ah (k _ _ s' ⟨C,B,ns,p,t,tq,tn,m,tm,f1,f2,f3,f4,f5,f6,sl,.int 60 fv,st,c1,c2,cK,PK,aT,rfl,i1,i2,rfl⟩ ?_);subst hle;refine S'.sub ?_
  repeat (first | exact List.Sublist.refl _ | apply List.Sublist.cons_cons | apply List.Sublist.cons)
structure FM(g:Gd)(mg mb:Str→Option aq) where
 f:ay
 cc:ay
 P0:ay
 fn : ∃o kV doc pm ct,g.dB.get? f=some o∧f∉g.tabs∧o.data = .func (gy (top 7) "cmp_to_key" "cmp_to_key" .none kV doc pm (.ref cc) ct)
 code : ∃o vs t,g.dB.get? cc=some o∧cc∉g.tabs∧o.data = .fields vs∧vs[1]?=some (.str "cmp_to_key" t)
 hd:Qbx g.dB cc P0
 G:l6 g mg mb
 B:uF g mg
 M:oB g
 NO:rS g
 MX:mg "object"=none
 obj:mb "object"=some (.type "object")
 bc:mb "__build_class__"=some (.builtin "__build_class__")
 nm : ∃nm,mg "__name__"=some nm
noncomputable abbrev zi(name qual:Str)(ps:mA)(fb:NY)(scope:Scope)(cl:List (Str×ay))(c:ay)(pm ct:aq):Obj:={ cls:=.type "function",data:=.func (Bn name qual ps fb scope cl .none .none .none pm (.ref c) ct) }
noncomputable abbrev LP(k:Nat)(name qual:Str)(cl:List (Str×ay))(c':ay)(pm ct:aq):Obj:=zi name qual (Am (bA rH k)) (.stmts (ju (bA rH k))) (mK (bA rH k)) cl c' pm ct
theorem St.fix{f:ay}(S:St g L s)(U:aw f P (bW o) L L')(ho:s.heap.get? f=some o):St g L' s :=
 S.gG (h':=s.heap) U ⟨rfl,λ_ _=>rfl⟩ ho rfl
structure KP where
 (C B ns p f1 f2 c1 c2 cell:ay) (t tq tn:Tok) (m q fl s gt eq lw ge st FN FO B4 B5:aq)
noncomputable def KP.le(k:KP):List (Str×aq):=wN k.m k.q k.fl k.s (.ref k.f1) (.ref k.f2) k.gt k.eq k.lw k.ge k.st
noncomputable def KP.atoms(k:KP):ae:=[(k.C,bW (wu k.B k.C k.ns k.t k.tq)),(k.ns,fH (rC k.le k.p)),(k.p,bW (wt k.C k.tn)),(k.f1,bW (LP 2 "__init__" "cmp_to_key.<locals>.K.__init__" [] k.c1 k.FN k.FO)),(k.f2,bW (LP 3 "__lt__" "cmp_to_key.<locals>.K.__lt__" [("mycmp",k.cell)] k.c2 k.B4 k.B5))]
theorem RX{f:aq}(ha:GX g A L (vy ts) K):GX g A L (sy f false ts []) λx M=>∃vs,x=⟨vs,[]⟩∧K vs M:=λs Q S k=>by
 unfold sy;change aJ _ _ (fo (vy ts) _) _ _ _
 refine ab (ha s _ S λvs M s' hv S'=>ab (ah ?_));refine aK ?_;change aJ _ _ (ite _ _ _) _ _ _
 refine lB (by rfl) ?_;refine ab (ah (ab (ah (ah (k _ _ s' ⟨vs,rfl,hv⟩ S')))))
theorem RY{mg mb:Str→Option aq}(D:FM g mg mb){X:ae}{c:ay}{rs:List fK}{Q:oP→aU→Prop}(hX:ml D.P0 jh qnK fC X)(lG:env.code = .ref D.cc)(gs:env.globals=cm)(MY:env.builtins=dU)(jN:gm zh env=pure [(("mycmp":Str),c)])(oj:A.depth<iX)
  (hk:env.scope.kind = .function) (hl:env.kindOf "object"=some .globalImplicit) (hq:qualnameIn env "K" "K"=qnK)
  (h : ∀(k:KP) X',ml D.P0 jh qnK fC X'→k.cell=c→(k.c1,je "cmp_to_key.<locals>.K.__init__")∈X'→(k.c2,je "cmp_to_key.<locals>.K.__lt__")∈X'→∃L',jx g A env "K" (.ref k.C) (k.atoms++(X'++R)) L'∧SX g A L' env rs Q) :
  SX g A (X++R) env (fu 7 0::rs) Q:=i9 λs S=>by
 rw [show fu 7 0 = .ClassDef "K" [.Name "object" ⟨60,12,60,18⟩] [] rH [] [] zh none "K" ["obj"] jh from rfl,arm_exec_ClassDef];refine cT D.nm λnm wO=>?_;refine ab (ah (ab (bT ?_)));unfold buildClassGuard;rw [MY];refine ab (ab (Gi (S.sT D.G.bn D.G.b1) ?_));rw [D.bc];refine ah (ab (aK ?_));refine ab (RX (pK (rest:=[]) (K:=λv M=>v = .type "object"∧M=X++R) (K':=λvs M=>vs=[.type "object"]∧M=X++R) (λs Q S k=>G6 (A:=A) (L:=X++R) (a:=.val (.type "object")) D.G D.MX D.obj gs MY hk hl (by decide) rfl s Q cU S λv s' hv S'=>k v _ s' ⟨hv,rfl⟩ S') ?_) s _ S ?_)
 ·refine t6 ?_;intro s Q S k;exact pP s Q S λvs M s' h S'=>k vs M s' (by obtain ⟨rfl,rfl⟩:=h;exact ⟨rfl,rfl⟩) S'
 intro _ M aW bz;refine du bz λvs af fG vb=>?_;subst af;subst fG;subst vb;intro aN;refine ab (bT (aK ?_));rw [hq];refine RW D.G D.B D.M D.NO wO hX lG gs (λR=>oC.top D.hd D.code.choose_spec.choose_spec.choose_spec.2.1) jN oj aW _ aN ?_;intro v M bu bz;obtain ⟨C,B,ns,p,t,tq,tn,m,tm,f1,f2,f3,f4,f5,f6,sl,fl,st,c1,c2,cK,PK,es,rfl,i1,i2,rfl⟩:=bz;intro aS;refine ap (aS.get (mi 3 rfl)) λo1 BQ VZ=>?_;refine s9 VZ λFN FO af=>?_;subst af;have aS:=aS.fix (.tail (.tail (.tail .head))) BQ;refine ap (aS.get (mi 4 rfl)) λo2 ho2 V0=>?_;refine s9 V0 λB4 B5 af=>?_;subst af;have aS:=aS.fix (.tail (.tail (.tail (.tail .head)))) ho2;refine ap (h ⟨C,B,ns,p,f1,f2,c1,c2,c,t,tq,tn,.str m tm,.str qnK tq,fl,.ref sl,.ref f3,.ref f4,.ref f5,.ref f6,.ref st,FN,FO,B4,B5⟩ ((D.P0,gz [(jh,cK)])::(cK,mj cK PK qnK)::bM PK fC es) (.inr ⟨cK,PK,es,rfl⟩) rfl (md 2 i1.mem) (md 2 i2.mem)) λL' hst FP=>?_;refine ab (ah (ab (bT (ab (Qcd (hst _ bu _ _ rfl aS λcC cJ=>ah ?_))))));exact FP cC cJ
theorem Uo(D:FM g mg mb)(hA:bZ (n+2) A)(hX:ml D.P0 jh qnK fC X):
  GX g A (X++R) (call (.ref D.f) [mv]) λv M=>∃(k:KP) (X':ae),v = .ref k.C∧ml D.P0 jh qnK fC X'∧(k.c1,je "cmp_to_key.<locals>.K.__init__")∈X'∧(k.c2,je "cmp_to_key.<locals>.K.__lt__")∈X'∧M=k.atoms++(k.cell,az (some (.val mv)))::(X'++R):=by
 refine wf D.fn λo kV doc pm ct ho fX hd=>?_;refine xL (hclo:=by rfl) (hco:=by rfl) (hgen:=by rfl) (binds:=[("mycmp",mv)]) (.top ho fX) hd rfl (.top (by obtain ⟨oc,vs,t,h⟩:=D.code;exact ⟨D.cc,oc,vs,t,rfl,h⟩)) hA.room ?_ (λF=>[("mycmp",F+1)]) (λ_=>rfl) λF=>?_
 ·intro s S;exact dY rfl
 generalize (F+1:Nat)=c1;refine ⟨(c1,az (some (.val mv)))::(F,am [])::(X++R),BX.cons (a:=.val mv) (iy (c:=c1) rfl .head) rfl BX.nil,?_⟩;have fB:bZ (n+1) (A.deeper (ol (gy (top 7) "cmp_to_key" "cmp_to_key" .none kV doc pm (.ref D.cc) ct) D.f F [("mycmp",c1)])):=hA.deeper;refine dS (L:=X++((c1,az (some (.val mv)))::(F,am [])::R)) ?_ (aj.perm (bb X [_,_] R));show SX g _ _ _ [fu 7 0,.Return (some (.Name "K" ⟨82,11,82,12⟩)) ⟨82,4,82,12⟩] _
 refine RY (c:=c1) (rs:=[.Return (some (.Name "K" ⟨82,11,82,12⟩)) ⟨82,4,82,12⟩]) D hX rfl rfl rfl (by kernel_rfl) fB.room rfl rfl (by kernel_rfl) λk X' FP hc h1 h2=>⟨_,b7 (m:=[]) (L':=k.atoms++(X'++(c1,az (some (.val mv)))::(F,am [("K",.ref k.C)])::R)) (.cE (.cE (.tail .head))) rfl rfl,?_⟩;refine pM (a:=.ref k.C) (bU (m:=[("K",.ref k.C)]) (ag _ (ag _ (mi 1 rfl))) rfl) λv s hv S=>?_;cases AV.cW hv;refine ⟨_,⟨k,X',rfl,FP,h1,h2,rfl⟩,?_⟩;refine S.cX (aj.mO ?_);rw [hc];exact aj.pick (aR.cE aR.head) iI (aj.mO (aj.skip aj.refl))
theorem Tq{K:mz}(H : ∀q∈K,h.get? q.1=some q.2):K.In h:=by
 intro a o e
 induction K with
 | nil=>cases e
 | cons q K ih =>
  rw [aP] at e;cases hb:a==q.1 with
  | true=>rw [hb] at e;cases e;rw [beq_iff_eq.mp hb];exact H q (.head _)
  | false=>rw [hb] at e;exact ih (λq hq=>H q (.tail _ hq)) e
theorem xn{h:Heap}{K:mz}(H : ∀q∈K,h.get? q.1=some q.2){a:ay}{o:Obj}(hm:(a,o)∈K):K.lookup a=some o:=by
 induction K with
 | nil=>cases hm
 | cons q K ih =>
  rw [aP];cases hb:a==q.1 with
  | true =>
   have h1:=H _ hm;have h2:=H q (.head _);rw [← beq_iff_eq.mp hb] at h2;dsimp only at h1;rw [h1] at h2;exact h2.symm
  | false =>
   rcases List.mem_cons.mp hm with e | hm
   ·rw [← e] at hb;simp at hb
   ·exact ih (λq hq=>H q (.tail _ hq)) hm
structure kQ(K:mz)(k:KP):Prop where
 cls:K.lookup k.C=some (wu k.B k.C k.ns k.t k.tq)
 ns : ∃es ep,K.lookup k.ns=some { cls:=.type "dict",data:=.dict es ep }∧iH (rC k.le k.p) es.toList
 p:K.lookup k.p=some (wt k.C k.tn)
 f1 : ∃o,K.lookup k.f1=some o∧o.cls = .type "function"
 f2 : ∃o,K.lookup k.f2=some o∧o.cls = .type "function"
def KP.In(k:KP)(L:ae):Prop:=∀q∈k.atoms,q∈L
theorem JI{k:KP}(hk:k.In L){s:aU}(S:St g L s): ∃K:mz,K.In s.heap∧kQ K k:=by
 refine ap (S.get (hk _ (.head _))) λo1 h1 e1=>?_;refine ap (S.get (hk _ (mi 1 rfl))) λo2 h2 V1=>?_;refine cp V1 λes ep e2 he=>?_;refine ap (S.get (hk _ (mi 2 rfl))) λo3 h3 e3=>?_;refine ap (S.get (hk _ (mi 3 rfl))) λo4 h4 e4=>?_;refine ap (S.get (hk _ (mi 4 rfl))) λo5 h5 e5=>?_;cases e1;cases e2;cases e3;cases e4;cases e5;have H : ∀q∈[(k.C,_),(k.ns,_),(k.p,_),(k.f1,_),(k.f2,_)],s.heap.get? q.1=some q.2 :=
  List.forall_mem_cons.mpr ⟨h1,List.forall_mem_cons.mpr ⟨h2,List.forall_mem_cons.mpr ⟨h3,List.forall_mem_cons.mpr ⟨h4,List.forall_mem_cons.mpr ⟨h5,λ_ h=>nomatch h⟩⟩⟩⟩⟩
 exact ⟨_,Tq H,xn H (.head _),⟨es,ep,xn H (mi 1 rfl),he⟩,xn H (mi 2 rfl),⟨_,xn H (mi 3 rfl),rfl⟩,⟨_,xn H (mi 4 rfl),rfl⟩⟩
variable {K:mz}{k:KP}
theorem kQ.find(V:kQ K k){name:Str}{r:Option aq}(hr:((rC k.le k.p).lookup name).or (Qcn "object" name)=r):j' K (.ref k.C) name=some r:=by
 refine cp V.ns λes ep h1 h2=>?_;have e1:ownIn K name (.ref k.C)=some ((rC k.le k.p).lookup name):=by
  unfold ownIn;dsimp only;rw [V.cls];show nsIn K k.ns name=_
  unfold nsIn;rw [h1];dsimp only;rw [← h2.find name];cases es.toList.find? (·.key.isStr name) with
  | some e=>rfl
  | none=>rw [h2.noRef];rfl
 unfold j';dsimp only;rw [V.cls];show Qaw K name [.ref k.C,.type "object"]=_
 unfold Qaw;rw [e1];cases hl:(rC k.le k.p).lookup name with
 | some v=>rw [hl] at hr;exact congrArg some hr
 | none =>
  rw [hl,k9] at hr;show Qaw K name [.type "object"]=_
  unfold Qaw;show (match some (Qcn "object" name) with | some (some v)=>some (some v) | some none=>Qaw K name [] | none=>none)=_
  rw [hr];cases r<;>rfl
theorem kQ.clsIn(V:kQ K k):clsIn K k.C=some (qk k.ns qnK [.ref k.C,.type "object"] false ["obj"]):=by unfold W.clsIn;rw [V.cls];rfl
theorem kQ.LQ(V:kQ K k):tR K (.ref k.C)=some (.type "type"):=by show (K.lookup k.C).map (·.cls)=_;rw [V.cls];rfl
theorem kQ.E9(V:kQ K k):tR K (.ref k.p)=some (.type "member_descriptor"):=by show (K.lookup k.p).map (·.cls)=_;rw [V.p];rfl
theorem kQ.call(V:kQ K k):lZ K (.ref k.C) "__call__"=some (some (.builtin "type.__call__")):=by
 unfold lZ;rw [V.LQ];kernel_rfl
theorem kQ.makes(V:kQ K k):Qar K k.C=true:=by
 unfold Qar;rw [V.cls];show (true&&true&&true&&true&&(Gs [cV k.C,.type "object"] (.ref k.C))&&(Gs [cV k.C,.type "object"] (.type "object"))&&(lZ K (.ref k.C) "__call__"==some (some (.builtin "type.__call__")))&&(instIn K (.ref k.C) (.type "type")==some true))=true
 rw [V.call];unfold instIn;rw [V.LQ,List.contains_iff_mem.mpr (aC _),List.contains_iff_mem.mpr (mi 1 rfl)];simp only [Bool.and_self,Bool.true_and,beq_self_eq_true,cP];kernel_rfl
theorem kQ.base(V:kQ K k):vN K k.C where
 ga:=V.find (by kernel_rfl)
 gt:=V.find (by kernel_rfl)
 sa:=V.find (by kernel_rfl)
 over:=by unfold QbS;rw [V.clsIn];rfl
theorem kQ.slot(V:kQ K k):oY K k.C "obj" k.p 0:=by
 have hf:j' K (.ref k.C) "obj"=some (some (.ref k.p)):=V.find (by kernel_rfl);have hg:lZ K (.ref k.p) "__get__"=some (some (.builtin "member_descriptor.__get__")):=by unfold lZ;rw [V.E9];kernel_rfl
 have ht:QbC K (.ref k.p)=some true:=by
  unfold QbC lZ;rw [V.E9];kernel_rfl
 refine ⟨?_,V.E9,?_,λod=>?_⟩
 ·unfold GB;rw [hf,cP];dsimp only;rw [ht];rfl
 ·have hr:recIn K k.p "member_descriptor"=some [.str "obj" k.tn,.ref k.C,.builtin "proto.slot",.builtin "proto.slot#set",gj 0]:=by unfold recIn;rw [V.p];rfl
  unfold slotIn;rw [hr,V.clsIn];show (if (true&&true&&true&&(Gs [cV k.C,.type "object"] (.ref k.C))&&true)=true then some 0 else none)=_
  rw [List.contains_iff_mem.mpr (aC _)];rfl
 ·unfold NA;rw [V.clsIn,cP,hf,cP];dsimp only;rw [hg,cP];dsimp only;rw [ht,cP]
end
section
open PySem PySem.W PyProof.Rows PySem.Builtin
variable {g:Gd}{A:bg}{L L' bX bF L₁ L₂ bH R:ae}{env:Env}
theorem qL.code{c:ay}{q:Str}(h:(c,je q)∈L):qL g L (.ref c) q:=λs S=>by
 refine ap (S.get h) λo ho V2=>?_;refine cp V2 λvs t hd hq=>?_;exact ⟨c,o,vs,t,rfl,ho,hd,hq⟩
structure AZ(n:Nat)(g:Gd)(bF:ae)(mv:aq)(dom:Int→Prop)(ρ:Int→Int):Prop where
 kept : ∀A M,bZ n A→cu bF M→jI g A M mv
 call : ∀A M,bZ n A→cu bF M→∀v w i j,dom i→dom j→AV.Is v (.int i)→AV.Is w (.int j)→GE g A M (call mv [v,w] []) (.int (ρ i-ρ j)) M
def KVk(k:KP)(dom:Int→Prop)(ρ:Int→Int)(Kx:ae)(kv:aq)(r:Int):Prop:=∃x dx i,kv = .ref x∧Kx=[(x,dT k.C dx [.int i]),(dx,et [])]∧dom i∧r=ρ i
section
variable {k:KP}
variable {P:mz→Prop}
theorem yE(hk:k.In L)(h : ∀K,kQ K k→P K):u9 g L P:=λs S=>by
 refine ap (JI hk S) λK X V=>?_;exact ⟨K,X,h K V⟩
theorem KP.In.inc(hk:k.In L)(hi:cu L L'):k.In L':=λq hq=>hi q (hk q hq)
theorem Up(hA:bZ (n+2) A)(hk:k.In L)(h1:(k.c1,je "cmp_to_key.<locals>.K.__init__")∈L){v:aq}{i:Int}(hv:AV.Is v (.int i)):
  CX g A L (.call (.ref k.C) ⟨[v],[]⟩) λr M=>∃x dx,r = .ref x∧M=(x,dT k.C dx [.int i])::(dx,et [])::L:=by
 refine HS (fI:=k.f1) (yE hk λK V=>⟨V.makes,V.find (by kernel_rfl),?_⟩) λx dx=>?_
 ·refine ap V.f1 λo e1 e2=>?_;show (K.lookup k.f1).map (·.cls)=_
  rw [e1,jR,e2]
 have fB:bZ (n+1) (Around.making A k.C [v] []):=hA.making;refine rF (binds:=[("self",.ref x),("obj",v)]) (m:=[("self",.ref x),("obj",.int i)]) (.mem (md 2 (hk _ (mi 3 rfl)))) rfl rfl (.code (md 2 h1)) fB.room ?_ (.cons rfl (.cons hv .nil)) rfl rfl ?_
 ·intro s S;exact dY rfl
 intro F;refine sF (hs:=by rfl) (a:=.int i) (x:=.ref x) (by k_all) (by k_all) (Hk (C:=k.C) (p:=k.p) (i:=0) (m:=[]) (yE (hk.inc λp hp=>.tail _ (md 2 hp)) λK V=>⟨V.base,V.slot⟩) (cM _) (Ez) (by k_mem) (by k_upd)) ?_;exact eJ λs S=>⟨_,⟨rfl,x,dx,rfl,rfl⟩,S.ig⟩
theorem RZ{x f:ay}{K:mz}{ox oy:Obj}{od oe:Option Obj}{y:ay}(hu:A.units<w8)(X:K.In s.heap)(I:InstAt s.heap x ox C od)(J:InstAt s.heap y oy C oe)
  (hs:j' K (.ref C) "__lt__"=some (some (.ref f))) (hf:isFn K (.ref f)=true) (h:aJ (bD g.prog g.w) A (call (.ref f) [.ref x,.ref y]) (W.CmpBack Q) E s):aJ (bD g.prog g.w) A (nc .Lt (.ref x) (.ref y)) Q E s:=by
 have one:aJ (bD g.prog g.w) A (tryCompare (.ref x) "__lt__" (.ref y)) (λr s'=>∃v,r=some v∧Q v s') E s:=by
  unfold tryCompare;refine ab (ifBound_K X I hs hf (cw h (λv s' hv=>?_) λ_ _ e=>e));cases v<;>first | exact hv.elim | exact ah ⟨_,rfl,hv⟩
 refine cmp_ofLt ?_;unfold QaZ;simp only [oneThing_ref];refine aK (ab (wpAny_cRoomFor hu ?_));refine ab (I.type.here (ab (J.type.here ?_)));rw [Qcs (by simp)];refine ab (ah ?_);simp only [bp,Qcv];refine ab (cw one (λr s' z=>?_) λ_ _ e=>e);refine ap z λv af hq=>?_;subst af;exact ah hq
theorem k_lt{n:Nat}{mv:aq}{dom:Int→Prop}{ρ:Int→Int}(hA:bZ (n+1) A)(hc:AZ n g bF mv dom ρ)(eV:cu bF L)(hk:k.In L)(hcell:(k.cell,az (some (.val mv)))∈L)(h2:(k.c2,je "cmp_to_key.<locals>.K.__lt__")∈L)
  {x dx y dy:ay} {i j:Int} (hx:(x,dT k.C dx [.int i])∈L) (hdx:(dx,et [])∈L) (hy:(y,dT k.C dy [.int j])∈L) (hdy:(dy,et [])∈L) (hi:dom i) (hj:dom j) :
  CX g A L (.call (.ref k.f2) ⟨[.ref x,.ref y],[]⟩) λr M=>r = .bool (decide (ρ i<ρ j))∧M=L:=by
 refine rF (binds:=[("self",.ref x),("other",.ref y)]) (m:=[("self",.ref x),("other",.ref y)]) (.mem (hk _ (mi 4 rfl))) rfl rfl (.code h2) hA.room ?_ (.cons rfl (.cons rfl .nil)) rfl rfl ?_
 ·intro s S;exact dY rfl
 intro F;generalize zj:jw (Bn "__lt__" "cmp_to_key.<locals>.K.__lt__" _ _ _ _ _ _ _ _ _ _) _ _=en;have fB:bZ n (A.deeper en):=hA.deeper;subst zj;have hF : ∀p∈L,p∈(F,am [("self",.ref x),("other",.ref y)])::L:=λp hp=>.tail _ hp;have e:decide (ρ i<ρ j)=decide (ρ i-ρ j<0):=by rw [decide_eq_decide];exact Xd
 rw [e];refine pM (a:=.bool (decide (ρ i-ρ j<0))) (I0 (hm:=by kst_p) (PE.jL (mJ (L₁:=(F,am [("self",.ref x),("other",.ref y)])::L) (L₂:=(F,am [("self",.ref x),("other",.ref y)])::L) (f:=mv) (as:=[.int i,.int j]) (ks:=[]) ?a1 ?a2 jU ?a3 ?a4)) gP qN) λv s hv S=>?_
 case a1=>exact xz (hk:=by rfl) (hl:=by rfl) (hd:=by decide) (hn:=by decide) rfl (hF _ hcell)
 case a2=>exact b9 (ie (o:=.ref x) (by k_all) λv hv=>by cases AV.cW hv;exact Dx (yE (hk.inc hF) λK V=>⟨V.base,V.slot⟩) (hF _ hx) (hF _ hdx) rfl oW) (b9 (ie (o:=.ref y) (by k_all) λv hv=>by cases AV.cW hv;exact Dx (yE (hk.inc hF) λK V=>⟨V.base,V.slot⟩) (hF _ hy) (hF _ hdy) rfl oW) dh)
 case a3=>exact hc.kept _ _ fB (eV.trans hF)
 case a4 =>
  intro vs be bk eF;refine eQ bk.two λv w af hv hw=>?_;subst af;cases eF.zero;exact hc.call _ _ fB (eV.trans hF) v w i j hi hj hv hw
 ·cases AV.cW hv;exact ⟨L,⟨rfl,rfl⟩,S.ig⟩
theorem XX(hc:AZ n g bF mv dom ρ)(hk:k.In bF)(hcell:(k.cell,az (some (.val mv)))∈bF)(h1:(k.c1,je "cmp_to_key.<locals>.K.__init__")∈bF)(h2:(k.c2,je "cmp_to_key.<locals>.K.__lt__")∈bF):
  jd (n+2) g bF (.ref k.C) dom ρ (KVk k dom ρ) where
 kept:=λA M hA hi=>Hj (yE (hk.inc hi) λK V=>⟨⟨_,_,V.cls,rfl⟩,V.call⟩)
 call:=λA M hA hi v i hd hv s Q E S kk=>by
  refine ja (GX.rf (Up (n:=n) hA (hk.inc hi) (hi _ h1) hv) s Q S λr M' s' hr S'=>?_);refine cp hr λx dx af fG=>?_;subst af;subst fG;exact kk _ [(x,dT k.C dx [.int i]),(dx,et [])] s' ⟨x,dx,i,rfl,rfl,hd,rfl⟩ S'
 lt:=λA M hA hi Kx Ky kv kw r r' hx hy MZ M0 s Q E S kk=>by
  refine lF hx λx dx i af fG uY vb=>?_;subst af;subst fG;subst vb;refine lF hy λy dy j af fG zk vb=>?_;subst af;subst fG;subst vb;have mx:=MZ _ (.head _);have M1:=MZ _ (mi 1 rfl);have my:=M0 _ (.head _);have M2:=M0 _ (mi 1 rfl);refine ap (JI (hk.inc hi) S) λK X V=>?_;refine cp (inst_of S mx M1) λox od I _=>?_;refine cp (inst_of S my M2) λoy oe J _=>?_;refine RZ (f:=k.f2) (by have:=hA.units;exact bB (.i (.t (.a .A (.m 8 (.a .B (.c 2)))) .C) (.t .A .C)) rfl this) X I J (V.find (by kernel_rfl)) ?_ (ja ?_)
  ·refine ap V.f2 λo e1 e2=>?_;unfold isFn;show ((K.lookup k.f2).map (·.cls)==_)=true
   rw [e1,jR,e2];rfl
  ·refine GX.rf (k_lt (n:=n) (hA.le (bV (.l (.a .A .O) (.a .A (.c 2))) rfl)) hc hi (hk.inc hi) (hi _ hcell) (hi _ h2) mx M1 my M2 uY zk) s _ S ?_;refine vC λs'=>?_;intro S';exact kk _ s' rfl S'
end
end
section
open PySem PySem.W PyProof.Rows PySem.Builtin
variable {g:Gd}{A:bg}{L L' bX bF L₁ L₂ bH R:ae}{env:Env}
theorem Hx{mg mb:Str→Option aq}(G:l6 g mg mb)(B:uF g mg){c P:ay}{qf:Pos→Str}{es:List (Pos×ay)}{pos:Pos}{ps:mA}{body:Expr}{scope:Scope}{cl:List (Str×ay)}
  (lG:env.code = .ref c) (gs:env.globals=cm) (hC:oC g (bM P qf es++R) c P) (hq : ∀p,qf p=env.qual ++ "<lambda>") (hd:defaultsOf ps env=([],[])) (jN:gm scope env=pure cl) :
  GX g A (bM P qf es++R) (eval (.Lambda ps body scope pos) env) λv M=>∃f c' aT pm ct,v = .ref f∧oJ qf aT (env.qual ++ "<lambda>") c'∧(∀e∈es,e∈aT)∧M=(f,bW (zi "<lambda>" (env.qual ++ "<lambda>") ps (.expr body) scope cl c' pm ct))::(bM P qf aT++R):=λs Q S k=>by
 refine kla_eval hd ?_
 have:=IK (A:=A) (pos:=pos) (fl:=pos.line) (name:="<lambda>") (ps:=ps) (fb:=.expr body) G B lG gs hC (λp _=>by rw [hq,hq]) jN (λb hb=>nomatch hb) s Q S
 rw [hq] at this;refine this ?_;refine GV λs' f c' aT h1 h2=>?_;intro S';refine ap (S'.get (.head _)) λo ho V3=>?_;refine s9 V3 λpm ct af=>?_;subst af;exact k _ _ s' ⟨f,c',aT,pm,ct,rfl,h1,h2,rfl⟩ (S'.fix .head ho)
theorem JJ{p:fN}{e:Expr}{a:AV}(h:PE g A (p::L) env e a):GE g A (p::L) (eval e env) a L:=λs Q S k=>h s Q cU S λv s' hv S'=>k v s' hv S'.ig
noncomputable abbrev A0(l:List Arg):mA:={ posonlyargs:=[],args:=l,vararg:=none,kwonlyargs:=[],kw_defaults:=[],kwarg:=none,defaults:=[] }
theorem XY{f c' fc ls:ay}{p4:Pos}(hf:(f,bW (zi "<lambda>" q (A0 [⟨"v",none,p1⟩]) (.expr (.Subscript (.Name "firsts" p2) (.Name "v" p3) p4)) { kind:=.function,names:=[("v",.local),("firsts",.free)],isGenerator:=false,isCoroutine:=false,more:=[] } [("firsts",fc)] c' pm ct))∈bF)
  (hc:(c',je q)∈bF) (B6:(fc,az (some (.ref ls)))∈bF) (hl:(ls,ai is)∈bF) (hz:is.length≤100000):jd 1 g bF (.ref f) (λi=>0≤i∧i<is.length) (λi=>is[i.toNat]?.getD 0) (λKx kv r=>Kx=[]∧AV.Is kv (.int r)) where
 kept:=λA M hA hi=>pN (.mem (hi _ hf)) rfl
 call:=λA M hA hi v i hd hv s Q E S k=>by
  refine ja (I3 (a:=.int (is[i.toNat]?.getD 0)) (L₁:=M) (binds:=[("v",v)]) (m:=[("v",.int i)]) (.mem (hi _ hf)) rfl rfl (.code (hi _ hc)) hA.room ?_ (.cons hv .nil) rfl rfl (λF=>?_) rfl rfl rfl rfl s Q S λw s' hw S'=>k w [] s' ⟨rfl,hw⟩ S')
  ·intro s S;exact dY rfl
  ·have aY:i.toNat<is.length:=sZ hd;refine JJ (fM (l:=ls) (k:=i) (xs:=is.map .int) (a:=.int (is[i.toNat]?.getD 0)) (xz (hk:=by rfl) (hl:=by rfl) (hd:=by decide) (hn:=by decide) (c:=fc) rfl (.tail _ (hi _ B6))) (by k_all) (.tail _ (hi _ hl)) hd.1 (ED hz hd) ?_);rw [aA,au aY];rfl
 lt:=λA M hA hi Kx Ky kv kw r r' hx hy _ _ s Q E S k=>by
  obtain ⟨rfl,hx⟩:=hx;obtain ⟨rfl,hy⟩:=hy;exact qN _ _ hx hy s Q E S k
theorem XZ{f c' uc ls:ay}{q:Str}{p1 p1' p2 p3 p4 p5 p6 p7 p8:Pos}{pm ct:aq}{is:List Int}(hf:(f,bW (zi "<lambda>" q (A0 [⟨"a",none,p1⟩,⟨"b",none,p1'⟩]) (.expr (.BinOp (.Subscript (.Name "urges" p2) (.Name "a" p3) p4) .Sub (.Subscript (.Name "urges" p5) (.Name "b" p6) p7) p8)) { kind:=.function,names:=[("a",.local),("b",.local),("urges",.free)],isGenerator:=false,isCoroutine:=false,more:=[] } [("urges",uc)] c' pm ct))∈bF)
  (hc:(c',je q)∈bF) (B6:(uc,az (some (.ref ls)))∈bF) (hl:(ls,ai is)∈bF) (hz:is.length≤100000):AZ 1 g bF (.ref f) (λi=>0≤i∧i<is.length) (λi=>is[i.toNat]?.getD 0) where
 kept:=λA M hA hi=>pN (.mem (hi _ hf)) rfl
 call:=λA M hA hi v w i j uY zk hv hw=>by
  refine I3 (a:=.int (is[i.toNat]?.getD 0-is[j.toNat]?.getD 0)) (L₁:=M) (binds:=[("a",v),("b",w)]) (m:=[("a",.int i),("b",.int j)]) (.mem (hi _ hf)) rfl rfl (.code (hi _ hc)) hA.room ?_ (.cons hv (.cons hw .nil)) rfl rfl (λF=>?_)
  ·intro s S;exact dY rfl
  ·have aY:i.toNat<is.length:=sZ uY;have yF:j.toNat<is.length:=sZ zk;refine JJ (jX (fM (l:=ls) (k:=i) (xs:=is.map .int) (a:=.int (is[i.toNat]?.getD 0)) (xz (hk:=by rfl) (hl:=by rfl) (hd:=by decide) (hn:=by decide) (c:=uc) rfl (.tail _ (hi _ B6))) (by k_all) (.tail _ (hi _ hl)) uY.1 (ED hz uY) ?_) (fM (l:=ls) (k:=j) (xs:=is.map .int) (a:=.int (is[j.toNat]?.getD 0)) (xz (hk:=by rfl) (hl:=by rfl) (hd:=by decide) (hn:=by decide) (c:=uc) rfl (.tail _ (hi _ B6))) (by k_all) (.tail _ (hi _ hl)) zk.1 (ED hz zk) ?_) ur)
   ·rw [aA,au aY];rfl
   ·rw [aA,au yF];rfl
end
section
open PySem PySem.W PySem.W.X PySem.Builtin PyProof.Rows PySem.Calls
variable {g:Gd}{A:bg}{L bX bF L₁ L₂ bH R:ae}{env:Env}
theorem bZ.in1(h:bZ (n+1) A):bZ n A.in1:=by
 refine ⟨h.handled,?_,?_⟩
 ·have:=h.depth;show A.depth+n<_;exact bB (.i (.t (.a .A (.a .B .O)) .C) (.t (.a .A .B) .C)) rfl this
 ·have:=h.units;show A.units+1+8*n<_;exact bB (.i (.t (.a .A (.m 8 (.a .B .O))) .C) (.t (.a (.a .A .O) (.m 8 .B)) .C)) rfl this
def AM(ρ:Int→Int)(is out:List Int):Prop:=∃p:List Nat,p.Perm (aF is.length)∧p.Pairwise (λi j=>ρ (is.getD i 0)<ρ (is.getD j 0)∨(ρ (is.getD i 0)=ρ (is.getD j 0)∧i<j))∧out=p.map λi=>is.getD i 0
theorem Ae(is:List Int):(aF is.length).map (λi=>is.getD i 0)=is:=by
 apply xh;intro i;rw [aA];by_cases hi:i<is.length
 ·rw [dI hi,au hi,jR,aI,au hi];rfl
 ·rw [dm (by simpa using hi),dm (by exact yG hi)];rfl
theorem R0(h:bP vs (is.map .int)): ∀l:List Nat,(∀i∈l,i<is.length)→bP (l.map λi=>vs.getD i cQ) ((l.map λi=>is.getD i 0).map AV.int):=by
 intro l
 induction l with
 | nil=>intro _;exact .nil
 | cons i l ih =>
  intro hl;have hi:=hl i (.head _);obtain ⟨v,h1,h2⟩:=h.get (k:=i) (a:=.int (is.getD i 0)) (by rw [aA,aI,au hi];rfl);refine .cons ?_ (ih λj hj=>hl j (.tail _ hj));show AV.Is (vs.getD i cQ) (.int (is.getD i 0))
  rw [aI,h1];exact h2
section
variable {s:aU}{D kS:ay}
variable {Q:α→aU→Prop}{f:Array aq→Array aq}{k:Unit→Sem α}{xs:Array aq}
theorem AN{a:ay}{e:Nat}(S:St g L s)(U : ∀e',aw a (bW (seqObj "list" xs e)) (bW (seqObj "list" (f xs) e')) L (L' e'))(h1:xs.size≤1000)(h2:(f xs).size≤1000)
  (h : ∀e' s',St g (L' e') s'→aJ (bD g.prog g.w) A (k ()) Q cU s'):aJ (bD g.prog g.w) A (Builtin.List.listUpdate (.ref a) f>>=k) Q cU s:=by
 refine ap (S.get (U 0).mem) λo ho af=>?_;subst af;refine ab (Oa ho rfl ?_ (by rw [sizeLine_eq];exact Kr h1) (by rw [sizeLine_eq];exact Kq h2));exact h _ _ (S.gG (U _) (cz ..) (Qb9 ho f) rfl)
theorem IN{st:SortSt}{ks:Array aq}{e e1:Nat}{out:List aq}{P:Qay→aU→Prop}(X9:(arrOf st).map (·.2)=out.toArray)(hz:out.length≤100)(hkz:ks.size≤100)(hf:failedOf st=none)
  (S:St g ((kS,bW (seqObj "list" ks e))::(D,bW (seqObj "list" #[] e1))::L) s) (h : ∀c s',St g ((D,bW (seqObj "list" out.toArray c))::L) s'→P (.done (.ret .none)) s'):aJ (bD g.prog g.w) A (ksk_tail D false e1 (.ref kS) st) P cU s:=by
 unfold ksk_tail;dsimp only;rw [X9];refine AN S (λ_=>.head) (x8 hkz) (cM _) λe' s' S'=>?_;refine ab (wpAny_letGo ?_);refine ap (S'.get (mi 1 rfl)) λo ho af=>?_;subst af;refine ab (Gj ho rfl ?_);refine AN S' (λ_=>.tail .head) (cM _) (by show out.toArray.size≤_;rw [eh];exact x8 hz) λc bu aS=>?_;rw [hf];simp only [bne_self_eq_false,bp,Qcv];exact ah (h c _ aS.ig)
variable {Q:PUnit→aU→Prop}{body:aq→PUnit→Sem (ForInStep PUnit)}
theorem Tr{e1:Nat}
  (hb : ∀x i (ks:List aq) e s,AV.Is x (.int i)→dom i→ks.length≤100→St g ((kS,bW (seqObj "list" ks.toArray e))::(D,bW (seqObj "list" #[] e1))::L) s→aJ (bD g.prog g.w) A (body x ⟨⟩) (λr s'=>r = .yield ⟨⟩∧∃k e',AV.Is k (.int (ρ i))∧St g ((kS,bW (seqObj "list" (ks++[k]).toArray e'))::(D,bW (seqObj "list" #[] e1))::L) s') cU s) :
  ∀(r:List aq) (ir kz:List Int) (ks:List aq) (e:Nat) (s:aU),bP r (ir.map .int)→(∀i∈ir,dom i)→ks.length+r.length≤100→bP ks (kz.map .int)→St g ((kS,bW (seqObj "list" ks.toArray e))::(D,bW (seqObj "list" #[] e1))::L) s →
   (∀B7 e' s',bP B7 ((kz++ir.map ρ).map .int)→St g ((kS,bW (seqObj "list" B7.toArray e'))::(D,bW (seqObj "list" #[] e1))::L) s'→Q ⟨⟩ s')→aJ (bD g.prog g.w) A (forIn r PUnit.unit body) Q cU s:=by
 intro r
 induction r with
 | nil =>
  intro ir kz ks e s hr _ _ hk S k;cases ir with
  | cons=>cases hr
  | nil =>
   rw [vv];exact ah (k ks e s (by simpa using hk) S)
 | cons x r ih =>
  intro ir kz ks e s hr hd hz hk S k;cases ir with
  | nil=>cases hr
  | cons i ir =>
   rw [aB] at hr;cases hr with
   | cons hx hr =>
    rw [cj] at hz;rw [ee];refine ab (cw (hb x i ks e s hx (hd i (.head _)) (bK (.i (.l (.a .A (.a .B .O)) (.c 100)) (.l .A (.c 100))) rfl hz) S) (λq s' hq=>?_) λ_ _ z=>z.elim);obtain ⟨rfl,kv,e',kB,S'⟩:=hq;refine ih ir (kz++[ρ i]) (ks++[kv]) e' s' hr (λj hj=>hd j (.tail _ hj)) (by simp;exact bK (.i (.l (.a .A (.a .B .O)) (.c 100)) (.l (.a (.a .A .O) .B) (.c 100))) rfl hz) (by rw [aV];exact hk.snoc kB) S' λB7 e'' nF h1 h2=>k B7 e'' nF (by simpa using h1) h2
end
theorem PH{l:ay}{q:ay}(hA:bZ (n+2) A)(fV:jd n g bF (.ref q) dom ρ KV)(hKV : ∀Kx kv r,KV Kx kv r→Kx=[]∧AV.Is kv (.int r))(eV:cu bF L)
  (hl:(l,ai is)∈L) (kx : ∀i∈is,dom i) (j4:is.length<64) :
  GX g A L (call (.builtin "sorted") [.ref l] [("key",.ref q)]) λv M=>∃D out,v = .ref D∧AM ρ is out∧M=(D,ai out)::L:=by
 intro s Q S k;refine cp (eI S hl) λws nn h1 h2=>?_;obtain ⟨vs,rfl⟩ : ∃vs:List aq,ws=vs.toArray:=⟨ws.toList,by simp⟩;have BS:s.heap.IsList l vs.toArray:=gN h1;have hlen:vs.length=is.length:=by have:=h2.length;simpa using this
 refine call_function_entry_kw kind_sorted plain_sorted entry_sorted (ksk_s1 _ _) ?_;unfold ey.«sorted»;refine ab (m:=checkCount "sorted" 1 1 _) (ah ?_);refine ab (collect_list BS ?_ (by rw [sizeLine_eq];exact EE j4 hlen));refine ab (lg ?_ (by rw [sizeLine_eq];exact EE j4 hlen));have gB:((s.heap.push (seqObj "list" #[] 0)).update s.heap.objs.size (iU (· ++ vs.toArray))).objs.size=s.heap.objs.size+1:=by
  rw [sD,Qbp]
 have yU:(((s.heap.push (seqObj "list" #[] 0)).update s.heap.objs.size (iU (· ++ vs.toArray))).push (seqObj "list" vs.toArray 0)).get? (s.heap.objs.size+1)=some (seqObj "list" vs.toArray 0):=by
  rw [← gB];exact pA _ rfl
 have keep : ∀b o,s.heap.get? b=some o→(((s.heap.push (seqObj "list" #[] 0)).update s.heap.objs.size (iU (· ++ vs.toArray))).push (seqObj "list" vs.toArray 0)).get? b=some o:=λb o q=>by
  have aY:b<s.heap.objs.size:=eu q;rw [ru _ _ _ (by rw [gB];exact lT (zD aY)),Heap.get?_update_ne _ _ _ _ (lT aY),ru _ _ _ (lT aY)];exact q
 have aN:St g ((s.heap.objs.size+1,bW (seqObj "list" vs.toArray 0))::L) { s with heap:=((s.heap.push (seqObj "list" #[] 0)).update s.heap.objs.size (iU (· ++ vs.toArray))).push (seqObj "list" vs.toArray 0) } :=
  S.fresh (S.keeps keep) (sr _) yU rfl
 show aJ _ _ _ _ _ { s with heap:=((s.heap.push (seqObj "list" #[] 0)).update s.heap.objs.size (iU (· ++ vs.toArray))).push (seqObj "list" vs.toArray 0) };rw [gB];generalize (s.heap.objs.size+1:Nat)=D at aN yU ⊢;generalize ({ s with heap:=((s.heap.push (seqObj "list" #[] 0)).update s.heap.objs.size (iU (· ++ vs.toArray))).push (seqObj "list" vs.toArray 0) }:aU)=aW at aN ⊢;refine ap (aN.get (.head _)) λo ho e=>?_;cases e;refine ab (aK (wpAny_call_entry_kw Qcg ⟨_,ho,rfl⟩ Qb' ?body (ksk_l1 _ _)))
 case body =>
  have M3:bZ n A.in1.in1:=(bZ.in1 (n:=n+1) hA).in1;generalize A.in1.in1=A' at M3 ⊢;show aJ _ _ (ey.«list.sort» ⟨[.ref D],[("key",.ref q)]⟩) _ _ _
  have fin : ∀(out:List aq) (os:List Int) c s',bP out (os.map .int)→AM ρ is os→St g ((D,bW (seqObj "list" out.toArray c))::L) s'→Q (.ref D) s':=λout os c s' ho hs S' =>
   k _ _ s' ⟨D,os,rfl,hs,rfl⟩ (S'.Ej λo rb=>by rw [show o=_ from rb];exact ⟨_,_,rfl,by simpa using ho⟩)
  rw [ksk_t1];refine ja ?_;unfold ksk_tree;refine ab (Qas ho rfl ?_);refine AN aN (λ_=>.head) (by rw [eh];exact bK (.i (.t .A (.c 64)) (.i (.e .B .A) (.l .B (.c 1000)))) rfl j4 hlen) (cM _) λe1 bu aS=>?_;refine ap (aS.get (.head _)) λo V4 e=>?_;cases e;refine ab (Gj V4 rfl ?_);refine ab (n4 ?_ (by show vs.length≤_;rw [sizeLine_eq];exact EE j4 hlen));refine ab (lg ?_ (cM _));have eK:=(aS.xP (seqObj "tuple" vs.toArray 0)).push (o:=seqObj "list" #[] 0) (P:=bW (seqObj "list" #[] 0)) rfl;refine aK ?_;show aJ _ _ (ksk_rest D (.ref q) false vs.toArray e1 (.ref (bu.heap.push (seqObj "tuple" vs.toArray 0)).objs.size)) _ _ _
  generalize (bu.heap.push (seqObj "tuple" vs.toArray 0)).objs.size=kS at eK ⊢;unfold ksk_rest;refine ab (vx ?_);rw [qo];refine ab (Tr (dom:=dom) (ρ:=ρ) (λx i ks e s hx hd hz S=>?_) vs is [] [] 0 _ h2 kx (by simp;exact Ks j4 hlen) .nil eK λks e kX qb ij=>?_)
  ·refine ab (tQ (fV.call A' _ M3 (λp hp=>.tail _ (.tail _ (eV p hp))) x i hd hx s _ _ S λkv Kx s' kB S'=>?_));refine b8 (hKV _ _ _ kB) λaf Yb=>?_;subst af;refine AN S' (λ_=>.head) (by rw [eh];exact x8 hz) (by rw [Array.size_push,eh];exact bV (.i (.l .A (.c 100)) (.l (.a .A .O) (.c 1000))) rfl hz) λe' nF pe=>ah ⟨rfl,kv,e',Yb,?_⟩;have ea:ks.toArray.push kv=(ks++[kv]).toArray:=by simp
   rw [ea] at pe;exact pe
  rw [Qa8] at qb;have tD:ks.length=is.length:=by have:=qb.length;simpa using this
  refine ap (ij.get (.head _)) λo V5 e=>?_;cases e;refine ab (Qas V5 rfl ?_);unfold ksk_end;dsimp only;simp only [bp,Qcv];by_cases gd:vs.toArray.size<2
  ·rw [Qct gd,Qct gd];rw [eh] at gd;refine ab (ah ?_);rw [StateT.run_pure];refine ab (ah ?_);dsimp only;refine IN (st:=SortSt.mk' general' (ks.toArray.zip vs.toArray) #[] 7 none) (out:=vs) ?_ (bV (.i (.t .A (.c 2)) (.l .A (.c 100))) rfl gd) (by rw [eh];exact bB (.i (.e .A .B) (.i (.e .C .B) (.i (.t .A (.c 2)) (.l .C (.c 100))))) rfl hlen tD gd) rfl ij λc s' S'=>⟨_,rfl,ah ⟨_,rfl,fin vs is c s' h2 ⟨aF is.length,dH _,?_,?_⟩ S'⟩⟩
   ·show (ks.toArray.zip vs.toArray).map (·.2)=vs.toArray
    apply Array.toList_inj.mp;rw [QaI,QaH,zF (by show vs.length≤ks.length;exact bB (.i (.e .A .B) (.i (.e .C .B) (.l .A .C))) rfl hlen tD)]
   ·rcases (show is.length=0∨is.length=1 by exact bK (.i (.e .A .B) (.i (.t .A (.c 2)) (.o (.e .B .Z) (.e .B .O)))) rfl hlen gd) with e | e<;>rw [e]<;>simp [kl]
   ·exact (Ae is).symm
  ·rw [Qcs gd,Qcs gd];rw [eh] at gd;have hia:Cw ks (is.map ρ):=qb.ry;rw [ksk_kind (keys:=ks.toArray) (kz:=is.map ρ) (by simpa using hia) (by rw [eh];exact bB (.i (.e .A .B) (.i (.e .C .B) (.i (.n (.t .A (.c 2))) (.l (.c 2) .C)))) rfl hlen tD gd)];refine ab (ah ?_);refine ab (cw (kat_run (ks:=ks) (vs:=vs) (Q:=λB8 s'=>∃p:Array Nat,p.size=vs.length∧arrOf B8=p.map (kas_item (ks.toArray.zip vs.toArray))∧failedOf B8=none∧s'=kX∧kf vs.length (λi j=>decide (ρ (is.getD i 0)<ρ (is.getD j 0))) p vs.length)
    (Kt hlen tD) (Kb gd) (Kc j4 hlen) (λp B8 s' a1 a2 a3 a4=>⟨p,a1,a2,a3,a4⟩) (KH.wp (N:=vs.length) (bS:=λi j=>decide (ρ (is.getD i 0)<ρ (is.getD j 0))) (Inv:=λs'=>s'=kX) ?ask (λp s' hg hs=>⟨hs,hg⟩) (Iy ?swo (Kd gd)) rfl)) ?_ λ_ _ x=>x)
   case ask =>
    rintro i j hi hj C _ rfl hC;unfold kas_ask;have look : ∀i,i<vs.length→∃t,ks.getD i cQ = .int (ρ (is.getD i 0)) t:=λi hi=>by
     have df:i<is.length:=ou hlen hi;obtain ⟨v,h1,t,rfl⟩:=qb.get (k:=i) (a:=.int (ρ (is.getD i 0))) (by rw [aA,aA,au df,aI,au df];rfl);exact ⟨t,by rw [aI,h1];rfl⟩
    refine cT (look i hi) λt e1=>?_;refine cT (look j hj) λu e2=>?_;rw [e1,e2,keyLt'_oneType];exact oneLt_int (hC _ rfl)
   case swo =>
    refine ⟨λi j h=>?_,λi j k h1 h2=>?_⟩
    ·simp only [decide_eq_true_eq,decide_eq_false_iff_not] at h ⊢;exact dw (.i (.T .A .B) (.n (.T .B .A))) rfl h
    ·simp only [decide_eq_false_iff_not] at h1 h2 ⊢;exact dq (.i (.n (.T .A .B)) (.i (.n (.T .B .C)) (.n (.T .A .C)))) rfl h1 h2
   rintro ⟨⟨⟩,B8⟩ s' ⟨p,hp,har,hf,rfl,hg⟩;dsimp only;refine IN (out:=p.toList.map λi=>vs.getD i cQ) (kat_snds (Kt hlen tD) har) (by rw [ar,aG];exact bB (.i (.t .A (.c 64)) (.i (.e .B .A) (.i (.e .C .B) (.l .C (.c 100))))) rfl j4 hlen hp) (by rw [eh];exact Ks j4 tD) hf ij λc s' S'=>⟨_,rfl,ah ⟨_,rfl,fin _ (p.toList.map λi=>is.getD i 0) c s' ?_ ⟨p.toList,?_,?_,rfl⟩ S'⟩⟩
   ·exact R0 h2 _ λi hi=>by
     have:=(Array.perm_iff_toList_perm.mp hg.perm).mem_iff.mp hi
     have:=List.mem_range.mp this
     exact ou hlen this
   ·rw [← hlen];exact Array.perm_iff_toList_perm.mp hg.perm
   ·rw [CO];intro i j hi hj hij;rw [aG] at hi hj;have hb:=hg.pre i j hij (ou hp hj);have e1:G p i=p.toList[i]:=by show p.getD i 0=_;rw [eg,gh hi];rfl
    have e2:G p j=p.toList[j]:=by show p.getD j 0=_;rw [eg,gh hj];rfl
    rw [e1,e2] at hb;refine b8 hb λb1 b2=>?_;simp only [decide_eq_false_iff_not] at b1 b2;exact kW (.i (.n (.T .A .B)) (.i (.i (.n (.T .B .A)) (.t .A .B)) (.o (.T .B .A) (.a (.E .B .A) (.t .A .B))))) rfl b1 b2
end
section
variable {g:Gd}{A:bg}{L L' bX bF L₁ L₂ bH R:ae}{env:Env}
theorem Jj{is:List Int}{x:Int}(hx:x∈is): ∃j,∃hj:j<is.length,is[j]=x∧(∀m (hm:m<is.length),m<j→is[m]≠x)∧is.idxOf x=j∧is.erase x=is.eraseIdx j:=by
 induction is with
 | nil=>cases hx
 | cons y is ih =>
  by_cases e:y=x
  ·subst e;exact ⟨0,by simp,rfl,λm _ h=>absurd h (kF _),by simp,by simp⟩
  ·have FI:x∈is:=by
    rcases List.mem_cons.mp hx with h | h
    ·exact absurd h.symm e
    ·exact h
   obtain ⟨j,hj,h1,h2,h3,h4⟩:=ih FI;refine ⟨j+1,by simp;exact Fi hj,by simpa using h1,λm hm h=>?_,?_,?_⟩
   ·cases m with
    | zero=>simpa using e
    | succ m=>simpa using h2 m (by simpa using hm) (EF h)
   ·rw [Qa9,h3,show (y==x)=false by simpa using e];rfl
   ·rw [List.erase_cons];simp [e,h4]
theorem Ax{ws:Array aq}{is:List Int}(h:bP ws.toList (is.map .int)):ws.size=is.length∧∀m (hm:m<ws.size) (wD:m<is.length),∃t,ws[m] = .int is[m] t:=by
 have hl:ws.size=is.length:=by have:=h.length;simpa using this
 refine ⟨hl,λm hm wD=>?_⟩;obtain ⟨v,h1,t,rfl⟩:=h.get (k:=m) (a:=.int is[m]) (by rw [aA,au wD];rfl);refine ⟨t,?_⟩
 have:ws.toList[m]?=some ws[m]:=by simp [hm]
 rw [this] at h1;exact fx h1
theorem kR:(2:Int) ^ 63=9223372036854775808:=by decide
theorem QN(is:List Int)(j:Nat):(is.eraseIdx j).map AV.int=(is.map AV.int).eraseIdx j:=by
 rw [nS,nS,aV,n7,n8]
noncomputable def vc(x:Int)(v:aq):Bool:=numOf v==x
variable {ws:Array aq}
theorem IO(h:bP ws.toList (is.map .int))(x:Int)(t:Tok): ∀y,y∈ws→PySem.MeetsSeq.EqGives y (.int x t) (vc x y):=λy hy=>by
 obtain ⟨m,hm,rfl⟩:=Array.mem_iff_getElem.mp hy;refine b8 (Ax h) λh1 h2=>?_;refine cT (h2 m hm (Ev hm h1)) λu e=>?_;rw [e];exact PySem.MeetsSeq.EqGives.int _ _ _ _
theorem R1{l:ay}{is:List Int}{x:Int}(hx:x∈is)(U:aw l (ai is) (ai (is.erase x)) L L')(hz:is.length≤100000): ∀vs,bP vs [.int x]→GE g A L (call (.builtin "list.remove") (.ref l::vs)) .none L':=by
 intro vs bk s Q S kk;refine ap bk.one λ_ af V6=>?_;subst af;refine cT V6 λt af=>?_;subst af;refine cp (eI S U.mem) λws n h1 h2=>?_;refine b8 (Ax h2) λa1 a2=>?_;obtain ⟨j,hj,b1,b2,b3,b4⟩:=Jj hx;refine lX Cu ⟨_,h1,rfl⟩ PySem.F.entry_list_remove (PySem.F.args_list_remove_2 _ _) (PySem.MeetsSeq.list_remove l ws n (.int x t) (vc x) (IO h2 x t) j (kb a1 hj) ?_ ?_ (by rw [a1,sizeLine_eq];exact z5 hz)) ⟨h1,?_⟩
 ·refine cT (a2 j (kb a1 hj) hj) λu e=>?_;rw [e];unfold vc;simp [numOf,b1]
 ·intro m hm aY;refine cT (a2 m hm (ou a1 hm)) λu e=>?_;rw [e];unfold vc;simpa [numOf] using b2 m (ou a1 hm) aY
 ·refine kk _ _ rfl (ud S U h1 ?_);rw [b4,pB,dif_pos (kb a1 hj),tW];show bP _ ((is.eraseIdx j).map AV.int)
  rw [QN];exact h2.eraseIdx j
variable {l:ay}
theorem Ts{x:Int}(hx:x∈is)(hl:(l,ai is)∈L)(hz:is.length≤100000): ∀vs,bP vs [.int x]→GE g A L (call (.builtin "list.index") (.ref l::vs)) (.int (is.idxOf x)) L:=by
 intro vs bk s Q S kk;refine ap bk.one λ_ af V7=>?_;subst af;refine cT V7 λt af=>?_;subst af;refine cp (eI S hl) λws n h1 h2=>?_;refine b8 (Ax h2) λa1 a2=>?_;obtain ⟨j,hj,b1,b2,b3,b4⟩:=Jj hx;refine lX CA ⟨_,h1,rfl⟩ PySem.F.entry_list_index (PySem.F.args_list_index_2 _ _) (PySem.MeetsSeq.list_index l ws n (.int x t) (vc x) (IO h2 x t) j (kb a1 hj) (by have:=kR;exact bK (.i (.l .A (.c 100000)) (.i (.t .B .A) (.T (.k .B) (.s (.c 9223372036854775808) .O)))) rfl hz hj) ?_ ?_) ⟨h1,?_⟩
 ·refine cT (a2 j (kb a1 hj) hj) λu e=>?_;rw [e];unfold vc;simp [numOf,b1]
 ·intro m hm aY;refine cT (a2 m hm (ou a1 hm)) λu e=>?_;rw [e];unfold vc;simpa [numOf] using b2 m (ou a1 hm) aY
 ·rw [b3] at kk;exact kk _ _ ⟨_,rfl⟩ (S.toks _)
theorem Uq(U:aw l (aM (a::xs)) (aM xs) L L')(hz:xs.length≤100000): ∀vs,bP vs [.int 0]→GE g A L (call (.builtin "list.pop") (.ref l::vs)) a L':=by
 intro vs bk s Q S kk;refine ap bk.one λ_ af V8=>?_;subst af;refine cT V8 λt af=>?_;subst af;refine cp (eI S U.mem) λws n h1 h2=>?_;have hlen:=h2.length;rw [aG,cj] at hlen;refine ap (h2.get (k:=0) (a:=a) rfl) λv h3 h4=>?_;refine lX kj ⟨_,h1,rfl⟩ CM (PySem.F.args_list_pop_2 _ _) (PySem.MeetsSeq.list_pop_at l ws n 0 t 0 v (Fn (Bb) (kU (.L .Z (.c 1000000)) rfl)) (seqIndex_of (k:=0) (n:=ws.size) (c9 0) (bK (.i (.e .A (.a .B .O)) (.T .Z (.k .A))) rfl hlen)) (by simpa using h3) (by rw [hlen,sizeLine_eq];exact Km hz)) ⟨h1,?_⟩;refine kk _ _ h4 (ud S U h1 ?_);rw [pB,dif_pos (Xe hlen),tW];exact h2.eraseIdx 0
end
section
open PySem PySem.W PySem.W.X PyProof.Rows
variable {g:Gd}{A:bg}{L L' bX bF L₁ L₂ bH R:ae}{env:Env}
variable {a b:ay}
theorem Ur(hu:A.units+64<w8)(ha:(a,ai is)∈L)(hb:(b,ai js)∈L):l9 g A L .Eq (.ref a) (.ref b) (decide (is=js)):=by
 rintro v w hv hw s Q E S k;cases AV.cW hv;cases AV.cW hw;refine cp (eI S ha) λvs n h1 h2=>?_;refine cp (eI S hb) λus m h3 h4=>?_;exact eq_intsK (vs:=vs.toList) (us:=us.toList) (by simpa using gN h1) h2.ry (by simpa using gN h3) h4.ry hu (k _ s rfl S)
theorem Ec(hu:A.units+64<w8)(ha:(a,ai is)∈L)(hb:(b,ai js)∈L):l9 g A L .NotEq (.ref a) (.ref b) (!decide (is=js)):=by
 rintro v w hv hw s Q E S k;cases AV.cW hv;cases AV.cW hw;refine cp (eI S ha) λvs n h1 h2=>?_;refine cp (eI S hb) λus m h3 h4=>?_;exact ne_intsK (vs:=vs.toList) (us:=us.toList) (by simpa using gN h1) h2.ry (by simpa using gN h3) h4.ry hu (k _ s rfl S)
theorem xG{l r:Expr}{op:CmpOp}{pos:Pos}{K:aq→ae→Prop}{K':aq→aq→ae→Prop}{c:Bool}(hl:GX g A L (eval l env) K)(hr : ∀v M,K v M→GX g A M (eval r env) (K' v))(h : ∀v w N,K' v w N→aj L N∧PV g A N (nc op v w) (.bool c))(hm:pD op r=false):
  PT g A L env (.Compare l [op] [r] pos) c:=λs Q E S k=>ja <|
 lP (hl s _ S λv M aW hv aN=>hr v M hv aW _ aN λw N bu hw aS=>by
  refine b8 (h v w N hw) λhs hc=>?_;exact hc bu _ _ aS λr cC hr cJ=>by
   cases AV.cW hr;exact hZ (k _ _ rfl (cJ.cX hs))) hm
theorem AO:GX g A L (eval (.List [] pos) env) λv M=>∃a,v = .ref a∧M=(a,aM [])::L:=xq dh (cM _)
variable {l:Expr}{p:Pos}
theorem H4(hu:A.units+64<w8)(hl:PE g A L env l (.ref a))(ha:(a,ai is)∈L):PT g A L env (.Compare l [.Eq] [.List [] p] pos) (decide (is=[])) :=
 xG (hm:=by kst_p) (K:=λv M=>v = .ref a∧M=L) (K':=λv w M=>v = .ref a∧∃b,w = .ref b∧M=(b,aM [])::L) (λs Q S k=>hl s _ _ S λv s' hv S'=>k v L s' ⟨hv,rfl⟩ S') (λv M ⟨h1,h2⟩=>by subst h2;exact AO.mono λw N h=>⟨h1,h⟩) λv w N ⟨h1,b,h2,h3⟩=>by
  subst h1 h2 h3;exact ⟨.skip .refl,Ur (js:=[]) hu (.tail _ ha) (.head _) _ _ rfl rfl⟩
theorem R2(hu:A.units+64<w8)(hl:PE g A L env l (.ref a))(ha:(a,ai is)∈L):PT g A L env (.Compare l [.NotEq] [.List [] p] pos) (!decide (is=[])) :=
 xG (hm:=by kst_p) (K:=λv M=>v = .ref a∧M=L) (K':=λv w M=>v = .ref a∧∃b,w = .ref b∧M=(b,aM [])::L) (λs Q S k=>hl s _ _ S λv s' hv S'=>k v L s' ⟨hv,rfl⟩ S') (λv M ⟨h1,h2⟩=>by subst h2;exact AO.mono λw N h=>⟨h1,h⟩) λv w N ⟨h1,b,h2,h3⟩=>by
  subst h1 h2 h3;exact ⟨.skip .refl,Ec (js:=[]) hu (.tail _ ha) (.head _) _ _ rfl rfl⟩
theorem DC(ha:(a,aM xs)∈L)(hz:xs.length≤100000):GX g A L (call (.type "list") [.ref a]) λv M=>∃D,v = .ref D∧M=(D,aM xs)::L:=λs Q S k=>by
 refine cp (eI S ha) λvs n h1 h2=>?_;have hl:=h2.length;rw [aG] at hl;exact call_list_seq a (.inl rfl) h1 rfl rfl (λh' c' hk hD=>k _ _ _ ⟨_,rfl,rfl⟩ (S.fresh (S.keeps hk) (cB _) hD ⟨_,_,rfl,h2⟩)) (by rw [sizeLine_eq];exact Ku hz hl)
theorem R3{a:ay}{xs:List AV}(ha:(a,cg xs)∈L)(hz:xs.length≤100000):GX g A L (call (.type "list") [.ref a]) λv M=>∃D,v = .ref D∧M=(D,aM xs)::L:=λs Q S k=>by
 refine cp (pR S ha) λvs n h1 h2=>?_;have hl:=h2.length;rw [aG] at hl;exact call_list_seq a (.inr rfl) h1 rfl rfl (λh' c' hk hD=>k _ _ _ ⟨_,rfl,rfl⟩ (S.fresh (S.keeps hk) (cB _) hD ⟨_,_,rfl,h2⟩)) (by rw [sizeLine_eq];exact Ku hz hl)
theorem PJ(hl:vs.length=xs.length)(h : ∀m,m<vs.length→∃v a,vs[m]?=some v∧xs[m]?=some a∧AV.Is v a):bP vs xs:=by
 induction vs generalizing xs with
 | nil=>cases xs with
  | nil=>exact .nil
  | cons=>cases hl
 | cons v vs ih =>
  cases xs with
  | nil=>cases hl
  | cons a xs =>
   refine eQ (h 0 (by simp)) λw b h1 h2 h3=>?_;cases h1;cases h2;exact .cons h3 (ih (by simpa using hl) λm hm=>by
    refine eQ (h (m+1) (by simpa using hm)) λw b h1 h2 h3=>?_;exact ⟨w,b,by simpa using h1,by simpa using h2,h3⟩)
theorem R4{a:ay}{n:Nat}(hh:A.handled=none)(ha:(a,uv 0 n)∈L)(hz:n≤100000):GX g A L (call (.type "list") [.ref a]) λv M=>∃D,v = .ref D∧M=(D,ai (jb 0 n))::L:=λs Q S k=>by
 refine ap (S.get ha) λo ho V9=>?_;refine yj V9 λt u v af=>?_;subst af;refine call_list_range (a:=0) (b:=n) (c:=1) (t:=t) (u:=u) (v:=v) (n:=n) hh ho (small_one (kU (.L (.g (.c 4611686018427387904)) .Z) rfl) (kU (.T .Z (.c 4611686018427387904)) rfl) (bV (.L (.g (.c 4611686018427387904)) (.k .A)) rfl) (bV (.i (.l .A (.c 100000)) (.T (.k .A) (.c 4611686018427387904))) rfl hz)) (by rw [rangeSize_one];split<;>(first | exact bV (.E (.s (.k .A) .Z) (.k .A)) rfl | exact bV (.i (.n (.T .Z (.k .A))) (.E .Z (.k .A))) rfl (by assumption))) (bV (.i (.l .A (.c 100000)) (.l .A (.c 16777216))) rfl hz) λh' tk LT c' hk hD E'=>?_;refine k _ _ _ ⟨_,rfl,rfl⟩ (((S.fresh (S.keeps hk) (cB _) hD ⟨_,_,rfl,?_⟩)).toks tk);refine PJ ?_ λm hm=>?_
 ·rw [aG,E'.1];simp [jb]
 ·have aY:m<n:=by rw [aG,E'.1] at hm;exact hm
  obtain ⟨tk,e⟩:=E'.2 m LT[m] (by rw [gh]);refine ⟨LT[m]'(by simpa using hm),.int (0+(m:Nat)),by simp,?_,?_⟩
  ·simp [jb,dI aY]
  ·rw [e];exact ⟨tk,by simp⟩
end
section
open PySem PySem.W PySem.W.X PyProof.Rows
variable {g:Gd}{A:bg}{L L' bX bF L₁ L₂ bH R:ae}{env:Env}{rest:List fK}{Q:oP→aU→Prop}
variable {l:ay}
theorem Jk(hh:A.handled=none)(hl:(l,ai is)∈L)(fw:is≠[]):GX g A L (call (.builtin "min") [.ref l]) λv M=>(∃m,AV.Is v (.int m)∧m∈is∧∀a∈is,m≤a)∧M=L:=λs Q S k=>by
 refine cp (eI S hl) λvs n h1 h2=>?_;have hi:Cw vs.toList is:=h2.ry;refine cT hi.allInts.items λxs e=>?_;have gW:is=xs.toList.map (·.1):=by
  rw [← hi.numsOf,← N9,← e]
 have gB:0<xs.size:=by
  have h3:0<is.length:=by cases is with | nil=>exact absurd rfl fw | cons=>simp
  rw [gW,ar,aG] at h3;exact h3
 refine min_intList (xs:=xs) hh (by rw [← e];simpa using gN h1) gB λv h' tk hv hk=>?_;refine cT (intItems_at hv) λt af=>?_;subst af;refine b8 (argBest_lt (numAt xs) (xs.size-1)) λh1 h2=>?_;refine k _ _ _ ⟨⟨_,⟨t,rfl⟩,?_,λa ha=>?_⟩,rfl⟩ ((S.keeps hk).toks tk)
 ·rw [gW,Qa1];exact getD_mem (by rw [ar,aG];exact Kv gB h1)
 ·rw [gW] at ha;refine ap (mem_getD ha) λj hj af=>?_;subst af;rw [ar,aG] at hj;rw [← Qa1];exact h2 j (Kw hj)
theorem Jl(hh:A.handled=none)(hl:(l,ai is)∈L)(fw:is≠[]):GX g A L (call (.builtin "max") [.ref l]) λv M=>(∃m,AV.Is v (.int m)∧m∈is∧∀a∈is,a≤m)∧M=L:=λs Q S k=>by
 refine cp (eI S hl) λvs n h1 h2=>?_;have hi:Cw vs.toList is:=h2.ry;refine cT hi.allInts.items λxs e=>?_;have gW:is=xs.toList.map (·.1):=by
  rw [← hi.numsOf,← N9,← e]
 have gB:0<xs.size:=by
  have h3:0<is.length:=by cases is with | nil=>exact absurd rfl fw | cons=>simp
  rw [gW,ar,aG] at h3;exact h3
 refine max_intList (xs:=xs) hh (by rw [← e];simpa using gN h1) gB λv h' tk hv hk=>?_;refine cT (intItems_at hv) λt af=>?_;subst af;refine b8 (argBest_gt (numAt xs) (xs.size-1)) λh1 h2=>?_;refine k _ _ _ ⟨⟨_,⟨t,rfl⟩,?_,λa ha=>?_⟩,rfl⟩ ((S.keeps hk).toks tk)
 ·rw [gW,Qa1];exact getD_mem (by rw [ar,aG];exact Kv gB h1)
 ·rw [gW] at ha;refine ap (mem_getD ha) λj hj af=>?_;subst af;rw [ar,aG] at hj;rw [← Qa1];exact h2 j (Kw hj)
theorem Tt{a b:Int}(hh:A.handled=none):GC g A L (.builtin "max") [.int a,.int b] [] [] (.int (max a b)) L:=by
 intro vs be bk eF s Q S k;refine eQ bk.two λ_ _ af bz V'=>?_;subst af;refine cT V' λu af=>?_;subst af;refine cT bz λt af=>?_;subst af;cases eF.zero;refine max_two_ints hh λh' tk hk=>k _ _ ?_ ((S.keeps hk).toks tk);by_cases h:b>a
 ·rw [Qct h];exact ⟨u,by rw [show max a b=b by exact dw (.i (.T .B .A) (.E (.x .B .A) .A)) rfl h]⟩
 ·rw [Qcs h];exact ⟨t,by rw [show max a b=a by exact dw (.i (.n (.T .B .A)) (.E (.x .B .A) .B)) rfl h]⟩
theorem IP{a b:Int}(hh:A.handled=none):GC g A L (.builtin "min") [.int a,.int b] [] [] (.int (min a b)) L:=by
 intro vs be bk eF s Q S k;refine eQ bk.two λ_ _ af bz Wa=>?_;subst af;refine cT Wa λu af=>?_;subst af;refine cT bz λt af=>?_;subst af;cases eF.zero;refine min_two_ints hh λh' tk hk=>k _ _ ?_ ((S.keeps hk).toks tk);by_cases h:b<a
 ·rw [Qct h];exact ⟨u,by rw [show min a b=b by exact dw (.i (.T .A .B) (.E (.n .B .A) .A)) rfl h]⟩
 ·rw [Qcs h];exact ⟨t,by rw [show min a b=a by exact dw (.i (.n (.T .A .B)) (.E (.n .B .A) .B)) rfl h]⟩
theorem Ao{e lo hi:Expr}{p pos:Pos}{l:ay}{xs:List AV}{a b:Nat}(he:PE g A L env e (.ref l))(h1:PE g A L env lo (.int a))(h2:PE g A L env hi (.int b))(hl:(l,aM xs)∈L)(fe:a≤b)(hb:b≤xs.length)(hz:xs.length≤100000)
  (ht : ∀o r,j8 e o r=pure ()):GX g A L (eval (.Subscript e (.Slice (some lo) (some hi) none p) pos) env) λv M=>∃D,v = .ref D∧M=(D,aM ((xs.drop a).take (b-a)))::L:=λs Q S k=>by
 refine wpAny_Subscript_list_slice (he s _ _ S λo aW ho aN=>Qbb (h1 aW _ _ aN λv bu hv aS=>Qbb (h2 bu _ _ aS λw cC hw cJ=>?_))) ht;cases AV.cW ho;refine cT hv λt af=>?_;subst af;refine cT hw λu af=>?_;subst af;refine cp (eI cJ hl) λvs n h3 h4=>?_;have hlen:=h4.length;rw [aG] at hlen;refine ⟨l,vs,some a,some b,rfl,gN h3,by rw [hlen,sizeLine_eq];exact z5 hz,.int _ _,.int _ _,?_⟩;rw [slicePick_run vs a b (bB (.i (.l .A .B) (.i (.e .C .B) (.l .A .C))) rfl hb hlen) fe];have eK:=(cJ.xP { cls:=.type "slice",data:=.fields #[.int a t,.int b u,.none] }).push (o:={ cls:=.type "list",data:=.seq ((vs.toList.drop a).take (b-a)).toArray }) (P:=aM ((xs.drop a).take (b-a))) ⟨_,_,rfl,(h4.drop a).take (b-a)⟩;have e1:(cC.heap.push { cls:=.type "slice",data:=.fields #[.int a t,.int b u,.none] }).objs.size=cC.heap.objs.size+1:=vw ..;dsimp only at eK;rw [e1] at eK;exact k _ _ _ ⟨_,rfl,rfl⟩ eK
theorem H5(hk:AV.Is kv (.int k))(h0:0≤k)(qi:k<xs.length)(hz:xs.length≤100000)(U:aw l (aM xs) (aM (xs.set k.toNat a)) L L'): ∀v s Q E,AV.Is v a→St g L s→(∀s',St g L' s'→Q () s')→aJ (bD g.prog g.w) A (GD (.ref l) kv v) Q E s:=by
 intro v s Q E hv S kk;refine cT hk λt af=>?_;subst af;refine cp (eI S U.mem) λvs n h1 h2=>?_;have hlen:=h2.length;rw [aG] at hlen;have hl:=gN h1;unfold GD;refine aK ?_;refine ab (Qbz hl.typeIs (by decide) ?_);refine ab (Qaf (name:=Str.ofString "__setitem__") hl.typeIs Gl
  (g9 Gl hl.typeIs PySem.entry_list_setitem ?_ (PySem.args_list_setitem _ _ _)))
 have wg:k<2 ^ 63:=by have:=kR;exact Kz qi hz
 show aJ _ _ (Builtin.List.listSubscript? (.int k t)>>=_) _ _ s
 refine ab (wpAny_listSubscript_int (fitsIndex_of h0 wg) ?_);clear wg;refine cT (Int.eq_ofNat_of_zero_le h0) λj af=>?_;subst af;have hj:j<vs.size:=bB (.i (.e .A .B) (.i (.T (.k .C) (.k .B)) (.t .C .A))) rfl hlen qi;show aJ _ _ ((seqItemAt l j>>=λr=>pure (r.map (j,·)))>>=_) _ _ s
 refine ab (ab (wpAny_seqItemAt h1 rfl (ah ?_)));rw [show vs[j]?=some vs[j] from gh hj];show aJ _ _ (setSeqItemAt l j v>>=_) _ _ s
 refine ab (wpAny_setSeqItemAt h1 rfl ?_);exact ah ⟨.none,rfl,ah (kk _ (ud S U h1 (by rw [Cy];exact h2.set j hv)))⟩
theorem Aj{o i:Expr}(he:PE g A L env e a)(ho:PE g A L env o (.ref l))(hi:PE g A L env i (.int k))(h0:0≤k)(hk:k<xs.length)(hz:xs.length≤100000)(U:aw l (aM xs) (aM (xs.set k.toNat a)) L L')(h:SX g A L' env rest Q)
  (hs:iw e (some (.Subscript o i p')) pos.line env=pure false):SX g A L env (.Assign [.Subscript o i p'] e pos::rest) Q :=
 i9 λs S=>Qam (he s _ _ S λv aW hv aN=>ho aW _ _ aN λov bu FQ aS=>hi bu _ _ aS λiv cC B9 cJ=>by
  cases AV.cW FQ;exact H5 B9 h0 hk hz U v cC _ _ hv cJ λgx eK=>h gx eK) hs
theorem PM{o i:Expr}{b c:AV}(ho:PE g A L env o (.ref l))(hi:PE g A L env i (.int k))(h0:0≤k)(hk:k<xs.length)(hz:xs.length≤100000)(hl:(l,aM xs)∈L)(hx:xs[k.toNat]?=some a)(he:PE g A L env e b)(u8 : ∀v w,AV.Is v a→AV.Is w b→PV g A L (CK op v w) c)
  (U:aw l (aM xs) (aM (xs.set k.toNat c)) L L') (h:SX g A L' env rest Q) (M4 : ∀ov iv new,augStore i ov iv new=(do holding [new,ov,iv] (GD ov iv new);release [new,ov,iv] [];pure .next)):SX g A L env (.AugAssign (.Subscript o i p') op e pos::rest) Q :=
 i9 λs S=>wpAny_AugAssign_SubscriptAny (ho s _ _ S λov aW FQ aN=>hi aW _ _ aN λiv bu B9 aS=>by
  cases AV.cW FQ;exact Ip hl B9 h0 (by have:=kR;exact Kz hk hz) hx bu _ _ aS λold cC hold cJ=>he cC _ _ cJ λv gx hv eK=>u8 old v hold hv gx _ _ eK λnew kX ww ij=>H5 B9 h0 hk hz U new kX _ _ ww ij λny mM=>h ny mM) M4
theorem Us(hh:A.handled=none)(hl:(l,ai is)∈L):GE g A L (call (.builtin "sum") [.ref l]) (.int is.sum) L:=λs Q S k=>by
 refine cp (eI S hl) λvs n h1 h2=>?_;have hi:Cw vs.toList is:=h2.ry;refine cT hi.allInts.items λxs e=>?_;have gW:is=xs.toList.map (·.1):=by
  rw [← hi.numsOf,← N9,← e]
 refine sum_intListG (xs:=xs) hh (by rw [← e];simpa using gN h1) λh' tk t' hk=>k _ _ ⟨t',?_⟩ ((S.keeps hk).toks tk);rw [preSum_eq,NF (by simp),gW]
theorem PN(hl:(l,ai is)∈L):l9 g A L .In .none (.ref l) false:=by
 rintro v w hv hw s Q E S k;cases AV.cW hv;cases AV.cW hw;refine cp (eI S hl) λvs n h1 h2=>?_;show aJ _ _ (contains (.ref l) .none>>=λb=>pure (QbX b)) _ _ _
 refine ab (wpAny_contains_slot (gN h1).typeIs zJ (lX zJ ⟨_,h1,rfl⟩ PySem.F.entry_list_contains (PySem.F.args_list_contains_2 _ _) (PySem.SeqAt.list_containsAt l vs n none #[] .none λ_=>false) ⟨h1,λy hy=>?_,?_⟩))
 ·obtain ⟨m,hm,rfl⟩:=Array.mem_iff_getElem.mp hy;refine b8 (Ax h2) λa1 a2=>?_;refine cT (a2 m hm (Ev hm a1)) λu e=>?_;rw [e];exact PySem.SeqAt.EqAt.int_none _ _
 ·have e:(vs.any λ_=>false)=false:=by simp
  rw [e];exact hZ (ah (k _ s rfl S))
theorem QO(n:Nat):bP (dM n cQ) (dM n .none):=by
 induction n with
 | zero=>exact .nil
 | succ n ih=>rw [Oe,Oe];exact .cons rfl ih
theorem R5{x:Int}{w:aq}(hl:(l,aM [.none])∈L)(hw:AV.Is w (.int x))(hx:x=n)(hz:n≤1000):GX g A L (Qa5 .Mult (.ref l) w) λv M=>∃D,v = .ref D∧M=(D,aM (dM n .none))::L:=λs Q S k=>by
 refine cT hw λt af=>?_;subst af;refine cp (eI S hl) λvs e h1 h2=>?_;have hlen:vs.size=1:=by have:=h2.length;simpa using this
 have ph:vs = #[.none]:=by
  refine ap h2.one λv h3 h4=>?_;cases AV.cW h4;apply Array.toList_inj.mp;exact h3
 subst ph;have hm:(#[cQ]:Array aq).size*x.toNat=n:=by rw [hx];exact Nat.one_mul n
 have Wb:¬Builtin.List.listTooLong ((#[cQ]:Array aq).size*x.toNat)=true:=by
  rw [hm];unfold Builtin.List.listTooLong;rw [sizeLine_eq];simp;exact Kr hz
 have Yc:¬(#[cQ]:Array aq).size*x.toNat>(2 ^ 63-1)/8:=by
  rw [hm];exact Xf hz
 refine wpAny_binaryOp_repeat_ref (T:="list") (U:="int") (by decide) ⟨_,h1,rfl⟩ (λs'=>typeIs_int s' x t) noFill_list_mul PySem.F.fills_int_mul Gn repeat_list PySem.F.slot_int_index.lookup
  (lX Gn (typeIs_int s x t) PySem.F.entry_int_rmul (PySem.F.args_int_rmul_2 _ _) (int___rmul___int_list x t l _ e)
   ⟨h1,rfl,⟨_,h1,rfl⟩,lX PySem.F.slot_list_mul ⟨_,h1,rfl⟩ PySem.F.entry_list_mul (PySem.F.args_list_mul_2 _ _)
    (AutoListH.list___mul___list_int_3 l _ e x t (by rw [Fn (by exact Mr hx) (by exact gV (.i (.E .A (.k .A)) (.i (.l .A (.c 1000)) (.L .A (.c 1000000)))) rfl hx hz)];decide) Yc Wb)
    ⟨h1,?_⟩⟩)
 generalize hz:List.foldl (λx1 x2=>x1++x2) #[] (dM (if (#[cQ]:Array aq).isEmpty=true then 0 else x.toNat) #[cQ])=zs;have key:bP zs.toList (dM n .none):=by
  rw [← hz,Qcs (by decide),listMul_foldl,show x.toNat=n by exact KC hx];show bP ([]++(dM n [cQ]).flatten) _
  rw [Qa8,lm_rep_flat_one];exact QO n
 exact k _ _ _ ⟨_,rfl,rfl⟩ (S.push (P:=aM (dM n .none)) ⟨_,_,rfl,key⟩)
end
section
noncomputable def eH{α:Type}(ρ:α→Int)(x:α):List α→List α
 | []=>[x]
 | y::l=>if ρ x<ρ y then x::y::l else y::eH ρ x l
noncomputable def jJ(ρ:Int→Int)(x:Int):List Int→List Int
 | []=>[x]
 | y::l=>if ρ y<ρ x then y::jJ ρ x l else x::y::l
def iJ{α:Type}(ρ:α→Int)(l:List α):Prop:=l.Pairwise λa b=>ρ a≤ρ b
variable {l:List α}
theorem xt{ρ:α→Int}{x:α}{a:α}:a∈eH ρ x l↔a=x∨a∈l:=by
 induction l with
 | nil=>simp [eH]
 | cons y l ih =>
  unfold eH;split
  ·simp
  ·simp only [fS,ih];constructor
   ·rintro (h | h | h)<;>simp [h]
   ·rintro (h | h | h)<;>simp [h]
variable {l:List Int}{x:Int}
theorem DD{a:Int}:a∈jJ ρ x l↔a=x∨a∈l:=by
 induction l with
 | nil=>simp [jJ]
 | cons y l ih =>
  unfold jJ;split
  ·simp only [fS,ih];constructor
   ·rintro (h | h | h)<;>simp [h]
   ·rintro (h | h | h)<;>simp [h]
  ·simp
theorem xo{ρ:α→Int}{x:α}{l:List α}:(eH ρ x l).Perm (x::l):=by
 induction l with
 | nil=>exact dH _
 | cons y l ih =>
  unfold eH;split
  ·exact dH _
  ·exact (ih.cons y).trans (fp ..)
theorem Dm:(jJ ρ x l).Perm (x::l):=by
 induction l with
 | nil=>exact dH _
 | cons y l ih =>
  unfold jJ;split
  ·exact (ih.cons y).trans (fp ..)
  ·exact dH _
theorem Hy(h:iJ ρ l):iJ ρ (eH ρ x l):=by
 induction l with
 | nil=>exact ez _ _
 | cons y l ih =>
  refine b8 (List.pairwise_cons.mp h) λh1 h2=>?_;unfold eH;split
  ·refine List.pairwise_cons.mpr ⟨λb hb=>?_,h⟩;rcases List.mem_cons.mp hb with rfl | hb
   ·exact v9 (by assumption)
   ·have:=h1 b hb;exact dq (.i (.T .A .B) (.i (.L .B .C) (.L .A .C))) rfl (by assumption) this
  ·refine List.pairwise_cons.mpr ⟨λb hb=>?_,ih h2⟩;rcases xt.mp hb with rfl | hb
   ·exact x9 (by assumption)
   ·exact h1 b hb
theorem QP(h:iJ ρ l):iJ ρ (jJ ρ x l):=by
 induction l with
 | nil=>exact ez _ _
 | cons y l ih =>
  refine b8 (List.pairwise_cons.mp h) λh1 h2=>?_;unfold jJ;split
  ·refine List.pairwise_cons.mpr ⟨λb hb=>?_,ih h2⟩;rcases DD.mp hb with rfl | hb
   ·exact v9 (by assumption)
   ·exact h1 b hb
  ·refine List.pairwise_cons.mpr ⟨λb hb=>?_,h⟩;rcases List.mem_cons.mp hb with rfl | hb
   ·exact x9 (by assumption)
   ·have:=h1 b hb;exact EG (by assumption) this
theorem H6(h:iJ ρ l): ∃r,r≤l.length∧eH ρ x l=l.take r++x::l.drop r∧(∀(i:Nat) e,i<r→l[i]?=some e→¬ρ x<ρ e)∧∀(i:Nat) e,r≤i→l[i]?=some e→ρ x<ρ e:=by
 induction l with
 | nil=>exact ⟨0,cB _,rfl,λi e h=>absurd h (kF _),λi e _ h=>by simp at h⟩
 | cons y l ih =>
  refine b8 (List.pairwise_cons.mp h) λh1 h2=>?_;unfold eH;split
  ·rename_i aY;refine ⟨0,cM _,rfl,λi e h=>absurd h (kF _),λi e _ he=>?_⟩;rcases List.mem_cons.mp (bx he) with rfl | hm
   ·exact aY
   ·have:=h1 e hm;exact ya aY this
  ·rename_i Ca;refine qS (ih h2) λr a1 a2 a3 a4=>?_;refine ⟨r+1,by simp;exact EH a1,by rw [a2];rfl,λi e hi he=>?_,λi e hi he=>?_⟩
   ·cases i with
    | zero=>simp at he;subst he;exact Ca
    | succ i=>exact a3 i e (EF hi) (by simpa using he)
   ·cases i with
    | zero=>exact ft (.i (.l (.a .A .O) .Z) (.T .A .B)) rfl hi
    | succ i=>exact a4 i e (KD hi) (by simpa using he)
theorem R6{ρ:Int→Int}{x:Int}{l:List Int}(h:iJ ρ l): ∃r,r≤l.length∧jJ ρ x l=l.take r++x::l.drop r∧(∀(i:Nat) e,i<r→l[i]?=some e→ρ e<ρ x)∧∀(i:Nat) e,r≤i→l[i]?=some e→¬ρ e<ρ x:=by
 induction l with
 | nil=>exact ⟨0,cB _,rfl,λi e h=>absurd h (kF _),λi e _ h=>by simp at h⟩
 | cons y l ih =>
  refine b8 (List.pairwise_cons.mp h) λh1 h2=>?_;unfold jJ;split
  ·rename_i aY;refine qS (ih h2) λr a1 a2 a3 a4=>?_;refine ⟨r+1,by simp;exact EH a1,by rw [a2];rfl,λi e hi he=>?_,λi e hi he=>?_⟩
   ·cases i with
    | zero=>simp at he;subst he;exact aY
    | succ i=>exact a3 i e (EF hi) (by simpa using he)
   ·cases i with
    | zero=>exact ft (.i (.l (.a .A .O) .Z) (.n (.T .A .B))) rfl hi
    | succ i=>exact a4 i e (KD hi) (by simpa using he)
  ·rename_i Ca;refine ⟨0,cM _,rfl,λi e h=>absurd h (kF _),λi e _ he=>?_⟩;rcases List.mem_cons.mp (bx he) with rfl | hm
   ·exact Ca
   ·have:=h1 e hm;exact dq (.i (.n (.T .A .B)) (.i (.L .A .C) (.n (.T .C .B)))) rfl Ca this
structure CS where
 vg:VG
 rd:List Int
 p:Int
 f:Int
 pre:List Int
 win:List Int
 hold:List Int
 dp:List Int
 left:List Int
 ends:List (Option Int)
 now:Int
noncomputable def CS.row(c:CS):List Int:=c.pre++c.win++c.hold
noncomputable def eC(vg:VG)(k:Int):List Int:=((vg.find? λp=>p.1=k).map (·.2.2)).getD []
noncomputable def xU(vg:VG)(k:Int):VG×List Int:=(eC vg k).foldl jW (dR vg k λq=>(-2,q.2),[])
noncomputable def cN(F:Int→Int)(w:List Int)(is:List Int):List Int:=is.foldl (λw i=>eH F i w) w
noncomputable def d0(h:List Int)(is:List Int):List Int:=is.foldl (λh i=>h.erase i) h
noncomputable def gr(U:Int→Int)(behind:Bool)(d:List Int)(is:List Int):List Int:=is.foldl (λd i=>if behind then eH U i d else jJ U i d) d
noncomputable def kr(F:Int→Int)(w:List Int)(e:Int):Int:=w.foldl (λm v=>min m (F v)) e
theorem R7(ρ:Int→Int)(g:α→Int)(x:α)(l:List α):eH ρ (g x) (l.map g)=(eH (λk=>ρ (g k)) x l).map g:=by
 induction l with
 | nil=>rfl
 | cons y l ih =>
  rw [aB];unfold eH;split
  ·rfl
  ·rw [ih];rfl
theorem QQ{α:Type}(ρ:Int→Int)(g:α→Int): ∀(l q:List α),(l.map g).foldl (λw i=>eH ρ i w) (q.map g)=(l.foldl (λw k=>eH (λk=>ρ (g k)) k w) q).map g:=by
 intro l
 induction l with
 | nil=>intro q;exact rfl
 | cons x l ih =>
  intro q;rw [aB,mu,mu,R7,ih]
variable {r:Nat→Nat→Prop}
theorem QR(ha : ∀i j,r i j→r j i→False): ∀{p q:List Nat},p.Perm q→p.Pairwise r→q.Pairwise r→p=q:=by
 intro p
 induction p with
 | nil=>intro q h _ _;exact (List.Perm.nil_eq h)
 | cons a p ih =>
  intro q h hp hq;cases q with
  | nil=>exact absurd h.length_eq (by simp)
  | cons b q =>
   refine b8 (List.pairwise_cons.mp hp) λp1 p2=>?_;refine b8 (List.pairwise_cons.mp hq) λq1 q2=>?_;by_cases e:a=b
   ·subst e;rw [ih h.cons_inv p2 q2]
   ·have h1:a∈q:=by
     rcases List.mem_cons.mp (h.mem_iff.mp (.head _)) with h' | h'
     ·exact absurd h' e
     ·exact h'
    have h2:b∈p:=by
     rcases List.mem_cons.mp (h.mem_iff.mpr (.head _)) with h' | h'
     ·exact absurd h'.symm e
     ·exact h'
    exact (ha _ _ (p1 b h2) (q1 a h1)).elim
def vd(f:Nat→Int)(i j:Nat):Prop:=f i<f j∨(f i=f j∧i<j)
variable {f:Nat→Int}
theorem R8{x:Nat}{l:List Nat}(h:l.Pairwise (vd f))(hx : ∀y∈l,y<x):(eH f x l).Pairwise (vd f):=by
 induction l with
 | nil=>exact ez _ _
 | cons y l ih =>
  refine b8 (List.pairwise_cons.mp h) λh1 h2=>?_;unfold eH;split
  ·refine List.pairwise_cons.mpr ⟨λb hb=>?_,h⟩;rcases List.mem_cons.mp hb with rfl | hb
   ·exact .inl (by assumption)
   ·have:=h1 b hb;unfold vd at this ⊢;exact WY (.i (.T .A .B) (.i (.o (.T .B .C) (.a (.E .B .C) (.t .A .B))) (.o (.T .A .C) (.a (.E .A .C) (.t .C .B))))) rfl (by assumption) this
  ·refine List.pairwise_cons.mpr ⟨λb hb=>?_,ih h2 λz hz=>hx z (.tail _ hz)⟩;rcases xt.mp hb with rfl | hb
   ·have:=hx y (.head _);unfold vd;exact kW (.i (.n (.T .A .B)) (.i (.t .A .B) (.o (.T .B .A) (.a (.E .B .A) (.t .A .B))))) rfl (by assumption) this
   ·exact h1 b hb
theorem R9: ∀(n:Nat),((aF n).foldl (λw k=>eH f k w) []).Pairwise (vd f)∧((aF n).foldl (λw k=>eH f k w) []).Perm (aF n):=by
 intro n
 induction n with
 | zero=>exact ⟨.nil,dH _⟩
 | succ n ih =>
  refine b8 (ih) λh1 h2=>?_;rw [kl,dE];refine ⟨R8 h1 λy hy=>List.mem_range.mp (h2.mem_iff.mp hy),?_⟩;exact xo.trans ((h2.cons n).trans (iV (l₁:=[n])))
theorem Tu{ρ:Int→Int}{is out:List Int}(h:AM ρ is out):out=cN ρ [] is:=by
 refine du h λp h1 h2 af=>?_;subst af;have e:=QQ ρ (λi=>is.getD i 0) (aF is.length) [];rw [Ae] at e;show _=is.foldl (λw i=>eH ρ i w) []
 have e0:(Qbg (λi=>is.getD i 0) ([]:List Nat))=[]:=rfl;rw [e0] at e;rw [e];refine b8 (R9 (f:=λk=>ρ (is.getD k 0)) is.length) λa1 a2=>?_;rw [QR (r:=vd λk=>ρ (is.getD k 0)) (λi j h h'=>by unfold vd at h h';exact kW (.i (.o (.T .A .B) (.a (.E .A .B) (.t .A .B))) (.i (.o (.T .B .A) (.a (.E .B .A) (.t .B .A))) .f)) rfl h h') (h1.trans a2.symm) h2 a1]
theorem QS(h : ∀y∈l,ρ y≤ρ x):eH ρ x l=l++[x]:=by
 induction l with
 | nil=>rfl
 | cons y l ih =>
  unfold eH;rw [Qcs (by have:=h y (.head _);exact KE this),ih λz hz=>h z (.tail _ hz)];rfl
theorem PO: ∀{l q:List Int},iJ ρ (q++l)→cN ρ q l=q++l:=by
 intro l
 induction l with
 | nil=>intro q h;rw [fg];rfl
 | cons x l ih =>
  intro q h;have hx : ∀y∈q,ρ y≤ρ x:=λy hy=>(List.pairwise_append.mp h).2.2 y hy x (.head _);show cN ρ (eH ρ x q) l=_
  rw [QS hx,ih (by rw [aH];exact h),aH];rfl
theorem Sa{w out:List Int}(hw:iJ ρ w)(h:AM ρ (w++is) out):out=cN ρ w is:=by
 rw [Tu h];unfold cN;rw [dE]
 have:=PO (ρ:=ρ) (l:=w) (q:=[]) hw
 unfold cN at this;rw [this];rfl
theorem DE: ∀{is w:List Int},iJ ρ w→iJ ρ (cN ρ w is):=by
 intro is
 induction is with
 | nil=>intro w h;exact h
 | cons x is ih=>intro w h;exact ih (Hy h)
noncomputable def o6(F U:Int→Int)(behind:Bool)(c:CS):CS :=
 let vg:=im c.vg c.rd;let p:=c.p+c.rd.length;let w:=cN F c.win c.rd;let h:=d0 c.hold c.rd;let arr:=w.takeWhile λv=>decide (F v≤c.now);let win:=w.dropWhile λv=>decide (F v≤c.now);let dp:=gr U behind c.dp arr
 match dp with
 | []=>{ vg,rd:=[],p,f:=c.f,pre:=c.pre++arr,win,hold:=h,dp:=[],left:=c.left,ends:=c.ends,now:=match win with | []=>c.now | v::_=>F v }
 | i::dr =>
  let ed:=kr F win (c.now+c.left.getD i.toNat 0);let l:=c.left.getD i.toNat 0-(ed-c.now)
  if l=0 then { vg:=(xU vg i).1,rd:=(xU vg i).2,p,f:=c.f+1,pre:=c.pre++arr,win,hold:=h,dp:=dr,left:=c.left.set i.toNat l,ends:=c.ends.set i.toNat (some ed),now:=ed }
  else { vg,rd:=[],p,f:=c.f,pre:=c.pre++arr,win,hold:=h,dp:=i::dr,left:=c.left.set i.toNat l,ends:=c.ends,now:=ed }
structure FR(F U:Int→Int)(behind:Bool)(n:Nat)(c:CS):Prop where
 perm:c.row.Perm ((aF n).map λ(i:Nat)=>(i:Int))
 zl : ∀i∈c.rd,i∈c.hold
 Cb:c.rd.Nodup
 rdk : ∀i∈c.rd,i∈c.vg.map (·.1)
 ws:iJ F c.win
 ds:iJ U c.dp
 dk : ∀i∈c.dp,0≤i∧i<n
 dl:c.dp.length≤n
 ll:c.left.length=n
 el:c.ends.length=n
 go : ∀i dr,gr U behind c.dp ((cN F c.win c.rd).takeWhile λv=>decide (F v≤c.now))=i::dr→c.ends[i.toNat]?=some none∧c.f<c.p+c.rd.length∧eG (im c.vg c.rd) i = -1∧i∈c.vg.map (·.1)∧(∀s∈eC c.vg i,s∈c.vg.map (·.1))∧(eC c.vg i).length≤100
end
section
open PySem PySem.W PySem.W.X PyProof.Rows
variable {g:Gd}{A:bg}{L L' bX bF L₁ L₂ bH R:ae}{env:Env}{rest:List fK}{Q:oP→aU→Prop}
structure kq(L:ae)(wl:ay)(dz:List (ay×List AV))(ws:List (Int×Int)):Prop where
 l:(wl,aM (cH dz))∈L
 v:dz.map (·.2)=ws.map iD
 p : ∀q∈dz,(q.1,cg q.2)∈L
theorem kq.inc(h:kq L wl dz ws)(hi:cu L L'):kq L' wl dz ws:=⟨hi _ h.l,h.v,λq hq=>hi _ (h.p q hq)⟩
theorem kq.at{wl:ay}{dz:List (ay×List AV)}{ws:List (Int×Int)}(h:kq L wl dz ws){k:Nat}{a:AV}(hk:(cH dz)[k]?=some a): ∃t,a = .ref t∧(t,cg [.int (ws.getD k (0,0)).1,.int (ws.getD k (0,0)).2])∈L∧k<ws.length:=by
 unfold cH at hk;rw [aA] at hk;refine ap (Option.map_eq_some_iff.mp hk) λq hq af=>?_;subst af;have h1:(dz.map (·.2))[k]?=some q.2:=by rw [aA,hq];rfl
 rw [h.v,aA] at h1;refine ap (Option.map_eq_some_iff.mp h1) λw hw e=>?_;refine ⟨q.1,rfl,?_,(List.getElem?_eq_some_iff.mp hw).1⟩;rw [aI,hw]
 have:=h.p q (bx hq)
 rw [← e] at this;exact this
theorem H7(hh:A.handled=none)(hw:kq L wl dz ws)(hz:ws.length≤1000)(cond:Int×Int→Bool)(sel:Int×Int→Int){iter:Expr}{t:Expr}{m:Nat}(hi:PE g A L env iter (.ref wl))
  (Yd : ∀C,(cI scope cl C env).kindOf "a"=some .local) (Ye : ∀C,(cI scope cl C env).kindOf "k"=some .local)
  (hif : ∀C (w:Int×Int) (acc ia:fN),PT g A (ia::(C,am [("k",.int w.2),("a",.int w.1)])::acc::L) (cI scope cl C env) t (cond w))
  (helt : ∀C (w:Int×Int) (acc ia:fN),PE g A (ia::(C,am [("k",.int w.2),("a",.int w.1)])::acc::L) (cI scope cl C env) elt (.int (sel w)))
  (hclos:gm scope env=pure cl) (hkind:scope.kind = .function) (hcell:lq scope=true) (hnames:pO scope=true) (hs : ∀x,dg iter env x=pure x) :
  NE g A L (eval (.ListComp elt [⟨.Tuple [.Name "a" p1,.Name "k" p2] m p3,iter,[t],0⟩] scope pos) env) (ai ((ws.filter cond).map sel)):=by
 have hlen:(cH dz).length=ws.length:=by have:=congrArg iQ hw.v;simpa [cH] using this
 have key:=GY (g:=g) (A:=A) (L:=L) (env:=env) (pos:=pos) (scope:=scope) (cl:=cl) (elt:=elt) (target:=.Tuple [.Name "a" p1,.Name "k" p2] m p3) (ifs:=[t]) (H₀:=λH=>∀N,(wl,aM (cH dz))∈N→H N) (sH hh hi hw.l) (λH hH K=>hH _ (ag _ hw.l)) (by rw [hlen];exact jZ hz)
  (λk=>cond (ws.getD k (0,0))) (λk=>.int (sel (ws.getD k (0,0)))) (λk=>[("k",.int (ws.getD k (0,0)).2),("a",.int (ws.getD k (0,0)).1)])
  (λC k a hk acc ia P=>by
   refine du (hw.at hk) λt af ht _=>?_;subst af;exact xp hh (md 3 ht) (b7 (env:=cI scope cl C env) (m:=[]) (.tail .head) (Yd C) hkind) (b7 (env:=cI scope cl C env) (.tail .head) (Ye C) hkind))
  (λC k a hk acc ia P=>xA (hif C _ _ _)) (λC k a hk _ acc ia P=>helt C _ _ _) hclos hkind hcell hnames hs
 rw [hlen] at key;have e:=G' (0,0) cond sel ws;have e2:((aF ws.length).filter λk=>cond (ws.getD k (0,0))).map (λk=>AV.int (sel (ws.getD k (0,0))))=((ws.filter cond).map sel).map AV.int:=by rw [← e,bt];rfl
 rw [e2] at key;exact key
theorem CX.pre{c:Code}{K:aq→ae→Prop}(h:CX g A L₁ c K)(p:aj L₁ L):CX g A L c K:=λs R S k=>h s R (S.cX p) k
theorem QT{p:Pos}(hz:xs.length≤100000)(he:NE g A L (eval e env) (aM xs))(hs:aE (.Starred e p::[]) env=(true,eval e env)::aE [] env:=by rfl):
  nK g A L (b6 pos (aE (.Starred e p::[]) env)) λvs M=>bP vs xs∧∃l,M=(l,aM xs)::L:=λs Q S k=>by
 rw [hs];refine ks_spliced (he s _ S λl aW aN=>?_);refine cp (eI aN (.head _)) λws n h4 h5=>?_;have hlen:=h5.length;rw [aG] at hlen;unfold StarOf notIterableAtAll;refine ab (jr (gN h4).typeIs PySem.F.slot_list_iter.lookup (ah ⟨rfl,?_⟩));refine QbB l (.inl rfl) h4 rfl rfl (λh' hk=>?_) (by rw [hlen,sizeLine_eq];exact z5 hz);refine pP (g:=g) (A:=A) (L:=(l,aM xs)::L) (pos:=pos) (env:=env) _ _ (aN.keeps hk) λvs N bu ⟨e1,e2⟩ aS=>?_;subst e1 e2;rw [fg];exact k _ _ bu ⟨h5,l,rfl⟩ aS
variable {f p:Int}{o:Expr}{x:ay}
theorem PP(T:fR g)(D:rR T)(MG:E4 D.K D.qW)(ff : ∃of fd,D.K.lookup D.qW=some of∧of.data = .func fd)(hA:bZ (n+4) A){nd:ay}{ns:List Nd}(hk:dc ns)(hz:ns.length+er.length≤900)(hB:l4 (bJ ns) B)(BU:B+er.length≤90000)
  {ec:Expr} {pp:Pos} (ho:PE g A (cZ g D.TS D.NI x dx nd ns .none p f++L) env o (.ref x)) (hi : ∀q,PE g A (q::(cZ g D.TS D.NI x dx nd ns .none p f++L)) env ei (.int k)) (hc : ∀q,NE g A (q::(cZ g D.TS D.NI x dx nd ns .none p f++L)) (eval ec env) (ai er))
  (hbase:dW o "add" env (eval o env)=eval o env:=by rfl)
  (hfew:i8 ((ei::[Expr.Starred ec pp]).length+([]:List g0).length) (b6 pos (aE (ei::[.Starred ec pp]) env)) (bj pos (aO [] env))=false:=by rfl) (hst:(b6 pos (aE (ei::[.Starred ec pp]) env)).any (·.1)=true:=by rfl)
  (he:aE (ei::[.Starred ec pp]) env=(false,eval ei env)::aE [.Starred ec pp] env:=by rfl) (hs:aE (.Starred ec pp::[]) env=(true,eval ec env)::aE [] env:=by rfl) :
  GX g A (cZ g D.TS D.NI x dx nd ns .none p f++L) (eval (.Call (.Attribute o "add" apos) [ei,.Starred ec pp] [] pos) env) λv M=>v = .none∧∃aX,dc aX∧bJ aX=rQ (bJ ns) k er∧M=cZ g D.TS D.NI x dx nd aX .none p f++L:=by
 refine OP (K:=D.K) D.TK D.lI MG (m:=gO nd .none p f) (KA:=λmo vs M=>∃l v rest,vs=v::rest∧AV.Is v (.int k)∧bP rest (er.map .int)∧M=(l,ai er)::(mo,bW (vm (.ref D.qW) (.ref x)))::(cZ g D.TS D.NI x dx nd ns .none p f++L)) ho (.head _) (mi 1 rfl) rfl rfl D.add.find D.add.typ ?a1 ?a2 ?a3 ?a4 ?a5 hbase hfew hst he
 case a1 =>
  intro mo;refine pK (K:=λv M=>AV.Is v (.int k)∧M=(mo,bW (vm (.ref D.qW) (.ref x)))::(cZ g D.TS D.NI x dx nd ns .none p f++L)) (λs Q S kk=>hi _ s _ _ S λv s' hv S'=>kk v _ s' ⟨hv,rfl⟩ S') ?_ he;intro v;refine fT λhv=>?_;intro s Q S kk;refine QT (xs:=er.map .int) (by simp;exact Kj hz) (hc _) hs s _ S λvs M s' hM S'=>?_;refine b8 hM λbk Wc=>?_;refine cT Wc λl af=>?_;subst af;exact kk _ _ s' ⟨l,v,vs,rfl,hv,bk,rfl⟩ S'
 case a2 =>
  refine yk D.add.fn λof dV kV doc pm cq ct h1 h2 h3 _=>?_;exact λM=>pN (.top h1 h2) h3
 case a3 =>
  intro mo;refine GP λl v rest hv hr=>?_;exact .tail _ (.head _)
 case a4 =>
  intro mo;refine GP λl v rest hv hr=>?_;exact CX.pre (Ua T D.toSrt hA hk hz hB BU hr.ry rfl hv) (.skip (.skip .refl))
 case a5 =>
  exact ff
structure gD(g:Gd) where
 T:fR g
 D:rR T
 C:FM g T.mg T.mb
 M5:E4 D.K D.qW
 M6 : ∃of fd,D.K.lookup D.qW=some of∧of.data = .func fd
 nC:T.mg "cmp_to_key"=some (.ref C.f)
 fL:ay
 cL:ay
 PL:ay
 Cc : ∃o kV doc pm ct,g.dB.get? fL=some o∧fL∉g.tabs∧o.data = .func (gy (top 16) "_law_course" "_law_course" .none kV doc pm (.ref cL) ct)
 A1 : ∃o vs t,g.dB.get? cL=some o∧cL∉g.tabs∧o.data = .fields vs∧vs[1]?=some (.str "_law_course" t)
 FS:Qbx g.dB cL PL
noncomputable def cD(_:Pos):Str:="_law_course.<locals>.<lambda>"
def Cd(Kx:ae)(kv:aq)(r:Int):Prop:=Kx=[]∧AV.Is kv (.int r)
abbrev gA(is:List Int)(i:Int):Prop:=0≤i∧i<is.length
noncomputable abbrev an(is:List Int)(i:Int):Int:=is[i.toNat]?.getD 0
theorem DX(X:gD g){p4:Pos}(lG:env.code = .ref X.cL)(gs:env.globals=cm)(hq:env.qual = "_law_course.<locals>.")(jN:gm { kind:=.function,names:=[("v",.local),("firsts",.free)],isGenerator:=false,isCoroutine:=false,more:=[] } env=pure [(("firsts":Str),c1)])
  (h1:(c1,az (some (.ref fa)))∈R) (h2:(fa,ai is)∈R) (hz:is.length≤1000) :
  GX g A (bM X.PL cD es++R) (eval (.Lambda (A0 [⟨"v",none,p1⟩]) (.Subscript (.Name "firsts" p2) (.Name "v" p3) p4) { kind:=.function,names:=[("v",.local),("firsts",.free)],isGenerator:=false,isCoroutine:=false,more:=[] } pos) env) λv M=>∃f P aT,v = .ref f∧M=(f,P)::(bM X.PL cD aT++R)∧(∀e∈es,e∈aT)∧jd 1 g M (.ref f) (gA is) (an is) Cd:=by
 refine (Hx X.T.G X.C.B lG gs (oC.top X.FS X.A1.choose_spec.choose_spec.choose_spec.2.1) (λp=>by rw [hq];kernel_rfl) rfl jN).mono ?_;refine GQ λf c' aT pm ct hin E7=>?_;refine ⟨f,_,aT,rfl,rfl,E7,XY (.head _) (.tail _ (ao _ hin.mem)) (.tail _ (ag _ h1)) (.tail _ (ag _ h2)) (jZ hz)⟩
variable {K:List aq→ae→Prop}
theorem DF{ke:Expr}{rest:List Expr}{kp:Pos}{f:aq}(hf:PE g A L env func (.val f))(ha:nK g A L (b6 pos (aE (e::rest) env)) K)
  (hk : ∀vs M,K vs M→GX g A M (eval ke env) (K₂ vs)) (hc : ∀vs w M,K₂ vs w M→jI g A M f∧GX g A M (call f vs [(kn,w)]) K')
  (hE:eval (.Call func (e::rest) [⟨some kn,ke,kp⟩] pos) env=(do fJ pos (← eval func env) [] (b6 pos (aE (e::rest) env)) (bj pos (aO [⟨some kn,ke,kp⟩] env)))) (he:aE (e::rest) env=(false,eval e env)::aE rest env) :
  GX g A L (eval (.Call func (e::rest) [⟨some kn,ke,kp⟩] pos) env) K':=λs Q S k=>by
 rw [hE];refine ab (PV.v hf s _ _ S λaW aN=>?_);refine C4 (first:=[]) (DQ (K':=λvs be M=>∃w,be=[w]∧K₂ vs w M) ha (λvs M bk=>Qg (hk vs M bk)) rfl he) ?_ aW Q aN k;refine PZ λM vs be Wd=>?_;refine ap Wd λw af hw=>?_;subst af;exact hc vs w M hw
noncomputable def fF:Option Int→AV
 | none=>.none
 | some i=>.int i
structure j6 where
 (F c1 c2 c3 fa ua K rw dk lf en x dx nd rl:ay) (n:Nat) (bh:Bool)
noncomputable abbrev cY(X:gD g)(a:j6)(kV doc pm ct:aq):Env:=ol (gy (top 16) "_law_course" "_law_course" .none kV doc pm (.ref X.cL) ct) X.fL a.F [("i",a.c3),("urges",a.c2),("firsts",a.c1)]
noncomputable def j6.names(a:j6)(seen out:Nat)(now:Int):List (Str×AV):=[("row",.ref a.rw),("seen",.int seen),("out",.int out),("desk",.ref a.dk),("left",.ref a.lf),("ends",.ref a.en),("now",.int now),("key",.ref a.K),("sorter",.ref a.x),("behind",.bool a.bh),("n",.int a.n)]
theorem uh{nd:ay}{ns:List Nd}:(T++bQ g TS NI x dx nd ns rl rd p f R).Perm (bQ g TS NI x dx nd ns rl rd p f (T++R)):=by
 unfold bQ;refine (bb T _ _).trans (dG _ ?_);exact bq
theorem Ay{q:fN}{nd:ay}{ns:List Nd}(h:q∈R):q∈T++bQ g TS NI x dx nd ns rl rd p f R:=ag _ (ag _ (.tail _ h))
theorem DY(X:gD g){nd:ay}{ns:List Nd}{fm:ay}(M:qV g X.D.K X.D.TS name qual st fm)(ql:(gO nd (.ref rl) p f).lookup name=none)
  (ho:PE g A (T++bQ g X.D.TS X.D.NI x dx nd ns rl rd p f R) env o (.ref x))
  (hc:CX g A (bQ g X.D.TS X.D.NI x dx nd ns rl rd p f (T++R)) (.call (.ref fm) ⟨[.ref x],[]⟩) K')
  (hbase:dW o name env (eval o env)=eval o env:=by rfl)
  (hfew:i8 (([]:List Expr).length+([]:List g0).length) (b6 pos (aE [] env)) (bj pos (aO [] env))=true:=by rfl) (hline:(apos.endLine==pos.line)=true:=by rfl) :
  GX g A (T++bQ g X.D.TS X.D.NI x dx nd ns rl rd p f R) (eval (.Call (.Attribute o name apos) [] [] pos) env) K':=by
 refine yk M.fn λof dV kV doc pm cq ct h1 h2 h3 _=>?_;exact Dz X.D.TK X.D.lI ho qQ sV ql M.find M.typ (pN (.top h1 h2) h3) (GX.rf (hc.pre (aj.perm uh.symm))) hbase hfew hline
variable {t:Sem α}
theorem pT{K K':α→ae→Prop}(h:GX g A L t K)(w : ∀v M,K v M→∃M',K' v M'∧aj M' M):GX g A L t K':=λs Q S k=>h s Q S λv M s' hv S'=>by
 refine ap (w v M hv) λM' h1 h2=>?_;exact k v M' s' h1 (S'.cX h2)
noncomputable abbrev lN:List fK:=ju (bA (ju (top 16)) 12)
theorem Yg(X:gD g){a:j6}(hA:bZ (n+1) A){ns:List Nd}(hk:dc ns)(hr : ∀k∈rd,k∈ns.map (·.key))(hz:rd.length≤1000)(hm:m.lookup ("sorter":Str)=some (AV.ref a.x))
  (h : ∀gl aX,dc aX→bJ aX=im (bJ ns) rd→SX g A ((a.F,am (("given",.ref gl)::m))::(gl,ai rd)::(T++bQ g X.D.TS X.D.NI a.x a.dx a.nd aX a.rl [] (p+rd.length) f R)) (cY X a kV doc pm ct) rest Q) :
  SX g A ((a.F,am m)::(T++bQ g X.D.TS X.D.NI a.x a.dx a.nd ns a.rl rd p f R)) (cY X a kV doc pm ct) (bA lN 0::rest) Q:=by
 refine ic (K:=λv M=>∃gl aX,v = .ref gl∧dc aX∧bJ aX=im (bJ ns) rd∧M=(gl,ai rd)::(a.F,am m)::(T++bQ g X.D.TS X.D.NI a.x a.dx a.nd aX a.rl [] (p+rd.length) f R)) ?_ ?_
 ·refine lr (K:=λvs M=>∃t aX,vs=[.ref t]∧dc aX∧bJ aX=im (bJ ns) rd∧M=(t,cg (rd.map .int))::((a.F,am m)::T)++bQ g X.D.TS X.D.NI a.x a.dx a.nd aX a.rl [] (p+rd.length) f R) (gQ X.T (by k_mem)) (pK (K:=λv M=>∃t aX,v = .ref t∧dc aX∧bJ aX=im (bJ ns) rd∧M=(t,cg (rd.map .int))::((a.F,am m)::T)++bQ g X.D.TS X.D.NI a.x a.dx a.nd aX a.rl [] (p+rd.length) f R) ?a1 ?a2) ?a3
  case a1 =>
   refine pT (DY X (T:=(a.F,am m)::T) X.D.ready rfl (bU (.head _) hm) (HV X.T X.D.toSrt2 hA hk hr (bV (.i (.l .A (.c 1000)) (.l .A (.c 10000))) rfl hz) rfl)) ?_;refine vB λt aX h1 h2=>?_;exact ⟨_,⟨t,aX,rfl,h1,h2,rfl⟩,aj.perm (mw _ uh)⟩
  case a2 =>
   refine vB λt aX h1 h2=>?_;exact pP.mono λvs N ⟨e1,e2⟩=>⟨t,aX,by rw [e1],h1,h2,e2⟩
  case a3 =>
   refine vB λt aX h1 h2=>?_;refine ⟨gp λ_ x=>(by cases x),pT (R3 (.head _) (by simp;exact jZ hz)) ?_⟩;refine fh λD=>?_;exact ⟨_,⟨D,aX,rfl,h1,h2,rfl⟩,aj.pick .head iI (.skip .refl)⟩
 ·refine vB λgl aX h1 h2=>?_;refine ⟨.ref gl,_,rfl,b7 (.tail .head),?_⟩;exact dS (h gl aX h1 h2) (aj.perm (fp ..))
theorem aj.mid{P T X Y:ae}(h:aj X (P++Y)):aj (T++X) (P++(T++Y)):=by
 induction T with
 | nil=>exact h
 | cons t T ih=>exact aj.pick (aR.cE .head) iI ih
theorem Yh(X:gD g){a:j6}{kV doc pm ct:aq}{n:Nat}(hA:bZ (n+3) A){m:List (Str×AV)}{es:List (Pos×ay)}{row rd firsts:List Int}{gl:ay}{seen out:Nat}
  (h1:m.lookup ("row":Str)=some (AV.ref a.rw)) (h2:m.lookup ("seen":Str)=some (AV.int seen)) (h3:m.lookup ("out":Str)=some (AV.int out)) (h4:m.lookup ("given":Str)=some (AV.ref gl))
  (m1:(a.rw,ai row)∈R) (m2:(gl,ai rd)∈R) (m3:(a.c1,az (some (.ref a.fa)))∈R) (m4:(a.fa,ai firsts)∈R)
  (lM:seen≤out) (vf:out≤row.length) (hz:row.length+rd.length<64) (sk:firsts.length≤1000) (hd : ∀i∈(row.drop seen).take (out-seen)++rd,gA firsts i) (hw:iJ (an firsts) ((row.drop seen).take (out-seen)))
  (h : ∀D aT,(∀e∈es,e∈aT)→SX g A (bM X.PL cD aT++(a.F,am (("due",.ref D)::m))::(D,ai (cN (an firsts) ((row.drop seen).take (out-seen)) rd))::R) (cY X a kV doc pm ct) rest Q) :
  SX g A (bM X.PL cD es++(a.F,am m)::R) (cY X a kV doc pm ct) (bA lN 1::rest) Q:=by
 refine ic (K:=λv M=>∃D aT,v = .ref D∧(∀e∈es,e∈aT)∧M=bM X.PL cD aT++(a.F,am m)::(D,ai (cN (an firsts) ((row.drop seen).take (out-seen)) rd))::R) ?_ ?_
 ·refine DF (hE:=by rfl) (he:=by rfl) (K:=λvs M=>∃c,vs=[.ref c]∧M=bM X.PL cD es++(c,ai ((row.drop seen).take (out-seen)++rd))::(a.F,am m)::R)
   (K₂:=λvs w M=>∃c f P aT,vs=[.ref c]∧w = .ref f∧M=(f,P)::(bM X.PL cD aT++(c,ai ((row.drop seen).take (out-seen)++rd))::(a.F,am m)::R)∧(∀e∈es,e∈aT)∧jd 1 g M (.ref f) (gA firsts) (an firsts) Cd) (gQ X.T (by k_mem)) ?a1 ?a2 ?a3
  case a1 =>
   refine pK (K:=λv M=>∃c,v = .ref c∧M=bM X.PL cD es++(c,ai ((row.drop seen).take (out-seen)++rd))::(a.F,am m)::R) ?b1 ?b2
   case b2 =>
    refine fh λc=>?_;exact pP.mono λvs N ⟨e1,e2⟩=>⟨c,by rw [e1],e2⟩
   case b1 =>
    have hW:((row.map AV.int).drop seen).take (out-seen)=((row.drop seen).take (out-seen)).map AV.int:=by rw [n7,n8]
    refine AF (K:=λv M=>∃sl,v = .ref sl∧M=(sl,ai ((row.drop seen).take (out-seen)))::(bM X.PL cD es++(a.F,am m)::R)) (K':=λv w M=>∃sl,v = .ref sl∧w = .ref gl∧M=(sl,ai ((row.drop seen).take (out-seen)))::(bM X.PL cD es++(a.F,am m)::R)) ?c1 ?c2 ?c3
    case c1 =>
     have pn : ∀(x:Str) (q:Pos) (b:AV),m.lookup x=some b→(cY X a kV doc pm ct).kindOf x=some .local→(x==("__debug__":Str))=false→PE g A (bM X.PL cD es++(a.F,am m)::R) (cY X a kV doc pm ct) (.Name x q) b:=λx q b hb hk hd=>bU (ag _ (.head _)) hb rfl hk hd;refine (Ao (ht:=by intro _ _;rfl) (l:=a.rw) (xs:=row.map .int) (a:=seen) (b:=out) (pn _ _ _ h1 rfl rfl) (pn _ _ _ h2 rfl rfl) (pn _ _ _ h3 rfl rfl) (ag _ (.tail _ m1)) lM (by simpa using vf) (by simp;exact bK (.i (.t (.a .A .B) (.c 64)) (.l .A (.c 100000))) rfl hz)).mono ?_;refine fh λD=>?_;rw [hW];exact ⟨D,rfl,rfl⟩
    case c2 =>
     refine fh λsl=>?_;intro s Q S k;exact bU (env:=cY X a kV doc pm ct) (a:=.ref gl) (.tail _ (ag _ (.head _))) h4 rfl rfl (by decide) s Q cU S λw s' hw S'=>k w _ s' ⟨sl,rfl,hw,rfl⟩ S'
    case c3 =>
     refine GI λsl=>?_;intro s Q S k;refine DP (a:=sl) (b:=gl) (xs:=((row.drop seen).take (out-seen)).map .int) (ys:=rd.map .int) (.head _) (.tail _ (ag _ (.tail _ m2))) (by simp;exact fy (.i (.t (.a .A .B) (.c 64)) (.l (.a (.n (.s .C .D) (.s .A .D)) .B) (.c 100000))) rfl hz) s Q S λc s' S'=>k _ _ s' ⟨c,rfl,rfl⟩ (S'.cX ?_);rw [← aV];exact aj.mid (P:=[_,_]) (aj.pick .head iI (.skip .refl))
  case a2 =>
   refine fh λc=>?_;refine (DX X (c1:=a.c1) (fa:=a.fa) (is:=firsts) rfl rfl (by kernel_rfl) (by kernel_rfl) (.tail _ (.tail _ m3)) (.tail _ (.tail _ m4)) sk).mono ?_;intro w M bz;refine lF bz λf P aT af fG iO hk=>?_;subst af;subst fG;exact ⟨c,f,P,aT,rfl,rfl,rfl,iO,hk⟩
  case a3 =>
   intro vs w M bz;refine qT bz λc f P aT af fG vb iO hk=>?_;subst af;subst fG;subst vb;refine ⟨gp λ_ x=>(by cases x),pT (PH (n:=1) (hA.le (KG)) hk (λ_ _ _ h=>h) iI (.tail _ (ag _ (.head _))) hd (by simp;exact fy (.i (.t (.a .A .B) (.c 64)) (.t (.a (.n (.s .C .D) (.s .A .D)) .B) (.c 64))) rfl hz)) ?_⟩;refine zX λD ab0 hs=>?_;rw [Sa hw hs];exact ⟨_,⟨D,aT,rfl,iO,rfl⟩,aj.mid (P:=[_,_]) (aj.pick (.tail (.tail (.tail .head))) iI (aj.pick .head iI (.skip (.skip .refl))))⟩
 ·refine zX λD aT iO=>?_;exact ⟨.ref D,_,rfl,b7 (.cE .head),h D aT iO⟩
end
section
variable {a:Int}
theorem Hz: ∀{is w:List Int},a∈cN ρ w is↔a∈w∨a∈is:=by
 intro is
 induction is with
 | nil=>intro w;simp [cN]
 | cons x is ih =>
  intro w;show a∈cN ρ (eH ρ x w) is↔_
  rw [ih,xt,fS];constructor
  ·rintro ((h | h) | h)<;>simp [h]
  ·rintro (h | h | h)<;>simp [h]
theorem De: ∀{is w:List Int},(cN ρ w is).Perm (w++is):=by
 intro is
 induction is with
 | nil=>intro w;rw [fg];exact dH _
 | cons x is ih =>
  intro w;show (cN ρ (eH ρ x w) is).Perm _
  refine (ih).trans ?_;refine (xo.append_right is).trans ?_;exact (bq (l₁:=w)).symm
theorem C3{w:List Int}:(cN ρ w is).length=w.length+is.length:=by rw [De.length_eq,aD]
variable {x:Int}
theorem PQ{w:List Int}:cN ρ w (is++[x])=eH ρ x (cN ρ w is):=by unfold cN;rw [dE];rfl
variable {h:List Int}
theorem PR:d0 h (is++[x])=(d0 h is).erase x:=by unfold d0;rw [dE];rfl
theorem QU: ∀{is h:List Int},h.Nodup→(a∈d0 h is↔a∈h∧a∉is):=by
 intro is
 induction is with
 | nil=>intro h _;simp [d0]
 | cons x is ih =>
  intro h hn;show a∈d0 (h.erase x) is↔_
  rw [ih (hn.erase x),hn.mem_erase_iff,fS];constructor
  ·rintro ⟨⟨h1,h2⟩,h3⟩;exact ⟨h2,λh=>h.elim h1 h3⟩
  ·rintro ⟨h1,h2⟩;exact ⟨⟨λe=>h2 (.inl e),h1⟩,λe=>h2 (.inr e)⟩
theorem Hb:∀{is h:List Int},is.Nodup→(∀i∈is,i∈h)→h.Perm (is++d0 h is):=by
 intro is
 induction is with
 | nil=>intro h _ _;exact dH _
 | cons x is ih =>
  intro h hn hs;refine b8 (List.nodup_cons.mp hn) λh1 h2=>?_;have e:=List.perm_cons_erase (hs x (.head _));refine e.trans (mw x (ih h2 λi hi=>?_));have fw:i≠x:=λe=>h1 (by rw [← e];exact hi);exact (n9 fw).mpr (hs i (.tail _ hi))
theorem Do{pre w:List Int}(hn:is.Nodup)(hs : ∀i∈is,i∈h):(pre++cN ρ w is++d0 h is).Perm (pre++w++h):=by
 rw [aH,aH];refine dG pre ?_;refine (De.append_right _).trans ?_;rw [aH];exact dG w (Hb hn hs).symm
theorem HA{l:List Int}{k:Nat}{x:Int}(h:l[k]?=some x):l.take (k+1)=l.take k++[x]:=by
 rw [kI,h];rfl
theorem Sb{pre w:List Int}{k:Nat}(hn:is.Nodup)(hs : ∀i∈is,i∈h)(d9:(pre++w++h).Nodup)(hx:is[k]?=some x):
  x∈d0 h (is.take k)∧(pre++cN ρ w (is.take k)++d0 h (is.take k)).erase x=pre++cN ρ w (is.take k)++(d0 h (is.take k)).erase x:=by
 have hh:h.Nodup:=(List.nodup_append.mp d9).2.1;have yV:x∈is:=bx hx;have M7:x∉is.take k:=by
  intro hm;obtain ⟨j,hj,e⟩:=List.mem_iff_getElem.mp hm;rw [jD] at hj;rw [List.getElem_take] at e;obtain ⟨hk,e'⟩:=List.getElem?_eq_some_iff.mp hx
  have:=(List.getElem_inj hn).mp (e.trans e'.symm)
  exact bB (.i (.t .A (.n .B .C)) (.i (.e .A .B) .f)) rfl hj this
 refine ⟨(QU hh).mpr ⟨hs x yV,M7⟩,?_⟩;refine Gz _ ?_;intro hm;rcases List.mem_append.mp hm with hm | hm
 ·exact (List.nodup_append.mp d9).2.2 x (ao _ hm) x (hs x yV) rfl
 ·rcases Hz.mp hm with hm | hm
  ·exact (List.nodup_append.mp d9).2.2 x (ag _ hm) x (hs x yV) rfl
  ·exact M7 hm
theorem Tv{pre w:List Int}(hw:iJ ρ w): ∃r:Nat,pre.length≤r∧r≤pre.length+w.length∧(pre++w++h).take r++x::(pre++w++h).drop r=pre++eH ρ x w++h ∧
  (∀i:Nat,pre.length≤i→i<r→∀e,(pre++w++h)[i]?=some e→¬ρ x<ρ e)∧(∀i:Nat,r≤i→i<pre.length+w.length→∀e,(pre++w++h)[i]?=some e→ρ x<ρ e):=by
 refine qS (H6 (x:=x) hw) λr h1 h2 h3 h4=>?_;have get : ∀i:Nat,pre.length≤i→i<pre.length+w.length→(pre++w++h)[i]?=w[i-pre.length]?:=λi h1 h2=>by
  rw [aH,iT h1,qB (by exact EI h1 h2)]
 refine ⟨pre.length+r,yb,EB h1,?_,λi a1 a2 e he=>?_,λi a1 a2 e he=>?_⟩
 ·rw [h2];have e1:(pre++w++h).take (pre.length+r)=pre++w.take r:=by
   rw [aH,List.take_length_add_append,List.take_append_of_le_length h1]
  have e2:(pre++w++h).drop (pre.length+r)=w.drop r++h:=by
   rw [aH,List.drop_length_add_append,List.drop_append_of_le_length h1]
  rw [e1,e2];simp
 ·rw [get i a1 (fy (.i (.l .A .B) (.i (.t .C (.a .D .A)) (.t .C (.a .D .B)))) rfl h1 a2)] at he;exact h3 _ e (EI a1 a2) he
 ·rw [get i (EC a1) a2] at he;exact h4 _ e (KI a1) he
end
section
open PySem PySem.W PySem.W.X PyProof.Rows
variable {g:Gd}{A:bg}{L L' bX bF L₁ L₂ bH R:ae}{env:Env}{rest:List fK}{Q:oP→aU→Prop}
theorem Tw(h:m.lookup x=some a): ∀o,am m o→am ((x,a)::m) o:=λo ⟨es,ep,h1,h2,h3⟩=>⟨es,ep,h1,h2,λy b hy=>by
 rw [aP] at hy;cases e:y==x with
 | true=>rw [e] at hy;cases hy;rw [beq_iff_eq.mp e];exact h3 x a h
 | false=>rw [e] at hy;exact h3 y b hy⟩
theorem Sc{m:List (Str×AV)}{x:Str}{a b:AV}: ∀o,am ((x,a)::(x,b)::m) o→am ((x,a)::m) o:=λo ⟨es,ep,h1,h2,h3⟩=>⟨es,ep,h1,h2,λy c hy=>h3 y c (by
 rw [aP] at hy ⊢;cases e:y==x with
 | true=>rw [e] at hy;exact hy
 | false=>rw [e] at hy;rw [aP,e];exact hy)⟩
variable {a:j6}
theorem Yi(X:gD g)(hA:bZ (n+3) A){pre:List Int}{gl:ay}
  (h1:m.lookup ("row":Str)=some (AV.ref a.rw)) (h2:m.lookup ("seen":Str)=some (AV.int pre.length)) (h3:m.lookup ("out":Str)=some (AV.int ((pre.length+win.length:Nat):Int))) (h4:m.lookup ("given":Str)=some (AV.ref gl))
  (m2:(gl,ai rd)∈R) (m3:(a.c1,az (some (.ref a.fa)))∈R) (m4:(a.fa,ai firsts)∈R)
  (d9:(pre++win++hold).Nodup) (M8:rd.Nodup) (FT : ∀i∈rd,i∈hold) (hz:(pre++win++hold).length≤1000) (sk:firsts.length≤1000) (hd : ∀i∈pre++win++hold,gA firsts i) (hw:iJ (an firsts) win)
  (h : ∀aT,(∀e∈es,e∈aT)→SX g A (bM X.PL cD aT++(a.F,am (("out",.int ((pre.length+win.length+rd.length:Nat):Int))::m))::(a.rw,ai (pre++cN (an firsts) win rd++d0 hold rd))::(a.c3,az none)::R) (cY X a kV doc pm ct) rest Q) :
  SX g A (bM X.PL cD es++(a.F,am m)::(a.rw,ai (pre++win++hold))::(a.c3,az none)::R) (cY X a kV doc pm ct) (bA lN 2::rest) Q:=by
 have hh:=hA.handled;have hgl:(gl,ai rd)∈bM X.PL cD es++(a.F,am m)::(a.rw,ai (pre++win++hold))::(a.c3,az none)::R:=ag _ (md 3 m2);refine lu (xs:=rd.map .int) (sH hh (l:=gl) ?g1 hgl) ?_
 case g1=>exact bU (ag _ (.head _)) h4
 refine jE λH hH=>?_;refine ⟨List (Pos×ay),λk es=>bM X.PL cD es++(a.F,am (("out",.int ((pre.length+win.length+k:Nat):Int))::m))::(a.rw,ai (pre++cN (an firsts) win (rd.take k)++d0 hold (rd.take k)))::(a.c3,az none)::R,λ_ aT=>∀e∈es,e∈aT,es,λ_ h=>h,?sub,?hH,?turn,?done⟩
 case sub=>exact aj.mO (aj.pick .head (Tw (by rw [h3];rfl)) .refl)
 case hH=>exact λk es _=>hH _ (ag _ (md 3 m2))
 case done =>
  intro aT iO;have e:(rd.map AV.int).length=rd.length:=ar ..;have e2:rd.take rd.length=rd:=gM;rw [e];dsimp only;rw [e2];exact h aT iO
 case turn =>
  intro k aT av hx iO ia;rw [aA] at hx;refine ap (Option.map_eq_some_iff.mp hx) λx jK af=>?_;subst af;clear hx;dsimp only;generalize hW:cN (an firsts) win (rd.take k)=w;generalize hH:d0 hold (rd.take k)=fQ;refine b8 (Sb (ρ:=an firsts) M8 FT d9 jK) λq1 q2=>?_;rw [hW,hH] at q2;rw [hH] at q1;have rh:iJ (an firsts) w:=by rw [← hW];exact DE hw
  have ri:(pre++w++fQ).Perm (pre++win++hold):=by rw [← hW,← hH];exact Do (M8.sublist (List.take_sublist ..)) λi hi=>FT i (lh hi)
  have tD:k<rd.length:=(List.getElem?_eq_some_iff.mp jK).1;have gE:w.length=win.length+k:=by rw [← hW,C3,jD];exact bB (.i (.t .A .B) (.e (.a .C (.n .A .B)) (.a .C .A))) rfl tD
  refine ⟨ia::(bM X.PL cD aT++(a.F,am (("out",.int ((pre.length+win.length+k:Nat):Int))::m))::(a.rw,ai (pre++w++fQ))::(a.c3,az (some (.int x)))::R),jF (iy (c:=a.c3) rfl (.tail (.cE (.tail (.tail .head))))),?_⟩;refine qI (L':=ia::(bM X.PL cD aT++(a.F,am (("out",.int ((pre.length+win.length+k:Nat):Int))::m))::(a.rw,ai (pre++w++fQ.erase x))::(a.c3,az (some (.int x)))::R)) (a:=.none) (sI (hbase:=by rfl) (hfew:=by rfl) (hline:=by rfl) (he:=by rfl) (L₁:=ia::(bM X.PL cD aT++(a.F,am (("out",.int ((pre.length+win.length+k:Nat):Int))::m))::(a.rw,ai (pre++w++fQ))::(a.c3,az (some (.int x)))::R)) (l:=a.rw) (xs:=(pre++w++fQ).map .int) (as:=[.int x]) ?r1 ?r2 Cu PySem.F.type_list_remove ?r3 (R1 (is:=pre++w++fQ) ?r4 ?r5 ?r6)) ?_
  case r1=>exact bU (.tail _ (ag _ (.head _))) (m:=("out",.int ((pre.length+win.length+k:Nat):Int))::m) (by rw [aP];exact h1)
  case r2=>exact .tail _ (ag _ (mi 1 rfl))
  case r3=>exact b9 (dZ (c:=a.c3) rfl (.tail _ (ag _ (mi 2 rfl)))) dh
  case r4=>exact ag _ q1
  case r5=>rw [q2];exact .tail (.cE (.tail .head))
  case r6=>rw [ri.length_eq];exact jZ hz
  have ab1:(pre++w++fQ).Nodup:=ri.nodup_iff.mpr d9;have hlen:(pre++w++fQ).length=(pre++win++hold).length:=ri.length_eq;refine dS (L:=bM X.PL cD aT++ia::(a.F,am (("out",.int ((pre.length+win.length+k:Nat):Int))::m))::(a.rw,ai (pre++w++fQ.erase x))::(a.c3,az (some (.int x)))::R) ?_ (aj.perm bq);refine pJ (K:=λv M=>∃kY,(∀e∈aT,e∈kY)∧M=bM X.PL cD kY++ia::(a.F,am (("out",.int ((pre.length+win.length+k:Nat):Int))::m))::(a.rw,ai (pre++eH (an firsts) x w++fQ.erase x))::(a.c3,az (some (.int x)))::R)
   (DF (hE:=by rfl) (he:=by rfl) (K:=λvs M=>bP vs [.ref a.rw,.int x,.int pre.length,.int ((pre.length+win.length+k:Nat):Int)]∧M=bM X.PL cD aT++ia::(a.F,am (("out",.int ((pre.length+win.length+k:Nat):Int))::m))::(a.rw,ai (pre++w++fQ.erase x))::(a.c3,az (some (.int x)))::R)
    (K₂:=λvs wv M=>bP vs [.ref a.rw,.int x,.int pre.length,.int ((pre.length+win.length+k:Nat):Int)]∧∃f P kY,wv = .ref f∧M=(f,P)::(bM X.PL cD kY++ia::(a.F,am (("out",.int ((pre.length+win.length+k:Nat):Int))::m))::(a.rw,ai (pre++w++fQ.erase x))::(a.c3,az (some (.int x)))::R)∧(∀e∈aT,e∈kY)∧jd 1 g M (.ref f) (gA firsts) (an firsts) Cd)
    (f:=.ref X.T.qe) ?s1 ?s2 ?s3 ?s4) ?s5
  case s1=>exact kJ X.T.G X.T.Fo (ha:=rfl)
  case s2 =>
   have pn : ∀(x':Str) (q:Pos) (b:AV),((("out":Str),AV.int ((pre.length+win.length+k:Nat):Int))::m).lookup x'=some b→(cY X a kV doc pm ct).kindOf x'=some .local→(x'==("__debug__":Str))=false→PE g A (bM X.PL cD aT++ia::(a.F,am (("out",.int ((pre.length+win.length+k:Nat):Int))::m))::(a.rw,ai (pre++w++fQ.erase x))::(a.c3,az (some (.int x)))::R) (cY X a kV doc pm ct) (.Name x' q) b:=λx' q b hb hk hd=>bU (ag _ (mi 1 rfl)) hb rfl hk hd;exact jH (b9 (pn _ _ _ (by rw [aP];exact h1) rfl rfl) (b9 (dZ (env:=cY X a kV doc pm ct) (c:=a.c3) rfl (ag _ (mi 3 rfl))) (b9 (pn _ _ _ (by rw [aP];exact h2) rfl rfl) (b9 (pn _ _ _ (by rw [aP];rfl) rfl rfl) dh))))
  case s3 =>
   intro vs;refine fT λbk=>?_;refine (DX X (c1:=a.c1) (fa:=a.fa) (is:=firsts) rfl rfl (by kernel_rfl) (by kernel_rfl) (.tail _ (.tail _ (.tail _ (.tail _ m3)))) (.tail _ (.tail _ (.tail _ (.tail _ m4)))) sk).mono ?_;intro wv M bz;refine lF bz λf P kY af fG uN hk=>?_;subst af;subst fG;exact ⟨bk,f,P,kY,rfl,rfl,uN,hk⟩
  case s4 =>
   intro vs wv M bz;refine b8 bz λbk We=>?_;refine lF We λf P kY af fG uN hk=>?_;subst af;subst fG;refine ET (Tv (pre:=pre) (h:=fQ.erase x) (x:=x) rh) λr z1 z2 z3 z4 z5=>?_;refine ⟨X.T.ir.kept,λs Q S kk=>?_⟩;have wP:gA firsts x:=hd x (ag _ (FT x (bx jK)));refine Ok X.T (n:=1) (hA.le (KG)) hk (by intro e;cases e) iI (al:=a.rw) (is:=pre++w++fQ.erase x) (x:=x) (lo:=pre.length) (hi:=((pre.length+win.length+k:Nat):Int)) (r:=r)
    (L':=(f,P)::(bM X.PL cD kY++ia::(a.F,am (("out",.int ((pre.length+win.length+k:Nat):Int))::m))::(a.rw,ai (pre++eH (an firsts) x w++fQ.erase x))::(a.c3,az (some (.int x)))::R))
    ?u1 ?u2 wP (gR) (wa z1) (rJ (.i (.e .A (.a .B .C)) (.i (.l .D (.a .F .A)) (.L (.k .D) (.k (.a (.a .F .B) .C))))) rfl gE z2) ?u3 ?u4 ?u5 ?u6 vs [.ref f] bk (.cons rfl .nil) s _ S λv s' _ S'=>kk _ _ s' ⟨kY,uN,rfl⟩ S'.ig
   case u1 =>
    have e:(pre++w++fQ.erase x).take (r:Int).toNat++x::(pre++w++fQ.erase x).drop (r:Int).toNat=pre++eH (an firsts) x w++fQ.erase x:=z3;rw [e];exact .tail (.cE (.tail (.tail .head)))
   case u2 =>
    intro i hi;refine hd i (ri.mem_iff.mp ?_);rcases List.mem_append.mp hi with hi | hi
    ·exact ao _ hi
    ·exact ag _ (gu hi)
   case u3=>rw [aD,aD];exact rJ (.i (.e .A (.a .B .C)) (.L (.k (.a (.a .D .B) .C)) (.k (.a (.a .D .A) .F)))) rfl gE
   case u4 =>
    have:(fQ.erase x).length≤fQ.length:=List.length_erase_le
    rw [aD,aD] at hlen ⊢;exact rJ (.i (.l .A (.c 1000)) (.i (.e (.a (.a .B .C) .D) .A) (.i (.l .F .D) (.l (.a (.a .B .C) .F) (.c 100000))))) rfl hz hlen this
   case u5=>exact λi a1 a2 e he=>z4 i (wb a1) (uH a2) e he
   case u6=>exact λi a1 a2 e he=>z5 i (wb a1) (rJ (.i (.e .A (.a .B .C)) (.i (.T (.k .D) (.k (.a (.a .F .B) .C))) (.t .D (.a .F .A)))) rfl gE a2) e he
  case s5 =>
   intro v;refine PX λkY uN=>?_;refine D4 (a:=.int ((pre.length+win.length+k:Nat):Int)) (b:=.int 1) (c:=.int (((pre.length+win.length+k:Nat):Int)+1)) (Ar (ag _ (mi 1 rfl)) (by rw [aP];rfl)) gP vT (b7 (.cE (.tail .head))) (eJ λs S=>⟨kY,λe he=>uN e (iO e he),S.cX ?_⟩);rw [HA jK,PQ,PR,hW,hH];have e:(((pre.length+win.length+k:Nat):Int)+1)=((pre.length+win.length+(k+1):Nat):Int):=bB (.E (.a (.k (.a (.a .A .B) .C)) .O) (.k (.a (.a .A .B) (.a .C .O)))) rfl;rw [e];refine aj.pick (.cE .head) iI (aj.mO (aj.pick .head Sc (aj.pick .head iI (aj.pick .head (λo ⟨w,hw,_⟩=>⟨w,hw,λa h=>by cases h⟩) .refl))))
theorem Dp{row:List Int}:((row.map AV.int).drop i).take (j-i)=((row.drop i).take (j-i)).map AV.int:=by rw [n7,n8]
theorem Yj(X:gD g){a:j6}{kV doc pm ct:aq}{n:Nat}(hA:bZ (n+9) A){m:List (Str×AV)}{row:List Int}{D:ay}{seen out:Nat}(hF:(a.F,am m)∈L)
  (h1:m.lookup ("row":Str)=some (AV.ref a.rw)) (h2:m.lookup ("seen":Str)=some (AV.int seen)) (h3:m.lookup ("out":Str)=some (AV.int out)) (h4:m.lookup ("due":Str)=some (AV.ref D))
  (m1:(a.rw,ai row)∈L) (m2:(D,ai ((row.drop seen).take (out-seen)))∈L) (lM:seen≤out) (vf:out≤row.length) (hz:row.length≤1000)
  (h:SX g A L (cY X a kV doc pm ct) rest Q):SX g A L (cY X a kV doc pm ct) (bA lN 3::rest) Q:=by
 have hu:A.units+64<w8:=by have:=hA.units;exact yc this
 have pn : ∀(x':Str) (q:Pos) (b:AV) (K:ae),m.lookup x'=some b→(cY X a kV doc pm ct).kindOf x'=some .local→(x'==("__debug__":Str))=false→PE g A (K++L) (cY X a kV doc pm ct) (.Name x' q) b:=λx' q b K hb hk hd=>bU (ag _ hF) hb rfl hk hd;refine iC (c:=false) rfl (xG (hm:=by kst_p) (K:=λv M=>∃sl,v = .ref sl∧M=(sl,ai ((row.drop seen).take (out-seen)))::L) (K':=λv w M=>∃sl,v = .ref sl∧w = .ref D∧M=(sl,ai ((row.drop seen).take (out-seen)))::L) ?a1 ?a2 ?a3) h
 case a1 =>
  refine (Ao (ht:=by intro _ _;rfl) (l:=a.rw) (xs:=row.map .int) (a:=seen) (b:=out) (pn _ _ _ [] h1 rfl rfl) (pn _ _ _ [] h2 rfl rfl) (pn _ _ _ [] h3 rfl rfl) m1 lM (by simpa using vf) (by simp;exact jZ hz)).mono ?_;refine fh λsl=>?_;rw [Dp];exact ⟨sl,rfl,rfl⟩
 case a2 =>
  refine fh λsl=>?_;intro s Q S k;exact pn _ _ (.ref D) [_] h4 rfl rfl s Q cU S λw s' hw S'=>k w _ s' ⟨sl,rfl,hw,rfl⟩ S'
 case a3 =>
  refine GI λsl=>?_;refine ⟨.skip .refl,?_⟩
  have:=Ec (g:=g) (A:=A) (L:=(sl,ai ((row.drop seen).take (out-seen)))::L) hu (aC _) (.tail _ m2) _ _ rfl rfl
  simpa using this
theorem Yk(X:gD g){a:j6}{kV doc pm ct:aq}{n:Nat}(hA:bZ (n+3) A){m:List (Str×AV)}{es:List (Pos×ay)}{row firsts:List Int}{now:Int}{seen out r:Nat}
  (h1:m.lookup ("row":Str)=some (AV.ref a.rw)) (h2:m.lookup ("seen":Str)=some (AV.int seen)) (h3:m.lookup ("out":Str)=some (AV.int out)) (h4:m.lookup ("now":Str)=some (AV.int now))
  (m1:(a.rw,ai row)∈R) (m3:(a.c1,az (some (.ref a.fa)))∈R) (m4:(a.fa,ai firsts)∈R) (sk:firsts.length≤1000) (hz:row.length≤1000) (hd : ∀i∈row,gA firsts i)
  (b1:seen≤r) (b2:r≤out) (b3:out≤row.length) (b4 : ∀i:Nat,seen≤i→i<r→∀e,row[i]?=some e→¬now<an firsts e) (b5 : ∀i:Nat,r≤i→i<out→∀e,row[i]?=some e→now<an firsts e)
  (h : ∀aT,(∀e∈es,e∈aT)→SX g A (bM X.PL cD aT++(a.F,am (("here",.int r)::m))::R) (cY X a kV doc pm ct) rest Q):SX g A (bM X.PL cD es++(a.F,am m)::R) (cY X a kV doc pm ct) (bA lN 4::rest) Q:=by
 have pn : ∀(x':Str) (q:Pos) (b:AV),m.lookup x'=some b→(cY X a kV doc pm ct).kindOf x'=some .local→(x'==("__debug__":Str))=false→PE g A (bM X.PL cD es++(a.F,am m)::R) (cY X a kV doc pm ct) (.Name x' q) b:=λx' q b hb hk hd=>bU (ag _ (.head _)) hb rfl hk hd;refine ic (K:=λv M=>∃aT,AV.Is v (.int r)∧(∀e∈es,e∈aT)∧M=bM X.PL cD aT++(a.F,am m)::R)
  (DF (hE:=by rfl) (he:=by rfl) (K:=λvs M=>bP vs [.ref a.rw,.int now,.int seen,.int out]∧M=bM X.PL cD es++(a.F,am m)::R) (K₂:=λvs wv M=>bP vs [.ref a.rw,.int now,.int seen,.int out]∧∃f P aT,wv = .ref f∧M=(f,P)::(bM X.PL cD aT++(a.F,am m)::R)∧(∀e∈es,e∈aT)∧jd 1 g M (.ref f) (gA firsts) (an firsts) Cd)
   (f:=.ref X.T.uU) ?s1 ?s2 ?s3 ?s4) ?s5
 case s1=>exact kJ X.T.G X.T.BN (ha:=rfl)
 case s2=>exact jH (b9 (pn _ _ _ h1 rfl rfl) (b9 (pn _ _ _ h4 rfl rfl) (b9 (pn _ _ _ h2 rfl rfl) (b9 (pn _ _ _ h3 rfl rfl) dh))))
 case s3 =>
  intro vs;refine fT λbk=>?_;refine (DX X (c1:=a.c1) (fa:=a.fa) (is:=firsts) rfl rfl (by kernel_rfl) (by kernel_rfl) (.tail _ m3) (.tail _ m4) sk).mono ?_;intro wv M bz;refine lF bz λf P aT af fG iO hk=>?_;subst af;subst fG;exact ⟨bk,f,P,aT,rfl,rfl,iO,hk⟩
 case s4 =>
  intro vs wv M bz;refine b8 bz λbk Wf=>?_;refine lF Wf λf P aT af fG iO hk=>?_;subst af;subst fG;refine ⟨X.T.br.kept,λs Q S kk=>?_⟩;exact GJ X.T.br (n:=1) (hA.le (bV (.l (.a .O .O) (.a .A (.c 3))) rfl)) hk (by intro e;cases e) iI (al:=a.rw) (is:=row) (.tail _ (ag _ (.tail _ m1))) hd (Kx:=[]) (rx:=now) (xa:=.int now) (λ_ h=>nomatch h) (λv hv=>⟨rfl,hv⟩) (lo:=seen) (hi:=out) (r:=r) (gR) (wa b1) (wa b2) (wa b3) (jZ hz)
   (λi c1 c2 e he=>b4 i (wb c1) (uH c2) e he) (λi c1 c2 e he=>b5 i (wb c1) (uH c2) e he) vs [.ref f] bk (.cons rfl .nil) s _ S λv s' hv S'=>kk _ _ s' ⟨aT,hv,iO,rfl⟩ S'.ig
 case s5 =>
  intro v;refine Hd λaT hv iO=>?_;exact ⟨.int r,_,hv,b7 (.cE .head),h aT iO⟩
theorem Hc(hh:A.handled=none){iter:Expr}(he:GX g A L (eval iter env) λv M=>∃D,v = .ref D∧M=(D,aM xs)::L):jv g A L env iter xs λM H=>∃t,M=(t,aM xs)::L∧∀N,(t,aM xs)∈N→H N :=
 GX.mono he λv M ⟨a,h1,h2⟩=>by
  subst h1 h2;have hp:=Iu (A:=A) (g:=g) (L:=(a,aM xs)::L) hh (l:=a) (xs:=xs) (aC _);exact hp.2.mono λr M' ⟨it,e1,e2⟩=>⟨it,_,_,_,e1,e2,⟨a,rfl,λ_ h=>h⟩,hp.1 it⟩
theorem QV{d:List Int}{x:Int}:gr U b d (is++[x])=if b then eH U x (gr U b d is) else jJ U x (gr U b d is):=by unfold gr;rw [dE];rfl
theorem Ap{a:Int}: ∀{is d:List Int},a∈gr U b d is↔a∈d∨a∈is:=by
 intro is
 induction is with
 | nil=>intro d;simp [gr]
 | cons x is ih =>
  intro d;show a∈gr U b (if b then eH U x d else jJ U x d) is↔_
  rw [ih,fS];cases b
  ·simp only [bp,Qcv,DD];constructor
   ·rintro ((h | h) | h)<;>simp [h]
   ·rintro (h | h | h)<;>simp [h]
  ·simp only [if_true,xt];constructor
   ·rintro ((h | h) | h)<;>simp [h]
   ·rintro (h | h | h)<;>simp [h]
theorem QW{U:Int→Int}{b:Bool}: ∀{is d:List Int},iJ U d→iJ U (gr U b d is):=by
 intro is
 induction is with
 | nil=>intro d h;exact h
 | cons x is ih=>intro d h;exact ih (by cases b;exact QP h;exact Hy h)
theorem G5: ∀{is d:List Int},(gr U b d is).length=d.length+is.length:=by
 intro is
 induction is with
 | nil=>intro d;exact rfl
 | cons x is ih =>
  intro d;show (gr U b (if b then eH U x d else jJ U x d) is).length=_
  rw [ih];cases b
  ·simp only [bp,Qcv,Dm.length_eq,cj];exact KJ
  ·simp only [if_true,xo.length_eq,cj];exact KJ
theorem Yl(X:gD g)(hA:bZ (n+5) A){row dp:List Int}{here:Nat}(fV:jd 3 g bF (.ref a.K) (gA dK) (an dK) KV)(eV:cu bF R)
  (h1:m.lookup ("row":Str)=some (AV.ref a.rw)) (h2:m.lookup ("seen":Str)=some (AV.int seen)) (h3:m.lookup ("here":Str)=some (AV.int here)) (h4:m.lookup ("desk":Str)=some (AV.ref a.dk)) (h5:m.lookup ("key":Str)=some (AV.ref a.K)) (h6:m.lookup ("behind":Str)=some (AV.bool a.bh))
  (m1:(a.rw,ai row)∈R) (gd:seen≤here) (hh':here≤row.length) (hz:row.length≤1000) (zm:dp.length≤1000) (hd : ∀i∈row,gA dK i) (hdd : ∀i∈dp,gA dK i) (vh:iJ (an dK) dp)
  (h:SX g A ((a.F,am m)::(a.dk,ai (gr (an dK) a.bh dp ((row.drop seen).take (here-seen))))::(a.c3,az none)::R) (cY X a kV doc pm ct) rest Q) :
  SX g A ((a.F,am m)::(a.dk,ai dp)::(a.c3,az none)::R) (cY X a kV doc pm ct) (bA lN 5::rest) Q:=by
 have hh:=hA.handled;have pn : ∀(x':Str) (q:Pos) (b:AV) (d:fN) (K:ae),m.lookup x'=some b→(cY X a kV doc pm ct).kindOf x'=some .local→(x'==("__debug__":Str))=false→PE g A (K++(a.F,am m)::d::R) (cY X a kV doc pm ct) (.Name x' q) b:=λx' q b d K hb hk hd=>bU (ag _ (.head _)) hb rfl hk hd;have tE : ∀(x':Str) (q:Pos) (b:AV) (L:ae),(a.F,am m)∈L→m.lookup x'=some b→(cY X a kV doc pm ct).kindOf x'=some .local→(x'==("__debug__":Str))=false→PE g A L (cY X a kV doc pm ct) (.Name x' q) b:=λx' q b L hF hb hk hd=>bU hF hb rfl hk hd;generalize kZ:(row.drop seen).take (here-seen)=arr at h;have LU : ∀i∈arr,i∈row:=λi hi=>by rw [← kZ] at hi;exact List.mem_of_mem_drop (lh hi)
 have Ym:arr.length≤row.length:=by rw [← kZ,jD,QaN];exact bB (.l (.n (.s .A .B) (.s .C .B)) .C) rfl
 refine lu (xs:=arr.map .int) (Hc hh ?g1) ?_
 case g1 =>
  refine (Ao (ht:=by intro _ _;rfl) (l:=a.rw) (xs:=row.map .int) (a:=seen) (b:=here) (tE _ _ _ _ (.head _) h1 rfl rfl) (tE _ _ _ _ (.head _) h2 rfl rfl) (tE _ _ _ _ (.head _) h3 rfl rfl) (.tail _ (.tail _ (.tail _ m1))) gd (by simpa using hh') (by simp;exact jZ hz)).mono ?_;refine fh λsl=>?_;rw [Dp,kZ];exact ⟨sl,rfl,rfl⟩
 refine xk λH sl hH=>?_;refine ⟨Unit,λk _=>(sl,ai arr)::(a.F,am m)::(a.dk,ai (gr (an dK) a.bh dp (arr.take k)))::(a.c3,az none)::R,λ_ _=>True,(),trivial,.refl,λk _ _=>hH _ (.head _),?turn,?done⟩
 case done =>
  intro _ _;have e:(arr.map AV.int).length=arr.length:=ar ..;rw [e];dsimp only;rw [gM];exact dS h (.skip .refl)
 case turn =>
  intro k _ av hx _ ia;rw [aA] at hx;refine ap (Option.map_eq_some_iff.mp hx) λx jK af=>?_;subst af;clear hx;dsimp only;rw [HA jK,QV];generalize hD:gr (an dK) a.bh dp (arr.take k)=d;have LV:iJ (an dK) d:=by rw [← hD];exact QW vh
  have M9:x∈row:=LU x (bx jK);have Na : ∀i∈d,gA dK i:=λi hi=>by
   rw [← hD] at hi;rcases Ap.mp hi with hi | hi
   ·exact hdd i hi
   ·exact hd i (LU i (lh hi))
  have zn:d.length≤2000:=by rw [← hD,G5,jD];exact fy (.i (.l .A (.c 1000)) (.i (.l .B (.c 1000)) (.i (.l .C .A) (.l (.a .B (.n .D .C)) (.c 2000))))) rfl hz zm Ym
  refine ⟨ia::(sl,ai arr)::(a.F,am m)::(a.dk,ai d)::(a.c3,az (some (.int x)))::R,jF (iy (c:=a.c3) rfl (.tail (.tail (.tail (.tail .head))))),?_⟩;have JK:cu bF (ia::(sl,ai arr)::(a.F,am m)::(a.dk,ai d)::(a.c3,az (some (.int x)))::R):=λp hp=>.tail _ (md 4 (eV p hp));have ex : ∀{d':List Int} {s:aU},St g (ia::(sl,ai arr)::(a.F,am m)::(a.dk,ai d')::(a.c3,az (some (.int x)))::R) s→St g (ia::(sl,ai arr)::(a.F,am m)::(a.dk,ai d')::(a.c3,az none)::R) s:=λS=>S.cX (aj.pick .head iI (aj.pick .head iI (aj.pick .head iI (aj.pick .head iI (aj.pick .head (λo ⟨w,hw,_⟩=>⟨w,hw,λa h=>by cases h⟩) .refl)))));refine mL (c:=a.bh) (vL (he:=by kst_p) (tE _ _ _ _ (mi 2 rfl) h6 rfl rfl)) (λhb=>?_) (λhb=>?_)
  ·rw [hb,Qct rfl];refine qS (H6 (x:=x) LV) λr z1 z2 z3 z4=>?_;refine qI (a:=.none) (L':=ia::(sl,ai arr)::(a.F,am m)::(a.dk,ai (eH (an dK) x d))::(a.c3,az (some (.int x)))::R) (mJ (f:=.ref X.T.qe) (L₁:=ia::(sl,ai arr)::(a.F,am m)::(a.dk,ai d)::(a.c3,az (some (.int x)))::R) (L₂:=ia::(sl,ai arr)::(a.F,am m)::(a.dk,ai d)::(a.c3,az (some (.int x)))::R) (as:=[.ref a.dk,.int x]) (ks:=[.ref a.K]) ?s1 ?s2 ?s3 X.T.ir.kept ?s4) (eJ λs S=>⟨(),trivial,ex S⟩)
   case s1=>exact kJ X.T.G X.T.Fo (ha:=rfl)
   case s2=>exact b9 (tE _ _ _ _ (mi 2 rfl) h4 rfl rfl) (b9 (dZ (env:=cY X a kV doc pm ct) (c:=a.c3) rfl (mi 4 rfl)) dh)
   case s3=>exact Hg (tE _ _ _ _ (mi 2 rfl) h5 rfl rfl) jU
   case s4 =>
    refine Oh X.T (n:=3) (hA.le (KK)) fV (by intro e;cases e) JK (al:=a.dk) (is:=d) (x:=x) (r:=r) ?u1 Na (hd x M9) (gR) (wa z1) (KM zn) (λi c1 e he=>z3 i e (uH c1) he) (λi c1 e he=>z4 i e (wb c1) he)
    case u1 =>
     rw [z2];exact .tail (.tail (.tail .head))
  ·rw [hb,Qcs (by decide)];refine qS (R6 (x:=x) LV) λr z1 z2 z3 z4=>?_;refine qI (a:=.none) (L':=ia::(sl,ai arr)::(a.F,am m)::(a.dk,ai (jJ (an dK) x d))::(a.c3,az (some (.int x)))::R) (mJ (f:=.ref X.T.uV) (L₁:=ia::(sl,ai arr)::(a.F,am m)::(a.dk,ai d)::(a.c3,az (some (.int x)))::R) (L₂:=ia::(sl,ai arr)::(a.F,am m)::(a.dk,ai d)::(a.c3,az (some (.int x)))::R) (as:=[.ref a.dk,.int x]) (ks:=[.ref a.K]) ?t1 ?t2 ?t3 X.T.il.kept ?t4) (eJ λs S=>⟨(),trivial,ex S⟩)
   case t1=>exact kJ X.T.G X.T.nil (ha:=rfl)
   case t2=>exact b9 (tE _ _ _ _ (mi 2 rfl) h4 rfl rfl) (b9 (dZ (env:=cY X a kV doc pm ct) (c:=a.c3) rfl (mi 4 rfl)) dh)
   case t3=>exact Hg (tE _ _ _ _ (mi 2 rfl) h5 rfl rfl) jU
   case t4 =>
    refine Ol X.T (n:=3) (hA.le (KK)) fV (by intro e;cases e) JK (al:=a.dk) (is:=d) (x:=x) (r:=r) ?v1 Na (hd x M9) (gR) (wa z1) (KM zn) (λi c1 e he=>z3 i e (uH c1) he) (λi c1 e he=>z4 i e (wb c1) he)
    case v1 =>
     rw [z2];exact .tail (.tail (.tail .head))
theorem Ut{v:Int}(h:is[i]?=some v):(is.map AV.int)[(i:Int).toNat]?=some (.int v):=by
 rw [bY,aA,h];rfl
theorem kM{v:Int}(h:gA is v):(is.map AV.int)[v.toNat]?=some (.int (an is v)):=by
 have aY:v.toNat<is.length:=by have:=h.1;have:=h.2;exact sZ h
 rw [aA];unfold an;rw [au aY];rfl
theorem Wg(X:gD g){a:j6}{kV doc pm ct:aq}{n:Nat}(hA:bZ (n+9) A){m:List (Str×AV)}{row firsts:List Int}{now nv:Int}{seen out:Nat}
  (h1:m.lookup ("row":Str)=some (AV.ref a.rw)) (h2:m.lookup ("seen":Str)=some (AV.int seen)) (h3:m.lookup ("out":Str)=some (AV.int out)) (h4:m.lookup ("desk":Str)=some (AV.ref a.dk)) (h5:m.lookup ("now":Str)=some (AV.int now))
  (m1:(a.rw,ai row)∈R) (m2:(a.dk,ai [])∈R) (m3:(a.c1,az (some (.ref a.fa)))∈R) (m4:(a.fa,ai firsts)∈R) (sk:firsts.length≤1000) (hz:row.length≤1000) (vf:out≤row.length)
  (v1:seen<out→∃v,row[seen]?=some v∧gA firsts v∧nv=an firsts v) (v2:¬seen<out→nv=now)
  (h:SX g A ((a.F,am (("now",.int nv)::m))::R) (cY X a kV doc pm ct) rest Q):SX g A ((a.F,am m)::R) (cY X a kV doc pm ct) (bA lN 7::rest) Q:=by
 have hu:A.units+64<w8:=by have:=hA.units;exact yc this
 have pn : ∀(x':Str) (q:Pos) (b:AV),m.lookup x'=some b→(cY X a kV doc pm ct).kindOf x'=some .local→(x'==("__debug__":Str))=false→PE g A ((a.F,am m)::R) (cY X a kV doc pm ct) (.Name x' q) b:=λx' q b hb hk hd=>bU (.head _) hb rfl hk hd;refine AD (c:=decide (([]:List Int)=[])) (by simp) (H4 hu (pn _ _ _ h4 rfl rfl) (.tail _ m2)) ?_;refine iz (a:=.int nv) (HJ (b:=decide ((seen:Int)<out)) (eP (pn _ _ _ h2 rfl rfl) (pn _ _ _ h3 rfl rfl) qN) (λhb=>?_) (λhb=>?_)) (b7 .head) h
 ·have aY:seen<out:=by simpa using hb
  refine du (v1 aY) λv e1 e2 af=>?_;subst af;have p1:PE g A ((a.F,am m)::R) (cY X a kV doc pm ct) (.Subscript (.Name "row" ⟨241,25,241,28⟩) (.Name "seen" ⟨241,29,241,33⟩) ⟨241,25,241,34⟩) (.int v) :=
   fM (l:=a.rw) (k:=seen) (xs:=row.map .int) (pn _ _ _ h1 rfl rfl) (pn _ _ _ h2 rfl rfl) (.tail _ m1) (gR) (by have:=kR;exact bB (.i (.l .A (.c 1000)) (.i (.l .B .A) (.i (.t .C .B) (.T (.k .C) (.c 9223372036854775808))))) rfl hz vf aY) (Ut e1)
  exact fM (l:=a.fa) (k:=v) (xs:=firsts.map .int) (dZ (c:=a.c1) rfl (.tail _ m3)) p1 (.tail _ m4) e2.1 (by have:=e2.2;have:=kR;exact KN sk e2) (kM e2)
 ·have gs:¬seen<out:=by
   intro aY
   have:(seen:Int)<out:=o8 aY
   simp [this] at hb
  rw [v2 gs];exact pn _ _ _ h5 rfl rfl
theorem Dq(X:gD g){n:Nat}(hA:bZ (n+1) A){T:ae}{x dx nd rl:ay}{ns:List Nd}{rd:List Int}{p f:Int}{o:Expr}{apos pos:Pos}(hz:rd.length≤10000)(ho:PE g A (T++bQ g X.D.TS X.D.NI x dx nd ns rl rd p f R) env o (.ref x))
  (hbase:dW o "is_active" env (eval o env)=eval o env)
  (hfew:i8 (([]:List Expr).length+([]:List g0).length) (b6 pos (aE [] env)) (bj pos (aO [] env))=true) (hline:(apos.endLine==pos.line)=true) :
  PE g A (T++bQ g X.D.TS X.D.NI x dx nd ns rl rd p f R) env (.Call (.Attribute o "is_active" apos) [] [] pos) (.bool (decide (f<p) || !rd.isEmpty)):=by
 refine PE.jL λs Q S k=>?_;refine DY X X.D.act rfl ho (Ud X.T X.D.toSrt2 hA hz rfl) hbase hfew hline s Q S ?_;refine vC λs' S'=>?_;exact k _ s' rfl (S'.cX (aj.perm uh))
noncomputable abbrev oK:List fK:=ju (bA lN 7)
variable {i:Int}
theorem Yn(X:gD g)(hA:bZ (n+1) A){ns:List Nd}{p f:Int}
  (h1:m.lookup ("desk":Str)=some (AV.ref a.dk)) (h2:m.lookup ("ends":Str)=some (AV.ref a.en)) (h3:m.lookup ("sorter":Str)=some (AV.ref a.x)) (m1:(a.dk,ai (i::dr))∈T) (m2:(a.en,aM (ends.map fF))∈T)
  (hi:0≤i) (mV:i.toNat<1000) (he:ends[i.toNat]?=some none) (hz:rd.length≤10000) (Yo:f<p)
  (h:SX g A ((a.F,am m)::(a.c3,az (some (.int i)))::(T++bQ g X.D.TS X.D.NI a.x a.dx a.nd ns a.rl rd p f R)) (cY X a kV doc pm ct) rest Q) :
  SX g A ((a.F,am m)::(a.c3,az none)::(T++bQ g X.D.TS X.D.NI a.x a.dx a.nd ns a.rl rd p f R)) (cY X a kV doc pm ct) (bA oK 0::bA oK 1::rest) Q:=by
 have pn : ∀(x':Str) (q:Pos) (b:AV) (L:ae),(a.F,am m)∈L→m.lookup x'=some b→(cY X a kV doc pm ct).kindOf x'=some .local→(x'==("__debug__":Str))=false→PE g A L (cY X a kV doc pm ct) (.Name x' q) b:=λx' q b L hF hb hk hd=>bU hF hb rfl hk hd;refine iz (a:=.int i) (bX:=(a.F,am m)::(a.c3,az (some (.int i)))::(T++bQ g X.D.TS X.D.NI a.x a.dx a.nd ns a.rl rd p f R)) (fM (l:=a.dk) (k:=0) (xs:=(i::dr).map .int) (pn _ _ _ _ (.head _) h1 rfl rfl) gP (md 2 (ao _ m1)) (Bb) (by have:=kR;exact Kg) rfl) (iy (c:=a.c3) rfl (.tail .head)) ?_;refine iC (c:=false) rfl ?test h
 case test =>
  refine TY (a:=false) (b:=false) (eP (a:=.none) (b:=.none) ?t1 oi ?t2) λ_=>?t3
  case t1 =>
   refine fM (l:=a.en) (k:=i) (xs:=ends.map fF) (pn _ _ _ _ (.head _) h2 rfl rfl) (dZ (env:=cY X a kV doc pm ct) (c:=a.c3) rfl (mi 1 rfl)) (md 2 (ao _ m2)) hi (by have:=kR;exact KO mV) ?_;rw [aA,he];rfl
  case t2=>exact zW (v:=.none)
  case t3 =>
   have e:(decide (f<p) || !rd.isEmpty)=true:=by simp [Yo]
   have:=Dq (hbase:=by rfl) (hfew:=by rfl) (hline:=by rfl) (env:=cY X a kV doc pm ct) (R:=R) X hA (T:=(a.F,am m)::(a.c3,az (some (.int i)))::T) (x:=a.x) (dx:=a.dx) (nd:=a.nd) (rl:=a.rl) (ns:=ns) (p:=p) (f:=f) (apos:=⟨244,42,244,58⟩) (pos:=⟨244,42,244,60⟩) (o:=.Name "sorter" ⟨244,42,244,48⟩) hz (pn _ _ _ _ (.head _) h3 rfl rfl)
   rw [e] at this;exact TX (vL (he:=by kst_p) this)
theorem OW{elt target iter:Expr}{ifs:List Expr}{scope:Scope}{pos:Pos}{cl:List (Str×ay)}{xs:List AV}(hit:jv g A L env iter xs λM H=>∃t,M=(t,aM xs)::L∧∀N,(t,aM xs)∈N→H N)(hz:xs.length≤100000)(p:Nat→Bool)(f:Nat→AV)(m:Nat→List (Str×AV))
  (mN : ∀C k a,xs[k]?=some a→∀acc ia P q,l8 g A (cI scope cl C env) target a (ia::(C,am [])::(acc,P)::q::L) (ia::(C,am (m k))::(acc,P)::q::L))
  (j0 : ∀C k a,xs[k]?=some a→∀acc ia P q,nJ g A (ia::(C,am (m k))::(acc,P)::q::L) (cI scope cl C env) ifs (p k))
  (helt : ∀C k a,xs[k]?=some a→p k=true→∀acc ia P q,PE g A (ia::(C,am (m k))::(acc,P)::q::L) (cI scope cl C env) elt (f k))
  (hclos:gm scope env=pure cl) (hkind:scope.kind = .function) (hcell:lq scope=true) (hnames:pO scope=true) (hs : ∀x,dg iter env x=pure x) :
  NE g A L (eval (.ListComp elt [⟨target,iter,ifs,0⟩] scope pos) env) (aM (((aF xs.length).filter p).map f)):=λs Q S k=>by
 refine Aa (K':=λv M=>∃a t,v = .ref a∧M=(a,aM (((aF xs.length).filter p).map f))::(t,aM xs)::L) hit ?_ hclos (.inl rfl) hkind hcell hnames hs s Q S λv M s' ⟨a,t,h1,h2⟩ S'=>by subst h1 h2;exact k a s' (S'.cX (aj.pick .head iI (.skip .refl)))
 refine xk λH t hH=>?_;intro acc C;refine ⟨Unit,_,(),λk _=>hH _ ?hmem,?_,Ab (L:=(t,aM xs)::L) (cI scope cl C env) p f m hz (λk a ha ia P=>mN C k a ha acc ia P _) (λk a ha ia P=>j0 C k a ha acc ia P _) (λk a ha hp ia P=>helt C k a ha hp acc ia P _),λ_=>⟨_,aj.refl,acc,t,rfl,rfl⟩⟩
 case hmem=>exact .tail _ (mi 1 rfl)
 exact aj.pick (aR.tail aR.head) iI (aj.pick aR.head iI aj.refl)
variable {F:Int→Int}
theorem QX: ∀(w:List Int) (e m:Int),(m∈e::w.map F)→(∀a∈e::w.map F,m≤a)→m=kr F w e:=by
 intro w
 induction w with
 | nil =>
  intro e m h1 _;rcases List.mem_cons.mp h1 with h | h
  ·exact h
  ·cases h
 | cons v w ih =>
  intro e m h1 h2;show m=kr F w (min e (F v))
  rw [aB] at h1 h2;refine ih (min e (F v)) m ?_ ?_
  ·rcases List.mem_cons.mp h1 with h | h
   ·have:=h2 (F v) (mi 1 rfl)
    rw [show min e (F v)=m by exact dq (.i (.E .A .B) (.i (.L .A .C) (.E (.n .B .C) .A))) rfl h this];exact .head _
   ·rcases List.mem_cons.mp h with h | h
    ·have:=h2 e (.head _)
     rw [show min e (F v)=m by exact dq (.i (.E .A .B) (.i (.L .A .C) (.E (.n .C .B) .A))) rfl h this];exact .head _
    ·exact .tail _ h
  ·intro a ha;rcases List.mem_cons.mp ha with h | h
   ·have a1:=h2 e (.head _);have a2:=h2 (F v) (mi 1 rfl);rw [h];exact dq (.i (.L .A .B) (.i (.L .A .C) (.L .A (.n .B .C)))) rfl a1 a2
   ·exact h2 a (md 2 h)
theorem Yp(X:gD g){a:j6}{kV doc pm ct:aq}{n:Nat}(hA:bZ n A){m:List (Str×AV)}{i now lv:Int}{row left firsts win:List Int}{seen out:Nat}
  (h1:m.lookup ("now":Str)=some (AV.int now)) (h2:m.lookup ("left":Str)=some (AV.ref a.lf)) (h3:m.lookup ("row":Str)=some (AV.ref a.rw)) (h4:m.lookup ("seen":Str)=some (AV.int seen)) (h5:m.lookup ("out":Str)=some (AV.int out))
  (m1:(a.lf,ai left)∈R) (m2:(a.rw,ai row)∈R) (m3:(a.c1,az (some (.ref a.fa)))∈R) (m4:(a.fa,ai firsts)∈R) (hi:0≤i) (mV:i.toNat<1000) (hl:left[i.toNat]?=some lv) (lM:seen≤out) (vf:out≤row.length) (hz:row.length≤1000) (sk:firsts.length≤1000) (hw:(row.drop seen).take (out-seen)=win) (hd : ∀v∈win,gA firsts v)
  (h:SX g A ((a.F,am (("until",.int (kr (an firsts) win (now+lv)))::m))::(a.c3,az (some (.int i)))::R) (cY X a kV doc pm ct) rest Q) :
  SX g A ((a.F,am m)::(a.c3,az (some (.int i)))::R) (cY X a kV doc pm ct) (bA oK 2::rest) Q:=by
 have hh:=hA.handled;have gE:win.length≤1000:=by rw [← hw,jD,QaN];exact bB (.i (.l .A (.c 1000)) (.l (.n (.s .B .C) (.s .A .C)) (.c 1000))) rfl hz
 have pn : ∀(x':Str) (q:Pos) (b:AV) (L:ae),(a.F,am m)∈L→m.lookup x'=some b→(cY X a kV doc pm ct).kindOf x'=some .local→(x'==("__debug__":Str))=false→PE g A L (cY X a kV doc pm ct) (.Name x' q) b:=λx' q b L hF hb hk hd=>bU hF hb rfl hk hd;refine ic (K:=λv M=>AV.Is v (.int (kr (an firsts) win (now+lv)))∧M=(a.F,am m)::(a.c3,az (some (.int i)))::R) (lr (K:=λvs M=>∃c,vs=[.ref c]∧M=(c,ai ((now+lv)::win.map (an firsts)))::(a.F,am m)::(a.c3,az (some (.int i)))::R) (gQ X.T (by k_mem)) ?a1 ?a2) ?a3
 case a3 =>
  intro v;refine fT λhv=>?_;exact ⟨_,_,hv,b7 .head,h⟩
 case a2 =>
  refine fh λc=>?_;refine ⟨gp λ_ x=>(by cases x),pT (Jk hh (.head _) (by simp)) ?_⟩;rintro v M ⟨⟨mm,hv,k1,k2⟩,rfl⟩;rw [QX win (now+lv) mm k1 k2] at hv;exact ⟨_,⟨hv,rfl⟩,.skip .refl⟩
 case a1 =>
  refine pK (K:=λv M=>∃c,v = .ref c∧M=(c,ai ((now+lv)::win.map (an firsts)))::(a.F,am m)::(a.c3,az (some (.int i)))::R) (AF (K:=λv M=>∃l1,v = .ref l1∧M=(l1,aM [.int (now+lv)])::(a.F,am m)::(a.c3,az (some (.int i)))::R) (K':=λv w M=>∃l1 l2,v = .ref l1∧w = .ref l2∧M=(l2,ai (win.map (an firsts)))::(l1,aM [.int (now+lv)])::(a.F,am m)::(a.c3,az (some (.int i)))::R) ?c1 ?c2 ?c3) ?c4
  case c4 =>
   refine fh λc=>?_;exact pP.mono λvs N ⟨e1,e2⟩=>⟨c,by rw [e1],e2⟩
  case c1 =>
   refine xq (b9 (jX (pn _ _ _ _ (.head _) h1 rfl rfl) ?i1 uq) dh) (aZ rfl)
   case i1 =>
    refine fM (l:=a.lf) (k:=i) (xs:=left.map .int) (pn _ _ _ _ (.head _) h2 rfl rfl) (dZ (env:=cY X a kV doc pm ct) (c:=a.c3) rfl (mi 1 rfl)) (md 2 m1) hi (by have:=kR;exact KO mV) ?_;rw [aA,hl];rfl
  case c3 =>
   refine Oj λl1 l2=>?_;intro s Q S k;exact DP (a:=l1) (b:=l2) (xs:=[.int (now+lv)]) (ys:=(win.map (an firsts)).map .int) (mi 1 rfl) (.head _) (by simp;exact bV (.i (.l .A (.c 1000)) (.l (.a .O .A) (.c 100000))) rfl gE) s Q S λc s' S'=>k _ _ s' ⟨c,rfl,rfl⟩ (S'.cX (aj.pick .head iI (.skip (.skip .refl))))
  case c2 =>
   refine fh λl1=>?_;have el:((aF (win.map AV.int).length).filter λ_=>true).map (λk=>AV.int (an firsts (win.getD k 0)))=(win.map (an firsts)).map AV.int:=by
    rw [vG,ar,← Ae win,bt,bt,ar,QaB];refine dD λk hk=>?_;rw [Ae];rfl
   refine pT (GX.se (OW (hclos:=by rfl) (hkind:=by rfl) (hcell:=by rfl) (hnames:=by rfl) (hs:=by kst_p) (env:=cY X a kV doc pm ct) (xs:=win.map .int) (cl:=[("firsts",a.c1)]) (Hc hh ?k1) (by simp;exact jZ gE) (λ_=>true) (λk=>.int (an firsts (win.getD k 0))) (λk=>[("v",.int (win.getD k 0))]) ?k2 (λC k av hx acc ia P q=>um) ?k3)) ?k4
   case k1 =>
    refine (Ao (ht:=by intro _ _;rfl) (l:=a.rw) (xs:=row.map .int) (a:=seen) (b:=out) (pn _ _ _ _ (mi 1 rfl) h3 rfl rfl) (pn _ _ _ _ (mi 1 rfl) h4 rfl rfl) (pn _ _ _ _ (mi 1 rfl) h5 rfl rfl) (.tail _ (.tail _ (.tail _ m2))) lM (by simpa using vf) (by simp;exact jZ hz)).mono ?_;refine fh λsl=>?_;rw [Dp,hw];exact ⟨sl,rfl,rfl⟩
   case k2 =>
    intro C k av hx acc ia P q;rw [aA] at hx;refine ap (Option.map_eq_some_iff.mp hx) λx jK af=>?_;subst af;rw [aI,jK];exact jF (b7 (.tail .head))
   case k3 =>
    intro C k av hx _ acc ia P q;rw [aA] at hx;refine ap (Option.map_eq_some_iff.mp hx) λx jK af=>?_;subst af;have e:win.getD k 0=x:=by rw [aI,jK];rfl
    rw [e];have wP:=hd x (bx jK);exact fM (l:=a.fa) (k:=x) (xs:=firsts.map .int) (dZ (c:=a.c1) rfl (md 7 m3)) (bU (m:=[("v",.int x)]) (mi 1 rfl) rfl) (md 7 m4) wP.1 (by have:=wP.2;have:=kR;exact KN sk wP) (kM wP)
   case k4 =>
    refine fh λl2=>?_;rw [el];exact ⟨_,⟨l1,l2,rfl,rfl,rfl⟩,.refl⟩
theorem Wh(X:gD g){a:j6}{kV doc pm ct:aq}{m:List (Str×AV)}{i now ed lv:Int}{left:List Int}
  (h1:m.lookup ("now":Str)=some (AV.int now)) (h2:m.lookup ("left":Str)=some (AV.ref a.lf)) (h3:m.lookup ("until":Str)=some (AV.int ed)) (hi:0≤i) (hl:left[i.toNat]?=some lv) (hz:left.length≤1000)
  (h:SX g A ((a.F,am (("now",.int ed)::m))::(a.c3,az (some (.int i)))::(a.lf,ai (left.set i.toNat (lv-(ed-now))))::R) (cY X a kV doc pm ct) rest Q) :
  SX g A ((a.F,am m)::(a.c3,az (some (.int i)))::(a.lf,ai left)::R) (cY X a kV doc pm ct) (bA oK 3::bA oK 4::rest) Q:=by
 have pn : ∀(x':Str) (q:Pos) (b:AV) (L:ae),(a.F,am m)∈L→m.lookup x'=some b→(cY X a kV doc pm ct).kindOf x'=some .local→(x'==("__debug__":Str))=false→PE g A L (cY X a kV doc pm ct) (.Name x' q) b:=λx' q b L hF hb hk hd=>bU hF hb rfl hk hd;have aY:i.toNat<left.length:=(List.getElem?_eq_some_iff.mp hl).1;refine PM (M4:=by intros;rfl) (l:=a.lf) (xs:=left.map .int) (k:=i) (a:=.int lv) (b:=.int (ed-now)) (c:=.int (lv-(ed-now))) (L':=(a.F,am m)::(a.c3,az (some (.int i)))::(a.lf,ai (left.set i.toNat (lv-(ed-now))))::R) (pn _ _ _ _ (.head _) h2 rfl rfl) (dZ (env:=cY X a kV doc pm ct) (c:=a.c3) rfl (mi 1 rfl)) hi (by simp;exact KQ aY) (by simp;exact jZ hz) (mi 2 rfl) ?g1 (jX (pn _ _ _ _ (.head _) h3 rfl rfl) (pn _ _ _ _ (.head _) h1 rfl rfl) ur) I2 ?g2 ?g3
 case g1=>rw [aA,hl];rfl
 case g2 =>
  rw [← tP];exact .tail (.tail .head)
 case g3=>exact iz (pn _ _ _ _ (.head _) h3 rfl rfl) (b7 .head) h
theorem Uu(X:gD g){lv:Int}{left:List Int}
  (h2:m.lookup ("left":Str)=some (AV.ref a.lf)) (hi:0≤i) (hl:left[i.toNat]?=some lv) (hz:left.length≤1000) (hn:lv≠0)
  (h:SX g A ((a.F,am m)::(a.c3,az (some (.int i)))::(a.lf,ai left)::R) (cY X a kV doc pm ct) rest Q) :
  SX g A ((a.F,am m)::(a.c3,az (some (.int i)))::(a.lf,ai left)::R) (cY X a kV doc pm ct) (bA oK 5::rest) Q:=by
 have pn : ∀(x':Str) (q:Pos) (b:AV) (L:ae),(a.F,am m)∈L→m.lookup x'=some b→(cY X a kV doc pm ct).kindOf x'=some .local→(x'==("__debug__":Str))=false→PE g A L (cY X a kV doc pm ct) (.Name x' q) b:=λx' q b L hF hb hk hd=>bU hF hb rfl hk hd;have aY:i.toNat<left.length:=(List.getElem?_eq_some_iff.mp hl).1;refine iC (c:=decide (lv=0)) (decide_eq_false hn) (eP (a:=.int lv) (b:=.int 0) ?g1 gP qO) h
 case g1 =>
  refine fM (l:=a.lf) (k:=i) (xs:=left.map .int) (pn _ _ _ _ (.head _) h2 rfl rfl) (dZ (env:=cY X a kV doc pm ct) (c:=a.c3) rfl (mi 1 rfl)) (mi 2 rfl) hi (by have:=kR;exact KR hz aY) ?_;rw [aA,hl];rfl
theorem Uv(X:gD g){a:j6}{kV doc pm ct:aq}{n:Nat}(hA:bZ (n+1) A){m:List (Str×AV)}{i now:Int}{left dr:List Int}{ends:List (Option Int)}{T:ae}{ns:List Nd}{rd:List Int}{p f:Int}
  (h1:m.lookup ("now":Str)=some (AV.int now)) (h2:m.lookup ("left":Str)=some (AV.ref a.lf)) (h3:m.lookup ("ends":Str)=some (AV.ref a.en)) (h4:m.lookup ("desk":Str)=some (AV.ref a.dk)) (h5:m.lookup ("sorter":Str)=some (AV.ref a.x))
  (hi:0≤i) (hl:left[i.toNat]?=some 0) (hz:left.length≤1000) (he:i.toNat<ends.length) (hez:ends.length≤1000) (zm:dr.length≤1000) (hk:dc ns) {n0:Nd} (jl:n0∈ns) (tB:n0.key=i) (FC:n0.de = -1) (FD : ∀s∈n0.succ,s∈ns.map (·.key)) (Ce:rd.length+n0.succ.length≤10000)
  (h : ∀aX d6,dc aX→(bJ aX,d6)=n0.succ.foldl jW (dR (bJ ns) i λq=>(-2,q.2),rd)→SX g A ((a.F,am m)::(a.c3,az (some (.int i)))::(a.lf,ai left)::(a.dk,ai dr)::(a.en,aM ((ends.set i.toNat (some now)).map fF))::(T++bQ g X.D.TS X.D.NI a.x a.dx a.nd aX a.rl d6 p (f+1) R)) (cY X a kV doc pm ct) rest Q) :
  SX g A ((a.F,am m)::(a.c3,az (some (.int i)))::(a.lf,ai left)::(a.dk,ai (i::dr))::(a.en,aM (ends.map fF))::(T++bQ g X.D.TS X.D.NI a.x a.dx a.nd ns a.rl rd p f R)) (cY X a kV doc pm ct) (bA oK 5::rest) Q:=by
 have pn : ∀(x':Str) (q:Pos) (b:AV) (L:ae),(a.F,am m)∈L→m.lookup x'=some b→(cY X a kV doc pm ct).kindOf x'=some .local→(x'==("__debug__":Str))=false→PE g A L (cY X a kV doc pm ct) (.Name x' q) b:=λx' q b L hF hb hk hd=>bU hF hb rfl hk hd;have pi : ∀(q:Pos) (L:ae),(a.c3,az (some (.int i)))∈L→PE g A L (cY X a kV doc pm ct) (.Name "i" q) (.int i):=λq L hc=>dZ (env:=cY X a kV doc pm ct) (c:=a.c3) rfl hc;have aY:i.toNat<left.length:=(List.getElem?_eq_some_iff.mp hl).1;refine AD (c:=decide ((0:Int)=0)) (by simp) (eP (a:=.int 0) (b:=.int 0) ?g1 gP qO) ?_
 case g1 =>
  refine fM (l:=a.lf) (k:=i) (xs:=left.map .int) (pn _ _ _ _ (.head _) h2 rfl rfl) (pi _ _ (mi 1 rfl)) (mi 2 rfl) hi (by have:=kR;exact KR hz aY) ?_;rw [aA,hl];rfl
 refine Aj (hs:=by rfl) (l:=a.en) (xs:=ends.map fF) (k:=i) (a:=.int now) (L':=(a.F,am m)::(a.c3,az (some (.int i)))::(a.lf,ai left)::(a.dk,ai (i::dr))::(a.en,aM ((ends.set i.toNat (some now)).map fF))::(T++bQ g X.D.TS X.D.NI a.x a.dx a.nd ns a.rl rd p f R)) (pn _ _ _ _ (.head _) h1 rfl rfl) (pn _ _ _ _ (.head _) h3 rfl rfl) (pi _ _ (mi 1 rfl)) hi (by simp;exact KQ he) (by simp;exact jZ hez) ?g2 ?_
 case g2 =>
  have e:(ends.set i.toNat (some now)).map fF=(ends.map fF).set i.toNat (.int now):=by rw [tP];rfl
  rw [e];exact .tail (.tail (.tail (.tail .head)))
 refine qI (a:=.int i) (L':=(a.F,am m)::(a.c3,az (some (.int i)))::(a.lf,ai left)::(a.dk,ai dr)::(a.en,aM ((ends.set i.toNat (some now)).map fF))::(T++bQ g X.D.TS X.D.NI a.x a.dx a.nd ns a.rl rd p f R)) (sI (hbase:=by rfl) (hfew:=by rfl) (hline:=by rfl) (he:=by rfl) (L₁:=(a.F,am m)::(a.c3,az (some (.int i)))::(a.lf,ai left)::(a.dk,ai (i::dr))::(a.en,aM ((ends.set i.toNat (some now)).map fF))::(T++bQ g X.D.TS X.D.NI a.x a.dx a.nd ns a.rl rd p f R)) (l:=a.dk) (xs:=(i::dr).map .int) (as:=[.int 0]) (pn _ _ _ _ (.head _) h4 rfl rfl) (mi 3 rfl) kj sE (b9 gP dh) (Uq (.tail (.tail (.tail .head))) (by simp;exact jZ zm))) ?_;refine yk X.D.done.fn λof dV Cf Bq jy cq jz d1 d2 d3 _=>?_;let T':ae:=(a.F,am m)::(a.c3,az (some (.int i)))::(a.lf,ai left)::(a.dk,ai dr)::(a.en,aM ((ends.set i.toNat (some now)).map fF))::T;show SX g A (T'++bQ g X.D.TS X.D.NI a.x a.dx a.nd ns a.rl rd p f R) _ _ _
 refine pJ (K:=λv M=>∃aX d6,dc aX∧(bJ aX,d6)=n0.succ.foldl jW (dR (bJ ns) i λq=>(-2,q.2),rd)∧M=T'++bQ g X.D.TS X.D.NI a.x a.dx a.nd aX a.rl d6 p (f+1) R)
  (DU X.D.TK X.D.lI (KA:=λvs M=>bP vs [.int i]∧M=T'++bQ g X.D.TS X.D.NI a.x a.dx a.nd ns a.rl rd p f R) (pn _ _ _ _ (.head _) h5 rfl rfl) qQ sV rfl X.D.done.find X.D.done.typ (jH (b9 (pi _ _ (mi 1 rfl)) dh)) ?z1) ?z2
 case z1 =>
  intro vs;refine fT λbk=>?_;refine ap bk.one λv af hv=>?_;subst af;refine ⟨pN (.top d1 d2) d3,pT (GX.rf ((ID X.T X.D.toSrt2 hA hk jl tB FC FD Ce rfl hv (L:=T'++R)).pre (aj.perm uh.symm))) ?_⟩;refine jE λM Wi=>?_;refine eQ Wi λaX d6 e1 e2 af=>?_;subst af;exact ⟨_,⟨aX,d6,e1,e2,rfl⟩,aj.perm uh⟩
 case z2 =>
  intro v;refine Dg λaX d6 e1 e2=>?_;exact h aX d6 e1 e2
end
section
theorem IQ{pre:List Int}:((pre++win++hold).drop pre.length).take (pre.length+win.length-pre.length)=win:=by
 rw [aH,CF,ND,CD]
theorem Tx{pre:List Int}:((pre++(arr++w2)++hold).drop pre.length).take (pre.length+arr.length-pre.length)=arr:=by
 rw [aH,CF,ND,aH,CD]
theorem JL: ∀{w:List Int},∀v∈w.takeWhile (λv=>decide (ρ v≤now)),ρ v≤now:=by
 intro w
 induction w with
 | nil=>intro v h;cases h
 | cons a w ih =>
  intro v h;rw [Od] at h;split at h
  ·rename_i q;rcases List.mem_cons.mp h with rfl | h
   ·simpa using q
   ·exact ih v h
  ·cases h
theorem JM: ∀{w:List Int},iJ ρ w→∀v∈w.dropWhile (λv=>decide (ρ v≤now)),now<ρ v:=by
 intro w
 induction w with
 | nil=>intro _ v h;cases h
 | cons a w ih =>
  intro hs v h;refine b8 (List.pairwise_cons.mp hs) λh1 h2=>?_;rw [List.dropWhile_cons] at h;split at h
  ·exact ih h2 v h
  ·rename_i q;have q':¬ρ a≤now:=by simpa using q
   rcases List.mem_cons.mp h with rfl | h
   ·exact dw (.i (.n (.L .A .B)) (.T .B .A)) rfl q'
   ·have:=h1 v h;exact dq (.i (.n (.L .A .B)) (.i (.L .A .C) (.T .B .C))) rfl q' this
variable {p:Int→Bool}
theorem JN(w:List Int):w.takeWhile p++w.dropWhile p=w:=ng
noncomputable abbrev ab2(F:Int→Int)(c:CS):List Int:=c.pre++cN F c.win c.rd++d0 c.hold c.rd
end
section
open PySem PySem.W PySem.W.X PyProof.Rows
variable {g:Gd}{A:bg}{L L' bX bF L₁ L₂ bH R:ae}{env:Env}{rest:List fK}{Q:oP→aU→Prop}
noncomputable def oD(X:gD g)(a:j6)(R:ae)(c:CS)(es:List (Pos×ay))(ns:List Nd):ae :=
 bM X.PL cD es++(a.F,am (a.names c.pre.length (c.pre.length+c.win.length) c.now))::(a.c3,az none)::(a.rw,ai c.row)::(a.dk,ai c.dp)::(a.lf,ai c.left)::(a.en,aM (c.ends.map fF))::bQ g X.D.TS X.D.NI a.x a.dx a.nd ns a.rl c.rd c.p c.f R
noncomputable def sO(F:Int→Int)(now:Int):List Int→Int
 | []=>now
 | v::_=>F v
variable {F:Int→Int}{c:CS}
theorem HB(kZ:(cN F c.win c.rd).takeWhile (λv=>decide (F v≤c.now))=arr)(oL:(cN F c.win c.rd).dropWhile (λv=>decide (F v≤c.now))=w2)(k8:gr U b c.dp arr=[]):
  o6 F U b c={ vg:=im c.vg c.rd,rd:=[],p:=c.p+c.rd.length,f:=c.f,pre:=c.pre++arr,win:=w2,hold:=d0 c.hold c.rd,dp:=[],left:=c.left,ends:=c.ends,now:=sO F c.now w2 }:=by
 unfold o6;dsimp only;rw [kZ,oL,k8];cases w2<;>rfl
theorem HC{i ed:Int}(kZ:(cN F c.win c.rd).takeWhile (λv=>decide (F v≤c.now))=arr)(oL:(cN F c.win c.rd).dropWhile (λv=>decide (F v≤c.now))=w2)(k8:gr U b c.dp arr=i::dr)
  (rT:kr F w2 (c.now+c.left.getD i.toNat 0)=ed) (hz:c.left.getD i.toNat 0-(ed-c.now)=0) :
  o6 F U b c={ vg:=(xU (im c.vg c.rd) i).1,rd:=(xU (im c.vg c.rd) i).2,p:=c.p+c.rd.length,f:=c.f+1,pre:=c.pre++arr,win:=w2,hold:=d0 c.hold c.rd,dp:=dr,left:=c.left.set i.toNat 0,ends:=c.ends.set i.toNat (some ed),now:=ed }:=by
 unfold o6;dsimp only;rw [kZ,oL,k8];dsimp only;rw [rT,hz,Qct rfl]
theorem H8{F U:Int→Int}{b:Bool}{c:CS}{arr w2 dr:List Int}{i ed:Int}(kZ:(cN F c.win c.rd).takeWhile (λv=>decide (F v≤c.now))=arr)(oL:(cN F c.win c.rd).dropWhile (λv=>decide (F v≤c.now))=w2)(k8:gr U b c.dp arr=i::dr)
  (rT:kr F w2 (c.now+c.left.getD i.toNat 0)=ed) (hz:¬c.left.getD i.toNat 0-(ed-c.now)=0) :
  o6 F U b c={ vg:=im c.vg c.rd,rd:=[],p:=c.p+c.rd.length,f:=c.f,pre:=c.pre++arr,win:=w2,hold:=d0 c.hold c.rd,dp:=i::dr,left:=c.left.set i.toNat (c.left.getD i.toNat 0-(ed-c.now)),ends:=c.ends,now:=ed }:=by
 unfold o6;dsimp only;rw [kZ,oL,k8];dsimp only;rw [rT,Qcs hz]
theorem Uw{pre arr w2 hold:List Int}:((pre++(arr++w2)++hold).drop (pre.length+arr.length)).take (pre.length+(arr++w2).length-(pre.length+arr.length))=w2:=by
 have e:pre++(arr++w2)++hold=(pre++arr)++(w2++hold):=by simp
 have e2:pre.length+(arr++w2).length-(pre.length+arr.length)=w2.length:=by rw [aD];exact bB (.e (.s (.a .A (.a .B .C)) (.a .A .B)) .C) rfl
 rw [e,e2,← aD,CF,CD]
theorem qH{vg:VG}{k:Int}{f:Int×List Int→Int×List Int}:(dR vg k f).map (·.1)=vg.map (·.1):=by
 unfold dR;rw [bt];refine dD λp _=>?_;dsimp only [vr];split<;>rfl
theorem H9{vg:VG}{k s:Int}{h:Int→Int}:eC (dR vg k λq=>(h q.1,q.2)) s=eC vg s:=by
 unfold eC dR
 induction vg with
 | nil=>rfl
 | cons p vg ih =>
  rw [aB,dJ,dJ];have e:(if p.1=k then (p.1,(h p.2.1,p.2.2)) else p).1=p.1:=by split<;>rfl
  have e2:(if p.1=k then (p.1,(h p.2.1,p.2.2)) else p).2.2=p.2.2:=by split<;>rfl
  dsimp only at e e2 ⊢;rw [e];by_cases hp:p.1=s
  ·simp only [hp,decide_true,jR,Qah];rw [← hp];exact e2
  ·simp only [hp,decide_false];exact ih
theorem DG:∀{ks:List Int} {vg:VG},(im vg ks).map (·.1)=vg.map (·.1):=by
 intro ks
 induction ks with
 | nil=>intro vg;exact rfl
 | cons k ks ih=>intro vg;exact (ih).trans qH
theorem DH{s:Int}: ∀{ks:List Int} {vg:VG},eC (im vg ks) s=eC vg s:=by
 intro ks
 induction ks with
 | nil=>intro vg;exact rfl
 | cons k ks ih=>intro vg;exact (ih).trans (H9 (h:=λ_ => -1))
theorem Ia{ns:List Nd}(hk:dc ns){n:Nd}(hn:n∈ns):eC (bJ ns) n.key=n.succ:=by
 induction ns with
 | nil=>cases hn
 | cons a ns ih =>
  unfold eC bJ;rw [aB,dJ];by_cases e:a.key=n.key
  ·have:=DW hk (.head _) hn e
   subst this;simp
  ·have si:=hk;unfold dc at si;rw [aB,cG] at si;rcases List.mem_cons.mp hn with h | h
   ·exact absurd (by rw [h]) e
   ·simp only [e,decide_false];exact ih si.2 h
theorem xu{ns:List Nd}:(bJ ns).map (·.1)=ns.map (·.key):=by unfold bJ;rw [bt];rfl
variable {o:Option AV}
theorem DI(X:gD g){a:j6}(c':CS){ns:List Nd}{out:Nat}{row:List Int}(hm:iE (a.names seen out c'.now) m)(hr:c'.row=row)(h1:c'.pre.length=seen)(h2:c'.pre.length+c'.win.length=out)
  (S:St g ((a.F,am m)::(a.c3,az o)::(a.lf,ai c'.left)::(a.dk,ai c'.dp)::(a.en,aM (c'.ends.map fF))::((bM X.PL cD es++[(a.rw,ai row)])++bQ g X.D.TS X.D.NI a.x a.dx a.nd ns a.rl c'.rd c'.p c'.f R)) s):St g (oD X a R c' es ns) s:=by
 subst h1 h2 hr;unfold oD;refine (S.cX (L':=bM X.PL cD es++((a.F,am m)::(a.c3,az o)::(a.lf,ai c'.left)::(a.dk,ai c'.dp)::(a.en,aM (c'.ends.map fF))::(a.rw,ai c'.row)::bQ g X.D.TS X.D.NI a.x a.dx a.nd ns a.rl c'.rd c'.p c'.f R)) (aj.perm ?_)).cX (aj.mO (aj.pick .head hm.ns (aj.pick .head (λo' h=>?_) (aj.pick (.tail (.tail (.tail .head))) iI (aj.pick (.tail .head) iI .refl)))))
 ·rw [aH];exact bb (bM X.PL cD es) [_,_,_,_,_] _
 ·refine ap h λw h1 _=>?_;exact ⟨w,h1,λ_ e=>nomatch e⟩
theorem xj(n:Nat):((aF n).map λ(i:Nat)=>(i:Int)).Nodup:=by
 rw [List.Nodup,Qaz];exact List.nodup_range.imp λh e=>h (KS e)
theorem Ty(X:gD g){a:j6}{kV doc pm ct:aq}{n:Nat}(hA:bZ (n+9) A){firsts dK:List Int}{KV:ae→aq→Int→Prop}(fV:jd 3 g bF (.ref a.K) (gA dK) (an dK) KV){rI:List (Pos×ay)}(eV : ∀aT,(∀e∈rI,e∈aT)→cu bF (bM X.PL cD aT++R))(m3:(a.c1,az (some (.ref a.fa)))∈R)(m4:(a.fa,ai firsts)∈R)
  (hf:firsts.length=a.n) (hu:dK.length=a.n) (hn:a.n≤25) {c:CS} (hc:FR (an firsts) (an dK) a.bh a.n c) {es:List (Pos×ay)} (iO : ∀e∈rI,e∈es) {ns:List Nd} (hk:dc ns) (hv:bJ ns=c.vg) :
  SX g A (oD X a R c es ns) (cY X a kV doc pm ct) lN λfl s'=>match fl with
   | .next | .cont=>∃aT aX,(∀e∈rI,e∈aT)∧dc aX∧bJ aX=(o6 (an firsts) (an dK) a.bh c).vg∧St g (oD X a R (o6 (an firsts) (an dK) a.bh c) aT aX) s'
   | .brk=>False
   | .ret _=>False:=by
 show SX g A (oD X a R c es ns) (cY X a kV doc pm ct) [bA lN 0,bA lN 1,bA lN 2,bA lN 3,bA lN 4,bA lN 5,bA lN 6,bA lN 7] _
 have hkr : ∀k∈c.rd,k∈ns.map (·.key):=λk hk=>by
  have:=hc.rdk k hk
  rw [← hv] at this;unfold bJ at this;rw [bt] at this;exact this
 have vZ:c.row.length=a.n:=by have:=hc.perm.length_eq;simpa using this
 have Bt:c.rd.length≤c.hold.length:=by have:=(Hb hc.Cb hc.zl).length_eq;rw [aD] at this;exact bB (.i (.e .A (.a .B .C)) (.l .B .A)) rfl this
 have k7:c.row.length=c.pre.length+c.win.length+c.hold.length:=by unfold CS.row;rw [aD,aD]
 unfold oD;refine dS (L:=(a.F,am (a.names c.pre.length (c.pre.length+c.win.length) c.now))::((bM X.PL cD es++[(a.c3,az none),(a.rw,ai c.row),(a.dk,ai c.dp),(a.lf,ai c.left),(a.en,aM (c.ends.map fF))])++bQ g X.D.TS X.D.NI a.x a.dx a.nd ns a.rl c.rd c.p c.f R)) ?_ (aj.perm (by rw [aH];exact List.perm_middle.symm));refine Yg X (n:=0) (hA.le (bV (.l (.a .Z .O) (.a .A (.c 9))) rfl)) hk hkr (v7 (.i (.l .A (.c 25)) (.i (.e .B .A) (.i (.l .C .D) (.i (.e .B (.a (.a .F .G) .D)) (.l .C (.c 1000)))))) rfl hn vZ Bt k7) rfl λgl aX k1 k2=>?_;refine dS (L:=bM X.PL cD es++(a.F,am (("given",.ref gl)::a.names c.pre.length (c.pre.length+c.win.length) c.now))::(gl,ai c.rd)::(a.c3,az none)::(a.rw,ai c.row)::(a.dk,ai c.dp)::(a.lf,ai c.left)::(a.en,aM (c.ends.map fF))::bQ g X.D.TS X.D.NI a.x a.dx a.nd aX a.rl [] (c.p+c.rd.length) c.f R) ?_ (aj.perm (by rw [aH];exact bb (bM X.PL cD es) [_,_] _));have kx : ∀i∈c.row,gA firsts i:=λi hi=>by
  refine ap (List.mem_map.mp (hc.perm.mem_iff.mp hi)) λk hk af=>?_;subst af
  have:=List.mem_range.mp hk
  exact ⟨by exact gR,by rw [hf];exact o8 this⟩
 have wx:(c.row.drop c.pre.length).take (c.pre.length+c.win.length-c.pre.length)=c.win:=IQ;have r3 : ∀{T:ae},(a.c1,az (some (.ref a.fa)))∈T++bQ g X.D.TS X.D.NI a.x a.dx a.nd aX a.rl [] (c.p+c.rd.length) c.f R:=Ay m3;have r4 : ∀{T:ae},(a.fa,ai firsts)∈T++bQ g X.D.TS X.D.NI a.x a.dx a.nd aX a.rl [] (c.p+c.rd.length) c.f R:=Ay m4;refine Yh X (n:=0) (hA.le (EJ)) (gl:=gl) (row:=c.row) (rd:=c.rd) (firsts:=firsts) (seen:=c.pre.length) (out:=c.pre.length+c.win.length) rfl rfl rfl rfl (mi 2 rfl) (.head _) (r3 (T:=[_,_,_,_,_,_])) (r4 (T:=[_,_,_,_,_,_])) (yb) (fy (.i (.e .A (.a (.a .B .C) .D)) (.l (.a .B .C) .A)) rfl k7) (v7 (.i (.l .A (.c 25)) (.i (.e .B .A) (.i (.l .C .D) (.i (.e .B (.a (.a .F .G) .D)) (.t (.a .B .C) (.c 64)))))) rfl hn vZ Bt k7) (uI hf hn) ?_ (by rw [wx];exact hc.ws) λD mq uN=>?_
 ·rw [wx];intro i hi;refine kx i ?_;unfold CS.row;rcases List.mem_append.mp hi with hi | hi
  ·exact ao _ (ag _ hi)
  ·exact ag _ (hc.zl i hi)
 rw [wx];have d9:(c.pre++c.win++c.hold).Nodup:=hc.perm.nodup_iff.mpr (xj a.n);refine dS (L:=bM X.PL cD mq++(a.F,am (("due",.ref D)::("given",.ref gl)::a.names c.pre.length (c.pre.length+c.win.length) c.now))::(a.rw,ai (c.pre++c.win++c.hold))::(a.c3,az none)::(D,ai (cN (an firsts) c.win c.rd))::(gl,ai c.rd)::(a.dk,ai c.dp)::(a.lf,ai c.left)::(a.en,aM (c.ends.map fF))::bQ g X.D.TS X.D.NI a.x a.dx a.nd aX a.rl [] (c.p+c.rd.length) c.f R) ?_ (aj.mO (aj.pick .head (λ_ h=>h) (aj.pick (.tail (.tail (.tail .head))) (λ_ h=>h) (aj.pick (.tail (.tail .head)) (λ_ h=>h) .refl))));refine Yi X (n:=0) (hA.le (EJ)) (gl:=gl) (pre:=c.pre) (win:=c.win) (hold:=c.hold) (rd:=c.rd) (firsts:=firsts) rfl rfl rfl rfl (mi 1 rfl) (r3 (T:=[_,_,_,_,_])) (r4 (T:=[_,_,_,_,_])) d9 hc.Cb hc.zl (by show c.row.length≤_;exact rK hn vZ) (uI hf hn) kx hc.ws λes3 Yq=>?_;have ri:=Do (ρ:=an firsts) (pre:=c.pre) (w:=c.win) hc.Cb hc.zl;have Fp:iJ (an firsts) (cN (an firsts) c.win c.rd):=DE hc.ws;have e1:c.pre.length+c.win.length+c.rd.length=c.pre.length+(cN (an firsts) c.win c.rd).length:=by rw [C3];exact bB (.e (.a (.a .A .B) .C) (.a .A (.a .B .C))) rfl
 have fY:(c.pre++cN (an firsts) c.win c.rd++d0 c.hold c.rd).length=a.n:=by rw [ri.length_eq];exact vZ
 have Wj:((c.pre++cN (an firsts) c.win c.rd++d0 c.hold c.rd).drop c.pre.length).take (c.pre.length+c.win.length+c.rd.length-c.pre.length)=cN (an firsts) c.win c.rd:=by rw [e1];exact IQ
 refine Yj X (n:=0) (hA.le (bV (.l (.a .Z (.c 9)) (.a .A (.c 9))) rfl)) (D:=D) (row:=c.pre++cN (an firsts) c.win c.rd++d0 c.hold c.rd) (seen:=c.pre.length) (out:=c.pre.length+c.win.length+c.rd.length) (ag _ (.head _)) rfl rfl rfl rfl (ag _ (mi 1 rfl)) (by rw [Wj];exact ag _ (mi 3 rfl)) (bB (.l .A (.a (.a .A .B) .C)) rfl) (by rw [aD,aD] at fY ⊢;exact Bd e1) (rK hn fY) ?_;have nO:=JN (p:=λv=>decide (an firsts v≤c.now)) (cN (an firsts) c.win c.rd);have pq:=JL (ρ:=an firsts) (now:=c.now) (w:=cN (an firsts) c.win c.rd);have rg:=JM (now:=c.now) Fp;generalize kZ:(cN (an firsts) c.win c.rd).takeWhile (λv=>decide (an firsts v≤c.now))=arr at nO pq;generalize oL:(cN (an firsts) c.win c.rd).dropWhile (λv=>decide (an firsts v≤c.now))=w2 at nO rg;have pf:arr.length≤(cN (an firsts) c.win c.rd).length:=by rw [← nO,aD];exact yb
 have A2 : ∀i∈c.pre++cN (an firsts) c.win c.rd++d0 c.hold c.rd,gA firsts i:=λi hi=>kx i (ri.mem_iff.mp hi);refine Yk X (n:=0) (hA.le (EJ)) (row:=c.pre++cN (an firsts) c.win c.rd++d0 c.hold c.rd) (firsts:=firsts) (now:=c.now) (seen:=c.pre.length) (out:=c.pre.length+c.win.length+c.rd.length) (r:=c.pre.length+arr.length) rfl rfl rfl rfl (.head _) (r3 (T:=[_,_,_,_,_,_,_])) (r4 (T:=[_,_,_,_,_,_,_])) (uI hf hn) (rK hn fY) A2 (yb) (by rw [e1];exact EB pf) (by rw [aD,aD] at fY ⊢;exact Bd e1) ?b4 ?b5 λnN Yr=>?_
 case b4 =>
  intro i z1 z2 e he;rw [← nO,aH,iT z1,aH,qB (by exact EI z1 z2)] at he
  have:=pq e (bx he)
  exact KE this
 case b5 =>
  intro i z1 z2 e he;have gE:arr.length+w2.length=(cN (an firsts) c.win c.rd).length:=by rw [← nO,aD]
  rw [← nO,aH,iT (by exact EC z1),aH,iT (by exact KI z1),qB (by exact v8 (.i (.e (.a (.a .A .B) .C) (.a .A .D)) (.i (.l (.a .A .F) .G) (.i (.t .G (.a (.a .A .B) .C)) (.i (.e (.a .F .H) .D) (.t (.s (.s .G .A) .F) .H))))) rfl e1 z1 z2 gE)] at he;exact rg e (bx he)
 refine dS (L:=(a.F,am (("here",.int ((c.pre.length+arr.length:Nat):Int))::("out",.int ((c.pre.length+c.win.length+c.rd.length:Nat):Int))::("due",.ref D)::("given",.ref gl)::a.names c.pre.length (c.pre.length+c.win.length) c.now))::(a.dk,ai c.dp)::(a.c3,az none)::(bM X.PL cD nN++(a.rw,ai (c.pre++cN (an firsts) c.win c.rd++d0 c.hold c.rd))::(a.lf,ai c.left)::(a.en,aM (c.ends.map fF))::bQ g X.D.TS X.D.NI a.x a.dx a.nd aX a.rl [] (c.p+c.rd.length) c.f R)) ?_
  (aj.pick (.cE .head) (λ_ h=>h) (aj.pick (.cE (.tail (.tail (.tail (.tail .head))))) (λ_ h=>h) (aj.pick (.cE (.tail .head)) (λ_ h=>h) (aj.mO (aj.pick .head (λ_ h=>h) (.skip (.skip .refl)))))))
 have JO : ∀i∈c.pre++cN (an firsts) c.win c.rd++d0 c.hold c.rd,gA dK i:=λi hi=>by
  have:=A2 i hi
  exact ⟨this.1,by have:=this.2;exact WW (.i (.e .A .B) (.i (.e .C .B) (.i (.a (.L .Z .A) (.T .A (.k .A))) (.T .A (.k .C))))) rfl hf hu (by assumption)⟩
 have LW : ∀i∈c.dp,gA dK i:=λi hi=>by have:=hc.dk i hi;exact ⟨this.1,by exact pW (.i (.e .A .B) (.i (.a (.L .Z .A) (.T .A (.k .B))) (.T .A (.k .A)))) rfl hu this⟩
 have Bu : ∀e∈rI,e∈nN:=λe he=>Yr e (Yq e (uN e (iO e he)));have Wk:((c.pre++cN (an firsts) c.win c.rd++d0 c.hold c.rd).drop c.pre.length).take (c.pre.length+arr.length-c.pre.length)=arr:=by rw [← nO];exact Tx
 refine Yl X (n:=0) (hA.le (bV (.l (.a .Z (.c 5)) (.a .A (.c 9))) rfl)) fV (λp hp=>(List.mem_append.mp (eV nN Bu p hp)).elim (ao _) λhp=>ag _ (.tail _ (.tail _ (.tail _ (ag _ (.tail _ hp)))))) (row:=c.pre++cN (an firsts) c.win c.rd++d0 c.hold c.rd) (dp:=c.dp) (seen:=c.pre.length) (here:=c.pre.length+arr.length) rfl rfl rfl rfl rfl rfl (ag _ (.head _)) (yb) (by rw [aD,aD] at fY ⊢;exact fy (.i (.l .A .B) (.l (.a .C .A) (.a (.a .C .B) .D))) rfl pf) (rK hn fY) (by have:=hc.dl;exact KT hn this) JO LW hc.ds ?_;rw [Wk];refine iz (a:=.int ((c.pre.length+arr.length:Nat):Int)) (bU (env:=cY X a kV doc pm ct) (.head _) rfl rfl rfl (by decide)) (b7 .head) ?_;refine dS (L:=(a.F,am (("seen",.int ((c.pre.length+arr.length:Nat):Int))::("here",.int ((c.pre.length+arr.length:Nat):Int))::("out",.int ((c.pre.length+c.win.length+c.rd.length:Nat):Int))::("due",.ref D)::("given",.ref gl)::a.names c.pre.length (c.pre.length+c.win.length) c.now))::(a.c3,az none)::(a.lf,ai c.left)::(a.dk,ai (gr (an dK) a.bh c.dp arr))::(a.en,aM (c.ends.map fF))::((bM X.PL cD nN++[(a.rw,ai (c.pre++cN (an firsts) c.win c.rd++d0 c.hold c.rd))])++bQ g X.D.TS X.D.NI a.x a.dx a.nd aX a.rl [] (c.p+c.rd.length) c.f R)) ?_
  (aj.pick .head (λ_ h=>h) (aj.pick (.tail .head) (λ_ h=>h) (aj.pick (.tail (.cE (.tail .head))) (λ_ h=>h) (aj.pick .head (λ_ h=>h) (aj.pick (.cE (.tail .head)) (λ_ h=>h) (by rw [aH];exact .refl))))))
 have gX:(c.pre++arr).length=c.pre.length+arr.length:=aD;have gE:arr.length+w2.length=c.win.length+c.rd.length:=by rw [← aD,nO,C3]
 have vi:c.pre++cN (an firsts) c.win c.rd++d0 c.hold c.rd=c.pre++arr++w2++d0 c.hold c.rd:=by rw [← nO];simp
 have q3:(a.c1,az (some (.ref a.fa)))∈(bM X.PL cD nN++[(a.rw,ai (c.pre++cN (an firsts) c.win c.rd++d0 c.hold c.rd))])++bQ g X.D.TS X.D.NI a.x a.dx a.nd aX a.rl [] (c.p+c.rd.length) c.f R:=Ay m3;have q4:(a.fa,ai firsts)∈(bM X.PL cD nN++[(a.rw,ai (c.pre++cN (an firsts) c.win c.rd++d0 c.hold c.rd))])++bQ g X.D.TS X.D.NI a.x a.dx a.nd aX a.rl [] (c.p+c.rd.length) c.f R:=Ay m4;have qr:(a.rw,ai (c.pre++cN (an firsts) c.win c.rd++d0 c.hold c.rd))∈(bM X.PL cD nN++[(a.rw,ai (c.pre++cN (an firsts) c.win c.rd++d0 c.hold c.rd))])++bQ g X.D.TS X.D.NI a.x a.dx a.nd aX a.rl [] (c.p+c.rd.length) c.f R:=ao _ (ag _ (.head _));rw [hv] at k2;cases k8:gr (an dK) a.bh c.dp arr with
 | nil =>
  rw [HB kZ oL k8];refine Wg X (n:=n) hA (row:=c.pre++cN (an firsts) c.win c.rd++d0 c.hold c.rd) (firsts:=firsts) (now:=c.now) (nv:=sO (an firsts) c.now w2) (seen:=c.pre.length+arr.length) (out:=c.pre.length+c.win.length+c.rd.length) rfl rfl rfl rfl rfl
   (.tail _ (.tail _ (.tail _ (.tail _ qr)))) (mi 2 rfl) (.tail _ (.tail _ (.tail _ (.tail _ q3)))) (.tail _ (.tail _ (.tail _ (.tail _ q4)))) (uI hf hn) (rK hn fY) (by rw [aD,aD] at fY ⊢;exact Bd e1) ?v1 ?v2 ?v3
  case v1 =>
   intro aY;cases w2 with
   | nil=>simp at gE;exact eO (fy (.i (.t (.a .A .B) (.a (.a .A .C) .D)) (.i (.e .B (.a .C .D)) .f)) rfl aY gE)
   | cons v w3 =>
    refine ⟨v,?_,A2 v ?_,rfl⟩
    ·rw [vi,aH,iT (by exact bB (.i (.e .A (.a .B .C)) (.l .A (.a .B .C))) rfl gX),gX,Nat.sub_self];rfl
    ·rw [vi];simp
  case v2 =>
   intro gs;cases w2 with
   | nil=>rfl
   | cons v w3=>simp at gE;exact WZ (.i (.n (.t (.a .A .B) (.a (.a .A .C) .D))) (.i (.e (.a .B (.a .F .O)) (.a .C .D)) (.E .A .B))) rfl gs gE
  case v3 =>
   exact eJ λs S=>⟨nN,aX,Bu,k1,k2,DI X { vg:=im c.vg c.rd,rd:=[],p:=c.p+c.rd.length,f:=c.f,pre:=c.pre++arr,win:=w2,hold:=d0 c.hold c.rd,dp:=[],left:=c.left,ends:=c.ends,now:=sO (an firsts) c.now w2 } (by k_upd) vi.symm gX (by dsimp only;exact EK gX gE) S⟩
 | cons i dr =>
  obtain ⟨g1,g2,g3,g4,g5,g6⟩:=hc.go i dr (by rw [kZ];exact k8);have tF:gA dK i:=by
   have:i∈gr (an dK) a.bh c.dp arr:=by rw [k8];exact .head _
   rcases Ap.mp this with h | h
   ·exact LW i h
   ·exact JO i (by rw [vi];simp [h])
  have sq:i.toNat<a.n:=by have:=tF.1;have:=tF.2;exact pW (.i (.e .A .B) (.i (.a (.L .Z .A) (.T .A (.k .A))) (.t (.t .A) .B))) rfl hu tF
  have zn:(i::dr).length≤50:=by
   rw [← k8,G5]
   have:=hc.dl
   have e:c.pre.length+c.win.length+c.rd.length≤a.n:=by exact v7 (.i (.e .A .B) (.i (.l .C .D) (.i (.e .A (.a (.a .F .G) .D)) (.l (.a (.a .F .G) .C) .B)))) rfl vZ Bt k7
   exact W1 (.i (.l .A (.c 25)) (.i (.e .B .A) (.i (.l .C .D) (.i (.e .B (.a (.a .F .G) .D)) (.i (.e (.a .H .J) (.a .G .C)) (.i (.l .K .A) (.l (.a .K .H) (.c 50)))))))) rfl hn vZ Bt k7 gE this
  have aY:i.toNat<c.left.length:=by rw [hc.ll];exact sq
  have Nb:c.left[i.toNat]?=some (c.left.getD i.toNat 0):=by rw [aI,au aY];rfl
  have hu':A.units+64<w8:=by have:=hA.units;exact yc this
  have ptd:PT g A ((a.F,am (("seen",.int ((c.pre.length+arr.length:Nat):Int))::("here",.int ((c.pre.length+arr.length:Nat):Int))::("out",.int ((c.pre.length+c.win.length+c.rd.length:Nat):Int))::("due",.ref D)::("given",.ref gl)::a.names c.pre.length (c.pre.length+c.win.length) c.now))::(a.c3,az none)::(a.lf,ai c.left)::(a.dk,ai (i::dr))::(a.en,aM (c.ends.map fF))::((bM X.PL cD nN++[(a.rw,ai (c.pre++cN (an firsts) c.win c.rd++d0 c.hold c.rd))])++bQ g X.D.TS X.D.NI a.x a.dx a.nd aX a.rl [] (c.p+c.rd.length) c.f R)) (cY X a kV doc pm ct) (.Compare (.Name "desk" ⟨240,11,240,15⟩) [.Eq] [.List [] ⟨240,19,240,21⟩] ⟨240,11,240,21⟩) (decide ((i::dr:List Int)=[])) :=
   H4 hu' (bU (.head _) rfl rfl rfl (by decide)) (mi 3 rfl)
  refine iC (by simp) ptd ?_;show SX g A _ _ [bA oK 0,bA oK 1,bA oK 2,bA oK 3,bA oK 4,bA oK 5] _
  refine Yn X (n:=n) (hA.le (EM)) (T:=(a.lf,ai c.left)::(a.dk,ai (i::dr))::(a.en,aM (c.ends.map fF))::(bM X.PL cD nN++[(a.rw,ai (c.pre++cN (an firsts) c.win c.rd++d0 c.hold c.rd))])) (i:=i) (dr:=dr) (ends:=c.ends) rfl rfl rfl (mi 1 rfl) (mi 2 rfl) tF.1 (KU hn sq) g1 (by simp) g2 ?_;have Wl:((c.pre++cN (an firsts) c.win c.rd++d0 c.hold c.rd).drop (c.pre.length+arr.length)).take (c.pre.length+c.win.length+c.rd.length-(c.pre.length+arr.length))=w2:=by
   rw [← nO];have e2:c.pre.length+c.win.length+c.rd.length=c.pre.length+(arr++w2).length:=by rw [aD];exact rJ (.i (.e (.a .A .B) (.a .C .D)) (.e (.a (.a .F .C) .D) (.a .F (.a .A .B)))) rfl gE
   rw [e2];exact Uw
  refine Yp X (n:=n) (hA.le (bV (.l .A (.a .A (.c 9))) rfl)) (i:=i) (now:=c.now) (lv:=c.left.getD i.toNat 0) (row:=c.pre++cN (an firsts) c.win c.rd++d0 c.hold c.rd) (left:=c.left) (firsts:=firsts) (win:=w2) (seen:=c.pre.length+arr.length) (out:=c.pre.length+c.win.length+c.rd.length) rfl rfl rfl rfl rfl (.head _) (.tail _ (.tail _ (.tail _ qr))) (.tail _ (.tail _ (.tail _ q3))) (.tail _ (.tail _ (.tail _ q4))) tF.1 (KU hn sq) Nb (rJ (.i (.e (.a .A .B) (.a .C .D)) (.l (.a .F .A) (.a (.a .F .C) .D))) rfl gE) (by rw [aD,aD] at fY ⊢;exact Bd e1) (rK hn fY) (uI hf hn) Wl (λv hv=>A2 v (by rw [vi];simp [hv])) ?_;generalize rT:kr (an firsts) w2 (c.now+c.left.getD i.toNat 0)=ed;have FU:c.left.length≤1000:=by rw [hc.ll];exact ye hn
  refine Wh X (i:=i) (now:=c.now) (ed:=ed) (lv:=c.left.getD i.toNat 0) (left:=c.left) rfl rfl rfl tF.1 Nb FU ?_;by_cases hz:c.left.getD i.toNat 0-(ed-c.now)=0
  ·rw [HC kZ oL k8 rT hz,hz];obtain ⟨n0,jl,tB⟩:=Ai (ns:=aX) (k:=i) (by rw [← xu,k2,DG];exact g4);have vj:n0.succ=eC (im c.vg c.rd) i:=by rw [← k2,← tB,Ia k1 jl]
   refine Uv X (n:=n) (hA.le (EM)) (now:=ed) (ends:=c.ends) (dr:=dr) (T:=bM X.PL cD nN++[(a.rw,ai (c.pre++cN (an firsts) c.win c.rd++d0 c.hold c.rd))]) rfl rfl rfl rfl rfl tF.1 (by rw [jT aY]) (by rw [km];exact FU) (by rw [hc.el];exact sq) (by rw [hc.el];exact ye hn) (by simp at zn;exact bV (.i (.l .A (.c 49)) (.l .A (.c 1000))) rfl zn) k1 jl tB (by rw [← DA k1 jl,tB,k2];exact g3) (λs hs=>by rw [vj,DH] at hs;rw [← xu,k2,DG];exact g5 s hs) (by rw [vj,DH];simp;exact bV (.i (.l .A (.c 100)) (.l .A (.c 10000))) rfl g6) λj5 d6 k3 k4=>?_;have e4:(bJ j5,d6)=xU (im c.vg c.rd) i:=by rw [k4,k2,vj];rfl
   rw [← e4];dsimp only;exact eJ λs S=>⟨nN,j5,Bu,k3,rfl,DI X { vg:=bJ j5,rd:=d6,p:=c.p+c.rd.length,f:=c.f+1,pre:=c.pre++arr,win:=w2,hold:=d0 c.hold c.rd,dp:=dr,left:=c.left.set i.toNat 0,ends:=c.ends.set i.toNat (some ed),now:=ed } (by k_upd) vi.symm gX (by dsimp only;exact EK gX gE) S⟩
  ·rw [H8 kZ oL k8 rT hz];refine Uu X rfl tF.1 (jT aY) (by rw [km];exact FU) hz ?_;exact eJ λs S=>⟨nN,aX,Bu,k1,k2,DI X { vg:=im c.vg c.rd,rd:=[],p:=c.p+c.rd.length,f:=c.f,pre:=c.pre++arr,win:=w2,hold:=d0 c.hold c.rd,dp:=i::dr,left:=c.left.set i.toNat (c.left.getD i.toNat 0-(ed-c.now)),ends:=c.ends,now:=ed } (by k_upd) vi.symm gX (by dsimp only;exact EK gX gE) S⟩
end
section
noncomputable def FV(p:Int→Bool)(x:Int):Nat→Int
 | 0=>0
 | m+1=>FV p x m+(if p (x+m) then 1 else 0)
noncomputable def cn(p:Int→Bool)(x y:Int):Int:=FV p x (y-x).toNat
variable {p q:Int→Bool}{x y z:Int}
variable {P:Int→Prop}
theorem xN(h0:P x)(hs : ∀y,x≤y→P y→P (y+1))(h:x≤y):P y:=by
 obtain ⟨m,rfl⟩ : ∃m:Nat,y=x+m:=⟨(y-x).toNat,dw (.i (.L .A .B) (.E .B (.a .A (.k (.t (.s .B .A)))))) rfl h⟩;clear h
 induction m with
 | zero=>simpa using h0
 | succ m ih =>
  have:=hs (x+m) (gV (.L .A (.a .A (.k .A))) rfl) ih
  rwa [w6] at this
theorem rB:cn p x x=0:=by unfold cn;rw [Int.sub_self];rfl
theorem qJ(h:x≤y):cn p x (y+1)=cn p x y+if p y then 1 else 0:=by
 unfold cn;have e:(y+1-x).toNat=(y-x).toNat+1:=dw (.i (.L .A .B) (.e (.t (.s (.a .B .O) .A)) (.a (.t (.s .B .A)) .O))) rfl h;have e2:x+((y-x).toNat:Int)=y:=dw (.i (.L .A .B) (.E (.a .A (.k (.t (.s .B .A)))) .B)) rfl h;rw [e,FV,e2]
theorem ui(h1:x≤y)(h2:y≤z):cn p x z=cn p x y+cn p y z:=by
 refine xN (P:=λz=>cn p x z=cn p x y+cn p y z) (by rw [rB,gf]) (λz h ih=>?_) h2;rw [qJ (g7 h1 h),qJ h,ih,w6]
theorem vQ(h:x≤y)(hp : ∀t,x≤t→t<y→p t=true→q t=true):cn p x y≤cn q x y:=by
 revert hp
 refine xN (P:=λy=>(∀t,x≤t→t<y→p t=true→q t=true)→cn p x y≤cn q x y) (λ_=>by rw [rB,rB];exact Bb) (λy h ih hp=>?_) h;have h1:=ih λt a b=>hp t a (dw (.i (.T .A .B) (.T .A (.a .B .O))) rfl b);have h2:=hp y h (jf (.T .A (.a .A .O)) rfl);rw [qJ h,qJ h];by_cases e:p y=true
 ·rw [Qct e,Qct (h2 e)];exact dw (.i (.L .A .B) (.L (.a .A .O) (.a .B .O))) rfl h1
 ·rw [Qcs e];split<;>(first | exact dw (.i (.L .A .B) (.L (.a .A .Z) (.a .B .O))) rfl h1 | exact dw (.i (.L .A .B) (.L (.a .A .Z) (.a .B .Z))) rfl h1)
theorem JP(h:x≤y):cn (λ_=>true) x y=y-x:=by
 refine xN (P:=λy=>cn (λ_=>true) x y=y-x) (by rw [rB];exact jf (.E .Z (.s .A .A)) rfl) (λy h ih=>?_) h;rw [qJ h,ih];simp;exact dw (.E (.a (.s .A .B) .O) (.s (.a .A .O) .B)) rfl
theorem JQ(h:x≤y):cn (λ_=>false) x y=0:=by
 refine xN (P:=λy=>cn (λ_=>false) x y=0) rB (λy h ih=>?_) h;rw [qJ h,ih];rfl
theorem A3(h:x≤y):cn p x y≤y-x:=by
 rw [← JP h];exact vQ h λ_ _ _ _=>rfl
theorem A4(h:x≤y):0≤cn p x y:=by
 rw [← JQ h];exact vQ h λ_ _ _ h=>by cases h
theorem Jm(h:x≤y)(hp : ∀t,x≤t→t<y→p t=true):cn p x y=y-x:=by
 refine pz (A3 h) ?_;rw [← JP h];exact vQ h λt a b _=>hp t a b
theorem vR(h:x≤y)(hp : ∀t,x≤t→t<y→p t=false):cn p x y=0:=by
 refine pz ?_ (A4 h);rw [← JQ h];exact vQ h λt a b e=>by rw [hp t a b] at e;exact e
theorem Wm(h:x≤y)(hd : ∀t,p t=true→q t=true→False):cn (λt=>p t || q t) x y=cn p x y+cn q x y:=by
 refine xN (P:=λy=>cn (λt=>p t || q t) x y=cn p x y+cn q x y) (by rw [rB,rB,rB];rfl) (λy h ih=>?_) h;rw [qJ h,qJ h,qJ h,ih];cases e1:p y<;>cases e2:q y
 ·simp
 ·simp;exact dw (.E (.a (.a .A .B) .O) (.a .A (.a .B .O))) rfl
 ·simp;exact dw (.E (.a (.a .A .B) .O) (.a (.a .A .O) .B)) rfl
 ·exact (hd y e1 e2).elim
theorem Ux{x' y':Int}(h:x≤y)(h':x'≤y')(hp : ∀t,p t=true→(x≤t∧t<y)∧x'≤t∧t<y'):cn p x y=cn p x' y':=by
 have key : ∀{x y:Int},x≤y→(∀t,p t=true→x≤t∧t<y)→∀lo hi,lo≤x→y≤hi→cn p lo hi=cn p x y:=by
  intro x y h hp lo hi h1 h2;rw [ui h1 (g7 h h2),ui h h2,vR h1 (p:=p) λt a b=>?_,vR h2 (p:=p) λt a b=>?_]
  ·exact jf (.E (.a .Z (.a .A .Z)) .A) rfl
  ·cases e:p t with
   | false=>rfl
   | true=>have:=hp t e;exact eO (dq (.i (.L .A .B) (.i (.a (.L .C .B) (.T .B .A)) .f)) rfl a this)
  ·cases e:p t with
   | false=>rfl
   | true=>have:=hp t e;exact eO (dq (.i (.T .A .B) (.i (.a (.L .B .A) (.T .A .C)) .f)) rfl b this)
 rw [← key h (λt e=>(hp t e).1) (min x x') (max y y') (KW) (KX),← key h' (λt e=>(hp t e).2) (min x x') (max y y') (dw (.L (.n .A .B) .B) rfl) (dw (.L .A (.x .B .A)) rfl)]
theorem Uy(h1:lo≤x)(h:x≤y)(h2:y≤hi):cn p x y≤cn p lo hi:=by
 rw [ui h1 (g7 h h2),ui h h2]
 have:=A4 (p:=p) h1
 have:=A4 (p:=p) h2
 exact dq (.i (.L .Z .A) (.i (.L .Z .B) (.L .C (.a .A (.a .C .B))))) rfl (by assumption) this
noncomputable def xV(σ:Int→Int)(l:List Nat)(t:Int):Bool:=l.any λk=>σ t==(k:Int)
noncomputable def lO(σ:Int→Int)(k:Nat)(t:Int):Bool:=σ t==(k:Int)
variable {t:Int}
theorem Az{k:Nat}:lO σ k t=true↔σ t=k:=by unfold lO;exact beq_iff_eq
variable {l:List Nat}
theorem Dr:xV σ l t=true↔∃k∈l,σ t=(k:Int):=by unfold xV;rw [sC];simp
theorem Jn(h:x≤y): ∀{l:List Nat},l.Nodup→cn (xV σ l) x y=(l.map λk=>cn (lO σ k) x y).sum:=by
 intro l
 induction l with
 | nil=>intro _;exact vR h λ_ _ _=>rfl
 | cons a l ih =>
  intro hn;refine b8 (List.nodup_cons.mp hn) λh1 h2=>?_;rw [aB,ef,← ih h2,← Wm h λt e1 e2=>?_]
  ·rfl
  ·rw [Az] at e1;refine ap (Dr.mp e2) λk hk e=>?_
   have:a=k:=KY e1 e
   exact h1 (this▸hk)
variable {f g:α→Int}
theorem Ed: ∀{l:List α},(∀k∈l,f k≤g k)→(l.map f).sum≤(l.map g).sum:=by
 intro l
 induction l with
 | nil=>intro _;exact c9 _
 | cons a l ih =>
  intro h;rw [aB,aB,ef,ef];have h1:=h a (.head _);have h2:=ih λk hk=>h k (.tail _ hk);exact ii (.i (.L .A .B) (.i (.L .C .D) (.L (.a .A .C) (.a .B .D)))) rfl h1 h2
theorem Uz{a:α}: ∀{l:List α},(∀k∈l,f k≤g k)→a∈l→f a<g a→(l.map f).sum<(l.map g).sum:=by
 intro l
 induction l with
 | nil=>intro _ h _;cases h
 | cons b l ih =>
  intro h hm hl;rw [aB,aB,ef,ef];have h1:=h b (.head _);rcases List.mem_cons.mp hm with rfl | hm
  ·have h2:=Ed (l:=l) λk hk=>h k (.tail _ hk);exact ii (.i (.T .A .B) (.i (.L .C .D) (.T (.a .A .C) (.a .B .D)))) rfl hl h2
  ·have h2:=ih (λk hk=>h k (.tail _ hk)) hm hl;exact ii (.i (.L .A .B) (.i (.T .C .D) (.T (.a .A .C) (.a .B .D)))) rfl h1 h2
variable {l:List α}
theorem UA(h : ∀k∈l,f k=g k):(l.map f).sum=(l.map g).sum:=by rw [dD h]
theorem DJ: ∀{l:List α},(∀k∈l,f k=0)→(l.map f).sum=0:=by
 intro l
 induction l with
 | nil=>intro _;exact rfl
 | cons a l ih=>intro h;rw [aB,ef,h a (.head _),ih λk hk=>h k (.tail _ hk)];rfl
variable {f:Nat→Int}
theorem PS{p:Nat→Bool}: ∀{l:List Nat},(∀k∈l,p k=false→f k=0)→((l.filter p).map f).sum=(l.map f).sum:=by
 intro l
 induction l with
 | nil=>intro _;exact rfl
 | cons a l ih =>
  intro h;have ih:=ih λk hk=>h k (.tail _ hk);rw [eD];split
  ·rw [aB,aB,ef,ef,ih]
  ·rename_i e;rw [aB,ef,ih,h a (.head _) (by simpa using e),tU]
theorem Ys{lo:Int}(h : ∀t,t<lo→p t=false): ∀(m:Nat) (e:Int),e≤lo+m→∃x,x≤e∧(∀t,x≤t→t<e→p t=true)∧p (x-1)=false:=by
 intro m
 induction m with
 | zero=>intro e he;exact ⟨e,c9 _,λt a b=>by exact eO (dw (.i (.L .A .B) (.i (.T .B .A) .f)) rfl a b),h _ (dw (.i (.L .A (.a .B (.k .Z))) (.T (.s .A .O) .B)) rfl he)⟩
 | succ m ih =>
  intro e he;cases hp:p (e-1) with
  | false=>exact ⟨e,c9 _,λt a b=>by exact eO (dw (.i (.L .A .B) (.i (.T .B .A) .f)) rfl a b),hp⟩
  | true =>
   refine du (ih (e-1) (ft (.i (.L .A (.a .B (.k (.a .A .O)))) (.L (.s .A .O) (.a .B (.k .A)))) rfl he)) λx h1 h2 h3=>?_;refine ⟨x,dw (.i (.L .A (.s .B .O)) (.L .A .B)) rfl h1,λt a b=>?_,h3⟩;by_cases e1:t=e-1
   ·rw [e1];exact hp
   ·exact h2 t a (dw (.i (.T .A .B) (.i (.n (.E .A (.s .B .O))) (.T .A (.s .B .O)))) rfl b e1)
structure gF(n:Nat)(E:Nat→Nat→Prop)(F T U ea:Nat→Int)(jm:Nat→Nat→Prop)(σ:Int→Int)(en:Nat→Int)(lo hi:Int):Prop where
 t1 : ∀i,i<n→1≤T i
 eE : ∀a i,E a i→a<i∧i<n
 eaR : ∀i,i<n→ea i=F i∨∃a,E a i∧ea i=ea a+T a
 wk : ∀t i,i<n→σ t=(i:Int)→lo≤t∧t<en i∧F i≤t∧∀a,E a i→en a≤t
 Nc : ∀i,i<n→en i≤hi
 elo:lo≤hi
 tot : ∀i,i<n→cn (lO σ i) lo hi=T i
 last : ∀i,i<n→σ (en i-1)=(i:Int)
 con : ∀i t,i<n→ea i≤t→t<en i→∃k,k<n∧σ t=(k:Int)∧(k=i∨U k<U i∨(U k=U i∧jm k i))
variable {n:Nat}{E:Nat→Nat→Prop}{F T U ea:Nat→Int}{jm:Nat→Nat→Prop}{σ:Int→Int}{en:Nat→Int}{lo hi:Int}
theorem gF.slots(S:gF n E F T U ea jm σ en lo hi){i:Nat}(df:i<n){x y:Int}(h:x≤y)(hs : ∀t,σ t=(i:Int)→x≤t∧t<y):cn (lO σ i) x y=T i:=by
 rw [← S.tot i df];refine Ux h S.elo λt e=>?_;have e:=Az.mp e;have h1:=S.wk t i df e;have h2:=S.Nc i df;exact ⟨hs t e,h1.1,o7 (.i (.L .A .B) (.i (.T .B .C) (.i (.L .D .B) (.i (.L .C .F) (.T .B .F))))) rfl h1.1 h1.2.1 h1.2.2.1 h2⟩
theorem gF.DK(S:gF n E F T U ea jm σ en lo hi){i:Nat}(df:i<n){x y:Int}(h:x≤y):cn (lO σ i) x y≤T i:=by
 rw [← S.slots df (x:=min x lo) (y:=max y hi) (ii (.i (.L .A .B) (.L (.n .A .C) (.x .B .D))) rfl h) λt e=>?_]
 ·exact Uy (KW) h (KX)
 ·have h1:=S.wk t i df e;have h2:=S.Nc i df;exact xZ (.i (.L .A .B) (.i (.T .B .C) (.i (.L .D .B) (.i (.L .C .F) (.a (.L (.n .G .A) .B) (.T .B (.x .H .F))))))) rfl h1.1 h1.2.1 h1.2.2.1 h2
theorem gF.Sd(S:gF n E F T U ea jm σ en lo hi){i:Nat}(df:i<n){x y t:Int}(h:x≤y)(h1:y≤t)(h2:σ t=(i:Int)):cn (lO σ i) x y<T i:=by
 have a1:=S.DK df (x:=x) (y:=t+1) (dq (.i (.L .A .B) (.i (.L .B .C) (.L .A (.a .C .O)))) rfl h h1);rw [qJ (by exact yg h h1),Qct (Az.mpr h2),ui h h1] at a1
 have:=A4 (p:=lO σ i) h1
 exact dq (.i (.L (.a (.a .A .B) .O) .C) (.i (.L .Z .B) (.T .A .C))) rfl a1 this
theorem gF.rel(S:gF n E F T U ea jm σ en lo hi): ∀{i:Nat},i<n→∀{t:Int},σ t=(i:Int)→ea i≤t:=by
 intro i
 induction i using tX with
 | ind i ih =>
  intro df t ht;refine kc (S.wk t i df ht) λ_ _ h3 h4=>?_;rcases S.eaR i df with e | ⟨a,ha,e⟩
  ·exact dq (.i (.L .A .B) (.i (.E .C .A) (.L .C .B))) rfl h3 e
  ·have aY:=(S.eE a i ha).1;have hs : ∀t,σ t=(a:Int)→ea a≤t∧t<en a:=λt ht=>⟨ih a aY (yh df aY) ht,(S.wk t a (yh df aY) ht).2.1⟩;have hl:=hs _ (S.last a (yh df aY))
   have:=S.slots (yh df aY) (x:=ea a) (y:=en a) (Be hl) hs
   have:=A3 (p:=lO σ a) (x:=ea a) (y:=en a) (Be hl)
   have:=h4 a ha
   exact v6 (.i (.E .A (.a .B .C)) (.i (.E .D .C) (.i (.L .D (.s .F .B)) (.i (.L .F .G) (.L .A .G))))) rfl e (by assumption) (by assumption) this
theorem gF.in1(S:gF n E F T U ea jm σ en lo hi){i:Nat}(df:i<n){t:Int}(ht:σ t=(i:Int)):ea i≤t∧t<en i:=⟨S.rel df ht,(S.wk t i df ht).2.1⟩
theorem gF.lt(S:gF n E F T U ea jm σ en lo hi){i:Nat}(df:i<n):ea i<en i:=by
 have:=S.in1 df (S.last i df)
 exact dw (.i (.a (.L .A (.s .B .O)) (.T (.s .B .O) .B)) (.T .A .B)) rfl this
theorem gF.Yt(S:gF n E F T U ea jm σ en lo hi){a i:Nat}(h:E a i):en a+T i≤en i:=by
 have df:=(S.eE a i h).2;have hs : ∀t,σ t=(i:Int)→en a≤t∧t<en i:=λt ht=>⟨(S.wk t i df ht).2.2.2 a h,(S.wk t i df ht).2.1⟩;have hl:=hs _ (S.last i df);have h1:=S.slots df (x:=en a) (y:=en i) (Be hl) hs;have h2:=A3 (p:=lO σ i) (x:=en a) (y:=en i) (Be hl);exact ii (.i (.E .A .B) (.i (.L .A (.s .C .D)) (.L (.a .D .B) .C))) rfl h1 h2
theorem gF.pack(S:gF n E F T U ea jm σ en lo hi){l:List Nat}(hn:l.Nodup)(hl : ∀i∈l,i<n){x y:Int}(h:x≤y)(hx : ∀i∈l,x≤ea i∧en i≤y):(l.map T).sum≤y-x:=by
 rw [← UA (f:=λk=>cn (lO σ k) x y) λi df=>S.slots (hl i df) h λt ht=>?_]
 ·rw [← Jn h hn];exact A3 h
 ·have h1:=S.in1 (hl i df) ht;have h2:=hx i df;exact o7 (.i (.a (.L .A .B) (.T .B .C)) (.i (.a (.L .D .A) (.L .C .F)) (.a (.L .D .B) (.T .B .F)))) rfl h1 h2
def zo(E:Nat→Nat→Prop)(ea:Nat→Int)(σ:Int→Int)(en:Nat→Int)(l:List Nat):Prop:=∀i∈l,∀t,ea i≤t→t<en i→∃k∈l,σ t=(k:Int)
theorem gF.fill(S:gF n E F T U ea jm σ en lo hi){l:List Nat}(hn:l.Nodup)(hl : ∀i∈l,i<n)(hc:zo E ea σ en l)(e:Int):
  ∃x,x≤e∧(∀i∈l,x≤ea i∨en i<x)∧e-x=(l.map λk=>cn (lO σ k) x e).sum:=by
 obtain ⟨x,h1,h2,h3⟩:=Ys (p:=xV σ l) (lo:=lo) (λt ht=>by
  cases e:xV σ l t with
  | false=>rfl
  | true =>
   refine ap (Dr.mp e) λk hk e=>?_
   have:=(S.wk t k (hl k hk) e).1
   exact eO (dw (.i (.T .A .B) (.i (.L .B .A) .f)) rfl ht this)) (e-lo).toNat e (dw (.L .A (.a .B (.k (.t (.s .A .B))))) rfl)
 refine ⟨x,h1,λi df=>?_,?_⟩
 ·by_cases e1:x≤ea i
  ·exact .inl e1
  ·by_cases e2:en i<x
   ·exact .inr e2
   ·refine ap (hc i df (x-1) (KZ e1) (dw (.i (.n (.T .A .B)) (.T (.s .B .O) .A)) rfl e2)) λk hk e=>?_
    have:=Dr.mpr ⟨k,hk,e⟩
    rw [h3] at this;cases this
 ·rw [← Jn h1 hn,Jm h1 h2]
theorem gF.out(S:gF n E F T U ea jm σ en lo hi){i:Nat}(df:i<n){x y:Int}(h:x≤y)(ho:en i≤x∨y≤ea i):cn (lO σ i) x y=0:=by
 refine vR h λt a b=>?_;cases e:lO σ i t with
 | false=>rfl
 | true =>
  have:=S.in1 df (Az.mp e)
  exact eO (o7 (.i (.o (.L .A .B) (.L .C .D)) (.i (.L .B .F) (.i (.T .F .C) (.i (.a (.L .D .F) (.T .F .A)) .f)))) rfl ho a b this)
end
section
variable {n:Nat}{E:Nat→Nat→Prop}{F T U ea:Nat→Int}{jm:Nat→Nat→Prop}{σ:Int→Int}{en:Nat→Int}{lo hi:Int}
theorem Jo(f:Nat→Int): ∀{l:List Nat},l≠[]→∃k∈l,∀i∈l,f i≤f k:=λ{l} h=>by
 induction l with
 | nil=>exact absurd rfl h
 | cons a l ih =>
  cases l with
  | nil=>exact ⟨a,.head _,λi hi=>by rcases List.mem_cons.mp hi with rfl | h;exact c9 _;cases h⟩
  | cons b l =>
   refine ap (ih (by simp)) λk h1 h2=>?_;by_cases e:f a≤f k
   ·exact ⟨k,.tail _ h1,λi hi=>by rcases List.mem_cons.mp hi with rfl | h;exact e;exact h2 i h⟩
   ·refine ⟨a,.head _,λi hi=>?_⟩;rcases List.mem_cons.mp hi with rfl | h
    ·exact c9 _
    ·have:=h2 i h;exact dq (.i (.n (.L .A .B)) (.i (.L .C .B) (.L .C .A))) rfl e this
noncomputable def jY(n:Nat)(ea la:Nat→Int)(a b:Int):List Nat:=(aF n).filter λi=>decide (a≤ea i)&&decide (la i≤b)
theorem t8{la:Nat→Int}{a b:Int}{i:Nat}:i∈jY n ea la a b↔i<n∧a≤ea i∧la i≤b:=by
 unfold jY;rw [zN,CE];simp
theorem OX{la:Nat→Int}{a b:Int}:(jY n ea la a b).Nodup:=List.nodup_range.filter _
structure Cg(n:Nat)(E:Nat→Nat→Prop)(T D la:Nat→Int):Prop where
 le : ∀i,i<n→la i≤D i
 leE : ∀a i,E a i→la a≤la i-T i
 at_ : ∀a,a<n→la a=D a∨∃i,E a i∧la a=la i-T i
variable {D:Nat→Int}
theorem UB(S:gF n E F T U ea jm σ en lo hi)(hL:Cg n E T D la): ∀(m:Nat) (k:Nat),k<n→n≤k+m→∃j,j<n∧en k-la k≤en j-D j:=by
 intro m
 induction m with
 | zero=>intro k h1 h2;exact eO (bK (.i (.t .A .B) (.i (.l .B (.a .A .Z)) .f)) rfl h1 h2)
 | succ m ih =>
  intro k h1 h2;rcases hL.at_ k h1 with e | ⟨i,hE,e⟩
  ·exact ⟨k,h1,dq (.i (.E .A .B) (.L (.s .C .A) (.s .C .B))) rfl e⟩
  ·have aY:=S.eE k i hE;refine ap (ih i aY.2 (fy (.i (.l .A (.a .B (.a .C .O))) (.i (.a (.t .B .D) (.t .D .A)) (.l .A (.a .D .C)))) rfl h2 aY)) λj h3 h4=>?_
   have:=S.Yt hE
   exact ⟨j,h3,xZ (.i (.E .A (.s .B .C)) (.i (.L (.s .D .B) (.s .F .G)) (.i (.L (.a .H .C) .D) (.L (.s .H .A) (.s .F .G))))) rfl e h4 this⟩
theorem UC(S:gF n E F T U ea jm σ en lo hi)(hL:Cg n E T D la){a b:Int}(fw:jY n ea la a b≠[]): ∃j,j<n∧a+((jY n ea la a b).map T).sum-b≤en j-D j:=by
 refine ap (Jo en fw) λk hk hm=>?_;refine fU (t8.mp hk) λk1 k2 k3=>?_;refine ap (UB S hL n k k1 (bK (.l .A (.a .B .A)) rfl)) λj h1 h2=>?_
 have:=S.pack OX (λi hi=>(t8.mp hi).1) (x:=a) (y:=en k) (by have:=S.lt k1;exact dq (.i (.L .A .B) (.i (.T .B .C) (.L .A .C))) rfl k2 this) λi hi=>⟨(t8.mp hi).2.1,hm i hi⟩
 exact ⟨j,h1,xZ (.i (.L .A .B) (.i (.L (.s .C .A) (.s .D .F)) (.i (.L .G (.s .C .H)) (.L (.s (.a .H .G) .B) (.s .D .F))))) rfl k3 h2 this⟩
theorem Jp(S:gF n E F T U ea jm σ en lo hi){D:Nat→Int}(hL:Cg n E T D U){j:Nat}(hj:j<n): ∃x y,x<n∧y<n∧jY n ea U (ea x) (U y)≠[]∧en j-D j≤ea x+((jY n ea U (ea x) (U y)).map T).sum-U y:=by
 let l:=(aF n).filter λi=>decide (U i≤U j);have wQ : ∀i,i∈l↔i<n∧U i≤U j:=λi=>by show i∈N3 _ _↔_;rw [zN,CE];simp
 have Fs:l.Nodup:=List.nodup_range.filter _;obtain ⟨x,h1,h2,h3⟩:=S.fill Fs (λi hi=>((wQ i).mp hi).1) (λi hi t a b=>by
  refine du (S.con i t ((wQ i).mp hi).1 a b) λk k1 k2 k3=>?_
  have:=((wQ i).mp hi).2
  refine ⟨k,(wQ k).mpr ⟨k1,?_⟩,k2⟩;rcases k3 with rfl | k3 | k3<;>(first | exact K0 this | exact EN this k3 | exact dq (.i (.L .A .B) (.i (.E .C .A) (.L .C .B))) rfl this k3.1)) (en j)
 have hjx:x≤ea j:=by
  rcases h2 j ((wQ j).mpr ⟨hj,c9 _⟩) with h | h
  ·exact h
  ·exact dq (.i (.L .A .B) (.i (.T .B .A) (.L .A .C))) rfl h1 h
 have fw:jY n ea U x (U j)≠[]:=λe=>by
  have:j∈jY n ea U x (U j):=t8.mpr ⟨hj,hjx,c9 _⟩
  rw [e] at this;cases this
 refine ap (Jo (λi => - ea i) fw) λk hk hm=>?_;refine fU (t8.mp hk) λk1 k2 k3=>?_;have ew:jY n ea U (ea k) (U j)=jY n ea U x (U j):=by
  unfold jY;refine List.filter_congr λi hi=>?_;by_cases e:U i≤U j
  ·have df:=List.mem_range.mp hi
   have:ea k≤ea i↔x≤ea i:=⟨λh=>yg k2 h,λh=>by have:=hm i (t8.mpr ⟨df,h,e⟩);exact dw (.i (.L (.g .A) (.g .B)) (.L .B .A)) rfl this⟩
   simp [this]
  ·simp [e]
 refine ⟨k,j,k1,hj,by rw [ew];exact fw,?_⟩;rw [ew];have hs:en j-x≤((jY n ea U x (U j)).map T).sum:=by
  rw [h3,← PS (p:=λi=>decide (x≤ea i)) λi hi e=>?_]
  ·show ((l.filter _).map _).sum≤_
   have el:l.filter (λi=>decide (x≤ea i))=jY n ea U x (U j):=by
    show ((aF n).filter _).filter _=_
    rw [List.filter_filter];rfl
   rw [el];exact Ed λi hi=>S.DK (t8.mp hi).1 h1
  ·have e:¬x≤ea i:=by simpa using e
   refine S.out ((wQ i).mp hi).1 h1 (.inl ?_);rcases h2 i hi with h | h
   ·exact absurd h e
   ·exact v9 h
 have:=hL.le j hj
 exact v6 (.i (.L .A .B) (.i (.L (.s .C .A) .D) (.i (.L .F .G) (.L (.s .C .G) (.s (.a .B .D) .F))))) rfl k2 hs this
noncomputable def CC(ea T:Nat→Int)(now:Int)(p:List Nat):Int:=p.foldl (λnow i=>max now (ea i)+T i) now
noncomputable def wR(ea T:Nat→Int)(j:Nat):List Nat→Int→Bool→Int
 | [],now,_=>now
 | i::r,now,met=>if now≤ea i then (if met then now else wR ea T j r (ea i+T i) (met || i==j)) else wR ea T j r (now+T i) (met || i==j)
variable {p:Nat→Bool}
theorem Jq{k:Nat}: ∀{l:List Nat},k∈l.takeWhile p→p k=true:=by
 intro l
 induction l with
 | nil=>intro h;cases h
 | cons a l ih =>
  intro h;rw [Od] at h;split at h
  ·rcases List.mem_cons.mp h with rfl | h
   ·assumption
   ·exact ih h
  ·cases h
theorem Jr:∀{p:List Nat} {now:Int},now+(p.map T).sum≤CC ea T now p:=by
 intro p
 induction p with
 | nil=>intro now;simp [CC]
 | cons i p ih =>
  intro now
  have:=ih (now:=max now (ea i)+T i)
  rw [aB,ef];show _≤CC ea T (max now (ea i)+T i) p
  exact o7 (.i (.L (.a (.a (.x .A .B) .C) .D) .F) (.L (.a .A (.a .C .D)) .F)) rfl this
variable {p q:List Nat}
theorem Ee:CC ea T now (p++q)=CC ea T (CC ea T now p) q:=dE ..
theorem Se:ea i+(((i::q).map T).sum)≤CC ea T now (p++i::q):=by
 rw [Ee,aB,ef]
 have:=Jr (ea:=ea) (T:=T) (p:=q) (now:=max (CC ea T now p) (ea i)+T i)
 show _≤CC ea T (max (CC ea T now p) (ea i)+T i) q
 exact o7 (.i (.L (.a (.a (.x .A .B) .C) .D) .F) (.L (.a .B (.a .C .D)) .F)) rfl this
theorem Wn:∀{p:List Nat} {now:Int},CC ea T now p=now+(p.map T).sum∨∃p1 i p2,p=p1++i::p2∧CC ea T now p=ea i+((i::p2).map T).sum:=by
 intro p
 induction p with
 | nil=>intro now;exact .inl (by simp [CC])
 | cons i p ih =>
  intro now;have e:CC ea T now (i::p)=CC ea T (max now (ea i)+T i) p:=rfl;rcases ih (now:=max now (ea i)+T i) with h | ⟨p1,k,p2,h1,h2⟩
  ·rw [e,h];by_cases hm:ea i≤now
   ·left;rw [aB,ef];exact ii (.i (.L .A .B) (.E (.a (.a (.x .B .A) .C) .D) (.a .B (.a .C .D)))) rfl hm
   ·right;refine ⟨[],i,p,rfl,?_⟩;rw [aB,ef];exact ii (.i (.n (.L .A .B)) (.E (.a (.a (.x .B .A) .C) .D) (.a .A (.a .C .D)))) rfl hm
  ·exact .inr ⟨i::p1,k,p2,by rw [h1];rfl,by rw [e,h2]⟩
theorem Tz{q:List Nat}(hT : ∀i∈q,0≤T i){p:List Nat}{now:Int}:CC ea T now p≤CC ea T now (p++q):=by
 rw [Ee];have h1:=Jr (ea:=ea) (T:=T) (p:=q) (now:=CC ea T now p);have h2:=Ed (f:=λ_:Nat=>(0:Int)) (g:=T) (l:=q) hT;rw [DJ λ_ _=>rfl] at h2;exact dq (.i (.L (.a .A .B) .C) (.i (.L .Z .B) (.L .A .C))) rfl h1 h2
theorem UD(S:gF n E F T U ea jm σ en lo hi){rn:List Nat}(hr:rn=p++q)(d9:rn.Nodup)(aY : ∀i∈rn,i<n)(jN:zo E ea σ en rn)(hs:rn.Pairwise λa b=>ea a≤ea b)(hq : ∀i∈q,CC ea T now p≤ea i)(df:i∈p):en i≤CC ea T now p:=by
 by_cases hle:en i≤CC ea T now p
 ·exact hle
 exfalso
 have hin:i∈rn:=by rw [hr];exact ao _ df
 refine du (S.fill d9 aY jN (CC ea T now p)) λx h1 h2 h3=>?_;have hxi:x≤ea i:=by rcases h2 i hin with h | h<;>(first | exact K0 h | exact ii (.i (.n (.L .A .B)) (.i (.L .C .B) (.i (.T .A .C) (.L .C .D)))) rfl hle h1 h)
 have hp:=ng (p:=λk=>decide (ea k<x)) (l:=p);have pq : ∀k∈p.takeWhile (λk=>decide (ea k<x)),ea k<x:=λk hk=>by simpa using Jq hk
 generalize p.takeWhile (λk=>decide (ea k<x))=p1 at hp pq;have zp : ∀k p2,p.dropWhile (λk=>decide (ea k<x))=k::p2→¬ea k<x:=λk p2 e=>by
  have h:=Gr (λk=>decide (ea k<x)) p;rw [e] at h;simpa using h
 generalize p.dropWhile (λk=>decide (ea k<x))=p2 at hp zp;have mV:i∈p2:=by
  rw [← hp] at df;rcases List.mem_append.mp df with h | h
  ·have:=pq i h;exact eO (dw (.i (.L .A .B) (.i (.T .B .A) .f)) rfl hxi this)
  ·exact h
 cases p2 with
 | nil=>cases mV
 | cons k p2 =>
  have hk:=zp k p2 rfl;have Yu:CC ea T now p-x=((k::p2).map λk=>cn (lO σ k) x (CC ea T now p)).sum:=by
   rw [h3,hr,← hp,hp,aV,oS,← hp,aV,oS,hp,DJ (l:=p1),DJ (l:=q)]
   ·exact jf (.E (.a (.a .Z .A) .Z) .A) rfl
   ·exact λi hi=>S.out (aY i (by rw [hr];exact ag _ hi)) h1 (.inr (hq i hi))
   ·intro i hi;have hm:i∈rn:=by rw [hr,← hp];exact ao _ (ao _ hi)
    have:=pq i hi
    refine S.out (aY i hm) h1 (.inl ?_);rcases h2 i hm with h | h<;>(first | exact dq (.i (.T .A .B) (.i (.L .B .A) (.L .C .B))) rfl this h | exact v9 h)
  have hl:((k::p2).map λk=>cn (lO σ k) x (CC ea T now p)).sum<((k::p2).map T).sum:=by
   refine Uz (λa ha=>S.DK (aY a ?_) h1) mV (S.Sd (aY i hin) (t:=en i-1) h1 (KZ hle) (S.last i (aY i hin)));rw [hr,← hp];exact ao _ (ag _ ha)
  have zq:ea k+((k::p2).map T).sum≤CC ea T now p:=by
   have:=Se (ea:=ea) (T:=T) (p:=p1) (q:=p2) (i:=k) (now:=now)
   rw [hp] at this;exact this
  exact o7 (.i (.n (.T .A .B)) (.i (.E (.s .C .B) .D) (.i (.T .D .F) (.i (.L (.a .A .F) .C) .f)))) rfl hk Yu hl zq
theorem UE(S:gF n E F T U ea jm σ en lo hi){h0:Nat}{r p q:List Nat}(hr:h0::r=p++q)(d9:(h0::r).Nodup)(aY : ∀i∈h0::r,i<n)(hs:(h0::r).Pairwise λa b=>ea a≤ea b)(fw:p≠[]){t:Int}(ht : ∀i∈p,en i≤t):CC ea T (ea h0) p≤t:=by
 rw [hr] at d9 aY hs;have jM:=(List.nodup_append.mp d9).1;have zq:=(List.pairwise_append.mp hs).1;have sj : ∀i∈p,i<n:=λi hi=>aY i (ao _ hi);rcases Wn (ea:=ea) (T:=T) (p:=p) (now:=ea h0) with e | ⟨p1,k,p2,e1,e⟩
 ·cases p with
  | nil=>exact absurd rfl fw
  | cons a p =>
   obtain rfl:h0=a:=by rw [zH] at hr;exact (lQ hr).1
   have h1:=ht h0 (.head _);have h2:=S.lt (sj h0 (.head _))
   have:=S.pack jM sj (x:=ea h0) (y:=t) (EN h1 h2) λi hi=>⟨by
    rcases List.mem_cons.mp hi with rfl | h
    ·exact c9 _
    ·exact (List.pairwise_cons.mp zq).1 i h,ht i hi⟩
   exact K1 e this
 ·rw [e1] at jM zq sj ht;have h1:=ht k (by simp);have h2:=S.lt (sj k (by simp))
  have:=S.pack (List.nodup_append.mp jM).2.1 (λi hi=>sj i (ag _ hi)) (x:=ea k) (y:=t) (EN h1 h2) λi hi=>⟨by
   rcases List.mem_cons.mp hi with rfl | h
   ·exact c9 _
   ·exact (List.pairwise_cons.mp (List.pairwise_append.mp zq).2.1).1 i h,ht i (ag _ hi)⟩
  exact K1 e this
theorem IR(S:gF n E F T U ea jm σ en lo hi){h0:Nat}{r p q:List Nat}(hr:h0::r=p++q)(d9:(h0::r).Nodup)(aY : ∀i∈h0::r,i<n)(jN:zo E ea σ en (h0::r))(hs:(h0::r).Pairwise λa b=>ea a≤ea b){j:Nat}(sX : ∀i∈h0::r,ea i<en j→en i≤en j)
  (hinv : ∀q k p2,p=q++k::p2→j∈q→¬CC ea T (ea h0) q≤ea k) (hj:j∈p) (hq : ∀i∈q,CC ea T (ea h0) p≤ea i):CC ea T (ea h0) p=en j:=by
 have mR:=UD S hr d9 aY jN hs hq hj;by_cases yF:en j<CC ea T (ea h0) p
 ·exfalso
  have vk:j∈h0::r:=by rw [hr];exact ao _ hj
  have hw:=ng (p:=λk=>decide (ea k<en j)) (l:=h0::r);have pq : ∀k∈(h0::r).takeWhile (λk=>decide (ea k<en j)),ea k<en j:=λk hk=>by simpa using Jq hk
  generalize (h0::r).takeWhile (λk=>decide (ea k<en j))=w at hw pq;have zp : ∀k p2,(h0::r).dropWhile (λk=>decide (ea k<en j))=k::p2→¬ea k<en j:=λk p2 e=>by
   have h:=Gr (λk=>decide (ea k<en j)) (h0::r);rw [e] at h;simpa using h
  generalize (h0::r).dropWhile (λk=>decide (ea k<en j))=w2 at hw zp;have gs : ∀k∈w2,en j≤ea k:=by
   cases w2 with
   | nil=>intro k hk;cases hk
   | cons b w2 =>
    have hb:=zp b w2 rfl;intro k hk;rcases List.mem_cons.mp hk with rfl | hk
    ·exact x9 hb
    ·have:=(List.pairwise_cons.mp (List.pairwise_append.mp (hw▸hs)).2.1).1 k hk
     exact EG hb this
  have Ne:j∈w:=by
   rw [← hw] at vk;rcases List.mem_append.mp vk with h | h
   ·exact h
   ·have:=gs j h
    have:=S.lt (aY j (by rw [hr];exact ao _ hj))
    omega
  have Ch:=UE S hw.symm d9 aY hs (Qaj Ne) (t:=en j) λi hi=>sX i (by rw [← hw];exact ao _ hi) (pq i hi);rcases List.prefix_or_prefix_of_prefix (⟨w2,hw⟩:w <+: h0::r) (⟨q,hr.symm⟩:p <+: h0::r) with ⟨s,io⟩ | ⟨s,io⟩
  ·cases s with
   | nil =>
    rw [fg] at io;rw [io] at Ch;exact dw (.i (.T .A .B) (.i (.L .B .A) .f)) rfl yF Ch
   | cons k s =>
    refine hinv w k s io.symm Ne ?_
    have:k∈w2:=by
     rw [← io,← hw,aH] at hr
     have:=List.append_cancel_left hr
     rw [this];exact .head _
    have:=gs k this
    exact yg Ch this
  ·have:=Tz (ea:=ea) (T:=T) (q:=s) (p:=p) (now:=ea h0) λi hi=>by
    have:i∈h0::r:=by rw [← hw,← io];exact ao _ (ag _ hi)
    have:=S.t1 i (aY i this)
    exact jf (.i (.L .O .A) (.L .Z .A)) rfl this
   rw [io] at this;exact dq (.i (.T .A .B) (.i (.L .C .A) (.i (.L .B .C) .f))) rfl yF Ch this
 ·exact dw (.i (.L .A .B) (.i (.n (.T .A .B)) (.E .B .A))) rfl mR yF
theorem UF(S:gF n E F T U ea jm σ en lo hi){h0:Nat}{r:List Nat}(d9:(h0::r).Nodup)(aY : ∀i∈h0::r,i<n)(jN:zo E ea σ en (h0::r))(hs:(h0::r).Pairwise λa b=>ea a≤ea b){j:Nat}(sX : ∀i∈h0::r,ea i<en j→en i≤en j)(vk:j∈h0::r):
  ∀{q p:List Nat},h0::r=p++q→(∀q k p2,p=q++k::p2→j∈q→¬CC ea T (ea h0) q≤ea k)→wR ea T j q (CC ea T (ea h0) p) (decide (j∈p))=en j:=by
 intro q
 induction q with
 | nil=>intro p hr hinv;exact IR S hr d9 aY jN hs sX hinv (by rw [fg] at hr;rw [← hr];exact vk) λi hi=>by cases hi
 | cons i q ih =>
  intro p hr hinv;have Nf:h0::r=(p++[i])++q:=by rw [hr];simp
  have hd:(decide (j∈p) || i==j)=decide (j∈p++[i]):=by
   rw [tV];simp only [Bool.or_eq_true,decide_eq_true_eq,beq_iff_eq,zO,w0,@eq_comm Nat i j]
  have JR:(j∈p→¬CC ea T (ea h0) p≤ea i)→∀q k p2,p++[i]=q++k::p2→j∈q→¬CC ea T (ea h0) q≤ea k:=by
   intro h q k p2 e hq;rcases NW p2 with rfl | ⟨p3,b,rfl⟩
   ·refine b8 (QaR e rfl) λaf e2=>?_;subst af;obtain rfl:i=k:=by simpa using e2
    exact h hq
   ·have e':p++[i]=(q++k::p3)++[b]:=by rw [e];simp
    refine b8 (QaR e' rfl) λe2 _=>?_;exact hinv q k p3 e2 hq
  have hC:CC ea T (ea h0) (p++[i])=max (CC ea T (ea h0) p) (ea i)+T i:=by rw [Ee];rfl
  unfold wR;by_cases h1:CC ea T (ea h0) p≤ea i
  ·rw [Qct h1];by_cases h2:j∈p
   ·rw [Qct (decide_eq_true h2)];refine IR S hr d9 aY jN hs sX hinv h2 λk hk=>?_;rcases List.mem_cons.mp hk with rfl | hk
    ·exact h1
    ·rw [hr] at hs
     have:=(List.pairwise_cons.mp (List.pairwise_append.mp hs).2.1).1 k hk
     exact yg h1 this
   ·rw [Qcs (by simpa using h2),hd,show ea i+T i=CC ea T (ea h0) (p++[i]) by rw [hC];exact dq (.i (.L .A .B) (.E (.a .B .C) (.a (.x .A .B) .C))) rfl h1];exact ih Nf (JR λh=>absurd h h2)
  ·rw [Qcs h1,hd,show CC ea T (ea h0) p+T i=CC ea T (ea h0) (p++[i]) by rw [hC];exact dq (.i (.n (.L .A .B)) (.E (.a .A .C) (.a (.x .A .B) .C))) rfl h1];exact ih Nf (JR λ_=>h1)
theorem QY(hT : ∀i,T i=takes.getD i 0): ∀(rn:List Nat) (now:Int) (met:Bool),qP takes j (rn.map λi=>(ea i,(i:Int))) now met=wR ea T j rn now met:=by
 intro rn
 induction rn with
 | nil=>intro _ _;exact rfl
 | cons i r ih =>
  intro now met;rw [aB];unfold qP wR;have e:((i:Int)==(j:Int))=(i==j):=by rw [tV,beq_iff_eq,beq_iff_eq];exact Xg
  rw [e,bY,← hT i,ih,ih]
theorem Yv(S:gF n E F T U ea jm σ en lo hi){early takes:List Int}{gI:List (Int×Int)}{pos:Nat→Int}(rc:early.length=n)(pj : ∀i,ea i=early.getD i 0)(hT : ∀i,T i=takes.getD i 0)(Ng : ∀i,i<n→gI.getD i (0,0)=(U i,pos i))
  (hb : ∀k i,k<n→i<n→jm k i→k=i∨pos k<pos i) {j:Nat} (hj:j<n) {r:Int} (h:D7 early gI takes j r):r=en j:=by
 refine du h λrow h1 h2 af=>?_;subst af;have hl : ∀i,i∈(aF early.length).filter (wm gI j)↔i<n∧¬(U j<U i∨(U j=U i∧pos j<pos i)):=λi=>by
  rw [zN,CE,rc];refine and_congr_right λdf=>?_;unfold wm gH;rw [Ng i df,Ng j hj,QaG,decide_eq_false_iff_not]
 have hlx : ∀a b:Nat,gH (ea b,(b:Int)) (ea a,(a:Int))=false→ea a≤ea b:=λa b h=>by
  unfold gH at h
  have:=Qcu h
  exact ii (.i (.n (.o (.T .A .B) (.a (.E .A .B) (.T .C .D)))) (.L .B .A)) rfl this
 obtain ⟨rn,hp,rfl⟩ : ∃rn:List Nat,rn.Perm ((aF early.length).filter (wm gI j))∧row=rn.map λi=>(ea i,(i:Int)):=by
  have hm : ∀q∈row,q=(ea q.2.toNat,((q.2.toNat:Nat):Int)):=λq hq=>by
   refine ap (List.mem_map.mp (h1.mem_iff.mp hq)) λi _ af=>?_;subst af;dsimp only;rw [bY,pj]
  refine ⟨row.map λq=>q.2.toNat,?_,?_⟩
  ·refine (h1.map _).trans (List.Perm.of_eq ?_);unfold ko;rw [bt];have e : ∀l:List Nat,l.map ((λq:Int×Int=>q.2.toNat) ∘ λi=>(early.getD i 0,(i:Int)))=l:=λl=>by
    rw [show ((λq:Int×Int=>q.2.toNat) ∘ λi:Nat=>(early.getD i 0,(i:Int)))=id from funext λi=>bY i,List.map_id]
   exact e _
  ·rw [bt];have e : ∀l:List (Int×Int),(∀q∈l,q=(ea q.2.toNat,((q.2.toNat:Nat):Int)))→l=l.map ((λi:Nat=>(ea i,(i:Int))) ∘ λq=>q.2.toNat):=by
    intro l
    induction l with
    | nil=>intro _;rfl
    | cons a l ih =>
     intro h;rw [aB,← ih λq hq=>h q (.tail _ hq)];exact congrArg (· :: l) (h a (.head _))
   exact e _ hm
 have hmem : ∀i,i∈rn↔i<n∧¬(U j<U i∨(U j=U i∧pos j<pos i)):=λi=>hp.mem_iff.trans (hl i);have d9:rn.Nodup:=hp.nodup_iff.mpr (List.nodup_range.filter _);have vk:j∈rn:=(hmem j).mpr ⟨hj,dw (.n (.o (.T .A .A) (.a (.E .A .A) (.T .B .B)))) rfl⟩;have hs:rn.Pairwise λa b=>ea a≤ea b:=(List.pairwise_map.mp h2).imp λ{a b} h=>hlx a b h;have aY : ∀i∈rn,i<n:=λi hi=>((hmem i).mp hi).1;have jN:zo E ea σ en rn:=λi hi t a b=>by
  refine du (S.con i t (aY i hi) a b) λk k1 k2 k3=>?_;have h3:=((hmem i).mp hi).2;refine ⟨k,(hmem k).mpr ⟨k1,?_⟩,k2⟩;rcases k3 with rfl | k3 | ⟨k3,k4⟩
  ·exact h3
  ·exact v6 (.i (.n (.o (.T .A .B) (.a (.E .A .B) (.T .C .D)))) (.i (.T .F .B) (.n (.o (.T .A .F) (.a (.E .A .F) (.T .C .G)))))) rfl h3 k3
  ·rcases hb k i k1 (aY i hi) k4 with rfl | h4
   ·exact h3
   ·exact v6 (.i (.n (.o (.T .A .B) (.a (.E .A .B) (.T .C .D)))) (.i (.E .F .B) (.i (.T .G .D) (.n (.o (.T .A .F) (.a (.E .A .F) (.T .C .G))))))) rfl h3 k3 h4
 have sX : ∀i∈rn,ea i<en j→en i≤en j:=λi hi a=>by
  by_cases e:en i≤en j
  ·exact e
  exfalso
  refine du (S.con i (en j-1) (aY i hi) (K2 a) (dw (.i (.n (.L .A .B)) (.T (.s .B .O) .A)) rfl e)) λk k1 k2 k3=>?_;have h3:=((hmem i).mp hi).2
  have:=S.last j hj
  obtain rfl:k=j:=KY k2 this;rcases k3 with rfl | k3 | ⟨k3,k4⟩
  ·exact K3 e
  ·exact ii (.i (.n (.o (.T .A .B) (.a (.E .A .B) (.T .C .D)))) (.i (.T .A .B) .f)) rfl h3 k3
  ·rcases hb k i k1 (aY i hi) k4 with rfl | h4<;>(first | exact K3 e | exact ii (.i (.n (.o (.T .A .B) (.a (.E .A .B) (.T .C .D)))) (.i (.E .A .B) (.i (.T .C .D) .f))) rfl h3 k3 h4)
 rw [QY hT];cases rn with
 | nil=>cases vk
 | cons h0 r =>
  have:=UF S d9 aY jN hs sX vk (q:=h0::r) (p:=[]) rfl λq k p2 e=>by
   have:=congrArg iQ e
   simp at this
  exact this
end
section
open PySem PySem.W PySem.W.X PyProof.Rows
variable {j:Int}
theorem Ib:(dR vg k f).find? (λp=>p.1=j)=(vg.find? λp=>p.1=j).map λp=>if p.1=k then (p.1,f p.2) else p:=by
 unfold dR
 induction vg with
 | nil=>rfl
 | cons p vg ih =>
  rw [aB,dJ,dJ];have e:(if p.1=k then (p.1,f p.2) else p).1=p.1:=by split<;>rfl
  rw [e];by_cases h:p.1=j
  ·simp only [h,decide_true,jR]
  ·simp only [h,decide_false];exact ih
theorem sY(h:j≠k):eG (dR vg k f) j=eG vg j∧eC (dR vg k f) j=eC vg j:=by
 unfold eG eC;rw [Ib];cases hf:vg.find? λp=>p.1=j with
 | none=>exact ⟨rfl,rfl⟩
 | some p =>
  have hp:p.1=j:=by simpa using tS hf
  have hk:¬p.1=k:=by rw [hp];exact h
  rw [jR,Qcs hk];exact ⟨rfl,rfl⟩
theorem uG(h:k∈vg.map (·.1)):eG (dR vg k f) k=(f (eG vg k,eC vg k)).1∧eC (dR vg k f) k=(f (eG vg k,eC vg k)).2:=by
 unfold eG eC;rw [Ib];cases hf:vg.find? λp=>p.1=k with
 | none =>
  refine ap (List.mem_map.mp h) λp hp e=>?_
  have:=List.find?_eq_none.mp hf p hp
  simp at this;exact absurd e this
 | some p =>
  have hp:p.1=k:=by simpa using tS hf
  rw [jR,Qct hp];exact ⟨rfl,rfl⟩
theorem Aq:j∈(ik vg k).map (·.1)↔j∈vg.map (·.1)∨j=k:=by
 unfold ik;split
 ·rename_i h;rw [sC] at h;refine ap h λp hp e=>?_;have e:p.1=k:=by simpa using e
  refine ⟨.inl,λh=>h.elim id λh=>?_⟩;rw [h,← e];exact List.mem_map.mpr ⟨p,hp,rfl⟩
 ·rw [aV,zO];simp
theorem HD{vg:VG}{k:Int}(h:(vg.map (·.1)).Nodup):((ik vg k).map (·.1)).Nodup:=by
 unfold ik;split
 ·exact h
 ·rename_i hn;rw [aV,QaA];refine ⟨h,by simp,λa ha b hb=>?_⟩;have hb:b=k:=by simpa using hb
  rintro rfl;refine ap (List.mem_map.mp ha) λp hp e=>?_;exact hn (List.any_eq_true.mpr ⟨p,hp,by simp [e,hb]⟩)
theorem sQ{vg:VG}{k j:Int}:eG (ik vg k) j=eG vg j∧eC (ik vg k) j=eC vg j:=by
 unfold ik;split
 ·exact ⟨rfl,rfl⟩
 ·unfold eG eC;rw [QaE];cases hf:vg.find? λp=>p.1=j with
  | some p=>exact ⟨rfl,rfl⟩
  | none =>
   rw [k9,dJ];by_cases h:k=j<;>simp [h]
theorem Sf: ∀{P:List Int} {vg:VG},(∀j,eG (P.foldl (λvg p=>dR (ik vg p) p λq=>(q.1,q.2++[k])) vg) j=eG vg j∧eC (P.foldl (λvg p=>dR (ik vg p) p λq=>(q.1,q.2++[k])) vg) j=eC vg j++(P.filter λp=>decide (p=j)).map λ_=>k) ∧
  (∀j,j∈(P.foldl (λvg p=>dR (ik vg p) p λq=>(q.1,q.2++[k])) vg).map (·.1)↔j∈vg.map (·.1)∨j∈P)∧((vg.map (·.1)).Nodup→((P.foldl (λvg p=>dR (ik vg p) p λq=>(q.1,q.2++[k])) vg).map (·.1)).Nodup):=by
 intro P
 induction P with
 | nil=>intro vg;exact ⟨λj=>⟨rfl,by simp⟩,λj=>by simp,λh=>h⟩
 | cons p P ih =>
  intro vg;refine fU (ih (vg:=dR (ik vg p) p λq=>(q.1,q.2++[k]))) λh1 h2 h3=>?_;rw [mu];refine ⟨λj=>?_,λj=>?_,λhn=>h3 (by rw [qH];exact HD hn)⟩
  ·rw [(h1 j).1,(h1 j).2,eD];by_cases e:p=j
   ·subst e;have hm:p∈(ik vg p).map (·.1):=Aq.mpr (.inr rfl);rw [(uG hm).1,(uG hm).2];dsimp only;rw [sQ.1,sQ.2,Qct (decide_eq_true rfl),aB,aH];exact ⟨rfl,rfl⟩
   ·have e':j≠p:=λh=>e h.symm;rw [(sY e').1,(sY e').2,sQ.1,sQ.2,Qcs (by simpa using e)];exact ⟨rfl,rfl⟩
  ·rw [h2 j,qH,Aq,fS,or_assoc]
theorem TA{vg:VG}{k:Int}{P:List Int}:(∀j,eG (rQ vg k P) j=eG vg j+(if j=k then (P.length:Int) else 0)∧eC (rQ vg k P) j=eC vg j++(P.filter λp=>decide (p=j)).map λ_=>k)∧(∀j,j∈(rQ vg k P).map (·.1)↔j∈vg.map (·.1)∨j=k∨j∈P)∧((vg.map (·.1)).Nodup→((rQ vg k P).map (·.1)).Nodup):=by
 unfold rQ;refine fU (Sf (k:=k) (P:=P) (vg:=dR (ik vg k) k λq=>(q.1+P.length,q.2))) λh1 h2 h3=>?_;refine ⟨λj=>?_,λj=>?_,λhn=>h3 (by rw [qH];exact HD hn)⟩
 ·rw [(h1 j).1,(h1 j).2];by_cases e:j=k
  ·subst e;have hm:j∈(ik vg j).map (·.1):=Aq.mpr (.inr rfl);rw [(uG hm).1,(uG hm).2];dsimp only;rw [sQ.1,sQ.2,Qct rfl];exact ⟨rfl,rfl⟩
  ·rw [(sY e).1,(sY e).2,sQ.1,sQ.2,Qcs e,gf];exact ⟨rfl,rfl⟩
 ·rw [h2 j,qH,Aq,or_assoc]
noncomputable def iu(P:Nat→List Int)(m:Nat):VG:=(aF m).foldl (λ(vg:VG) (i:Nat)=>rQ vg (i:Int) (P i)) []
noncomputable def EL(P:Nat→List Int)(m:Nat):List (Int×Int):=(aF m).flatMap λi=>(P i).map λp=>(p,(i:Int))
variable {P:Nat→List Int}{m:Nat}
theorem DL:iu P (m+1)=rQ (iu P m) m (P m):=by unfold iu;rw [kl,dE];rfl
theorem AA:EL P (m+1)=EL P m++(P m).map λp=>(p,(m:Int)):=by unfold EL;rw [kl,jC];simp
theorem DZ{P:Nat→List Int}: ∀m:Nat,(∀i:Nat,eG (iu P m) i=if i<m then ((P i).length:Int) else 0)∧(∀j,eC (iu P m) j=((EL P m).filter λe=>decide (e.1=j)).map (·.2))∧(∀j,j∈(iu P m).map (·.1)↔∃i,i<m∧(j=(i:Int)∨j∈P i))∧((iu P m).map (·.1)).Nodup:=by
 intro m
 induction m with
 | zero=>exact ⟨λi=>rfl,λj=>rfl,λj=>⟨λh=>(by cases h),λ⟨i,h,_⟩=>absurd h (kF _)⟩,m8⟩
 | succ m ih =>
  refine kc (ih) λh1 h2 h3 h4=>?_;refine fU (TA (vg:=iu P m) (k:=m) (P:=P m)) λa1 a2 a3=>?_;rw [DL,AA];refine ⟨λi=>?_,λj=>?_,λj=>?_,a3 h4⟩
  ·rw [(a1 i).1,h1 i];by_cases e:i=m
   ·subst e;rw [Qcs (fZ _),Qct rfl,Qct (Qa7 _),tU]
   ·have e':¬(i:Int)=m:=bK (.i (.n (.e .A .B)) (.n (.E (.k .A) (.k .B)))) rfl e;rw [Qcs e',gf];by_cases e2:i<m
    ·rw [Qct e2,Qct (by exact wA e2)]
    ·rw [Qcs e2,Qcs (by exact bK (.i (.n (.E (.k .A) (.k .B))) (.i (.n (.t .A .B)) (.n (.t .A (.a .B .O))))) rfl e' e2)]
  ·rw [(a1 j).2,h2 j,mE,aV,tT,bt];rfl
  ·rw [a2 j,h3 j];constructor
   ·rintro (⟨i,hi,h⟩ | h | h)
    ·exact ⟨i,wA hi,h⟩
    ·exact ⟨m,yH,.inl h⟩
    ·exact ⟨m,yH,.inr h⟩
   ·rintro ⟨i,hi,h⟩;by_cases e:i=m
    ·subst e;exact .inr h
    ·exact .inl ⟨i,bK (.i (.t .A (.a .B .O)) (.i (.n (.e .A .B)) (.t .A .B))) rfl hi e,h⟩
noncomputable def nA(Es:List (Int×Int))(i:Int)(Dn:List Int):Nat:=(Es.filter λe=>decide (e.2=i)&&decide (e.1∉Dn)).length
theorem Sg(i:Nat): ∀m:Nat,nA (EL P m) i []=if i<m then (P i).length else 0:=by
 intro m
 induction m with
 | zero=>exact rfl
 | succ m ih =>
  have ih:=ih;unfold nA at ih ⊢;rw [AA,mE,aD,ih,tT,ar];by_cases e:i=m
  ·subst e;rw [Qcs (fZ _),Qct (Qa7 _),zC];congr 1;refine List.filter_eq_self.mpr λa _=>?_;simp
  ·have:((P m).filter ((λe:Int×Int=>decide (e.2=(i:Int))&&decide (e.1∉[])) ∘ λp=>(p,(m:Int))))=[]:=by
    refine List.filter_eq_nil_iff.mpr λa _=>?_
    have:¬(m:Int)=i:=bK (.i (.n (.e .A .B)) (.n (.E (.k .B) (.k .A)))) rfl e
    simp [this]
   rw [this,zQ,Nat.add_zero];by_cases e2:i<m
   ·rw [Qct e2,Qct (by exact wA e2)]
   ·rw [Qcs e2,Qcs (by exact bK (.i (.n (.e .A .B)) (.i (.n (.t .A .B)) (.n (.t .A (.a .B .O))))) rfl e e2)]
variable {i:Int}
theorem QZ(hk:k∉Dn): ∀{Es:List (Int×Int)},nA Es i Dn=nA Es i (k::Dn)+((Es.filter λe=>decide (e.1=k)).map (·.2)).count i:=by
 intro Es
 induction Es with
 | nil=>exact rfl
 | cons e Es ih =>
  have ih:=ih;unfold nA at ih ⊢;rw [eD,eD,eD];by_cases h1:e.2=i<;>by_cases h2:e.1=k
  ·have h3:e.1∉Dn:=by rw [h2];exact hk
   simp [h1,h2,hk] at ih ⊢;exact K4 ih
  ·by_cases h3:e.1∈Dn
   ·simp [h1,h2,h3] at ih ⊢;exact EO ih
   ·simp [h1,h2,h3] at ih ⊢;exact K5 ih
  ·simp [h1,h2,hk] at ih ⊢;exact EO ih
  ·simp [h1,h2] at ih ⊢;exact EO ih
theorem Sh:∀{ss:List Int} {vg:VG} {rd:List Int},(∀j∈ss,j∈vg.map (·.1)∧(ss.count j:Int)≤eG vg j)→rd.Nodup→(∀j∈rd,j∉ss) →
  (∀j,eG (ss.foldl jW (vg,rd)).1 j=eG vg j-ss.count j∧eC (ss.foldl jW (vg,rd)).1 j=eC vg j)∧(ss.foldl jW (vg,rd)).1.map (·.1)=vg.map (·.1)∧(ss.foldl jW (vg,rd)).2.Nodup∧∀j,j∈(ss.foldl jW (vg,rd)).2↔j∈rd∨(j∈ss∧eG vg j=ss.count j):=by
 intro ss
 induction ss with
 | nil=>intro vg rd _ hn _;exact ⟨λj=>⟨by simp,rfl⟩,rfl,hn,λj=>by simp⟩
 | cons s ss ih =>
  intro vg rd h hn hr;have hs:=h s (.head _);rw [oO] at hs;have a1:=uG (f:=λq=>(q.1-1,q.2)) hs.1;have e:(s::ss).foldl jW (vg,rd)=ss.foldl jW (dR vg s λq=>(q.1-1,q.2),if eG (dR vg s λq=>(q.1-1,q.2)) s=0 then rd++[s] else rd):=rfl;have jM : ∀j,eG (dR vg s λq=>(q.1-1,q.2)) j-ss.count j=eG vg j-(s::ss).count j∧eC (dR vg s λq=>(q.1-1,q.2)) j=eC vg j:=λj=>by
   by_cases ej:j=s
   ·subst ej;rw [a1.1,a1.2,oO];exact ⟨by dsimp only;exact gV (.E (.s (.s .A .O) (.k .A)) (.s .A (.k (.a .A .O)))) rfl,rfl⟩
   ·rw [(sY ej).1,(sY ej).2,List.count_cons_of_ne (λh=>ej h.symm)];exact ⟨rfl,rfl⟩
  have hsr:s∉rd:=λhm=>hr s hm (.head _);have key : ∀d6:List Int,(if eG (dR vg s λq=>(q.1-1,q.2)) s=0 then rd++[s] else rd)=d6→d6.Nodup∧(∀j,j∈d6↔j∈rd∨(j=s∧eG vg s=1)):=by
   intro d6 e;rw [a1.1] at e;dsimp only at e;by_cases h0:eG vg s-1=0
   ·rw [Qct h0] at e;subst e;refine ⟨List.nodup_append.mpr ⟨hn,by simp,λa ha b hb=>?_⟩,λj=>?_⟩
    ·have hb:b=s:=by simpa using hb
     rw [hb];rintro rfl;exact hsr ha
    ·rw [zO,w0];exact ⟨λh=>h.imp id λh=>⟨h,jf (.i (.E (.s .A .O) .Z) (.E .A .O)) rfl h0⟩,λh=>h.imp id (·.1)⟩
   ·rw [Qcs h0] at e;subst e;exact ⟨hn,λj=>⟨.inl,λh=>h.elim id λh=>by exact eO (dq (.i (.n (.E (.s .A .O) .Z)) (.i (.a (.E .B .C) (.E .A .O)) .f)) rfl h0 h)⟩⟩
  rw [e];generalize (if eG (dR vg s λq=>(q.1-1,q.2)) s=0 then rd++[s] else rd)=d6 at key;refine b8 (key d6 rfl) λk1 k2=>?_;obtain ⟨b1,b2,b3,b4⟩:=ih (vg:=dR vg s λq=>(q.1-1,q.2)) (rd:=d6) (λj hj=>⟨by rw [qH];exact (h j (.tail _ hj)).1,by have:=(jM j).1;have:=(h j (.tail _ hj)).2;exact kW (.i (.E (.s .A (.k .A)) (.s .B (.k .B))) (.i (.L (.k .B) .B) (.L (.k .A) .A))) rfl (by assumption) this⟩) k1 (λj hj hm=>by
   rcases (k2 j).mp hj with h1 | ⟨rfl,h1⟩
   ·exact hr j h1 (.tail _ hm)
   ·have:=List.count_pos_iff.mpr hm
    exact gV (.i (.L (.k (.a .A .O)) .A) (.i (.E .A .O) (.i (.t .Z .A) .f))) rfl hs.2 h1 this)
  refine ⟨λj=>⟨by rw [(b1 j).1,(jM j).1],by rw [(b1 j).2,(jM j).2]⟩,by rw [b2,qH],b3,λj=>?_⟩;rw [b4 j,k2 j,fS];have hj:=(jM j).1;constructor
  ·rintro ((h1 | ⟨rfl,h1⟩) | ⟨h1,h2⟩)
   ·exact .inl h1
   ·exact .inr ⟨.inl rfl,by rw [oO];exact gV (.i (.L (.k (.a .A .O)) .A) (.i (.E .A .O) (.E .A (.k (.a .A .O))))) rfl hs.2 h1⟩
   ·exact .inr ⟨.inr h1,kW (.i (.E (.s .A (.k .A)) (.s .B (.k .B))) (.i (.E .A (.k .A)) (.E .B (.k .B)))) rfl hj h2⟩
  ·rintro (h1 | ⟨h1,h2⟩)
   ·exact .inl (.inl h1)
   ·by_cases hm:j∈ss
    ·exact .inr ⟨hm,kW (.i (.E (.s .A (.k .A)) (.s .B (.k .B))) (.i (.E .B (.k .B)) (.E .A (.k .A)))) rfl hj h2⟩
    ·rcases h1 with rfl | h1
     ·have:=List.count_eq_zero.mpr hm
      rw [oO] at h2;exact .inl (.inr ⟨rfl,gV (.i (.E .A (.k (.a .A .O))) (.i (.e .A .Z) (.E .A .O))) rfl h2 this⟩)
     ·exact absurd h1 hm
structure SG(n:Nat)(Es:List (Int×Int))(vg:VG)(O Dn rd:List Int)(p f:Int):Prop where
 ky : ∀i:Int,i∈vg.map (·.1)↔0≤i∧i<n
 su : ∀i:Int,eC vg i=(Es.filter λe=>decide (e.1=i)).map (·.2)
 np : ∀i:Int,0≤i→i<n→eG vg i=if i∈Dn then -2 else if i∈O then -1 else (nA Es i Dn:Int)
 rm : ∀i:Int,i∈rd↔(0≤i∧i<n)∧i∉O∧i∉Dn∧nA Es i Dn=0
 rn:rd.Nodup
 on:O.Nodup
 dn:Dn.Nodup
 dj : ∀i∈O,i∉Dn
 ob : ∀i∈O,0≤i∧i<n
 db : ∀i∈Dn,0≤i∧i<n
 od : ∀e∈Es,e.2∈O∨e.2∈Dn→e.1∈Dn
 es : ∀e∈Es,(0≤e.1∧e.1<n)∧0≤e.2∧e.2<n
 hp:p=O.length+Dn.length
 hf:f=Dn.length
variable {n:Nat}{Es:List (Int×Int)}{vg:VG}{O Dn rd:List Int}{p f:Int}
theorem Ds:nA Es i Dn=0↔∀e∈Es,e.2=i→e.1∈Dn:=by
 unfold nA;rw [List.length_eq_zero_iff,List.filter_eq_nil_iff];simp
theorem UG:∀{ks:List Int} {vg:VG} {i:Int},(∀k∈ks,k∈vg.map (·.1))→eG (im vg ks) i=if i∈ks then -1 else eG vg i:=by
 intro ks
 induction ks with
 | nil=>intro vg i _;rw [Qcs (by simp)];rfl
 | cons k ks ih =>
  intro vg i h;have h1:k∈vg.map (·.1):=h k (.head _);show eG (im (dR vg k λq=>(-1,q.2)) ks) i=_
  rw [ih λj hj=>by rw [qH];exact h j (.tail _ hj)];by_cases e:i∈ks
  ·rw [Qct e,Qct (.tail _ e)]
  ·rw [Qcs e];by_cases e2:i=k
   ·subst e2;rw [Qct (.head _),(uG h1).1]
   ·rw [(sY e2).1,Qcs λh=>(List.mem_cons.mp h).elim e2 e]
theorem SG.ready(h:SG n Es vg O Dn rd p f):SG n Es (im vg rd) (O++rd) Dn [] (p+rd.length) f where
 ky i:=by rw [DG];exact h.ky i
 su i:=by rw [DH];exact h.su i
 np i h1 h2:=by
  rw [UG λk hk=>(h.ky k).mpr ((h.rm k).mp hk).1,h.np i h1 h2];by_cases e:i∈rd
  ·have:=(h.rm i).mp e
   rw [Qct e,Qcs this.2.2.1,Qct (ag _ e)]
  ·rw [Qcs e];by_cases e2:i∈O
   ·rw [Qct e2,Qct (ao _ e2)]
   ·have e3:i∉O++rd:=λhm=>(List.mem_append.mp hm).elim e2 e;rw [Qcs e2,Qcs e3]
 rm i:=by
  refine ⟨λh=>(by cases h),λ⟨h1,h2,h3,h4⟩=>?_⟩;exact absurd ((h.rm i).mpr ⟨h1,λhm=>h2 (ao _ hm),h3,h4⟩) λhm=>h2 (ag _ hm)
 rn:=m8
 on:=List.nodup_append.mpr ⟨h.on,h.rn,λa ha b hb e=>((h.rm b).mp hb).2.1 (e▸ha)⟩
 dn:=h.dn
 dj i hi:=(List.mem_append.mp hi).elim (h.dj i) λhi=>((h.rm i).mp hi).2.2.1
 ob i hi:=(List.mem_append.mp hi).elim (h.ob i) λhi=>((h.rm i).mp hi).1
 db:=h.db
 od e he hm:=by
  rcases hm with hm | hm
  ·rcases List.mem_append.mp hm with hm | hm
   ·exact h.od e he (.inl hm)
   ·exact Ds.mp ((h.rm e.2).mp hm).2.2.2 e he rfl
  ·exact h.od e he (.inr hm)
 es:=h.es
 hp:=by rw [aD,h.hp];exact bB (.E (.a (.a (.k .A) (.k .B)) (.k .C)) (.a (.k (.a .A .C)) (.k .B))) rfl
 hf:=h.hf
theorem SG.done(h:SG n Es vg O Dn rd p f){i:Int}(hi:i∈O):SG n Es ((eC vg i).foldl jW (dR vg i λq=>(-2,q.2),rd)).1 (O.erase i) (i::Dn) ((eC vg i).foldl jW (dR vg i λq=>(-2,q.2),rd)).2 p (f+1):=by
 have hb:=h.ob i hi;have hk:i∈vg.map (·.1):=(h.ky i).mpr hb;have hd:=h.dj i hi;have tA : ∀j,nA Es j Dn=nA Es j (i::Dn)+(eC vg i).count j:=λj=>by rw [h.su];exact QZ hd
 have zr : ∀j∈eC vg i,(0≤j∧j<n)∧j∉O∧j∉Dn∧j≠i:=λj hj=>by
  rw [h.su] at hj;refine ap (List.mem_map.mp hj) λe he af=>?_;subst af;refine b8 (List.mem_filter.mp he) λhe e1=>?_;have e1:e.1=i:=by simpa using e1
  have tC:¬(e.2∈O∨e.2∈Dn):=λhm=>hd (e1▸h.od e he hm);exact ⟨(h.es e he).2,λhm=>tC (.inl hm),λhm=>tC (.inr hm),λe=>tC (.inl (e▸hi))⟩
 have jM : ∀j,j≠i→0≤j→j<n→eG (dR vg i λq=>(-2,q.2)) j=if j∈Dn then -2 else if j∈O then -1 else (nA Es j Dn:Int):=λj e a b=>by rw [(sY e).1,h.np j a b]
 obtain ⟨d1,d2,d3,d4⟩:=Sh (ss:=eC vg i) (vg:=dR vg i λq=>(-2,q.2)) (rd:=rd) (λj hj=>by
  refine kc (zr j hj) λa1 a2 a3 a4=>?_;refine ⟨by rw [qH];exact (h.ky j).mpr a1,?_⟩;rw [jM j a4 a1.1 a1.2,Qcs a3,Qcs a2]
  have:=tA j
  exact bB (.i (.e .A (.a .B .C)) (.L (.k .C) (.k .A))) rfl this) h.rn λj hj hm=>by
   have h1:=((h.rm j).mp hj).2.2.2;have h2:=List.count_pos_iff.mpr hm
   have:=tA j
   exact bB (.i (.e .A .Z) (.i (.t .Z .B) (.i (.e .A (.a .C .B)) .f))) rfl h1 h2 this
 have Bv : ∀j,j∉eC vg i→(eC vg i).count j=0:=λj hj=>List.count_eq_zero.mpr hj;refine ⟨λj=>?_,λj=>?_,λj a b=>?_,λj=>?_,d3,h.on.erase i,List.nodup_cons.mpr ⟨hd,h.dn⟩,λj hj=>?_,λj hj=>h.ob j (gu hj),λj hj=>?_,λe he hm=>?_,h.es,?_,?_⟩
 ·rw [d2,qH];exact h.ky j
 ·rw [(d1 j).2,H9 (h:=λ_ => -2)];exact h.su j
 ·rw [(d1 j).1];by_cases e:j=i
  ·subst e;rw [(uG hk).1,Qct (.head _),Bv j λhm=>(zr j hm).2.2.2 rfl];rfl
  ·rw [jM j e a b];by_cases e1:j∈Dn
   ·rw [Qct e1,Qct (.tail _ e1),Bv j λhm=>(zr j hm).2.2.1 e1];rfl
   ·have e2:j∉i::Dn:=λhm=>(List.mem_cons.mp hm).elim e e1;rw [Qcs e1,Qcs e2];by_cases e3:j∈O
    ·rw [Qct e3,Qct ((n9 e).mpr e3),Bv j λhm=>(zr j hm).2.1 e3];rfl
    ·rw [Qcs e3,Qcs λhm=>e3 (gu hm)]
     have:=tA j
     exact bB (.i (.e .A (.a .B .C)) (.E (.s (.k .A) (.k .C)) (.k .B))) rfl this
 ·rw [d4 j,h.rm j];constructor
  ·rintro (⟨h1,h2,h3,h4⟩ | ⟨h1,h2⟩)
   ·have:=tA j
    refine ⟨h1,λhm=>h2 (gu hm),λhm=>?_,bB (.i (.e .A .Z) (.i (.e .A (.a .B .C)) (.e .B .Z))) rfl h4 this⟩;rcases List.mem_cons.mp hm with rfl | hm
    ·exact h2 hi
    ·exact h3 hm
   ·refine kc (zr j h1) λa1 a2 a3 a4=>?_;rw [jM j a4 a1.1 a1.2,Qcs a3,Qcs a2] at h2
    have:=tA j
    exact ⟨a1,λhm=>a2 (gu hm),λhm=>(List.mem_cons.mp hm).elim a4 a3,bB (.i (.E (.k .A) (.k .B)) (.i (.e .A (.a .C .B)) (.e .C .Z))) rfl h2 this⟩
  ·rintro ⟨h1,h2,h3,h4⟩;have e:j≠i:=λe=>h3 (e▸mC);have ph:j∉O:=λhm=>h2 ((n9 e).mpr hm);have nI:j∉Dn:=λhm=>h3 (.tail _ hm)
   have:=tA j
   by_cases hm:j∈eC vg i
   ·exact .inr ⟨hm,by rw [jM j e h1.1 h1.2,Qcs nI,Qcs ph];exact bB (.i (.e .A .Z) (.i (.e .B (.a .A .C)) (.E (.k .B) (.k .C)))) rfl h4 this⟩
   ·exact .inl ⟨h1,ph,nI,by rw [Bv j hm] at this;exact bK (.i (.e .A .Z) (.i (.e .B (.a .A .Z)) (.e .B .Z))) rfl h4 this⟩
 ·intro hm;rcases List.mem_cons.mp hm with rfl | hm
  ·exact (h.on.mem_erase_iff.mp hj).1 rfl
  ·exact h.dj j (gu hj) hm
 ·rcases List.mem_cons.mp hj with rfl | hj
  ·exact hb
  ·exact h.db j hj
 ·rcases hm with hm | hm
  ·exact .tail _ (h.od e he (.inl (gu hm)))
  ·rcases List.mem_cons.mp hm with h1 | hm
   ·exact .tail _ (h.od e he (.inl (by rw [h1];exact hi)))
   ·exact .tail _ (h.od e he (.inr hm))
 ·have:(O.erase i).length+1=O.length:=by
   have:=Gq hi
   have:=iP hi
   exact bK (.i (.e .A (.s .B .O)) (.i (.t .Z .B) (.e (.a .A .O) .B))) rfl (by assumption) this
  rw [h.hp,cj];exact bB (.i (.e (.a .A .O) .B) (.E (.a (.k .B) (.k .C)) (.a (.k .A) (.k (.a .C .O))))) rfl this
 ·rw [h.hf,cj];exact bV (.E (.a (.k .A) .O) (.k (.a .A .O))) rfl
theorem SG.fin(h:SG n Es vg O Dn rd p f)(h1:¬f<p)(h2:rd=[])(r:Int→Nat)(hr : ∀e∈Es,r e.1<r e.2): ∀i:Int,0≤i→i<n→i∈Dn:=by
 have hO:O=[]:=by
  have:=h.hp;have:=h.hf
  exact List.length_eq_zero_iff.mp (kW (.i (.n (.T .A .B)) (.i (.E .B (.a (.k .A) (.k .B))) (.i (.E .A (.k .B)) (.e .A .Z)))) rfl h1 (by assumption) this)
 have key : ∀(m:Nat) (i:Int),r i=m→0≤i→i<n→i∈Dn:=by
  intro m
  induction m using tX with
  | ind m ih =>
   intro i hm a b;by_cases e:i∈Dn
   ·exact e
   exfalso
   have:i∈rd:=(h.rm i).mpr ⟨⟨a,b⟩,by rw [hO];simp,e,Ds.mpr λe he h3=>by
    have:=hr e he
    rw [h3] at this;exact ih (r e.1) (ou hm this) e.1 rfl (h.es e he).1.1 (h.es e he).1.2⟩
   rw [h2] at this;cases this
 exact λi a b=>key (r i) i rfl a b
theorem Si{i:Int}: ∀{vg:VG},(vg.map (·.1)).Nodup→(i∈gw vg↔i∈vg.map (·.1)∧eG vg i=0):=by
 intro vg
 induction vg with
 | nil=>intro _;simp [gw]
 | cons p vg ih =>
  intro hn;refine b8 (List.nodup_cons.mp hn) λh1 h2=>?_;have ih:=ih h2;have hc:gw (p::vg)=if p.2.1=0 then p.1::gw vg else gw vg:=by
   unfold gw;rw [eD];by_cases e:p.2.1=0<;>simp [e]
  by_cases e:p.1=i
  ·have jM:eG (p::vg) i=p.2.1:=by unfold eG;rw [dJ];simp [e]
   have tG:i∉gw vg:=λhm=>h1 (by dsimp only;rw [e];exact (ih.mp hm).1);rw [hc,jM,aB,fS];by_cases e0:p.2.1=0
   ·rw [Qct e0];simp [e,e0]
   ·rw [Qcs e0];simp [tG,e0]
  ·have jM:eG (p::vg) i=eG vg i:=by unfold eG;rw [dJ];simp [e]
   have e':i≠p.1:=λh=>e h.symm;rw [hc,jM,aB,fS];by_cases e0:p.2.1=0
   ·rw [Qct e0,fS,ih];simp [e']
   ·rw [Qcs e0,ih];simp [e']
theorem Pe(h:(vg.map (·.1)).Nodup):(gw vg).Nodup:=h.sublist (List.Sublist.map _ List.filter_sublist)
variable {e:Int×Int}
theorem AP:e∈EL P m↔∃i,i<m∧e.2=(i:Int)∧e.1∈P i:=by
 unfold EL;rw [QaL];constructor
 ·rintro ⟨i,hi,he⟩;refine ap (List.mem_map.mp he) λq hq af=>?_;subst af;exact ⟨i,List.mem_range.mp hi,rfl,hq⟩
 ·rintro ⟨i,hi,h1,h2⟩;exact ⟨i,List.mem_range.mpr hi,List.mem_map.mpr ⟨e.1,h2,by rw [← h1]⟩⟩
theorem SG.start{P:Nat→List Int}(hP : ∀i,i<n→∀k∈P i,0≤k∧k<n):SG n (EL P n) (iu P n) [] [] (gw (iu P n)) 0 0:=by
 refine kc (DZ (P:=P) n) λh1 h2 h3 h4=>?_;have Nh : ∀i:Int,i∈(iu P n).map (·.1)↔0≤i∧i<n:=λi=>by
  rw [h3 i];constructor
  ·rintro ⟨k,hk,rfl | h⟩
   ·exact bK (.i (.t .A .B) (.a (.L .Z (.k .A)) (.T (.k .A) (.k .B)))) rfl hk
   ·exact hP k hk i h
  ·rintro ⟨a,b⟩;exact ⟨i.toNat,wc a b,.inl (K6 a)⟩
 have jM : ∀i:Int,0≤i→i<n→eG (iu P n) i=(nA (EL P n) i []:Int):=λi a b=>by
  obtain ⟨k,rfl⟩ : ∃k:Nat,i=k:=⟨i.toNat,K6 a⟩;rw [h1 k,Sg k n,Qct (by exact uH b),Qct (by exact uH b)]
 refine ⟨Nh,h2,λi a b=>?_,λi=>?_,Pe h4,m8,m8,λi h=>(by cases h),λi h=>(by cases h),λi h=>(by cases h),λe he hm=>?_,λe he=>?_,rfl,rfl⟩
 ·rw [Qcs (by simp),Qcs (by simp)];exact jM i a b
 ·rw [Si h4,Nh i];refine and_congr_right λhi=>?_;rw [jM i hi.1 hi.2];simp
 ·rcases hm with h | h<;>cases h
 ·refine du (AP.mp he) λi hi a b=>?_;exact ⟨hP i hi _ b,pW (.i (.t .A .B) (.i (.E .A (.k .A)) (.a (.L .Z .A) (.T .A (.k .B))))) rfl hi a⟩
end
section
open PySem PySem.W PySem.W.X PyProof.Rows
def rj(pre:List Int)(k i:Int):Prop:=∃p q,pre=p++k::q∧i∉p
def nP(U:Int→Int)(b:Bool)(pre:List Int)(x y:Int):Prop:=U x<U y∨(U x=U y∧(b=true→rj pre x y))
theorem rj.app{pre arr:List Int}{k i:Int}(h:rj pre k i):rj (pre++arr) k i:=by
 obtain ⟨p,q,rfl,h⟩:=h;exact ⟨p,q++arr,by simp,h⟩
theorem nP.app{U:Int→Int}{b:Bool}{pre arr:List Int}{k i:Int}(h:nP U b pre k i):nP U b (pre++arr) k i:=h.imp id λh=>⟨h.1,λe=>(h.2 e).app⟩
theorem rj.new{pre:List Int}{k i:Int}(h1:k∈pre)(h2:i∉pre):rj pre k i:=by
 refine s9 (List.append_of_mem h1) λp q af=>?_;subst af;exact ⟨p,q,rfl,λhm=>h2 (ao _ hm)⟩
variable {x:Int}
theorem nP.le{pre:List Int}{y:Int}(h:nP U b pre x y):U x≤U y:=by
 rcases h with h | h<;>(first | exact v9 h | exact K7 h.1)
theorem TB{pre d:List Int}(hd:d.Pairwise (nP U b pre))(hp : ∀y∈d,y∈pre)(hx:x∉pre):(if b then eH U x d else jJ U x d).Pairwise (nP U b (pre++[x])):=by
 have fQ:d.Pairwise (nP U b (pre++[x])):=hd.imp λh=>h.app;cases b with
 | true =>
  show (eH U x d).Pairwise _
  clear hd
  induction d with
  | nil=>exact ez _ _
  | cons y d ih =>
   refine b8 (List.pairwise_cons.mp fQ) λh1 h2=>?_;unfold eH;split
   ·refine List.pairwise_cons.mpr ⟨λz hz=>?_,fQ⟩;rcases List.mem_cons.mp hz with rfl | hz
    ·left;assumption
    ·left;have:=(h1 z hz).le;exact ya (by assumption) this
   ·refine List.pairwise_cons.mpr ⟨λz hz=>?_,ih (λz hz=>hp z (.tail _ hz)) h2⟩;rcases xt.mp hz with rfl | hz
    ·by_cases e:U y<U z
     ·exact .inl e
     ·exact .inr ⟨dw (.i (.n (.T .A .B)) (.i (.n (.T .B .A)) (.E .B .A))) rfl (by assumption) e,λ_=>(rj.new (hp y (.head _)) hx).app⟩
    ·exact h1 z hz
 | false =>
  show (jJ U x d).Pairwise _
  clear hd
  induction d with
  | nil=>exact ez _ _
  | cons y d ih =>
   refine b8 (List.pairwise_cons.mp fQ) λh1 h2=>?_;unfold jJ;split
   ·refine List.pairwise_cons.mpr ⟨λz hz=>?_,ih (λz hz=>hp z (.tail _ hz)) h2⟩;rcases DD.mp hz with rfl | hz
    ·left;assumption
    ·exact h1 z hz
   ·refine List.pairwise_cons.mpr ⟨λz hz=>?_,fQ⟩
    have:U x≤U z:=by
     rcases List.mem_cons.mp hz with rfl | hz
     ·exact x9 (by assumption)
     ·have:=(h1 z hz).le;exact EG (by assumption) this
    by_cases e:U x<U z
    ·exact .inl e
    ·exact .inr ⟨dw (.i (.L .A .B) (.i (.n (.T .A .B)) (.E .A .B))) rfl this e,λe=>by cases e⟩
theorem HE: ∀{is d:List Int},(gr U b d is).Perm (d++is):=by
 intro is
 induction is with
 | nil=>intro d;rw [fg];exact dH _
 | cons x is ih =>
  intro d;show (gr U b (if b then eH U x d else jJ U x d) is).Perm _
  refine (ih).trans ?_
  have:(if b then eH U x d else jJ U x d).Perm (x::d):=by cases b;exact Dm;exact xo
  exact (this.append_right is).trans (bq (l₁:=d)).symm
theorem TC: ∀{arr pre d:List Int},d.Pairwise (nP U b pre)→(∀y∈d,y∈pre)→(pre++arr).Nodup→(gr U b d arr).Pairwise (nP U b (pre++arr)):=by
 intro arr
 induction arr with
 | nil=>intro pre d h _ _;rw [fg];exact h
 | cons x arr ih =>
  intro pre d h hp hn;have hx:x∉pre:=λhm=>(List.nodup_append.mp hn).2.2 x hm x (.head _) rfl;have e:pre++x::arr=(pre++[x])++arr:=by simp
  rw [e] at hn ⊢;show (gr U b (if b then eH U x d else jJ U x d) arr).Pairwise _
  refine ih (TB h hp hx) (λy hy=>?_) hn
  have:(if b then eH U x d else jJ U x d).Perm (x::d):=by cases b;exact Dm;exact xo
  rcases List.mem_cons.mp (this.mem_iff.mp hy) with rfl | hy
  ·simp
  ·exact ao _ (hp y hy)
theorem SG.perm{n:Nat}{Es:List (Int×Int)}{vg:VG}{O O' Dn rd:List Int}{p f:Int}(h:SG n Es vg O Dn rd p f)(hO:O.Perm O'):SG n Es vg O' Dn rd p f where
 ky:=h.ky
 su:=h.su
 np i a b:=by
  rw [h.np i a b];by_cases e:i∈O
  ·rw [Qct e,Qct (hO.mem_iff.mp e)]
  ·rw [Qcs e,Qcs λhm=>e (hO.mem_iff.mpr hm)]
 rm i:=by rw [h.rm i,hO.mem_iff]
 rn:=h.rn
 on:=hO.nodup_iff.mp h.on
 dn:=h.dn
 dj i hi:=h.dj i (hO.mem_iff.mpr hi)
 ob i hi:=h.ob i (hO.mem_iff.mpr hi)
 db:=h.db
 od e he hm:=h.od e he (hm.imp (hO.mem_iff.mpr ·) id)
 es:=h.es
 hp:=by rw [h.hp,hO.length_eq]
 hf:=h.hf
structure CP(n:Nat)(Es:List (Int×Int))(F T U ea:Int→Int)(lo:Int):Prop where
 t1 : ∀i:Int,0≤i→i<n→1≤T i
 eE : ∀e∈Es,e.1<e.2
 Ni : ∀i:Int,0≤i→i<n→F i≤ea i
 eaE : ∀e∈Es,ea e.1+T e.1≤ea e.2
 uE : ∀e∈Es,U e.1≤U e.2-T e.2
 lo : ∀i:Int,0≤i→i<n→lo≤F i
 hz:Es.length≤100
noncomputable def gq(ends:List (Option Int))(i:Int):Int:=((ends[i.toNat]?).getD none).getD 0
structure CV(n:Nat)(Es:List (Int×Int))(F T U ea:Int→Int)(b:Bool)(lo:Int)(c:CS)(Dn:List Int)(σ:Int→Int):Prop where
 sg:SG n Es c.vg (c.win++c.dp) Dn c.rd c.p c.f
 perm:c.row.Perm ((aF n).map λ(i:Nat)=>(i:Int))
 pre:c.pre.Perm (c.dp++Dn)
 ws:iJ F c.win
 wn : ∀v∈c.win,c.now≤F v
 ds:c.dp.Pairwise (nP U b c.pre)
 dF : ∀i∈c.dp,F i≤c.now
 ll:c.left.length=n
 el:c.ends.length=n
 ln:lo≤c.now
 lf : ∀i:Int,0≤i→i<n→c.left.getD i.toNat 0=T i-cn (λt=>σ t==i) lo c.now
 l1 : ∀i:Int,0≤i→i<n→i∉Dn→1≤c.left.getD i.toNat 0
 l0 : ∀i∈Dn,c.left.getD i.toNat 0=0
 e1 : ∀i:Int,0≤i→i<n→i∉Dn→c.ends[i.toNat]?=some none
 e2 : ∀i∈Dn,(∃e,c.ends[i.toNat]?=some (some e))∧gq c.ends i≤c.now∧σ (gq c.ends i-1)=i∧∀t,σ t=i→t<gq c.ends i
 wk : ∀(t i:Int),0≤i→i<n→σ t=i→lo≤t∧t<c.now∧F i≤t∧∀e∈Es,e.2=i→e.1∈Dn∧gq c.ends e.1≤t
 con : ∀t,t<c.now→∀i:Int,0≤i→i<n→ea i≤t→(i∈Dn→t<gq c.ends i)→∃k:Int,0≤k∧k<n∧σ t=k∧(k=i∨nP U b c.pre k i)
variable {n:Nat}{Es:List (Int×Int)}{F T U ea:Int→Int}{b:Bool}{lo:Int}{c:CS}{Dn:List Int}{σ:Int→Int}
theorem CV.ok(P:CP n Es F T U ea lo)(h:CV n Es F T U ea b lo c Dn σ):FR F U b n c:=by
 have hr:=h.sg.ready;have LX:c.row.Nodup:=h.perm.nodup_iff.mpr (xj n);have hlen:c.row.length=n:=by have:=h.perm.length_eq;simpa using this
 have hmem : ∀i:Int,0≤i→i<n→i∈c.row:=λi h1 h2=>h.perm.mem_iff.mpr (List.mem_map.mpr ⟨i.toNat,List.mem_range.mpr (wc h1 h2),K8 h1⟩);have gX:=h.pre.length_eq;rw [aD] at gX;have k7:c.row.length=c.pre.length+c.win.length+c.hold.length:=by unfold CS.row;rw [aD,aD]
 refine ⟨h.perm,λi hi=>?_,h.sg.rn,λi hi=>(h.sg.ky i).mpr ((h.sg.rm i).mp hi).1,h.ws,h.ds.imp λh=>h.le,λi hi=>h.sg.ob i (ag _ hi),v8 (.i (.e .A .B) (.i (.e .C (.a .D .F)) (.i (.e .A (.a (.a .C .G) .H)) (.l .D .B)))) rfl hlen gX k7,h.ll,h.el,λi dr hd=>?_⟩
 ·refine kc ((h.sg.rm i).mp hi) λh1 h2 h3 _=>?_
  have:=hmem i h1.1 h1.2
  unfold CS.row at this;rcases List.mem_append.mp this with hm | hm
  ·rcases List.mem_append.mp hm with hm | hm
   ·rcases List.mem_append.mp (h.pre.mem_iff.mp hm) with hm | hm
    ·exact absurd (ag _ hm) h2
    ·exact absurd hm h3
   ·exact absurd (ao _ hm) h2
  ·exact hm
 ·have hi:i∈c.win++c.dp++c.rd:=by
   have:i∈gr U b c.dp ((cN F c.win c.rd).takeWhile λv=>decide (F v≤c.now)):=by rw [hd];exact .head _
   rcases Ap.mp this with hm | hm
   ·exact ao _ (ag _ hm)
   ·rcases Hz.mp ((List.takeWhile_sublist _).mem hm) with hm | hm
    ·exact ao _ (ao _ hm)
    ·exact ag _ hm
  have hb:=hr.ob i hi;have hd:=hr.dj i hi;refine ⟨h.e1 i hb.1 hb.2 hd,?_,?_,(h.sg.ky i).mpr hb,λs hs=>?_,?_⟩
  ·have h1:=hr.hp;have h2:=h.sg.hf
   have:=iP hi
   exact WX (.i (.E (.a .A (.k .A)) (.a (.k .B) (.k .C))) (.i (.E .B (.k .C)) (.i (.t .Z .B) (.T .B (.a .A (.k .A)))))) rfl h1 h2 this
  ·rw [hr.np i hb.1 hb.2,Qcs hd,Qct hi]
  ·rw [h.sg.su] at hs;refine ap (List.mem_map.mp hs) λe he af=>?_;subst af;exact (h.sg.ky _).mpr (h.sg.es e (List.mem_filter.mp he).1).2
  ·rw [h.sg.su,ar];exact f9 (eT _ _) P.hz
end
section
open PySem PySem.W PySem.W.X PyProof.Rows
variable {n:Nat}{Es:List (Int×Int)}{F T U ea:Int→Int}{b:Bool}{lo:Int}{c:CS}{Dn:List Int}{σ:Int→Int}
theorem JS(P:CP n Es F T U ea lo){O D1:List Int}{p f t:Int}(hr:SG n Es vg O Dn [] p f)(hw : ∀v∈O,v∉D1→t<F v): ∀(m:Nat) (i:Int),i.toNat=m→0≤i→i<n→i∉Dn→ea i≤t→∃k∈D1,k=i∨U k<U i:=by
 intro m
 induction m using tX with
 | ind m ih =>
  intro i hm a b hd he;by_cases h1:i∈O
  ·by_cases h2:i∈D1
   ·exact ⟨i,h2,.inl rfl⟩
   ·have:=hw i h1 h2
    have:=P.Ni i a b
    omega
  ·have hc:¬nA Es i Dn=0:=λhc=>by
    have:=(hr.rm i).mpr ⟨⟨a,b⟩,h1,hd,hc⟩
    cases this
   have : ∃e∈Es,e.2=i∧e.1∉Dn:=lb λhn=>hc (Ds.mpr λe h3 h4=>lb λh5=>hn ⟨e,h3,h4,h5⟩);refine du this λe h3 af h5=>?_;subst af;have hb:=(hr.es e h3).1;have h6:=P.eaE e h3;have h7:=P.t1 e.1 hb.1 hb.2;have h8:=P.eE e h3;have h9:=P.uE e h3;have B3:=P.t1 e.2 a b;refine ap (ih e.1.toNat (kW (.i (.e (.t .A) .A) (.i (.a (.L .Z .B) (.T .B (.k .B))) (.i (.T .B .A) (.t (.t .B) .A)))) rfl hm hb h8) e.1 rfl hb.1 hb.2 h5 (ii (.i (.L .A .B) (.i (.L (.a .C .D) .A) (.i (.L .O .D) (.L .C .B)))) rfl he h6 h7)) λk k1 k2=>?_;refine ⟨k,k1,.inr ?_⟩;rcases k2 with rfl | k2<;>(first | exact dq (.i (.L .A (.s .B .C)) (.i (.L .O .C) (.T .A .B))) rfl h9 B3 | exact ii (.i (.L .A (.s .B .C)) (.i (.L .O .C) (.i (.T .D .A) (.T .D .B)))) rfl h9 B3 k2)
theorem Ak:∀{l m:List Int},l.Nodup→(∀a∈l,a∈m)→l.length≤m.length:=by
 intro l
 induction l with
 | nil=>intro m _ _;exact cM _
 | cons a l ih =>
  intro m h hs;refine b8 (List.nodup_cons.mp h) λh1 h2=>?_;have ha:=hs a (.head _)
  have:=ih (m:=m.erase a) h2 λx hx=>(n9 (λe=>h1 (by rw [← e];exact hx))).mpr (hs x (.tail _ hx))
  have e1:=Gq ha;have e2:=iP ha;rw [cj];exact bB (.i (.l .A .B) (.i (.e .B (.s .C .O)) (.i (.t .Z .C) (.l (.a .A .O) .C)))) rfl this e1 e2
noncomputable def pb(F:Int→Int)(c:CS):Nat:=(c.win.any λv=>decide (F v≤c.now)).toNat
theorem PU: ∀{w:List Int} {e:Int},kr F w e≤e∧(∀v∈w,kr F w e≤F v)∧(kr F w e=e∨∃v∈w,F v=kr F w e):=by
 intro w
 induction w with
 | nil=>intro e;exact ⟨c9 _,λv h=>(by cases h),.inl rfl⟩
 | cons a w ih =>
  intro e;refine fU (ih (e:=min e (F a))) λh1 h2 h3=>?_;show kr F w (min e (F a))≤e∧(∀v∈a::w,kr F w (min e (F a))≤F v)∧(kr F w (min e (F a))=e∨∃v∈a::w,F v=kr F w (min e (F a)))
  generalize kr F w (min e (F a))=m at h1 h2 h3;refine ⟨dq (.i (.L .A (.n .B .C)) (.L .A .B)) rfl h1,λv hv=>?_,?_⟩
  ·rcases List.mem_cons.mp hv with rfl | hv
   ·exact dq (.i (.L .A (.n .B .C)) (.L .A .C)) rfl h1
   ·exact h2 v hv
  ·rcases h3 with h3 | ⟨v,hv,h3⟩
   ·by_cases hle:e≤F a
    ·left;exact dq (.i (.E .A (.n .B .C)) (.i (.L .B .C) (.E .A .B))) rfl h3 hle
    ·exact .inr ⟨a,.head _,dq (.i (.E .A (.n .B .C)) (.i (.n (.L .B .C)) (.E .C .A))) rfl h3 hle⟩
   ·exact .inr ⟨v,.tail _ hv,h3⟩
theorem vJ{α:Type}{l:List α}{i j:Nat}{a d:α}(h:i<l.length):(l.set i a).getD j d=if i=j then a else l.getD j d:=by
 rw [aI,aI,List.getElem?_set];by_cases e:i=j
 ·rw [Qct e,Qct e,Qct h];rfl
 ·rw [Qcs e,Qcs e]
variable {r:Int}
theorem Sj{i:Int}{v:Option Int}(h:i≠r)(h1:0≤i)(h2:0≤r):gq (ends.set r.toNat v) i=gq ends i:=by
 unfold gq;rw [og (by exact dw (.i (.n (.E .A .B)) (.i (.L .Z .A) (.i (.L .Z .B) (.n (.e (.t .B) (.t .A)))))) rfl h h1 h2)]
theorem Sk{v:Int}(h:r.toNat<ends.length):gq (ends.set r.toNat (some v)) r=v:=by
 unfold gq;rw [jT h];rfl
theorem UH{x y z:Int}(p q:Int→Bool)(h1:x≤y)(h2:y≤z)(hp : ∀t,x≤t→t<y→p t=q t):cn p x z=cn q x y+cn p y z:=by
 rw [ui h1 h2]
 have:cn p x y=cn q x y:=pz (vQ h1 λt a b e=>by rw [← hp t a b];exact e) (vQ h1 λt a b e=>by rw [hp t a b];exact e)
 rw [this]
theorem CV.step(P:CP n Es F T U ea lo)(h:CV n Es F T U ea b lo c Dn σ):
  ∃wS oM,CV n Es F T U ea b lo (o6 F U b c) wS oM∧Dn.length≤wS.length∧(n≤wS.length∨Dn.length+c.pre.length+pb F c+1≤wS.length+(o6 F U b c).pre.length+pb F (o6 F U b c)):=by
 have jk:=h.ok P;have nO:=JN (p:=λv=>decide (F v≤c.now)) (cN F c.win c.rd);have pq:=JL (ρ:=F) (now:=c.now) (w:=cN F c.win c.rd);have FW:iJ F (cN F c.win c.rd):=DE h.ws;have rg:=JM (now:=c.now) FW;generalize kZ:(cN F c.win c.rd).takeWhile (λv=>decide (F v≤c.now))=arr at nO pq;generalize oL:(cN F c.win c.rd).dropWhile (λv=>decide (F v≤c.now))=w2 at nO rg;have ri:=Do (ρ:=F) (pre:=c.pre) (w:=c.win) jk.Cb jk.zl;have u7:(cN F c.win c.rd).Perm (c.win++c.rd):=De;rw [← nO] at ri u7 FW;have uD:(c.pre++arr++w2++d0 c.hold c.rd).Perm ((aF n).map λ(i:Nat)=>(i:Int)):=by
  rw [aH c.pre];exact ri.trans h.perm
 have LX:(c.pre++arr++w2++d0 c.hold c.rd).Nodup:=uD.nodup_iff.mpr (xj n);have Yw:(c.pre++arr).Nodup:=(List.nodup_append.mp (List.nodup_append.mp LX).1).1;have hO:(c.win++c.dp++c.rd).Perm (w2++gr U b c.dp arr):=by
  refine Of ((dG w2 HE).trans ((iV (l₁:=w2)).trans ?_));rw [aH];refine (dG c.dp u7).trans ((iV (l₁:=c.dp)).trans ?_);rw [aH,aH];exact dG c.win iV
 have uO:(c.pre++arr).Perm (gr U b c.dp arr++Dn):=by
  refine (h.pre.append_right arr).trans (Of ((HE.append_right Dn).trans ?_));rw [aH,aH];exact dG c.dp iV
 have nQ:=h.sg.ready.perm hO;have vh:(gr U b c.dp arr).Pairwise (nP U b (c.pre++arr)):=TC h.ds (λy hy=>h.pre.mem_iff.mpr (ao _ hy)) Yw;have zu : ∀i∈gr U b c.dp arr,F i≤c.now:=λi hi=>by
  rcases Ap.mp hi with hi | hi
  ·exact h.dF i hi
  ·exact pq i hi
 have Eo:pb F c≤arr.length:=by
  unfold pb;cases e:c.win.any λv=>decide (F v≤c.now) with
  | false=>exact cM _
  | true =>
   refine ap (List.any_eq_true.mp e) λv hv e=>?_;have e:F v≤c.now:=by simpa using e
   rcases List.mem_append.mp (u7.mem_iff.mpr (ao _ hv)) with hm | hm
   ·exact iP hm
   ·have:=rg v hm;exact kW (.i (.L .A .B) (.i (.T .B .A) (.l .A .B))) rfl e this
 have Bw:iJ F w2:=(List.pairwise_append.mp FW).2.1;have hold : ∀(t i:Int),0≤i→i<n→σ t=i→t<c.now:=λt i a b e=>(h.wk t i a b e).2.1;cases k8:gr U b c.dp arr with
 | nil =>
  rw [k8] at hO uO nQ vh zu;rw [HB kZ oL k8];have ql:c.now≤sO F c.now w2:=by
   cases w2 with
   | nil=>exact c9 _
   | cons v w3=>have:=rg v (.head _);show c.now≤F v;exact v9 this
  have Nj : ∀v∈w2,sO F c.now w2≤F v:=λv hv=>by
   cases w2 with
   | nil=>cases hv
   | cons v' w3 =>
    rcases List.mem_cons.mp hv with rfl | hv
    ·exact c9 _
    ·exact (List.pairwise_cons.mp Bw).1 v hv
  have Ci : ∀i:Int,0≤i→i<n→cn (λt=>σ t==i) lo (sO F c.now w2)=cn (λt=>σ t==i) lo c.now:=λi a b=>by
   rw [ui h.ln ql,vR ql (p:=λt=>σ t==i) λt h1 h2=>?_,gf];cases e:σ t==i with
   | false=>rfl
   | true =>
    have e:σ t=i:=by simpa using e
    have:=hold t i a b e;exact eO (dw (.i (.L .A .B) (.i (.T .B .A) .f)) rfl h1 this)
  refine ⟨Dn,σ,⟨nQ,uD,uO,Bw,Nj,.nil,λi hi=>(by cases hi),h.ll,h.el,g7 h.ln ql,λi h1 h2=>?_,h.l1,h.l0,h.e1,λi hi=>?_,λt i h1 h2 e=>?_,λt ht i h1 h2 h3 h4=>?_⟩,cB _,?_⟩
  ·dsimp only;rw [Ci i h1 h2];exact h.lf i h1 h2
  ·refine fU (h.e2 i hi) λa1 a2 a3=>?_;exact ⟨a1,g7 a2 ql,a3⟩
  ·refine fU (h.wk t i h1 h2 e) λa1 a2 a3=>?_;exact ⟨a1,by dsimp only;exact dq (.i (.L .A .B) (.i (.T .C .A) (.T .C .B))) rfl ql a2,a3⟩
  ·by_cases aY:t<c.now
   ·refine qS (h.con t aY i h1 h2 h3 h4) λk k1 k2 k3 k4=>?_;exact ⟨k,k1,k2,k3,k4.imp id λh=>h.app⟩
   ·exfalso
    by_cases hd:i∈Dn
    ·have:=h4 hd
     have:=(h.e2 i hd).2.1
     dsimp only at *;exact K9 aY (by assumption) this
    ·obtain ⟨k,hk,_⟩:=JS P nQ (D1:=[]) (t:=t) (λv hv _=>by
      rw [fg] at hv
      have:=Nj v hv
      dsimp only at ht;exact ya ht this) i.toNat i rfl h1 h2 hd h3
     cases hk
  ·dsimp only;by_cases hn:w2=[]
   ·left;subst hn;have wy:=nQ.fin (by have h1:=nQ.hp;have h2:=nQ.hf;simp at h1;exact kW (.i (.E .A (.k .A)) (.i (.E (.a .B (.k .B)) (.k .A)) (.n (.T .A (.a .B (.k .B)))))) rfl h2 h1) rfl Int.toNat λe he=>by
     have:=P.eE e he
     have:=nQ.es e he
     exact ft (.i (.T .A .B) (.i (.a (.a (.L .Z .A) (.T .A (.k .A))) (.a (.L .Z .B) (.T .B (.k .A)))) (.t (.t .A) (.t .B)))) rfl (by assumption) this
    have:=Ak (m:=Dn) (xj n) λi hi=>by
     refine ap (List.mem_map.mp hi) λk hk af=>?_;subst af
     have:=List.mem_range.mp hk
     exact wy k (gR) (o8 this)
    simpa using this
   ·right;have FX:pb F { vg:=im c.vg c.rd,rd:=[],p:=c.p+c.rd.length,f:=c.f,pre:=c.pre++arr,win:=w2,hold:=d0 c.hold c.rd,dp:=[],left:=c.left,ends:=c.ends,now:=sO F c.now w2 }=1:=by
     unfold pb;cases w2 with
     | nil=>exact absurd rfl hn
     | cons v w3=>simp [sO]
    rw [FX,aD];exact fy (.i (.l .A .B) (.l (.a (.a (.a .C .D) .A) .O) (.a (.a .C (.a .D .B)) .O))) rfl Eo
 | cons r dr =>
  rw [k8] at hO uO nQ vh zu;have Cj:r∈w2++r::dr:=by simp
  have mr:=nQ.ob r Cj;have rk:=nQ.dj r Cj;have fY:=h.l1 r mr.1 mr.2 rk;have hF:=zu r (.head _);refine fU (PU (F:=F) (w:=w2) (e:=c.now+c.left.getD r.toNat 0)) λt1 t2 t3=>?_;have pv:c.now<kr F w2 (c.now+c.left.getD r.toNat 0):=by
   rcases t3 with t3 | ⟨v,hv,t3⟩
   ·exact dq (.i (.L .O .A) (.i (.E .B (.a .C .A)) (.T .C .B))) rfl fY t3
   ·have:=rg v hv;exact dq (.i (.E .A .B) (.i (.T .C .A) (.T .C .B))) rfl t3 this
  generalize rT:kr F w2 (c.now+c.left.getD r.toNat 0)=ed at t1 t2 t3 pv;have LY:r.toNat<c.ends.length:=by rw [h.el];exact sZ mr
  have wz:r.toNat<c.left.length:=by rw [h.ll];exact sZ mr
  let oM:Int→Int:=λt=>if c.now≤t∧t<ed then r else σ t
  have s1 : ∀t,t<c.now→oM t=σ t:=λt ht=>Qcs λh=>dq (.i (.T .A .B) (.i (.a (.L .B .A) (.T .A .C)) .f)) rfl ht h;have s2 : ∀t,c.now≤t→t<ed→oM t=r:=λt a b=>Qct ⟨a,b⟩;have s3 : ∀t i:Int,0≤i→i<n→oM t=i→(t<c.now∧σ t=i)∨(c.now≤t∧t<ed∧i=r):=λt i a b e=>by
   by_cases hc:c.now≤t∧t<ed
   ·rw [s2 t hc.1 hc.2] at e;exact .inr ⟨hc.1,hc.2,e.symm⟩
   ·have e:σ t=i:=by rw [← e];exact (Qcs hc).symm
    exact .inl ⟨hold t i a b e,e⟩
  have Ci : ∀i:Int,0≤i→i<n→cn (λt=>oM t==i) lo ed=cn (λt=>σ t==i) lo c.now+if i=r then ed-c.now else 0:=λi a b=>by
   rw [UH (λt=>oM t==i) (λt=>σ t==i) h.ln (pG pv) λt _ ht=>by rw [s1 t ht]];by_cases e:i=r
   ·rw [Qct e,Jm (pG pv) λt h1 h2=>by rw [s2 t h1 h2,e];exact beq_self_eq_true r]
   ·rw [Qcs e,vR (pG pv) λt h1 h2=>by rw [s2 t h1 h2];simpa using λh=>e h.symm]
  have L7 : ∀t,t<ed→∀i:Int,0≤i→i<n→ea i≤t→(i∈Dn→t<gq c.ends i)→∃k:Int,0≤k∧k<n∧oM t=k∧(k=i∨nP U b (c.pre++arr) k i):=λt ht i h1 h2 h3 h4=>by
   by_cases aY:t<c.now
   ·refine qS (h.con t aY i h1 h2 h3 h4) λk k1 k2 k3 k4=>?_;exact ⟨k,k1,k2,by rw [s1 t aY];exact k3,k4.imp id λh=>h.app⟩
   ·have hd:i∉Dn:=λhd=>by
     have:=h4 hd
     have:=(h.e2 i hd).2.1
     exact K9 aY (by assumption) this
    obtain ⟨k,hk,qi⟩:=JS P nQ (D1:=r::dr) (t:=t) (λv hv kh=>by
     rcases List.mem_append.mp hv with hv | hv
     ·have:=t2 v hv;exact ya ht this
     ·exact absurd hv kh) i.toNat i rfl h1 h2 hd h3
    refine ⟨r,mr.1,mr.2,s2 t (x9 aY) ht,?_⟩;rcases List.mem_cons.mp hk with rfl | hk
    ·rcases qi with h | h
     ·exact .inl h
     ·exact .inr (.inl h)
    ·have hp:=(List.pairwise_cons.mp vh).1 k hk;rcases qi with rfl | h
     ·exact .inr hp
     ·have:=hp.le;exact .inr (.inl (dq (.i (.T .A .B) (.i (.L .C .A) (.T .C .B))) rfl h this))
  have rh : ∀(t i:Int),0≤i→i<n→oM t=i→lo≤t∧t<ed∧F i≤t∧∀e∈Es,e.2=i→e.1∈Dn∧gq c.ends e.1≤t:=λt i h1 h2 e=>by
   rcases s3 t i h1 h2 e with ⟨a1,a2⟩ | ⟨a1,a2,rfl⟩
   ·refine fU (h.wk t i h1 h2 a2) λb1 b2 b3=>?_;exact ⟨b1,Ko pv a1,b3⟩
   ·refine ⟨by have:=h.ln;exact EP a1 this,a2,EP a1 hF,λe he e2=>?_⟩;have hd:=nQ.od e he (.inl (by rw [e2];exact Cj))
    have:=(h.e2 e.1 hd).2.1
    exact ⟨hd,EP a1 this⟩
  have gX:c.pre.length+arr.length=(c.pre++arr).length:=(aD ..).symm;by_cases hz:c.left.getD r.toNat 0-(ed-c.now)=0
  ·rw [HC kZ oL k8 rT hz];have fw : ∀i∈Dn,i≠r:=λi hi e=>rk (e▸hi);have zj : ∀i∈Dn,gq (c.ends.set r.toNat (some ed)) i=gq c.ends i:=λi hi=>Sj (fw i hi) (h.sg.db i hi).1 mr.1;have FY:gq (c.ends.set r.toNat (some ed)) r=ed:=Sk LY;refine ⟨r::Dn,oM,⟨?sg,uD,?pr,Bw,t2,(List.pairwise_cons.mp vh).2,λi hi=>?dF,by dsimp only;rw [km];exact h.ll,by dsimp only;rw [km];exact h.el,by have:=h.ln;dsimp only;exact wd pv this,λi h1 h2=>?lf,λi h1 h2 h3=>?l1,λi hi=>?l0,λi h1 h2 h3=>?e1,λi hi=>?e2,λt i h1 h2 e=>?wk,λt ht i h1 h2 h3 h4=>L7 t ht i h1 h2 h3 λhd=>by rw [← zj i hd];exact h4 (.tail _ hd)⟩,sr _,.inr ?prog⟩
   case sg =>
    refine (nQ.done Cj).perm ?_;rw [Gz _ λhm=>by
     have:=rg r hm;exact dw (.i (.L .A .B) (.i (.T .B .A) .f)) rfl hF this]
    rw [N4]
   case pr=>exact uO.trans (bq (l₁:=dr)).symm
   case dF=>have:=zu i (.tail _ hi);dsimp only;exact wd pv this
   case lf =>
    dsimp only;rw [vJ wz,Ci i h1 h2];by_cases e:i=r
    ·subst e;rw [Qct rfl,Qct rfl]
     have:=h.lf i h1 h2
     exact o7 (.i (.E (.s .A (.s .B .C)) .Z) (.i (.E .A (.s .D .F)) (.E .Z (.s .D (.a .F (.s .B .C)))))) rfl hz this
    ·rw [Qcs (by exact La mr h1 e),Qcs e,h.lf i h1 h2];exact Lb
   case l1 =>
    have e:i≠r:=λe=>h3 (e▸mC);dsimp only;rw [vJ wz,Qcs (by exact ft (.i (.a (.L .Z .A) (.T .A (.k .A))) (.i (.L .Z .B) (.i (.n (.E .B .A)) (.n (.e (.t .A) (.t .B)))))) rfl mr h1 e)];exact h.l1 i h1 h2 λhm=>h3 (.tail _ hm)
   case l0 =>
    dsimp only;rw [vJ wz];rcases List.mem_cons.mp hi with rfl | hi
    ·rw [Qct rfl]
    ·have:=fw i hi
     have:=(h.sg.db i hi).1
     rw [Qcs (by exact Lc mr (by assumption) this)];exact h.l0 i hi
   case e1 =>
    have e:i≠r:=λe=>h3 (e▸mC);dsimp only;rw [og (by exact ft (.i (.a (.L .Z .A) (.T .A (.k .A))) (.i (.L .Z .B) (.i (.n (.E .B .A)) (.n (.e (.t .A) (.t .B)))))) rfl mr h1 e)];exact h.e1 i h1 h2 λhm=>h3 (.tail _ hm)
   case e2 =>
    rcases List.mem_cons.mp hi with rfl | hi
    ·refine ⟨⟨ed,jT LY⟩,by dsimp only;rw [FY];exact c9 _,by dsimp only;rw [FY];exact s2 _ (K2 pv) (jf (.T (.s .A .O) .A) rfl),λt e=>?_⟩;dsimp only;rw [FY];rcases s3 t i mr.1 mr.2 e with ⟨a1,a2⟩ | ⟨a1,a2,_⟩<;>(first | exact ii (.i (.L .O .A) (.i (.E (.s .A (.s .B .C)) .Z) (.i (.T .D .C) (.T .D .B)))) rfl fY hz a1 | exact dw (.i (.T .A .B) (.T .A .B)) rfl a2)
    ·refine kc (h.e2 i hi) λbz a2 a3 a4=>?_;refine cT bz λe a1=>?_;have hb:=h.sg.db i hi;have tG:=fw i hi;dsimp only;rw [zj i hi];refine ⟨⟨e,by rw [og (by exact ft (.i (.a (.L .Z .A) (.T .A (.k .A))) (.i (.a (.L .Z .B) (.T .B (.k .A))) (.i (.n (.E .B .A)) (.n (.e (.t .A) (.t .B)))))) rfl mr hb tG)];exact a1⟩,wd pv a2,?_,λt e=>?_⟩
     ·rw [s1 _ (by exact Ld a2)];exact a3
     ·rcases s3 t i hb.1 hb.2 e with ⟨_,b2⟩ | ⟨_,_,b3⟩
      ·exact a4 t b2
      ·exact absurd b3 tG
   case wk =>
    refine kc (rh t i h1 h2 e) λa1 a2 a3 a4=>?_;exact ⟨a1,a2,a3,λe he e2=>by
     refine b8 (a4 e he e2) λb1 b2=>?_;exact ⟨.tail _ b1,by dsimp only;rw [zj _ b1];exact b2⟩⟩
   case prog =>
    dsimp only;rw [cj];exact v7 (.i (.l .A .B) (.i (.e (.a .C .B) .D) (.l (.a (.a (.a .F .C) .A) .O) (.a (.a (.a .F .O) .D) .G)))) rfl Eo gX
  ·rw [H8 kZ oL k8 rT hz];refine ⟨Dn,oM,⟨nQ,uD,uO,Bw,t2,vh,λi hi=>?dF,by dsimp only;rw [km];exact h.ll,h.el,by have:=h.ln;dsimp only;exact wd pv this,λi h1 h2=>?lf,λi h1 h2 h3=>?l1,λi hi=>?l0,h.e1,λi hi=>?e2,rh,L7⟩,cB _,.inr ?prog⟩
   case dF=>have:=zu i hi;dsimp only;exact wd pv this
   case lf =>
    dsimp only;rw [vJ wz,Ci i h1 h2];by_cases e:i=r
    ·subst e;rw [Qct rfl,Qct rfl]
     have:=h.lf i h1 h2
     exact o7 (.i (.E .A (.s .B .C)) (.E (.s .A (.s .D .F)) (.s .B (.a .C (.s .D .F))))) rfl this
    ·rw [Qcs (by exact La mr h1 e),Qcs e,h.lf i h1 h2];exact Lb
   case l1 =>
    dsimp only;rw [vJ wz];split
    ·exact dq (.i (.L .A (.a .B .C)) (.i (.n (.E (.s .C (.s .A .B)) .Z)) (.L .O (.s .C (.s .A .B))))) rfl t1 hz
    ·exact h.l1 i h1 h2 h3
   case l0 =>
    dsimp only;have tG:i≠r:=λe=>rk (e▸hi)
    have:=(h.sg.db i hi).1
    rw [vJ wz,Qcs (by exact Lc mr tG this)];exact h.l0 i hi
   case e2 =>
    refine kc (h.e2 i hi) λa0 a2 a3 a4=>?_;have hb:=h.sg.db i hi;have tG:i≠r:=λe=>rk (e▸hi);dsimp only;refine ⟨a0,wd pv a2,?_,λt e=>?_⟩
    ·rw [s1 _ (by exact Ld a2)];exact a3
    ·rcases s3 t i hb.1 hb.2 e with ⟨_,b2⟩ | ⟨_,_,b3⟩
     ·exact a4 t b2
     ·exact absurd b3 tG
   case prog =>
    have FX:pb F { vg:=im c.vg c.rd,rd:=[],p:=c.p+c.rd.length,f:=c.f,pre:=c.pre++arr,win:=w2,hold:=d0 c.hold c.rd,dp:=r::dr,left:=c.left.set r.toNat (c.left.getD r.toNat 0-(ed-c.now)),ends:=c.ends,now:=ed }=1:=by
     unfold pb;dsimp only;rcases t3 with t3 | ⟨v,hv,t3⟩
     ·exact absurd (dq (.i (.E .A (.a .B .C)) (.E (.s .C (.s .A .B)) .Z)) rfl t3) hz
     ·rw [List.any_eq_true.mpr ⟨v,hv,by simp;exact K7 t3⟩];rfl
    rw [FX];dsimp only;exact rJ (.i (.l .A .B) (.i (.e (.a .C .B) .D) (.l (.a (.a (.a .F .C) .A) .O) (.a (.a .F .D) .O)))) rfl Eo gX
end
section
open PySem PySem.W PySem.W.X PyProof.Rows
variable {n:Nat}{Es:List (Int×Int)}{F T U ea:Int→Int}{b:Bool}{lo:Int}{c:CS}
def CI(n:Nat)(Es:List (Int×Int))(F T U ea:Int→Int)(b:Bool)(lo:Int)(m:Nat)(c:CS):Prop :=
 ∃Dn σ,CV n Es F T U ea b lo c Dn σ∧(n≤Dn.length∨m≤Dn.length+c.pre.length+pb F c)
theorem CI.ok(P:CP n Es F T U ea lo){m:Nat}(h:CI n Es F T U ea b lo m c):FR F U b n c:=by
 refine cp h λDn σ h _=>?_;exact h.ok P
theorem CI.step(P:CP n Es F T U ea lo){m:Nat}(h:CI n Es F T U ea b lo m c):CI n Es F T U ea b lo (m+1) (o6 F U b c):=by
 refine cp h λDn σ h hm=>?_;refine eQ (h.step P) λwS oM h' h1 h2=>?_;exact ⟨wS,oM,h',W0 (.i (.o (.l .A .B) (.l .C (.a (.a .B .D) .F))) (.i (.l .B .G) (.i (.o (.l .A .G) (.l (.a (.a (.a .B .D) .F) .O) (.a (.a .G .H) .J))) (.o (.l .A .G) (.l (.a .C .O) (.a (.a .G .H) .J)))))) rfl hm h1 h2⟩
noncomputable def wT(n:Nat)(Pd:Nat→List Int)(takes:List Int)(lo:Int):CS :=
 { vg:=iu Pd n,rd:=gw (iu Pd n),p:=0,f:=0,pre:=[],win:=[],hold:=(aF n).map λ(i:Nat)=>(i:Int),dp:=[],left:=takes,ends:=dM n none,now:=lo }
theorem CI.start(hP : ∀i,i<n→∀k∈Pd i,0≤k∧k<n)(ht:takes.length=n)(hT : ∀i:Int,0≤i→T i=takes.getD i.toNat 0)(P:CP n (EL Pd n) F T U ea lo):CI n (EL Pd n) F T U ea b lo 0 (wT n Pd takes lo):=by
 refine ⟨[],λ_ => -1,⟨SG.start hP,?_,dH _,.nil,λv h=>(by cases h),.nil,λv h=>(by cases h),ht,List.length_replicate,c9 _,λi h1 h2=>?_,λi h1 h2 _=>?_,λi h=>(by cases h),λi h1 h2 _=>?_,λi h=>(by cases h),λt i h1 h2 e=>?_,λt ht i h1 h2 h3 _=>?_⟩,.inr (cM _)⟩
 ·exact dH _
 ·dsimp only [wT];rw [rB,hT i h1,Int.sub_zero]
 ·have:=P.t1 i h1 h2;rw [hT i h1] at this;exact this
 ·dsimp only [wT];rw [List.getElem?_replicate,Qct (by exact wc h1 h2)]
 ·exact Xh h1 e
 ·have:=P.lo i h1 h2;have:=P.Ni i h1 h2;dsimp only [wT] at ht;omega
theorem CI.fin(P:CP n Es F T U ea lo)(pj : ∀i:Int,0≤i→i<n→ea i=F i∨∃e∈Es,e.2=i∧ea i=ea e.1+T e.1)(h:CI n Es F T U ea b lo (2*n) c):
  ¬c.f<c.p∧c.rd=[]∧(∀i:Nat,i<n→c.ends[i]?=some (some (gq c.ends i)))∧c.ends.length=n∧c.row.Perm ((aF n).map λ(i:Nat)=>(i:Int)) ∧
  ∃σ,gF n (λa i=>((a:Int),(i:Int))∈Es) (λi=>F i) (λi=>T i) (λi=>U i) (λi=>ea i) (λk i=>b=true→rj c.row k i) σ (λi=>gq c.ends i) lo c.now:=by
 refine cp h λDn σ h hm=>?_;have gX:=h.pre.length_eq;have k7:c.row.length=c.pre.length+c.win.length+c.hold.length:=by unfold CS.row;rw [aD,aD]
 have hlen:c.row.length=n:=by have:=h.perm.length_eq;simpa using this
 rw [aD] at gX;have FZ:n≤Dn.length:=by
  rcases hm with hm | hm
  ·exact hm
  ·have:pb F c=0∨(pb F c=1∧1≤c.win.length):=by
    unfold pb;cases e:c.win.any λv=>decide (F v≤c.now) with
    | false=>exact .inl rfl
    | true =>
     refine ap (List.any_eq_true.mp e) λv hv _=>?_;exact .inr ⟨rfl,iP hv⟩
   exact v8 (.i (.e .A (.a (.a .B .C) .D)) (.i (.e .A .F) (.i (.l (.m 2 .F) (.a (.a .G .B) .H)) (.i (.o (.e .H .Z) (.a (.e .H .O) (.l .O .C))) (.l .F .G))))) rfl k7 hlen hm this
 have wx:c.win=[]:=List.length_eq_zero_iff.mp (v8 (.i (.e .A (.a .B .C)) (.i (.e .D (.a (.a .A .F) .G)) (.i (.e .D .H) (.i (.l .H .C) (.e .F .Z))))) rfl gX k7 hlen FZ);have Wo:c.hold=[]:=List.length_eq_zero_iff.mp (v8 (.i (.e .A (.a .B .C)) (.i (.e .D (.a (.a .A .F) .G)) (.i (.e .D .H) (.i (.l .H .C) (.e .G .Z))))) rfl gX k7 hlen FZ);have JT:c.dp=[]:=List.length_eq_zero_iff.mp (v8 (.i (.e .A (.a .B .C)) (.i (.e .D (.a (.a .A .F) .G)) (.i (.e .D .H) (.i (.l .H .C) (.e .B .Z))))) rfl gX k7 hlen FZ);have Bx:c.row=c.pre:=by unfold CS.row;rw [wx,Wo];simp
 have l7 : ∀i:Int,0≤i→i<n→i∈Dn:=λi h1 h2=>by
  have:i∈c.row:=h.perm.mem_iff.mpr (List.mem_map.mpr ⟨i.toNat,List.mem_range.mpr (wc h1 h2),K8 h1⟩)
  rw [Bx] at this
  have:=h.pre.mem_iff.mp this
  rw [JT] at this;exact this
 have hN : ∀i:Nat,i<n→(i:Int)∈Dn:=λi hi=>l7 i (gR) (o8 hi);have Fa : ∀i:Nat,i<n→c.ends[i]?=some (some (gq c.ends i)):=λi hi=>by
  refine b8 (h.e2 i (hN i hi)) λbz _=>?_;refine cT bz λe h1=>?_;unfold gq;rw [bY] at h1 ⊢;rw [h1];rfl
 refine ⟨?_,?_,Fa,h.el,h.perm,σ,?_⟩
 ·have h1:=h.sg.hp;have h2:=h.sg.hf;rw [wx,JT] at h1;simp at h1;exact ft (.i (.E .A (.k .A)) (.i (.E .B (.k .A)) (.n (.T .A .B)))) rfl h2 h1
 ·cases hr:c.rd with
  | nil=>rfl
  | cons i r =>
   have h1:=(h.sg.rm i).mp (by rw [hr];exact .head _);exact absurd (l7 i h1.1.1 h1.1.2) h1.2.2.1
 ·refine ⟨λi hi=>P.t1 i (gR) (o8 hi),λa i he=>?_,λi hi=>?_,λt i hi e=>?_,λi hi=>(h.e2 i (hN i hi)).2.1,h.ln,λi hi=>?_,λi hi=>(h.e2 i (hN i hi)).2.2.1,λi t hi h1 h2=>?_⟩
  ·have h1:=P.eE _ he;have h2:=(h.sg.es _ he).2;dsimp only at h1 h2;exact bB (.i (.T (.k .A) (.k .B)) (.i (.a (.L .Z (.k .B)) (.T (.k .B) (.k .C))) (.a (.t .A .B) (.t .B .C)))) rfl h1 h2
  ·rcases pj i (gR) (o8 hi) with h1 | ⟨e,he,h2,h3⟩
   ·exact .inl h1
   ·have hb:=(h.sg.es e he).1;refine .inr ⟨e.1.toNat,?_,?_⟩
    ·have e1:((e.1.toNat:Int),(i:Int))=e:=by rw [← h2,eS hb.1]
     rw [e1];exact he
    ·rw [h3,eS hb.1]
  ·refine kc (h.wk t i (gR) (o8 hi) e) λa1 a2 a3 a4=>?_;exact ⟨a1,(h.e2 i (hN i hi)).2.2.2 t e,a3,λa ha=>(a4 _ ha rfl).2⟩
  ·have h1:=h.lf i (gR) (o8 hi);rw [h.l0 i (hN i hi)] at h1
   have:cn (lO σ i) lo c.now=cn (λt=>σ t==(i:Int)) lo c.now:=rfl
   exact dq (.i (.E .Z (.s .A .B)) (.i (.E .C .B) (.E .C .A))) rfl h1 this
  ·have:=(h.e2 i (hN i hi)).2.1
   refine qS (h.con t (ya h2 this) i (gR) (o8 hi) h1 λ_=>h2) λk k1 k2 k3 k4=>?_;refine ⟨k.toNat,pW (.i (.t .A .B) (.i (.T .A (.k .B)) (.t (.t .A) .B))) rfl hi k2,dw (.i (.L .Z .A) (.i (.E .B .A) (.E .B (.k (.t .A))))) rfl k1 k3,?_⟩;rw [eS k1,Bx];rcases k4 with h | h | h
   ·left;exact KC h
   ·exact .inr (.inl h)
   ·exact .inr (.inr h)
theorem TD{row:List Int}{k i:Int}(hn:row.Nodup)(hk:k∈row)(hi:i∈row)(h:rj row k i):k=i∨row.idxOf k<row.idxOf i:=by
 by_cases e:k=i
 ·exact .inl e
 right;refine cp h λp q af hp=>?_;subst af;have hkp:k∉p:=λhm=>(List.nodup_append.mp hn).2.2 k hm k (.head _) rfl;rw [QaC,Qcs hkp,QaC,Qcs hp,List.idxOf_cons_self,Qa9]
 have:(k==i)=false:=by simpa using e
 rw [this];simp
end
section
open PySem PySem.W PySem.W.X PyProof.Rows
noncomputable def rx(T:Int→Int)(x:Int→Int)(e:Int×Int):Int→Int:=λj=>if j=e.2 then max (x j) (x e.1+T e.1) else x j
structure mt(Es:List (Int×Int))(T c0 x:Int→Int):Prop where
 le : ∀d,c0 d≤x d
 sp : ∀d,x d≤c0 d∨∃e∈Es,e.2=d∧x d≤x e.1+T e.1
def Cl(T x:Int→Int)(e:Int×Int):Prop:=x e.1+T e.1≤x e.2
variable {Es:List (Int×Int)}{T c0 x y:Int→Int}
theorem xW{e:Int×Int}(d:Int):x d≤rx T x e d:=by unfold rx;split<;>(first | exact dq (.L .A (.x .A (.a .B .C))) rfl | exact jf (.L .A .A) rfl)
variable {d:Int}{e:Int×Int}
theorem A5(h:d≠e.2):rx T x e d=x d:=Qcs h
theorem xX:rx T x e e.2=max (x e.2) (x e.1+T e.1):=Qct rfl
theorem mt.refl:mt Es T x x:=⟨λ_=>c9 _,λ_=>.inl (c9 _)⟩
theorem mt.Yx(h:mt Es T c0 x){e:Int×Int}(he:e∈Es):mt Es T c0 (rx T x e):=by
 refine ⟨λd=>g7 (h.le d) (xW d),λd=>?_⟩;have old:(x d≤c0 d∨∃e'∈Es,e'.2=d∧x d≤x e'.1+T e'.1)→rx T x e d=x d→(rx T x e d≤c0 d∨∃e'∈Es,e'.2=d∧rx T x e d≤rx T x e e'.1+T e'.1):=λh1 h2=>by
  rw [h2];refine h1.imp id λ⟨e',a1,a2,a3⟩=>⟨e',a1,a2,?_⟩
  have:=xW (T:=T) (x:=x) (e:=e) e'.1
  exact ii (.i (.L .A (.a .B .C)) (.i (.L .B .D) (.L .A (.a .D .C)))) rfl a3 this
 by_cases hd:d=e.2
 ·subst hd;by_cases hm:x e.1+T e.1≤x e.2
  ·exact old (h.sp _) (by rw [xX];exact Le hm)
  ·refine .inr ⟨e,he,rfl,?_⟩
   have:=xW (T:=T) (x:=x) (e:=e) e.1
   rw [xX];exact ii (.i (.n (.L (.a .A .B) .C)) (.i (.L .A .D) (.L (.x .C (.a .A .B)) (.a .D .B)))) rfl hm this
 ·exact old (h.sp d) (A5 hd)
theorem mt.fold:∀{l:List (Int×Int)} {x:Int→Int},mt Es T c0 x→(∀e∈l,e∈Es)→mt Es T c0 (l.foldl (rx T) x):=by
 intro l
 induction l with
 | nil=>intro _ h _;exact h
 | cons e l ih=>intro _ h hs;exact ih (h.Yx (hs e (.head _))) λe' he=>hs e' (.tail _ he)
theorem TE(hx:mt Es T c0 x)(hy:mt Es T c0 y)(cx : ∀e∈Es,Cl T x e)(cy : ∀e∈Es,Cl T y e)(r:Int→Nat)(hr : ∀e∈Es,r e.1<r e.2): ∀d,x d=y d:=by
 have key : ∀(m:Nat) (d:Int),r d=m→x d=y d:=by
  intro m
  induction m using tX with
  | ind m ih =>
   intro d hd;have one : ∀{x y:Int→Int},mt Es T c0 x→mt Es T c0 y→(∀e∈Es,Cl T y e)→(∀e∈Es,e.2=d→x e.1=y e.1)→x d≤y d:=by
    intro x y hx hy cy hxy;rcases hx.sp d with h | ⟨e,he,h1,h2⟩
    ·have:=hy.le d;exact yg h this
    ·have a1:=cy e he;have a2:=hxy e he h1;unfold Cl at a1;rw [h1] at a1;exact o7 (.i (.L .A (.a .B .C)) (.i (.L (.a .D .C) .F) (.i (.E .B .D) (.L .A .F)))) rfl h2 a1 a2
   have yn : ∀e∈Es,e.2=d→x e.1=y e.1:=λe he h1=>ih (r e.1) (by have:=hr e he;rw [h1] at this;exact ou hd this) e.1 rfl;exact pz (one hx hy cy yn) (one hy hx cx λe he h1=>(yn e he h1).symm)
 exact λd=>key (r d) d rfl
theorem Wp(r:Int→Nat)(hr : ∀e∈Es,r e.1<r e.2){m:Nat}: ∀{l:List (Int×Int)} {x:Int→Int},(∀e∈l,e∈Es)→(∀e∈Es,r e.2<m→Cl T x e) →
  (∀d,r d<m→l.foldl (rx T) x d=x d)∧(∀d,x d≤l.foldl (rx T) x d)∧∀e∈l,r e.2≤m→Cl T (l.foldl (rx T) x) e:=by
 intro l
 induction l with
 | nil=>intro x _ _;exact ⟨λ_ _=>rfl,λ_=>c9 _,λe h=>(by cases h)⟩
 | cons e l ih =>
  intro x hl hc;have he:=hl e (.head _);have h0 : ∀d,r d<m→rx T x e d=x d:=λd hd=>by
   by_cases h:d=e.2
   ·subst h
    have:=hc e he hd
    unfold Cl at this;rw [xX];exact Le this
   ·exact A5 h
  have pd : ∀e'∈Es,r e'.2<m→Cl T (rx T x e) e':=λe' ro h=>by
   have:=hc e' ro h
   have h1:=hr e' ro;unfold Cl at this ⊢;rw [h0 _ h,h0 _ (yh h h1)];exact this
  refine fU (ih (x:=rx T x e) (λe' h=>hl e' (.tail _ h)) pd) λa1 a2 a3=>?_;rw [mu];refine ⟨λd hd=>by rw [a1 d hd,h0 d hd],λd=>g7 (xW d) (a2 d),λe' ro hm=>?_⟩;rcases List.mem_cons.mp ro with rfl | ro
  ·have h1:=hr e' he;have h2:=a2 e'.2;rw [xX] at h2;unfold Cl;rw [a1 e'.1 (Bf hm h1),h0 e'.1 (Bf hm h1)];exact Lg h2
  ·exact a3 e' ro hm
noncomputable def sR(T:Int→Int)(Es:List (Int×Int)):Nat→(Int→Int)→Int→Int
 | 0,x=>x
 | m+1,x=>Es.foldl (rx T) (sR T Es m x)
theorem HF(r:Int→Nat)(hr : ∀e∈Es,r e.1<r e.2): ∀m,mt Es T x (sR T Es m x)∧∀e∈Es,r e.2<m→Cl T (sR T Es m x) e:=by
 intro m
 induction m with
 | zero=>exact ⟨.refl,λe _ h=>absurd h (kF _)⟩
 | succ m ih =>
  refine b8 (ih) λh1 h2=>?_;refine ⟨h1.fold λe h=>h,λe he hm=>?_⟩;exact (Wp r hr (l:=Es) (λe h=>h) h2).2.2 e he (bK (.i (.t .A (.a .B .O)) (.l .A .B)) rfl hm)
theorem Js(h:mt Es T c0 x)(hc : ∀e∈Es,Cl T x e)(d:Int):x d=c0 d∨∃e∈Es,e.2=d∧x d=x e.1+T e.1:=by
 have h1:=h.le d;rcases h.sp d with h2 | ⟨e,he,h2,h3⟩
 ·left;exact dw (.i (.L .A .B) (.i (.L .B .A) (.E .B .A))) rfl h1 h2
 ·right;refine ⟨e,he,h2,?_⟩
  have:=hc e he
  unfold Cl at this;rw [h2] at this;exact dq (.i (.L .A (.a .B .C)) (.i (.L (.a .B .C) .A) (.E .A (.a .B .C)))) rfl h3 this
def mW(x y:Int→Int):Prop:=∀d,0≤d→x d=y d
theorem UJ(h:mW x y)(h1:0≤e.1)(h2:0≤e.2):mW (rx T x e) (rx T y e):=λd hd=>by
 unfold rx;rw [h d hd,h e.1 h1]
theorem xw:∀{l:List (Int×Int)} {x y:Int→Int},mW x y→(∀e∈l,0≤e.1∧0≤e.2)→mW (l.foldl (rx T) x) (l.foldl (rx T) y):=by
 intro l
 induction l with
 | nil=>intro _ _ h _;exact h
 | cons e l ih=>intro _ _ h hs;exact ih (UJ h (hs e (.head _)).1 (hs e (.head _)).2) λe' he=>hs e' (.tail _ he)
noncomputable def gK(T:Int→Int)(l:List Int)(w:Int×Int):List Int:=l.set w.2.toNat (max (an l w.2) (an l w.1+T w.1))
noncomputable def gZ(T:Int→Int)(l:List Int)(w:Int×Int):List Int:=l.set w.1.toNat (min (an l w.1) (an l w.2-T w.2))
variable {l:List Int}
theorem IS{i v:Int}(hi:0≤i)(hl:i<l.length)(hd:0≤d):an (l.set i.toNat v) d=if d=i then v else an l d:=by
 unfold an;by_cases h:d=i
 ·subst h;rw [Qct rfl,jT (by exact wc hd hl)];rfl
 ·rw [Qcs h,og (by exact dw (.i (.L .Z .A) (.i (.L .Z .B) (.i (.n (.E .B .A)) (.n (.e (.t .A) (.t .B)))))) rfl hi hd h)]
theorem UK{l:List Int}{w:Int×Int}(h1:0≤w.1)(h2:0≤w.2∧w.2<l.length):mW (an (gK T l w)) (rx T (an l) w):=λd hd=>by
 unfold gK rx;rw [IS h2.1 h2.2 hd];split
 ·rename_i h;rw [h]
 ·rfl
theorem UL{w:Int×Int}(h1:0≤w.1∧w.1<l.length)(h2:0≤w.2):mW (λd => - an (gZ T l w) d) (rx T (λd => - an l d) w.swap):=λd hd=>by
 unfold gZ rx;dsimp only [gL];rw [IS h1.1 h1.2 hd];split
 ·rename_i h;rw [h];exact dq (.E (.g (.n .A (.s .B .C))) (.x (.g .A) (.a (.g .B) .C))) rfl
 ·rfl
theorem IT{w:Int×Int}:(gK T l w).length=l.length:=km ..
theorem IU{l:List Int}{w:Int×Int}:(gZ T l w).length=l.length:=km ..
theorem mW.trans(h:mW x y)(h':mW y z):mW x z:=λd hd=>(h d hd).trans (h' d hd)
theorem JU:∀{ws:List (Int×Int)} {l:List Int},(∀w∈ws,(0≤w.1∧w.1<l.length)∧0≤w.2∧w.2<l.length)→mW (an (ws.foldl (gK T) l)) (ws.foldl (rx T) (an l))∧(ws.foldl (gK T) l).length=l.length:=by
 intro ws
 induction ws with
 | nil=>intro _ _;exact ⟨λ_ _=>rfl,rfl⟩
 | cons w ws ih =>
  intro l h;have hw:=h w (.head _);obtain ⟨h1,h2⟩:=ih (l:=gK T l w) λw' wU=>by rw [IT];exact h w' (.tail _ wU)
  rw [IT] at h2;exact ⟨h1.trans (xw (UK hw.1.1 hw.2) λe he=>⟨(h e (.tail _ he)).1.1,(h e (.tail _ he)).2.1⟩),h2⟩
theorem A6:∀{ws:List (Int×Int)} {l:List Int},(∀w∈ws,(0≤w.1∧w.1<l.length)∧0≤w.2∧w.2<l.length)→mW (λd => - an (ws.foldl (gZ T) l) d) ((ws.map gL).foldl (rx T) λd => - an l d)∧(ws.foldl (gZ T) l).length=l.length:=by
 intro ws
 induction ws with
 | nil=>intro _ _;exact ⟨λ_ _=>rfl,rfl⟩
 | cons w ws ih =>
  intro l h;have hw:=h w (.head _);obtain ⟨h1,h2⟩:=ih (l:=gZ T l w) λw' wU=>by rw [IU];exact h w' (.tail _ wU)
  rw [IU] at h2;refine ⟨h1.trans (xw (UL hw.1 hw.2.1) λe he=>?_),h2⟩;refine ap (List.mem_map.mp he) λw' wU af=>?_;subst af;exact ⟨(h w' (.tail _ wU)).2.1,(h w' (.tail _ wU)).1.1⟩
end
section
open PySem PySem.W PySem.W.X PyProof.Rows
variable {T c0 x y:Int→Int}
theorem Sl{i:Int}: ∀{l:List (Int×Int)} {x:Int→Int},(∀e∈l,e.1=i∧e.2≠i)→(∀d,x d≤l.foldl (rx T) x d)∧(∀d,(∀e∈l,e.2≠d)→l.foldl (rx T) x d=x d)∧∀e∈l,x i+T i≤l.foldl (rx T) x e.2:=by
 intro l
 induction l with
 | nil=>intro x _;exact ⟨λ_=>c9 _,λ_ _=>rfl,λe h=>(by cases h)⟩
 | cons e l ih =>
  intro x h;refine fU (ih (x:=rx T x e) λe' he=>h e' (.tail _ he)) λa1 a2 a3=>?_;refine b8 (h e (.head _)) λe1 e2=>?_;have hi:rx T x e i=x i:=A5 λh=>e2 h.symm;rw [mu];refine ⟨λd=>g7 (xW d) (a1 d),λd hd=>?_,λe' he=>?_⟩
  ·rw [a2 d λe' he=>hd e' (.tail _ he)];exact A5 λh=>hd e (.head _) h.symm
  ·rcases List.mem_cons.mp he with rfl | he
   ·have:=a1 e'.2
    rw [xX,e1] at this;exact Lg this
   ·have:=a3 e' he
    rw [hi] at this;exact this
noncomputable def nR(T:Int→Int)(W:List (Int×Int))(i:Int)(u:List Int):List Int:=(W.filter λw=>decide (w.2=i)).foldl (gZ T) u
def UI(n:Nat)(Es:List (Int×Int))(T c0:Int→Int)(u:List Int)(vg:VG)(O rd:List Int)(p f:Int):Prop :=
 ∃Dn x,SG n Es vg O Dn rd p f∧u.length=n∧mW (λd => - an u d) x∧mt Es T c0 x∧∀e∈Es,e.1∈Dn→Cl T x e
variable {n:Nat}{Es W:List (Int×Int)}{u:List Int}{vg:VG}{O rd:List Int}{p f:Int}
theorem UI.start{P:Nat→List Int}(hP : ∀i,i<n→∀k∈P i,0≤k∧k<n){u:List Int}(hu:u.length=n):UI n (EL P n) T (λd => - an u d) u (iu P n) [] (gw (iu P n)) 0 0 :=
 ⟨[],_,SG.start hP,hu,λ_ _=>rfl,.refl,λe _ h=>(by cases h)⟩
theorem UI.ready(h:UI n Es T c0 u vg [] rd p f):UI n Es T c0 u (im vg rd) rd [] (p+rd.length) f:=by
 refine cp h λDn x h1 h2=>?_;exact ⟨Dn,x,h1.ready,h2⟩
theorem UI.turn(hE :∀e,e∈Es↔e.swap∈W)(hW : ∀w∈W,0≤w.1∧w.1<w.2∧w.2<n){i:Int}(h:UI n Es T c0 u vg (i::O) rd p f):
  UI n Es T c0 (nR T W i u) ((eC vg i).foldl jW (dR vg i λq=>(-2,q.2),rd)).1 O ((eC vg i).foldl jW (dR vg i λq=>(-2,q.2),rd)).2 p (f+1):=by
 refine Bh h λDn x h1 h2 h3 h4 h5=>?_;have hi:i∈i::O:=.head _;have hd:=h1.dj i hi;have hl : ∀e∈(W.filter λw=>decide (w.2=i)).map gL,e∈Es∧e.1=i∧e.2≠i:=λe he=>by
  refine ap (List.mem_map.mp he) λw hw af=>?_;subst af;refine b8 (List.mem_filter.mp hw) λhw e2=>?_;have e2:w.2=i:=by simpa using e2
  have:=hW w hw
  refine ⟨(hE _).mpr (by rw [qm];exact hw),e2,?_⟩;show w.1≠i
  exact A8 (.i (.E .A .B) (.i (.a (.L .Z .C) (.a (.T .C .A) (.T .A (.k .A)))) (.n (.E .C .B)))) rfl e2 this
 have tC : ∀e∈(W.filter λw=>decide (w.2=i)).map gL,∀d,d∈i::O∨d∈Dn→e.2≠d:=λe he d fQ e2=>by
  refine fU (hl e he) λa1 a2 a3=>?_;exact hd (a2▸h1.od e a1 (by rw [e2];exact fQ))
 refine fU (Sl (T:=T) (i:=i) (l:=(W.filter λw=>decide (w.2=i)).map gL) (x:=x) λe he=>(hl e he).2) λb1 b2 b3=>?_;obtain ⟨c1,c2⟩:=A6 (T:=T) (ws:=W.filter λw=>decide (w.2=i)) (l:=u) λw hw=>by
  have:=hW w (List.mem_filter.mp hw).1
  exact we h2 this
 refine ⟨i::Dn,((W.filter λw=>decide (w.2=i)).map gL).foldl (rx T) x,?_,c2.trans h2,?_,h4.fold λe he=>(hl e he).1,λe he hm=>?_⟩
 ·have:=h1.done hi
  rw [N4] at this;exact this
 ·refine c1.trans (xw h3 λe he=>?_)
  have:=h1.es e (hl e he).1
  exact ft (.i (.a (.a (.L .Z .A) (.T .A (.k .A))) (.a (.L .Z .B) (.T .B (.k .A)))) (.a (.L .Z .A) (.L .Z .B))) rfl this
 ·rcases List.mem_cons.mp hm with e1 | hm
  ·have wD:e∈(W.filter λw=>decide (w.2=i)).map gL:=List.mem_map.mpr ⟨e.swap,List.mem_filter.mpr ⟨(hE e).mp he,by simpa using e1⟩,qm _⟩
   have:=b3 e wD
   unfold Cl;rw [e1,b2 i λe' ro=>tC e' ro i (.inl hi)];exact this
  ·have h6:=h5 e he hm;have h7:=b1 e.2;unfold Cl at h6 ⊢;rw [b2 e.1 λe' ro=>tC e' ro _ (.inr hm)];exact ii (.i (.L (.a .A .B) .C) (.i (.L .C .D) (.L (.a .A .B) .D))) rfl h6 h7
theorem UI.more(h:UI n Es T c0 u vg [] rd p f):f≤n∧p=f:=by
 refine cp h λDn x h1 _=>?_;have h2:=h1.hf;have h3:=h1.hp
 have:=Ak (m:=(aF n).map λ(i:Nat)=>(i:Int)) h1.dn λi hi=>List.mem_map.mpr ⟨i.toNat,List.mem_range.mpr (by have:=h1.db i hi;exact sZ this),by have:=h1.db i hi;exact Lh this⟩
 simp at this h3;exact kW (.i (.E .A (.k .A)) (.i (.l .A .B) (.i (.E .B (.k .A)) (.a (.L .A (.k .B)) (.E .B .A))))) rfl h2 this h3
noncomputable def iter{α:Type}(g:α→α):Nat→α→α
 | 0,a=>a
 | m+1,a=>g (iter g m a)
variable {l:List Int}
theorem JV(hW :∀w∈W,0≤w.1∧w.1<w.2∧w.2<n)(hl:l.length=n): ∀m,mW (λd => - an (iter (λl=>W.foldl (gZ T) l) m l) d) (sR T (W.map gL) m λd => - an l d)∧(iter (λl=>W.foldl (gZ T) l) m l).length=n:=by
 intro m
 induction m with
 | zero=>exact ⟨λ_ _=>rfl,hl⟩
 | succ m ih =>
  refine b8 (ih) λh1 h2=>?_;obtain ⟨h3,h4⟩:=A6 (T:=T) (ws:=W) (l:=iter (λl=>W.foldl (gZ T) l) m l) λw hw=>by have:=hW w hw;exact we h2 this
  refine ⟨h3.trans (xw h1 λe he=>?_),h4.trans h2⟩;refine ap (List.mem_map.mp he) λw hw af=>?_;subst af
  have:=hW w hw
  dsimp only [gL];exact ft (.i (.a (.L .Z .A) (.a (.T .A .B) (.T .B (.k .A)))) (.a (.L .Z .B) (.L .Z .A))) rfl this
theorem Ep(hW :∀w∈W,0≤w.1∧w.1<w.2∧w.2<n)(hl:l.length=n): ∀m,mW (an (iter (λl=>W.foldl (gK T) l) m l)) (sR T W m (an l))∧(iter (λl=>W.foldl (gK T) l) m l).length=n:=by
 intro m
 induction m with
 | zero=>exact ⟨λ_ _=>rfl,hl⟩
 | succ m ih =>
  refine b8 (ih) λh1 h2=>?_;obtain ⟨h3,h4⟩:=JU (T:=T) (ws:=W) (l:=iter (λl=>W.foldl (gK T) l) m l) λw hw=>by have:=hW w hw;exact we h2 this
  exact ⟨h3.trans (xw h1 λe he=>by have:=hW e he;exact ft (.i (.a (.L .Z .A) (.a (.T .A .B) (.T .B (.k .A)))) (.a (.L .Z .A) (.L .Z .B))) rfl this),h4.trans h2⟩
theorem Ic(hW :∀w∈W,0≤w.1∧w.1<w.2∧w.2<n){l:List Int}(hl:l.length=n):
  (∀d,0≤d→an l d≤an (iter (λl=>W.foldl (gK T) l) n l) d)∧(∀e∈W,Cl T (an (iter (λl=>W.foldl (gK T) l) n l)) e)∧∀d,0≤d→an (iter (λl=>W.foldl (gK T) l) n l) d=an l d∨∃e∈W,e.2=d∧an (iter (λl=>W.foldl (gK T) l) n l) d=an (iter (λl=>W.foldl (gK T) l) n l) e.1+T e.1:=by
 refine b8 (Ep (T:=T) hW hl n) λh1 h2=>?_;obtain ⟨h3,h4⟩:=HF (Es:=W) (T:=T) (x:=an l) Int.toNat (λe he=>by have:=hW e he;exact ft (.i (.a (.L .Z .A) (.a (.T .A .B) (.T .B (.k .A)))) (.t (.t .A) (.t .B))) rfl this) n;have hc : ∀e∈W,Cl T (sR T W n (an l)) e:=λe he=>h4 e he (by have:=hW e he;exact Li this);refine ⟨λd hd=>by rw [h1 d hd];exact h3.le d,λe he=>?_,λd hd=>?_⟩
 ·have h5:=hc e he
  have:=hW e he
  unfold Cl at h5 ⊢;rw [h1 e.1 (EQ this),h1 e.2 (rL this)];exact h5
 ·rcases Js h3 hc d with h | ⟨e,he,h5,h6⟩
  ·left;rw [h1 d hd];exact h
  ·have:=hW e he
   exact .inr ⟨e,he,h5,by rw [h1 d hd,h1 e.1 (EQ this)];exact h6⟩
theorem TF(hE :∀e,e∈Es↔e.swap∈W)(hW : ∀w∈W,0≤w.1∧w.1<w.2∧w.2<n)(hl:dQ.length=n)(h:UI n Es T (λd => - an dQ d) u vg [] rd p f)(hr:rd=[]):
  u=iter (λl=>W.foldl (gZ T) l) n dQ∧(∀d,0≤d→an u d≤an dQ d)∧(∀w∈W,an u w.1≤an u w.2-T w.2)∧∀d,0≤d→an u d=an dQ d∨∃w∈W,w.1=d∧an u d=an u w.2-T w.2:=by
 refine b8 h.more λhf F0=>?_;refine Bh h λDn x h1 h2 h3 h4 h5=>?_;have wV : ∀e∈Es,0≤e.2∧e.2<e.1∧e.1<n:=λe he=>by
  have:=hW _ ((hE e).mp he)
  exact this
 have l7:=h1.fin (dw (.i (.E .A .B) (.n (.T .B .A))) rfl F0) hr (λi=>(n-i).toNat) λe he=>by have:=wV e he;exact Lj this
 have hc : ∀e∈Es,Cl T x e:=λe he=>h5 e he (l7 e.1 (by have:=wV e he;exact rL this) (by have:=wV e he;exact Lk this));refine b8 (JV (T:=T) hW hl n) λk1 k2=>?_;obtain ⟨k3,k4⟩:=HF (Es:=W.map gL) (T:=T) (x:=λd => - an dQ d) (λi=>(n-1-i).toNat) (λe he=>by
  refine ap (List.mem_map.mp he) λw hw af=>?_;subst af
  have:=hW w hw
  dsimp only [gL];exact ft (.i (.a (.L .Z .A) (.a (.T .A .B) (.T .B (.k .A)))) (.t (.t (.s (.s (.k .A) .O) .B)) (.t (.s (.s (.k .A) .O) .A)))) rfl this) n
 have hm : ∀e,e∈W.map gL↔e∈Es:=λe=>by
  rw [hE e,QbI];exact ⟨λ⟨w,hw,h⟩=>by rw [← h,qm];exact hw,λh=>⟨e.swap,h,qm e⟩⟩
 have Yy:mt Es T (λd => - an dQ d) (sR T (W.map gL) n λd => - an dQ d):=⟨k3.le,λd=>(k3.sp d).imp id λ⟨e,a1,a2⟩=>⟨e,(hm e).mp a1,a2⟩⟩;have jN : ∀e∈Es,Cl T (sR T (W.map gL) n λd => - an dQ d) e:=λe he=>k4 e ((hm e).mpr he) (by have:=wV e he;exact ft (.i (.a (.L .Z .A) (.a (.T .A .B) (.T .B (.k .A)))) (.t (.t (.s (.s (.k .A) .O) .A)) .A)) rfl this);have heq:=TE h4 Yy hc jN (λi=>(n-i).toNat) λe he=>by have:=wV e he;exact Lj this
 have Yz : ∀d,0≤d→an u d=an (iter (λl=>W.foldl (gZ T) l) n dQ) d:=λd hd=>by
  have a1:=h3 d hd;have a2:=k1 d hd;have a3:=heq d;dsimp only at a1 a2;exact ii (.i (.E (.g .A) .B) (.i (.E (.g .C) .D) (.i (.E .B .D) (.E .A .C)))) rfl a1 a2 a3
 refine ⟨?_,λd hd=>?_,λw hw=>?_,λd hd=>?_⟩
 ·refine QaQ (by rw [h2,k2]) λi tx mV=>?_
  have:=Yz i (gR)
  unfold an at this;rw [bY,au tx,au mV] at this;exact this
 ·have a1:=h3 d hd;have a2:=h4.le d;dsimp only at a1 a2;exact dq (.i (.E (.g .A) .B) (.i (.L (.g .C) .B) (.L .A .C))) rfl a1 a2
 ·have a1:=hc w.swap ((hE _).mpr (by rw [qm];exact hw))
  have:=hW w hw
  have a2:=h3 w.1 (EQ this);have a3:=h3 w.2 (rL this);unfold Cl at a1;dsimp only [gL] at a1 a2 a3;exact o7 (.i (.L (.a .A .B) .C) (.i (.E (.g .D) .C) (.i (.E (.g .F) .A) (.L .D (.s .F .B))))) rfl a1 a2 a3
 ·have a1:=h3 d hd;rcases Js h4 hc d with h | ⟨e,he,h6,h7⟩
  ·left;dsimp only at a1 h;exact dq (.i (.E (.g .A) .B) (.i (.E .B (.g .C)) (.E .A .C))) rfl a1 h
  ·right;have b1:=wV e he;have a2:=h3 e.1 (rL b1);refine ⟨e.swap,(hE e).mp he,h6,?_⟩;dsimp only [gL] at a1 a2 ⊢;exact o7 (.i (.E (.g .A) .B) (.i (.E .B (.a .C .D)) (.i (.E (.g .F) .C) (.E .A (.s .F .D))))) rfl a1 h7 a2
end
section
open PySem PySem.W PySem.W.X PyProof.Rows
variable {g:Gd}{A:bg}{L L' bX bF L₁ L₂ bH R:ae}{env:Env}{rest:List fK}{Q:oP→aU→Prop}
theorem TG: ∀{P:List Int} {vg:VG} {B:Nat},l4 vg B→l4 (P.foldl (λvg p=>dR (ik vg p) p λq=>(q.1,q.2++[k])) vg) (B+P.length):=by
 intro P
 induction P with
 | nil=>intro _ _ h;exact h
 | cons p P ih =>
  intro vg B h
  have:=ih ((h.yZ (k:=p)).upd (k:=p) (C:=B+1) (f:=λq=>(q.1,q.2++[k])) (Ey) λq hq=>by simp;exact EH hq)
  rw [cj,show B+(P.length+1)=B+1+P.length by exact bK (.e (.a .A (.a .B .O)) (.a (.a .A .O) .B)) rfl];exact this
variable {P:Nat→List Int}
theorem UM(hz : ∀i,(P i).length≤100): ∀m,l4 (iu P m) (100*m):=by
 intro m
 induction m with
 | zero=>exact λp h=>by cases h
 | succ m ih =>
  have h:=TG (k:=m) (P:=P m) (((ih).yZ (k:=m)).upd (k:=m) (C:=100*m) (f:=λq=>(q.1+(P m).length,q.2)) (cB _) λq hq=>hq);rw [DL];intro p hp
  have:=h p hp
  have:=hz m
  exact bB (.i (.l .A (.a (.m 100 .B) .C)) (.i (.l .C (.c 100)) (.l .A (.m 100 (.a .B .O))))) rfl (by assumption) this
theorem D3{n:Nat}{P:Nat→List Int}(hP : ∀i,i<n→∀k∈P i,0≤k∧k<n){m:Nat}(hm:m≤n):(iu P m).length≤n:=by
 refine kc (DZ (P:=P) m) λ_ _ h3 h4=>?_
 have:=Ak (m:=(aF n).map λ(i:Nat)=>(i:Int)) h4 λj hj=>by
  refine ap ((h3 j).mp hj) λi hi h=>?_;refine List.mem_map.mpr ⟨j.toNat,List.mem_range.mpr ?_,?_⟩
  ·rcases h with rfl | h
   ·exact bB (.i (.l .A .B) (.i (.t .C .A) (.t (.t (.k .C)) .B))) rfl hm hi
   ·have:=hP i (Bf hm hi) j h;exact sZ this
  ·rcases h with rfl | h
   ·exact bV (.E (.k (.t (.k .A))) (.k .A)) rfl
   ·have:=hP i (Bf hm hi) j h;exact Lh this
 simpa using this
theorem Id(X:gD g){n0:Nat}(hA:bZ (n0+4) A){n:Nat}(hn:n≤25){P:Nat→List Int}(hP : ∀i,i<n→∀k∈P i,0≤k∧k<n)(tH : ∀i,(P i).length≤100){ci x dx nd:ay}{o:Str}{iter ec:Expr}{q1 q5 q6 q7 q8 q9 Nk q11:Pos}
  (hit:jv g A ((ci,az none)::(cZ g X.D.TS X.D.NI x dx nd [] .none 0 0++R)) env iter ((jb 0 n).map .int) λM H=>M=(ci,az none)::(cZ g X.D.TS X.D.NI x dx nd [] .none 0 0++R)∧∀N,H N)
  (hcell:env.cells.lookup ("i":Str)=some ci) (Nl:env.kindOf ("i":Str)=some .cell) (qb:env.scope.kind = .function)
  (ho : ∀M,cu R M→PE g A M env (.Name o q5) (.ref x)) (hc : ∀M (i:Nat),cu R M→(ci,az (some (.int (i:Int))))∈M→i<n→NE g A M (eval ec env) (ai (P i)))
  (h : ∀ns,dc ns→bJ ns=iu P n→SX g A ((ci,az none)::(cZ g X.D.TS X.D.NI x dx nd ns .none 0 0++R)) env rest Q)
  (hbase:dW (.Name o q5) "add" env (eval (.Name o q5) env)=eval (.Name o q5) env)
  (hfew:i8 (((.Name "i" q7)::[Expr.Starred ec q8]).length+([]:List g0).length) (b6 q9 (aE ((.Name "i" q7)::[.Starred ec q8]) env)) (bj q9 (aO [] env))=false) (hst:(b6 q9 (aE ((.Name "i" q7)::[.Starred ec q8]) env)).any (·.1)=true)
  (he:aE ((.Name "i" q7)::[Expr.Starred ec q8]) env=(false,eval (.Name "i" q7) env)::aE [.Starred ec q8] env) (hs:aE (.Starred ec q8::[]) env=(true,eval ec env)::aE [] env)
  (hs2 : ∀x,dg iter env x=pure x) (hin:Qa2 env=false)
  (hsw:iw (.Call (.Attribute (.Name o q5) "add" q6) [.Name "i" q7,.Starred ec q8] [] q9) none Nk.line env=pure false) :
  SX g A ((ci,az none)::(cZ g X.D.TS X.D.NI x dx nd [] .none 0 0++R)) env (.For (.Name "i" q1) iter [.Expr (.Call (.Attribute (.Name o q5) "add" q6) [.Name "i" q7,.Starred ec q8] [] q9) Nk] [] q11::rest) Q:=by
 refine lu hit ?_ hs2;refine jE λH hH=>?_;refine ⟨List Nd,λk ns=>(ci,az none)::(cZ g X.D.TS X.D.NI x dx nd ns .none 0 0++R),λk ns=>dc ns∧bJ ns=iu P k,[],⟨m8,rfl⟩,.refl,λ_ _ _=>hH _,?turn,?done⟩
 case done =>
  rintro ns ⟨h1,h2⟩;have e:((jb 0 n).map AV.int).length=n:=pH 0 n;rw [e] at h2;exact h ns h1 h2
 case turn =>
  rintro k ns av lL ⟨h1,h2⟩ ia;refine b8 (nj lL) λhk af=>?_;subst af;refine ⟨ia::(ci,az (some (.int k)))::(cZ g X.D.TS X.D.NI x dx nd ns .none 0 0++R),jF (iy hcell (.tail .head) Nl qb),lp λQ1 jj=>?_⟩;refine dS (L:=cZ g X.D.TS X.D.NI x dx nd ns .none 0 0++(ia::(ci,az (some (.int k)))::R)) ?_ (aj.perm (bb _ [_,_] R));have hl:ns.length≤n:=by
   have:=D3 hP (m:=k) (J9 hk)
   rw [← h2] at this;unfold bJ at this;rw [ar] at this;exact this
  have Nm:=tH k;refine pJ (PP X.T X.D X.M5 X.M6 (n:=n0) (k:=(k:Int)) (er:=P k) hA h1 (bB (.i (.l .A (.c 25)) (.i (.l .B .A) (.i (.l .C (.c 100)) (.l (.a .B .C) (.c 900))))) rfl hn hl Nm) (B:=100*k) (by rw [h2];exact UM tH k) (bB (.i (.l .A (.c 25)) (.i (.t .B .A) (.i (.l .C (.c 100)) (.l (.a (.m 100 .B) .C) (.c 90000))))) rfl hn hk Nm) (ho _ λq hq=>ag _ (md 2 hq)) (λq=>dZ hcell (.tail _ (ag _ (mi 1 rfl))) qb Nl) (λq=>hc _ k (λq hq=>.tail _ (ag _ (md 2 hq))) (.tail _ (ag _ (mi 1 rfl))) hk) hbase hfew hst he hs) ?_ hin hsw;rintro v M ⟨rfl,aX,k1,k2,rfl⟩;refine eJ λs S=>jj _ _ ⟨aX,⟨k1,by rw [k2,h2,DL]⟩,?_⟩;refine (S.cX (L':=ia::(ci,az (some (.int k)))::(cZ g X.D.TS X.D.NI x dx nd aX .none 0 0++R)) (aj.perm (bb (cZ g X.D.TS X.D.NI x dx nd aX .none 0 0) [_,_] R).symm)).cX (aj.pick .head iI (aj.pick .head (λo' h=>?_) .refl));refine ap h λw h1 _=>?_;exact ⟨w,h1,λ_ e=>nomatch e⟩
noncomputable abbrev pc(X:gD g)(F c1 c2 c3:ay)(kV doc pm ct:aq):Env:=ol (gy (top 16) "_law_course" "_law_course" .none kV doc pm (.ref X.cL) ct) X.fL F [("i",c3),("urges",c2),("firsts",c1)]
noncomputable abbrev hB:List fK:=ju (top 16)
noncomputable def iA(ws:List (Int×Int))(i:Nat):List Int:=(ws.filter λw=>decide (w.2=(i:Int))).map (·.1)
noncomputable def lx(ws:List (Int×Int))(i:Nat):List Int:=(ws.filter λw=>decide (w.1=(i:Int))).map (·.2)
theorem wE(X:gD g){F c1 c2 c3 fa wl:ay}{kV doc pm ct:aq}{n0:Nat}(hA:bZ (n0+4) A){m:List (Str×AV)}{firsts:List Int}{ws:List (Int×Int)}{dz:List (ay×List AV)}(hm:m.lookup ("wishes":Str)=some (AV.ref wl))
  (hn:firsts.length≤25) (hw:kq R wl dz ws) (pw:ws.length≤100) (hW : ∀w∈ws,0≤w.1∧w.1<firsts.length) (m3:(c1,az (some (.ref fa)))∈R) (m4:(fa,ai firsts)∈R)
  (h : ∀x dx nd ns,dc ns→bJ ns=iu (iA ws) firsts.length→SX g A ((c3,az none)::(cZ g X.D.TS X.D.NI x dx nd ns .none 0 0++((F,am (("sorter",.ref x)::("n",.int firsts.length)::m))::R))) (pc X F c1 c2 c3 kV doc pm ct) rest Q) :
  SX g A ((c3,az none)::(F,am m)::R) (pc X F c1 c2 c3 kV doc pm ct) (bA hB 0::bA hB 1::bA hB 2::rest) Q:=by
 have hh:=hA.handled;have e0:(firsts.map AV.int).length=firsts.length:=ar ..;refine iz (a:=.int firsts.length) (bX:=(c3,az none)::(F,am (("n",.int firsts.length)::m))::R) ?a1 (b7 (.tail .head)) ?_
 case a1 =>
  rw [← e0];exact AG (h1:=by rfl) (h2:=by rfl) (h3:=by rfl) (h4:=by rfl) (hE:=by rfl) (hs:=by rfl) X.T (l:=fa) (dZ (c:=c1) rfl (md 2 m3)) (md 2 m4) (yi hn e0)
 refine ic (An (kJ X.T.G X.D.FF (ha:=rfl)) (X.D.ts.kept X.D.TK) (Hq X.T X.D (n:=n0+2) (hA.le (Ll)))) ?_;refine CY λx dx nd=>?_;refine ⟨.ref x,cZ g X.D.TS X.D.NI x dx nd [] .none 0 0++((c3,az none)::(F,am (("sorter",.ref x)::("n",.int firsts.length)::m))::R),rfl,b7 (.cE (.tail .head)),?_⟩;refine dS (L:=(c3,az none)::(cZ g X.D.TS X.D.NI x dx nd [] .none 0 0++((F,am (("sorter",.ref x)::("n",.int firsts.length)::m))::R))) ?_ (aj.perm List.perm_middle.symm);have hP : ∀i,i<firsts.length→∀k∈iA ws i,0≤k∧k<firsts.length:=λi _ k hk=>by
  refine ap (List.mem_map.mp hk) λw hw af=>?_;subst af;exact hW w (List.mem_filter.mp hw).1
 have tH : ∀i,(iA ws i).length≤100:=λi=>by
  unfold iA;rw [ar];exact f9 (eT _ _) pw
 refine Id (hbase:=by rfl) (hfew:=by rfl) (hst:=by rfl) (he:=by rfl) (hs:=by rfl) (hs2:=by kst_p) (hin:=by rfl) (hsw:=by rfl) X hA hn hP tH (o:="sorter") ?b1 rfl rfl rfl ?b2 ?b3 (λns k1 k2=>h x dx nd ns k1 k2)
 case b1=>exact qG hh (pL X.T (bU (.tail _ (ag _ (.head _))) rfl)) (rM hn)
 case b2=>exact λM hi=>bU (hi _ (.head _)) rfl
 case b3 =>
  intro M i hi hc aY;refine H7 (hclos:=by rfl) (hkind:=by rfl) (hcell:=by rfl) (hnames:=by rfl) (hs:=by kst_p) hh (hw.inc λq hq=>hi _ (.tail _ hq)) (x8 pw) (λw=>decide (w.2=(i:Int))) (·.1) (cl:=[("i",c3)]) (bU (env:=pc X F c1 c2 c3 kV doc pm ct) (hi _ (.head _)) ?z1 rfl rfl (by decide)) (λ_=>rfl) (λ_=>rfl) ?z2 ?z3
  case z1=>exact hm
  case z2=>exact λC w acc ia=>eP (bU (mi 1 rfl) rfl) (dZ (c:=c3) rfl (md 3 hc)) qO
  case z3=>exact λC w acc ia=>bU (mi 1 rfl) rfl
end
section
open PySem PySem.W PySem.W.X PyProof.Rows
variable {g:Gd}{A:bg}{L L' bX bF L₁ L₂ bH R Y:ae}{env:Env}{rest:List fK}{Q:oP→aU→Prop}
variable {K:α→ae→Prop}{t:Sem α}
theorem GX.pre(h:GX g A L₁ t K)(p:aj L₁ L):GX g A L t K:=λs Q S k=>h s Q (S.cX p) k
noncomputable def Ck{α:Type}(env:List (List α))(l:List Nat)(t:List α):List α:=l.foldr (λc t=>env.getD c []++t) t
theorem mP(env:List (List α)){l l':List Nat}(t:List α)(h:l.isPerm l'=true):(Ck env l t).Perm (Ck env l' t):=by
 have e : ∀l:List Nat,Ck env l t=l.flatMap (λc=>env.getD c [])++t:=λl=>by
  induction l with
  | nil=>rfl
  | cons a l ih=>show _++Ck env l t=_;rw [ih,QaD,aH]
 rw [e,e];exact ((List.isPerm_iff.mp h).flatMap_right _).append_right t
theorem Wq{A B C D:List α}{p q r:α}:(B++(C++(r::((A++[p,q])++D)))).Perm (A++p::(B++(q::(C++(r::D))))):=by rw [aH];exact mP [[p],[q],[r],A,B,C] (l:=[4,5,2,3,0,1]) (l':=[3,0,4,1,5,2]) D rfl
noncomputable abbrev tj(c2 c':ay)(jy jz:aq):Obj:=zi "<lambda>" ("_law_course.<locals>." ++ "<lambda>") (A0 [⟨"a",none,⟨215,28,215,29⟩⟩,⟨"b",none,⟨215,31,215,32⟩⟩]) (.expr (.BinOp (.Subscript (.Name "urges" ⟨215,34,215,39⟩) (.Name "a" ⟨215,40,215,41⟩) ⟨215,34,215,42⟩) .Sub (.Subscript (.Name "urges" ⟨215,45,215,50⟩) (.Name "b" ⟨215,51,215,52⟩) ⟨215,45,215,53⟩) ⟨215,34,215,53⟩)) { kind:=.function,names:=[("a",.local),("b",.local),("urges",.free)],isGenerator:=false,isCoroutine:=false,more:=[] } [("urges",c2)] c' jy jz
theorem wF(X:gD g){F c1 c2 c3 ua:ay}{kV doc pm ct:aq}{n0:Nat}(hA:bZ (n0+2) A){Xc:ae}(hX:ml X.C.P0 jh qnK fC Xc){es:List (Pos×ay)}{m:List (Str×AV)}{dK:List Int}(hz:dK.length≤1000)
  (h : ∀(K:ay) (KV:ae→aq→Int→Prop) (Z eR:ae) (aT:List (Pos×ay)) (e:Pos×ay),ml X.C.P0 jh qnK fC eR→e∈aT→jd 3 g (eR++(Z++[(e.2,je (cD e.1)),(c2,az (some (.ref ua))),(ua,ai dK)])) (.ref K) (gA dK) (an dK) KV →
   SX g A (eR++(bM X.PL cD aT++((F,am (("key",.ref K)::m))::(Z++Y)))) (pc X F c1 c2 c3 kV doc pm ct) rest Q) :
  SX g A (Xc++(bM X.PL cD es++((F,am m)::Y))) (pc X F c1 c2 c3 kV doc pm ct) (bA hB 3::rest) Q:=by
 refine ic (lr (K:=λvs M=>∃(f c':ay) (aT:List (Pos×ay)) (jy jz:aq) (e:Pos×ay),vs=[.ref f]∧e∈aT∧e.2=c'∧cD e.1 = "_law_course.<locals>." ++ "<lambda>"∧M=Xc++((f,bW (tj c2 c' jy jz))::(bM X.PL cD aT++((F,am m)::Y))))
  (f:=.ref X.C.f) (K':=λv M=>∃(k:KP) (eR:ae) (f c':ay) (aT:List (Pos×ay)) (jy jz:aq) (e:Pos×ay),v = .ref k.C∧ml X.C.P0 jh qnK fC eR∧(k.c1,je "cmp_to_key.<locals>.K.__init__")∈eR∧(k.c2,je "cmp_to_key.<locals>.K.__lt__")∈eR∧e∈aT∧e.2=c'∧cD e.1 = "_law_course.<locals>." ++ "<lambda>"∧M=k.atoms++(k.cell,az (some (.val (.ref f))))::(eR++((f,bW (tj c2 c' jy jz))::(bM X.PL cD aT++((F,am m)::Y))))) ?a1 ?a2 ?a3) ?a4
 case a1=>exact kJ X.T.G X.nC (ha:=rfl)
 case a2 =>
  refine pK (K:=λv M=>∃(f c':ay) (aT:List (Pos×ay)) (jy jz:aq) (e:Pos×ay),v = .ref f∧e∈aT∧e.2=c'∧cD e.1 = "_law_course.<locals>." ++ "<lambda>"∧M=Xc++((f,bW (tj c2 c' jy jz))::(bM X.PL cD aT++((F,am m)::Y)))) ?b1 ?b2
  case b2 =>
   refine GR λf c' aT jy jz e h1 h2 h3=>?_;exact pP.mono λvs N ⟨e1,e2⟩=>⟨f,c',aT,jy,jz,e,by rw [e1],h1,h2,h3,e2⟩
  case b1 =>
   refine pT (GX.pre (L₁:=bM X.PL cD es++(Xc++((F,am m)::Y))) (Hx X.T.G X.C.B (c:=X.cL) (cl:=[("urges",c2)]) rfl rfl (oC.top X.FS X.A1.choose_spec.choose_spec.choose_spec.2.1) (λp=>by kernel_rfl) rfl (by kernel_rfl)) (aj.perm (bb _ _ _))) ?_;refine GQ λf c' aT jy jz eM _=>?_;refine du eM λe h1 h2 h3=>?_;exact ⟨_,⟨f,c',aT,jy,jz,e,rfl,h1,h2,h3,rfl⟩,aj.perm (sv bq (mw _ (bb _ _ _)))⟩
 case a3 =>
  refine GR λf c' aT jy jz e h1 h2 h3=>?_;refine wf X.C.fn λo Cf Bq B4 B5 d1 d2 d3=>?_;refine ⟨pN (.top d1 d2) d3,GX.mono (Uo X.C hA hX) ?_⟩;refine OC λk eR k1 k2 k3=>?_;exact ⟨k,eR,f,c',aT,jy,jz,e,rfl,k1,k2,k3,h1,h2,h3,rfl⟩
 case a4 =>
  intro v M bz;obtain ⟨k,eR,f,c',aT,jy,jz,e,rfl,k1,k2,k3,h1,h2,h3,rfl⟩:=bz;refine ⟨.ref k.C,k.atoms++(k.cell,az (some (.val (.ref f))))::(eR++((f,bW (tj c2 c' jy jz))::(bM X.PL cD aT++((F,am (("key",.ref k.C)::m))::Y)))),rfl,b7 (.cE (.tail (.cE (.tail (.cE .head))))),?_⟩;let bF:ae:=eR++((k.atoms++[(k.cell,az (some (.val (.ref f)))),(f,bW (tj c2 c' jy jz))])++[(e.2,je (cD e.1)),(c2,az (some (.ref ua))),(ua,ai dK)]);have i0 : ∀q∈(k.atoms++[(k.cell,az (some (.val (.ref f)))),(f,bW (tj c2 c' jy jz))])++[(e.2,je (cD e.1)),(c2,az (some (.ref ua))),(ua,ai dK)],q∈bF:=λq hq=>ag _ hq;have YA:AZ 1 g bF (.ref f) (gA dK) (an dK):=by
   have hf:(f,bW (tj c2 c' jy jz))∈bF:=i0 _ (ao _ (ag _ (mi 1 rfl)));refine XZ (ls:=ua) hf ?x2 (i0 _ ?x3) (i0 _ ?x4) (jZ hz)
   case x2=>rw [← h2,← h3];exact i0 _ (ag _ (.head _))
   case x3=>exact ag _ (mi 1 rfl)
   case x4=>exact ag _ (mi 2 rfl)
  have fV:=XX (k:=k) YA (λq hq=>i0 q (ao _ (ao _ hq))) (i0 _ (ao _ (ag _ (.head _)))) (ao _ k2) (ao _ k3);refine dS (h k.C _ (k.atoms++[(k.cell,az (some (.val (.ref f)))),(f,bW (tj c2 c' jy jz))]) eR aT e k1 h1 fV) (aj.perm ?_);exact Wq
theorem Pf(n:Nat):jb 0 n=(aF n).map λ(i:Nat)=>(i:Int):=by
 unfold jb;refine dD λi _=>?_;exact bV (.E (.a .Z (.k .A)) (.k .A)) rfl
theorem hd3(X:gD g){c3:ay}(hh:A.handled=none)(h1:m.lookup ("n":Str)=some (AV.int n))(h2:m.lookup ("takes":Str)=some (AV.ref ta))(m3:(c1,az (some (.ref fa)))∈Y)(m4:(fa,ai firsts)∈Y)(m5:(ta,ai takes)∈Y)
  (hn:n≤25) (hf:firsts≠[]) (htz:takes.length≤1000)
  (h : ∀rw dk lf en lo,lo∈firsts→(∀a∈firsts,lo≤a)→SX g A ((en,aM ((dM n none).map fF))::(lf,ai takes)::(dk,ai [])::(rw,ai ((aF n).map λ(i:Nat)=>(i:Int)))::(F,am (("now",.int lo)::("ends",.ref en)::("left",.ref lf)::("desk",.ref dk)::("out",.int 0)::("seen",.int 0)::("row",.ref rw)::m))::Y) (pc X F c1 c2 c3 kV doc pm ct) rest Q) :
  SX g A ((F,am m)::Y) (pc X F c1 c2 c3 kV doc pm ct) (bA hB 4::bA hB 5::bA hB 6::bA hB 7::bA hB 8::bA hB 9::bA hB 10::rest) Q:=by
 refine ic (K:=λv M=>∃rw,v = .ref rw∧M=(rw,ai (jb 0 n))::(F,am m)::Y) (lr (K:=λvs M=>∃r,vs=[.ref r]∧M=(r,uv 0 n)::(F,am m)::Y) (gQ X.T (by k_mem)) ?a1 ?a2) ?a3
 case a1 =>
  refine pK (GX.se (pL X.T (bU (.head _) h1))) ?_;refine fh λr=>?_;exact pP.mono λvs N ⟨e1,e2⟩=>⟨r,by rw [e1],e2⟩
 case a2 =>
  refine fh λr=>?_;refine ⟨gp λ_ x=>(by cases x),pT (R4 hh (.head _) (rM hn)) ?_⟩;refine fh λD=>?_;exact ⟨_,⟨D,rfl,rfl⟩,aj.pick .head iI (.skip .refl)⟩
 case a3 =>
 refine fh λjn=>?_;refine ⟨.ref jn,_,rfl,b7 (.tail .head),?_⟩;rw [Pf];refine iz (a:=.int 0) gP (b7 (.tail .head)) ?_;refine iz (a:=.int 0) gP (b7 (.tail .head)) ?_;refine ic AO ?_;refine fh λdk=>?_;refine ⟨.ref dk,_,rfl,b7 (.tail (.tail .head)),?_⟩;refine ic (K:=λv M=>∃lf,v = .ref lf∧M=(lf,ai takes)::(dk,ai [])::(jn,ai ((aF n).map λ(i:Nat)=>(i:Int)))::(F,am (("desk",.ref dk)::("out",.int 0)::("seen",.int 0)::("row",.ref jn)::m))::Y) (lr (K:=λvs M=>bP vs [.ref ta]∧M=(dk,ai [])::(jn,ai ((aF n).map λ(i:Nat)=>(i:Int)))::(F,am (("desk",.ref dk)::("out",.int 0)::("seen",.int 0)::("row",.ref jn)::m))::Y) (gQ X.T (by k_mem)) ?b1 ?b2) ?b3
 case b1=>exact jH (b9 (bU (mi 2 rfl) h2) dh)
 case b2 =>
  intro vs;refine fT λbk=>?_;refine ap bk.one λv af hv=>?_;subst af;cases AV.cW hv;exact ⟨gp λ_ x=>(by cases x),DC (md 3 m5) (by simp;exact jZ htz)⟩
 case b3 =>
 refine fh λlf=>?_;refine ⟨.ref lf,_,rfl,b7 (.tail (.tail (.tail .head))),?_⟩;refine ic (K:=λv M=>∃en,v = .ref en∧M=(en,aM ((dM n none).map fF))::(lf,ai takes)::(dk,ai [])::(jn,ai ((aF n).map λ(i:Nat)=>(i:Int)))::(F,am (("left",.ref lf)::("desk",.ref dk)::("out",.int 0)::("seen",.int 0)::("row",.ref jn)::m))::Y)
  (AF (K:=λv M=>∃l1,v = .ref l1∧M=(l1,aM [.none])::(lf,ai takes)::(dk,ai [])::(jn,ai ((aF n).map λ(i:Nat)=>(i:Int)))::(F,am (("left",.ref lf)::("desk",.ref dk)::("out",.int 0)::("seen",.int 0)::("row",.ref jn)::m))::Y) (K':=λv w M=>∃l1,v = .ref l1∧AV.Is w (.int n)∧M=(l1,aM [.none])::(lf,ai takes)::(dk,ai [])::(jn,ai ((aF n).map λ(i:Nat)=>(i:Int)))::(F,am (("left",.ref lf)::("desk",.ref dk)::("out",.int 0)::("seen",.int 0)::("row",.ref jn)::m))::Y) ?c1 ?c2 ?c3) ?c4
 case c1=>exact xq (b9 oi dh) (aZ rfl)
 case c2 =>
  refine fh λl1=>?_;intro s Q S k;exact bU (env:=pc X F c1 c2 c3 kV doc pm ct) (m:=("left",.ref lf)::("desk",.ref dk)::("out",.int 0)::("seen",.int 0)::("row",.ref jn)::m) (a:=.int n) (mi 4 rfl) h1 rfl rfl (by decide) s Q cU S λw s' hw S'=>k w _ s' ⟨l1,rfl,hw,rfl⟩ S'
 case c3 =>
  refine OH λw l1 hw=>?_;refine pT (R5 (n:=n) (.head _) hw rfl (ye hn)) ?_;refine fh λD=>?_;refine ⟨_,⟨D,rfl,rfl⟩,?_⟩;rw [List.map_replicate];exact aj.pick .head iI (.skip .refl)
 case c4 =>
 refine fh λen=>?_;refine ⟨.ref en,_,rfl,b7 (.tail (.tail (.tail (.tail .head)))),?_⟩;refine ic (lr (K:=λvs M=>bP vs [.ref fa]∧M=(en,aM ((dM n none).map fF))::(lf,ai takes)::(dk,ai [])::(jn,ai ((aF n).map λ(i:Nat)=>(i:Int)))::(F,am (("ends",.ref en)::("left",.ref lf)::("desk",.ref dk)::("out",.int 0)::("seen",.int 0)::("row",.ref jn)::m))::Y) (K':=λv M=>(∃m,AV.Is v (.int m)∧m∈firsts∧∀a∈firsts,m≤a)∧M=(en,aM ((dM n none).map fF))::(lf,ai takes)::(dk,ai [])::(jn,ai ((aF n).map λ(i:Nat)=>(i:Int)))::(F,am (("ends",.ref en)::("left",.ref lf)::("desk",.ref dk)::("out",.int 0)::("seen",.int 0)::("row",.ref jn)::m))::Y) (gQ X.T (by k_mem)) ?d1 ?d2) ?d3
 case d1=>exact jH (b9 (dZ (c:=c1) rfl (md 5 m3)) dh)
 case d2 =>
  intro vs;refine fT λbk=>?_;refine ap bk.one λv af hv=>?_;subst af;cases AV.cW hv;exact ⟨gp λ_ x=>(by cases x),Jk hh (md 5 m4) hf⟩
 case d3 =>
 rintro v M ⟨⟨lo,hv,k1,k2⟩,rfl⟩;exact ⟨.int lo,_,hv,b7 (.tail (.tail (.tail (.tail .head)))),h jn dk lf en lo k1 k2⟩
theorem jg.IV(h:jg A L){f:ay}{M:ae}(hi:cu L M)(hF:(F,am m)∈M)(hk:fd.scope.kind = .function:=by rfl):jg (A.deeper (ol fd f F cs)) M:=by
 refine ap h λenvs h1 h2=>?_;refine ⟨ol fd f F cs::envs,?_,λe he=>?_⟩
 ·show A.frames.map _=_
  rw [h1];rfl
 ·rcases List.mem_cons.mp he with rfl | he
  ·exact ⟨hk,F,m,rfl,hF⟩
  ·refine b8 (h2 e he) λh3 Wr=>?_;refine cp Wr λF' m' h4 h5=>?_;exact ⟨h3,F',m',h4,hi _ h5⟩
theorem Sm:∀{vg:VG},(vg.map (·.1)).Nodup→∀p∈vg,eC vg p.1=p.2.2:=by
 intro vg
 induction vg with
 | nil=>intro _ p h;cases h
 | cons q vg ih =>
  intro hn p h;refine b8 (List.nodup_cons.mp hn) λh1 h2=>?_;unfold eC;rw [dJ];rcases List.mem_cons.mp h with rfl | h
  ·simp
  ·have e:¬q.1=p.1:=λe=>h1 (by dsimp only;rw [e];exact List.mem_map.mpr ⟨p,h,rfl⟩);simp only [e,decide_false];exact ih h2 p h
variable {P:Nat→List Int}
theorem Jt(hn:n≤1000)(hP : ∀i,i<n→∀k∈P i,0≤k∧k<n)(r:Int→Int)(hr : ∀i,i<n→∀k∈P i,r k<r i):zg (iu P n):=by
 refine kc (DZ (P:=P) n) λh1 h2 h3 h4=>?_;refine ⟨f9 (D3 hP (cB n)) hn,r,λp hp c hc=>?_⟩;rw [← Sm h4 p hp,h2] at hc;refine ap (List.mem_map.mp hc) λe he af=>?_;subst af;refine b8 (List.mem_filter.mp he) λhe e1=>?_;have e1:e.1=p.1:=by simpa using e1
 refine du (AP.mp he) λi hi a b=>?_;constructor
 ·refine ap (List.mem_map.mp ((h3 e.2).mpr ⟨i,hi,.inl a⟩)) λq hq e2=>?_;exact ⟨q,hq,e2⟩
 ·rw [← e1,a];exact hr i hi _ b
theorem Ie(X:gD g){n0:Nat}(hA:bZ (n0+3) A){x dx nd:ay}{ns:List Nd}{o:Expr}{apos pos:Pos}(iq:jg A L)(hk:dc ns)(hP:zg (bJ ns))(ho:PE g A (cZ g X.D.TS X.D.NI x dx nd ns .none 0 0++L) env o (.ref x))
  (hbase:dW o "prepare" env (eval o env)=eval o env)
  (hfew:i8 (([]:List Expr).length+([]:List g0).length) (b6 pos (aE [] env)) (bj pos (aO [] env))=true) (hline:(apos.endLine==pos.line)=true) :
  GX g A (cZ g X.D.TS X.D.NI x dx nd ns .none 0 0++L) (eval (.Call (.Attribute o "prepare" apos) [] [] pos) env) λv M=>v = .none∧∃rl,M=bQ g X.D.TS X.D.NI x dx nd ns rl (gw (bJ ns)) 0 0 L:=by
 refine yk X.D.yu.fn λof dV kV doc pm cq ct h1 h2 h3 _=>?_;refine Dz (m:=gO nd .none 0 0) (sl:=[]) X.D.TK X.D.lI ho (.head _) (mi 1 rfl) rfl X.D.yu.find X.D.yu.typ (pN (.top h1 h2) h3) (GX.rf (ST X.T X.D (n:=n0+1) (hA.le (bV (.l (.a (.a .A .O) .O) (.a .A (.c 3))) rfl)) (Uj X.T X.D (n:=n0)) iq hk hP ?_ rfl)) hbase hfew hline
 have:=hP.1
 unfold bJ at this;rw [ar] at this;exact this
theorem Ws{e1 e2 e3 e4 e5 e6 rl ia:α}{T S R:List α}:(T++(e1::e2::e3::e4::e5::e6::(S++(rl::ia::R)))).Perm (ia::(T++(e1::e2::e3::e4::e5::e6::(S++(rl::R))))):=mP [T,[e1],[e2],[e3],[e4],[e5],[e6],S,[rl],[ia]] (l:=[0,1,2,3,4,5,6,7,8,9]) (l':=[9,0,1,2,3,4,5,6,7,8]) R rfl
theorem Ef{X:gD g}{a:j6}{ia:fN}{c:CS}{es:List (Pos×ay)}{ns:List Nd}:(oD X a (ia::R) c es ns).Perm (ia::oD X a R c es ns):=Ws
theorem hd5(X:gD g){a:j6}{kV doc pm ct:aq}{n0:Nat}(hA:bZ (n0+9) A){firsts takes dK:List Int}{Es:List (Int×Int)}{ea:Int→Int}{lo:Int}{KV:ae→aq→Int→Prop}(fV:jd 3 g bF (.ref a.K) (gA dK) (an dK) KV){rI:List (Pos×ay)}(eV : ∀aT,(∀e∈rI,e∈aT)→cu bF (bM X.PL cD aT++R))(m3:(a.c1,az (some (.ref a.fa)))∈R)(m4:(a.fa,ai firsts)∈R)
  (hf:firsts.length=a.n) (hu:dK.length=a.n) (hn:a.n≤25) (hP:CP a.n Es (an firsts) (an takes) (an dK) ea lo) {c:CS} (hc:CI a.n Es (an firsts) (an takes) (an dK) ea a.bh lo 0 c)
  (wy : ∀c,CI a.n Es (an firsts) (an takes) (an dK) ea a.bh lo (2*a.n) c→¬c.f<c.p∧c.rd=[])
  {es:List (Pos×ay)} (iO : ∀e∈rI,e∈es) {ns:List Nd} (hk:dc ns) (hv:bJ ns=c.vg) :
  SX g A (oD X a R c es ns) (cY X a kV doc pm ct) [bA hB 12,bA hB 13] λfl s'=>match fl with
   | .ret v=>∃(t:ay) (aT:List (Pos×ay)) (c':CS),v = .ref t∧CI a.n Es (an firsts) (an takes) (an dK) ea a.bh lo (2*a.n) c'∧St g ((t,cg [.ref a.rw,.ref a.en])::(a.rw,ai c'.row)::(a.en,aM (c'.ends.map fF))::(bM X.PL cD aT++R)) s'
   | _=>False:=by
 have hh:=hA.handled;refine lu (xs:=(jb 0 (2*a.n)).map .int) (qG hh (pL X.T ?he) (bV (.i (.l .A (.c 25)) (.l (.m 2 .A) (.c 100000))) rfl hn)) ?_
 case he =>
  have e:(2:Int)*(a.n:Int)=((2*a.n:Nat):Int):=bV (.E (.m 2 (.k .A)) (.k (.m 2 .A))) rfl;rw [← e];exact jX gP (bU (ag _ (.head _)) rfl) (AC (qC (by decide)))
 refine jE λH hH=>?_;refine ⟨CS×List (Pos×ay)×List Nd,λk x=>oD X a R x.1 x.2.1 x.2.2,λk x=>CI a.n Es (an firsts) (an takes) (an dK) ea a.bh lo k x.1∧(∀e∈rI,e∈x.2.1)∧dc x.2.2∧bJ x.2.2=x.1.vg,(c,es,ns),⟨hc,iO,hk,hv⟩,.refl,λ_ _ _=>hH _,?turn,?done⟩
 case turn =>
  intro k bz;obtain ⟨c,es,ns⟩:=bz;intro av lL eM;refine kc eM λhc iO hk hv=>?_;intro ia;refine ⟨_,jF (b7 (env:=cY X a kV doc pm ct) (.tail (.cE .head))),?_⟩;dsimp only at hc iO hk hv;refine dS (L:=ia::oD X a R c es ns) ?_ (aj.pick .head iI (aj.mO (aj.pick .head (iE.ns (by k_upd)) .refl)));refine dS (L:=oD X a (ia::R) c es ns) ?_ (aj.perm Ef);intro s S;refine cw (Ty X (n:=n0) hA fV (R:=ia::R) (λaT h q hq=>?inc) (.tail _ m3) (.tail _ m4) hf hu hn (hc.ok hP) iO hk hv s S) (λfl s' hq=>?_) λ_ _ x=>x
  case inc =>
   rcases List.mem_append.mp (eV aT h q hq) with h | h
   ·exact ao _ h
   ·exact ag _ (.tail _ h)
  cases fl with
  | brk=>exact hq.elim
  | ret v=>exact hq.elim
  | next =>
   refine tc hq λaT aX h1 h2 h3 h4=>?_;exact ⟨(_,aT,aX),⟨hc.step hP,h1,h2,h3⟩,h4.perm Ef⟩
  | cont =>
   refine tc hq λaT aX h1 h2 h3 h4=>?_;exact ⟨(_,aT,aX),⟨hc.step hP,h1,h2,h3⟩,h4.perm Ef⟩
 case done =>
  intro bz;obtain ⟨c,es,ns⟩:=bz;intro eM;refine kc eM λhc iO hk hv=>?_;have e:((jb 0 (2*a.n)).map AV.int).length=2*a.n:=pH 0 (2*a.n);rw [e] at hc;dsimp only at hc ⊢;refine b8 (wy c hc) λf1 f2=>?_;refine dS (L:=(bM X.PL cD es++[(a.F,am (a.names c.pre.length (c.pre.length+c.win.length) c.now)),(a.c3,az none),(a.rw,ai c.row),(a.dk,ai c.dp),(a.lf,ai c.left),(a.en,aM (c.ends.map fF))])++bQ g X.D.TS X.D.NI a.x a.dx a.nd ns a.rl c.rd c.p c.f R) ?_ (aj.perm (by rw [aH];exact dH _));have hF : ∀{M:ae},(a.F,am (a.names c.pre.length (c.pre.length+c.win.length) c.now))∈(bM X.PL cD es++[(a.F,am (a.names c.pre.length (c.pre.length+c.win.length) c.now)),(a.c3,az none),(a.rw,ai c.row),(a.dk,ai c.dp),(a.lf,ai c.left),(a.en,aM (c.ends.map fF))])++M:=ao _ (ag _ (.head _));refine Iq (P:=cg [.ref a.rw,.ref a.en]) (vM (b9 (bU hF rfl) (b9 (HJ (b:=false) (vL (he:=by kst_p) ?act) (λh=>nomatch h) λ_=>bU hF rfl) dh)) (aZ rfl)) λt s S=>?_
  case act =>
   have e:(decide (c.f<c.p) || !c.rd.isEmpty)=false:=by rw [f2];simpa using f1
   rw [← e];exact Dq (hbase:=by rfl) (hfew:=by rfl) (hline:=by rfl) X (n:=n0) (hA.le (EM)) (by rw [f2];exact cM _) (bU hF rfl)
  refine ⟨t,es,c,rfl,hc,S.cX ?_⟩;refine aj.pick .head iI (aj.pick (.oA (.cE (.tail (.tail .head)))) iI (aj.pick (.oA (.cE (.tail (.tail (.tail (.tail .head)))))) iI ?_));rw [aH];unfold bQ;exact aj.mO (.skip (.skip (.skip (.skip (aj.cE (K:=cZ g X.D.TS X.D.NI a.x a.dx a.nd ns (.ref a.rl) c.p c.f) (.skip .refl))))))
section
variable {α:Type}{A B C D E G:List α}{p q r s t u:α}
theorem YB:(p::q::r::s::(A++(B++C))).Perm (p::s::q::r::(A++(B++C))):=mP [[p],[q],[r],[s],A,B] (l:=[0,1,2,3,4,5]) (l':=[0,3,1,2,4,5]) C rfl
theorem YC:(p::(A++(s::q::r::(B++(C++D))))).Perm (B++(C++(s::(p::(A++(q::r::D)))))):=mP [[p],[q],[r],[s],A,B,C] (l:=[0,4,3,1,2,5,6]) (l':=[5,6,3,0,4,1,2]) D rfl
theorem YD:(A++(B++(p::C))).Perm (p::(A++(B++C))):=mP [[p],A,B] (l:=[1,2,0]) (l':=[0,1,2]) C rfl
theorem YE{e1 e2 e3 e4 e5 c1 c2 c3:α}{X T Z S R:List α}:(e1::e2::e3::e4::e5::(X++(T++(Z++(c3::(S++(c2::c1::R))))))).Perm (S++(e1::e2::e3::e4::e5::(X++(T++(Z++(c3::c2::c1::R)))))):=mP [[e1],[e2],[e3],[e4],[e5],X,T,Z,[c3],S,[c2],[c1]] (l:=[0,1,2,3,4,5,6,7,8,9,10,11]) (l':=[9,0,1,2,3,4,5,6,7,8,10,11]) R rfl
theorem YF{e1 e2 e3 e4 e5 c1 c2 c3 rl:α}{X T Z S R:List α}:(S++(rl::(e1::e2::e3::e4::e5::(X++(T++(Z++(c3::c2::c1::R))))))).Perm (T++(e5::c3::e4::e3::e2::e1::(S++(rl::(X++(Z++(c2::c1::R))))))):=mP [S,[rl],[e1],[e2],[e3],[e4],[e5],X,T,Z,[c3],[c2],[c1]] (l:=[0,1,2,3,4,5,6,7,8,9,10,11,12]) (l':=[8,6,10,5,4,3,2,0,1,7,9,11,12]) R rfl
theorem YG{e1 e2 e3 c1 c2:α}{X T Z R:List α}:(e1::e2::e3::(T++(X++(Z++(c2::c1::R))))).Perm (e1::e2::e3::(Z++(c2::c1::(X++(T++R))))):=mP [[e1],[e2],[e3],T,X,Z,[c2],[c1]] (l:=[0,1,2,3,4,5,6,7]) (l':=[0,1,2,5,6,7,4,3]) R rfl
end
variable {e:Int×Int}
theorem xy(hW : ∀w∈ws,0≤w.1∧w.1<w.2∧w.2<n):e∈EL (iA ws) n↔e∈ws:=by
 rw [AP];constructor
 ·rintro ⟨i,hi,h1,h2⟩;refine ap (List.mem_map.mp h2) λw hw h3=>?_;refine b8 (List.mem_filter.mp hw) λhw h4=>?_;have h4:w.2=(i:Int):=by simpa using h4
  have:w=e:=Qbd h3 (by rw [h4,h1])
  rw [← this];exact hw
 ·intro he
  have:=hW e he
  refine ⟨e.2.toNat,Li this,ft (.i (.a (.L .Z .A) (.a (.T .A .B) (.T .B (.k .A)))) (.E .B (.k (.t .B)))) rfl this,List.mem_map.mpr ⟨e,List.mem_filter.mpr ⟨he,?_⟩,rfl⟩⟩;simp;exact ft (.i (.a (.L .Z .A) (.a (.T .A .B) (.T .B (.k .A)))) (.E .B (.x .B .Z))) rfl this
variable {ea:Int→Int}
theorem HG(X:gD g){n0:Nat}(hA:bZ (n0+10) A)(iq:jg A R){Xc:ae}(hX:ml X.C.P0 jh qnK fC Xc)
  (m1:(fa,ai firsts)∈R) (m2:(ta,ai takes)∈R) (m3:(ua,ai dK)∈R) (hw:kq R wl dz ws)  (hf:firsts.length=n) (ht:takes.length=n) (hu:dK.length=n) (hn:n≤25) (jl:0<n) (pw:ws.length≤100) (hW : ∀w∈ws,0≤w.1∧w.1<w.2∧w.2<n)
  (hP : ∀lo,lo∈firsts→(∀a∈firsts,lo≤a)→CP n (EL (iA ws) n) (an firsts) (an takes) (an dK) ea lo) (pj : ∀i:Int,0≤i→i<n→ea i=an firsts i∨∃e∈EL (iA ws) n,e.2=i∧ea i=ea e.1+an takes e.1)
   (bk:bP vs [.ref fa,.ref ta,.ref wl,.ref ua,.bool b]) :
  GX g A (Xc++(bM X.PL cD es++R)) (call (.ref X.fL) vs) λv M=>∃(t ra na:ay) (eR:ae) (aT:List (Pos×ay)) (c:CS) (lo:Int),v = .ref t∧ml X.C.P0 jh qnK fC eR∧CP n (EL (iA ws) n) (an firsts) (an takes) (an dK) ea lo∧CI n (EL (iA ws) n) (an firsts) (an takes) (an dK) ea b lo (2*n) c∧M=(t,cg [.ref ra,.ref na])::(ra,ai c.row)::(na,aM (c.ends.map fF))::(eR++(bM X.PL cD aT++R)):=by
 obtain ⟨v1,wL,rfl,mU,YH⟩ : ∃v1 wL,vs=v1::wL∧AV.Is v1 (.ref fa)∧bP wL [.ref ta,.ref wl,.ref ua,.bool b]:=by cases bk with | cons h t=>exact ⟨_,_,rfl,h,t⟩
 refine qT YH.four λv2 v3 v4 v5 af kh ty tz hv5=>?_;subst af;refine wf X.Cc λo kV doc pm ct ho fX hd=>?_;refine xL (hclo:=by rfl) (hco:=by rfl) (hgen:=by rfl) (binds:=[("firsts",v1),("takes",v2),("wishes",v3),("urges",v4),("behind",v5)]) (.top ho fX) hd rfl (.top (by obtain ⟨oc,F1,t,h⟩:=X.A1;exact ⟨X.cL,oc,F1,t,rfl,h⟩)) hA.room ?_ (λF=>[("i",F+1+1+1),("urges",F+1+1),("firsts",F+1)]) (λ_=>rfl) λF=>?_
 ·intro s S;exact dY rfl
 generalize (F+1+1+1:Nat)=c3;generalize (F+1+1:Nat)=c2;generalize (F+1:Nat)=c1;have fB:bZ (n0+9) (A.deeper (pc X F c1 c2 c3 kV doc pm ct)):=hA.deeper;show ∃L₂,BX g A.in1 (pc X F c1 c2 c3 kV doc pm ct) [("firsts",v1),("takes",v2),("wishes",v3),("urges",v4),("behind",v5)] ((c3,az none)::(c2,az none)::(c1,az none)::(F,am [])::(Xc++(bM X.PL cD es++R))) L₂∧SX g (A.deeper (pc X F c1 c2 c3 kV doc pm ct)) L₂ (pc X F c1 c2 c3 kV doc pm ct) [bA hB 0,bA hB 1,bA hB 2,bA hB 3,bA hB 4,bA hB 5,bA hB 6,bA hB 7,bA hB 8,bA hB 9,bA hB 10,bA hB 11,bA hB 12,bA hB 13] _
 refine ⟨_,BX.cons (iy rfl (.tail (.tail .head))) mU (BX.cons (b7 (.tail (.tail (.tail .head)))) kh (BX.cons (b7 (.tail (.tail (.tail .head)))) ty (BX.cons (iy rfl (.tail .head)) tz (BX.cons (b7 (.tail (.tail (.tail .head)))) hv5 BX.nil)))),?_⟩;have Cm : ∀i,i<n→∀k∈iA ws i,(0≤k∧k<n)∧k<i:=λi hi k hk=>by
  refine ap (List.mem_map.mp hk) λw hw af=>?_;subst af;refine b8 (List.mem_filter.mp hw) λhw e=>?_;have e:w.2=(i:Int):=by simpa using e
  have:=hW w hw
  exact kW (.i (.E .A (.k .A)) (.i (.a (.L .Z .B) (.a (.T .B .A) (.T .A (.k .B)))) (.a (.a (.L .Z .B) (.T .B (.k .B))) (.T .B (.k .A))))) rfl e this
 refine dS (L:=(c3,az none)::(F,am [("behind",.bool b),("wishes",.ref wl),("takes",.ref ta)])::(c2,az (some (.ref ua)))::(c1,az (some (.ref fa)))::(Xc++(bM X.PL cD es++R))) ?_ (aj.perm YB.symm);have iR : ∀{P Q:ae},cu R (P++(Q++R)):=λq hq=>ag _ (ag _ hq);refine wE X (n0:=n0) (fB.le (bV (.l (.a .A (.c 4)) (.a .A (.c 9))) rfl)) (wl:=wl) (fa:=fa) rfl (bK (.i (.e .A .B) (.i (.l .B (.c 25)) (.l .A (.c 25)))) rfl hf hn) (hw.inc λq hq=>.tail _ (.tail _ (iR q hq))) pw (λw hw=>by have:=hW w hw;exact kW (.i (.e .A .B) (.i (.a (.L .Z .A) (.a (.T .A .B) (.T .B (.k .B)))) (.a (.L .Z .A) (.T .A (.k .A))))) rfl hf this) (mi 1 rfl) (md 2 (iR _ m1)) λx dx nd ns k1 k2=>?_;rw [hf] at k2 ⊢;refine dS (L:=Xc++(bM X.PL cD es++((F,am (("sorter",.ref x)::("n",.int n)::[("behind",.bool b),("wishes",.ref wl),("takes",.ref ta)]))::((c3,az none)::(cZ g X.D.TS X.D.NI x dx nd ns .none 0 0++((c2,az (some (.ref ua)))::(c1,az (some (.ref fa)))::R)))))) ?_ (aj.perm YC.symm);refine wF X (n0:=n0) (fB.le (bV (.l (.a .A (.c 2)) (.a .A (.c 9))) rfl)) (ua:=ua) hX (dK:=dK) (uI hu hn) λK KV Z eR aT e q1 q2 q3=>?_;refine dS (L:=(F,am (("key",.ref K)::("sorter",.ref x)::("n",.int n)::[("behind",.bool b),("wishes",.ref wl),("takes",.ref ta)]))::(eR++(bM X.PL cD aT++(Z++((c3,az none)::(cZ g X.D.TS X.D.NI x dx nd ns .none 0 0++((c2,az (some (.ref ua)))::(c1,az (some (.ref fa)))::R))))))) ?_ (aj.perm YD.symm);have iS:cu ((c2,az (some (.ref ua)))::(c1,az (some (.ref fa)))::R) (eR++(bM X.PL cD aT++(Z++((c3,az none)::(cZ g X.D.TS X.D.NI x dx nd ns .none 0 0++((c2,az (some (.ref ua)))::(c1,az (some (.ref fa)))::R)))))):=λq hq=>ag _ (ag _ (ag _ (.tail _ (ag _ hq))));refine hd3 X (fa:=fa) (ta:=ta) (firsts:=firsts) (takes:=takes) (n:=n) fB.handled rfl rfl (iS _ (mi 1 rfl)) (iS _ (md 2 m1)) (iS _ (md 2 m2)) hn (by intro e;rw [e] at hf;simp at hf;exact bV (.i (.e .Z .A) (.i (.t .Z .A) .f)) rfl hf jl) (uI ht hn) λjn dk lf en lo l1 l2=>?_;have gW:ns.length≤1000:=by
  have:=D3 (λi hi k hk=>(Cm i hi k hk).1) (cB n)
  rw [← k2] at this;unfold bJ at this;rw [ar] at this;exact KT hn this
 let L4:ae:=(en,aM ((dM n none).map fF))::(lf,ai takes)::(dk,ai [])::(jn,ai ((aF n).map λ(i:Nat)=>(i:Int)))::(F,am (("now",.int lo)::("ends",.ref en)::("left",.ref lf)::("desk",.ref dk)::("out",.int 0)::("seen",.int 0)::("row",.ref jn)::("key",.ref K)::("sorter",.ref x)::("n",.int n)::[("behind",.bool b),("wishes",.ref wl),("takes",.ref ta)]))::(eR++(bM X.PL cD aT++(Z++((c3,az none)::(c2,az (some (.ref ua)))::(c1,az (some (.ref fa)))::R))));have iL:cu R L4:=λq hq=>.tail _ (md 4 (ag _ (ag _ (ag _ (.tail _ (.tail _ (.tail _ hq)))))));refine dS (L:=cZ g X.D.TS X.D.NI x dx nd ns .none 0 0++L4) ?_ (aj.perm YE.symm);refine pJ (Ie (hbase:=by rfl) (hfew:=by rfl) (hline:=by rfl) X (n0:=n0) (fB.le (bV (.l (.a .A (.c 3)) (.a .A (.c 9))) rfl)) (iq.IV iL (mi 4 rfl)) k1 (by rw [k2];exact Jt (ye hn) (λi hi k hk=>(Cm i hi k hk).1) id λi hi k hk=>(Cm i hi k hk).2) (bU (ag _ (mi 4 rfl)) rfl)) ?_;rintro v M ⟨rfl,rl,rfl⟩;rw [k2];let a:j6:=⟨F,c1,c2,c3,fa,ua,K,jn,dk,lf,en,x,dx,nd,rl,n,b⟩;let Rr:ae:=eR++(Z++((c2,az (some (.ref ua)))::(c1,az (some (.ref fa)))::R));have Nn:cu R Rr:=λq hq=>ag _ (ag _ (md 2 hq));have Cn:=hP lo l1 l2;have hCI:CI n (EL (iA ws) n) (an firsts) (an takes) (an dK) ea b lo 0 (wT n (iA ws) takes lo):=CI.start (λi hi k hk=>(Cm i hi k hk).1) ht (λi _=>by rw [aI]) Cn;have eV : ∀kY,(∀e'∈[e],e'∈kY)→cu (eR++(Z++[(e.2,je (cD e.1)),(c2,az (some (.ref ua))),(ua,ai dK)])) (bM X.PL cD kY++Rr):=λkY iO q hq=>by
  rcases List.mem_append.mp hq with hq | hq
  ·exact ag _ (ao _ hq)
  rcases List.mem_append.mp hq with hq | hq
  ·exact ag _ (ag _ (ao _ hq))
  rcases List.mem_cons.mp hq with rfl | hq
  ·exact ao _ (.tail _ (List.mem_map.mpr ⟨e,iO e (.head _),rfl⟩))
  rcases List.mem_cons.mp hq with rfl | hq
  ·exact ag _ (ag _ (ag _ (.head _)))
  ·rw [List.mem_singleton.mp hq];exact ag _ (Nn _ m3)
 unfold bQ;refine dS (L:=bM X.PL cD aT++(F,am (("now",.int lo)::("ends",.ref en)::("left",.ref lf)::("desk",.ref dk)::("out",.int 0)::("seen",.int 0)::("row",.ref jn)::("key",.ref K)::("sorter",.ref x)::("n",.int n)::[("behind",.bool b),("wishes",.ref wl),("takes",.ref ta)]))::(c3,az none)::(jn,ai ((aF n).map λ(i:Nat)=>(i:Int)))::(dk,ai [])::(lf,ai takes)::(en,aM ((dM n none).map fF))::(cZ g X.D.TS X.D.NI x dx nd ns (.ref rl) 0 0++((rl,ai (gw (iu (iA ws) n)))::Rr))) ?_ (aj.perm YF.symm);refine dS (L:=oD X a Rr (wT n (iA ws) takes lo) aT ns) ?_ (aj.mO (aj.pick .head (iE.ns (by k_upd)) .refl));intro s S;refine cw (hd5 X (a:=a) (n0:=n0) fB q3 (rI:=[e]) eV (ag _ (ag _ (mi 1 rfl))) (Nn _ m1) hf hu hn Cn hCI (λc hc=>by
  have:=hc.fin Cn pj
  exact ⟨this.1,this.2.1⟩) (λe' he=>by rw [List.mem_singleton.mp he];exact q2) k1 k2 s S) (λfl s' hq=>?_) λ_ _ x=>x
 cases fl with
 | ret v =>
  refine Lw hq λt kY c' af r1 r2=>?_;subst af;refine ⟨_,⟨t,jn,en,eR,kY,c',lo,rfl,q1,Cn,r1,rfl⟩,?_⟩;exact (r2.perm YG).cX (aj.pick .head iI (aj.pick .head iI (aj.pick .head iI (.cE (.skip (.skip .refl))))))
 | next=>exact hq.elim
 | brk=>exact hq.elim
 | cont=>exact hq.elim
end
section
open PySem PySem.W PySem.W.X PyProof.Rows
variable {g:Gd}{A:bg}{L L' bX bF L₁ L₂ bH nB R Y:ae}{env:Env}{rest:List fK}{Q:oP→aU→Prop}
theorem Sn{x y z u:Str}{p q r t' pos:Pos}{n:Nat}{t:ay}{a b c d:AV}(hh:A.handled=none)(ht:(t,cg [a,b,c,d])∈L)(h1:jx g A env x a L L₁)(h2:jx g A env y b L₁ L₂)(h3:jx g A env z c L₂ bH)(h4:jx g A env u d bH nB):
  l8 g A env (.Tuple [.Name x p,.Name y q,.Name z r,.Name u t'] n pos) (.ref t) L nB:=by
 intro v s Q hv S k;cases AV.cW hv;refine cp (pR S ht) λvs m h5 h6=>?_;refine qT h6.four λv1 v2 v3 v4 h7 mU kh ty tz=>?_;have hz:vs.size=4:=by rw [← aG,h7];rfl
 refine Qbn hh (ue h5) (by rw [hz];rfl) rfl λh' hx=>?_;have S':St g L { s with heap:=h' }:=S.keeps λc o e=>hx c o (lT (eu e)) e;rw [h7];show aJ _ _ (do holding [v2,v3,v4] (kG (.Name x p) env v1);pE [kG (.Name y q) env,kG (.Name z r) env,kG (.Name u t') env] [v2,v3,v4]) _ _ _
 refine ab (aK (eY (h1 v1 _ _ _ mU S' λaW aN=>?_)));show aJ _ _ (do holding [v3,v4] (kG (.Name y q) env v2);pE [kG (.Name z r) env,kG (.Name u t') env] [v3,v4]) _ _ _
 refine ab (aK (eY (h2 v2 _ _ _ kh aN λbu aS=>?_)));show aJ _ _ (do holding [v4] (kG (.Name z r) env v3);pE [kG (.Name u t') env] [v4]) _ _ _
 refine ab (aK (eY (h3 v3 _ _ _ ty aS λcC cJ=>?_)));show aJ _ _ (do holding [] (kG (.Name u t') env v4);pE [] []) _ _ _
 refine ab (aK (eY (h4 v4 _ _ _ tz cJ λgx eK=>?_)));exact ah (k gx eK)
theorem IW{t:Expr}(he:GX g A L (eval e env) K)(h : ∀v M,K v M→∃a bX,AV.Is v a∧l8 g A env t a M bX∧SX g A bX env rest Q)
  (ha:(assignEach [t] env).map (·.2)=[kG t env]) (hs:swapsWithSole [t] e pos.line env=pure false) (hw:swappedStores [t] e env=pure none):SX g A L env (.Assign [t] e pos::rest) Q :=
 i9 λs S=>wpAny_Assign_stores (he s _ S λv M s' hv S'=>by
  refine eQ (h v M hv) λa bX h1 h2 h3=>?_;rw [ha];exact h2 v s' _ h1 S' λnF pe=>h3 nF pe) hs hw
structure nD(g:Gd) where
 X:gD g
 fW:ay
 fE:ay
 fA:ay
 cA:ay
 wk:ma g (top 15) "_law_works" "_law_works" (λdV=>dV = .none) fW
 nd:ma g (top 17) "_law_end" "_law_end" (λdV=>dV = .none) fE
 nW:X.T.mg "_law_works"=some (.ref fW)
 nE:X.T.mg "_law_end"=some (.ref fE)
 nL:X.T.mg "_law_course"=some (.ref X.fL)
 fn : ∃o kV doc pm ct,g.dB.get? fA=some o∧fA∉g.tabs∧o.data = .func (gy (top 18) "law" "law" .none kV doc pm (.ref cA) ct)
 code : ∃o vs t,g.dB.get? cA=some o∧cA∉g.tabs∧o.data = .fields vs∧vs[1]?=some (.str "law" t)
structure LC where
 (F ck cd ci ca ce cl cr co cb:ay)
noncomputable def LC.cells(l:LC):List (Str×ay):=[("b",l.cb),("others",l.co),("row",l.cr),("late",l.cl),("early",l.ce),("a",l.ca),("i",l.ci),("dues",l.cd),("takes",l.ck)]
noncomputable abbrev eW(W:nD g)(l:LC)(kV doc pm ct:aq):Env:=ol (gy (top 18) "law" "law" .none kV doc pm (.ref W.cA) ct) W.fA l.F l.cells
noncomputable def LS(l:LC)(m:List (Str×AV))(i a e t r o b:Option AV)(ta da:ay)(Y:ae):ae :=
 (l.F,am m)::(l.ci,az i)::(l.ca,az a)::(l.ce,az e)::(l.cl,az t)::(l.cr,az r)::(l.co,az o)::(l.cb,az b)::(l.ck,az (some (.ref ta)))::(l.cd,az (some (.ref da)))::Y
noncomputable def By(l:LC)(sl:ay)(R:ae):ae:=(l.F,am [("script",.ref sl)])::(l.cb,az none)::(l.co,az none)::(l.cr,az none)::(l.cl,az none)::(l.ce,az none)::(l.ca,az none)::(l.ci,az none)::(l.cd,az none)::(l.ck,az none)::R
theorem YI{r f1 f2 f3 f4 F ci ca ce cl cr co cb ck cd:α}{T R:List α}:(r::f1::f2::f3::f4::(T++(F::cb::co::cr::cl::ce::ca::ci::cd::ck::R))).Perm (r::F::ci::ca::ce::cl::cr::co::cb::ck::cd::f1::f2::f3::f4::(T++R)):=mP [[r],[f1],[f2],[f3],[f4],T,[F],[cb],[co],[cr],[cl],[ce],[ca],[ci],[cd],[ck]] (l:=[0,1,2,3,4,5,6,7,8,9,10,11,12,13,14,15]) (l':=[0,6,13,12,11,10,9,8,7,15,14,1,2,3,4,5]) R rfl
noncomputable abbrev wB:List fK:=ju (top 18)
theorem YJ(W:nD g){l:LC}{kV doc pm ct:aq}{n0:Nat}(hA:bZ (n0+1) A){sl:ay}{sc:List Int}(hz:sc.length≤63)(m1:yl g sl (sc.map .int))
  (h : ∀fa ta da wl dz,kq ((wl,aM (cH dz))::d7 dz) wl dz (l3 sc)→SX g A (LS l [("n",.int (eN sc)),("wishes",.ref wl),("firsts",.ref fa),("script",.ref sl)] none none none none none none none ta da ((fa,ai (jG sc))::(ta,ai (jV sc))::(da,ai (ka sc))::(wl,aM (cH dz))::(d7 dz++R))) (eW W l kV doc pm ct) rest Q) :
  SX g A (By l sl R) (eW W l kV doc pm ct) (bA wB 0::bA wB 1::rest) Q:=by
 refine IW (ha:=by rfl) (hs:=by rfl) (hw:=by rfl) (lr (K:=λvs M=>bP vs [.ref sl]∧M=By l sl R) (K':=HN (By l sl R) sc) (kJ W.X.T.G W.nW (ha:=rfl)) (jH (b9 (bU (.head _) rfl) dh)) ?a1) ?a2
 case a1 =>
  intro vs;refine fT λbk=>?_;exact ⟨W.wk.kept,Rh W.X.T W.wk hA m1 (bV (.i (.l .A (.c 63)) (.l .A (.c 1000))) rfl hz) bk⟩
 case a2 =>
 refine OF λr fa ta da wl dz hwv=>?_;refine ⟨.ref r,_,rfl,Sn hA.handled (.head _) (b7 (.tail (.tail (.tail (.tail (.tail (.cE .head))))))) (iy (c:=l.ck) rfl (.tail (.tail (.tail (.tail (.tail (.cE (.tail (.tail (.tail (.tail (.tail (.tail (.tail (.tail (.tail .head)))))))))))))))) (iy (c:=l.cd) rfl (.tail (.tail (.tail (.tail (.tail (.cE (.tail (.tail (.tail (.tail (.tail (.tail (.tail (.tail .head))))))))))))))) (b7 (.tail (.tail (.tail (.tail (.tail (.cE .head))))))),?_⟩;refine dS (L:=(r,cg [.ref fa,.ref ta,.ref da,.ref wl])::LS l [("wishes",.ref wl),("firsts",.ref fa),("script",.ref sl)] none none none none none none none ta da ((fa,ai (jG sc))::(ta,ai (jV sc))::(da,ai (ka sc))::(wl,aM (cH dz))::(d7 dz++R))) ?_ (aj.perm YI.symm);refine dS (L:=LS l [("wishes",.ref wl),("firsts",.ref fa),("script",.ref sl)] none none none none none none none ta da ((fa,ai (jG sc))::(ta,ai (jV sc))::(da,ai (ka sc))::(wl,aM (cH dz))::(d7 dz++R))) ?_ (.skip .refl);have e0:((jG sc).map AV.int).length=eN sc:=by rw [ar];unfold jG;simp
 refine iz (a:=.int (eN sc)) ?b1 (b7 .head) (h fa ta da wl dz ⟨.head _,hwv,λq hq=>.tail _ (Av hq)⟩)
 case b1 =>
  rw [← e0];refine AG (h1:=by rfl) (h2:=by rfl) (h3:=by rfl) (h4:=by rfl) (hE:=by rfl) (hs:=by rfl) W.X.T (l:=fa) (bU (.head _) rfl) ?_ (by have:=Iw sc;have:=Db sc;exact fy (.i (.l .A (.c 63)) (.i (.e .B .C) (.i (.l (.m 3 .C) .D) (.i (.e .D (.a .A (.c 12))) (.l .B (.c 100000)))))) rfl hz e0 (by assumption) this);exact .tail _ (mi 9 rfl)
noncomputable def LR(l:LC)(m:List (Str×AV))(a e t r o b:Option AV)(ta da:ay)(Y:ae):ae :=
 (l.F,am m)::(l.ca,az a)::(l.ce,az e)::(l.cl,az t)::(l.cr,az r)::(l.co,az o)::(l.cb,az b)::(l.ck,az (some (.ref ta)))::(l.cd,az (some (.ref da)))::Y
theorem Eg{l:LC}{m:List (Str×AV)}{a e t r o b:Option AV}{ta da:ay}:cu Y (LR l m a e t r o b ta da Y):=λq hq=>.tail _ (md 8 hq)
variable {l:LC}
theorem Wt{a e t r o b:Option AV}:(l.cd,az (some (.ref da)))∈LR l m a e t r o b ta da Y:=.tail _ (mi 7 rfl)
theorem YK(W:nD g){n0:Nat}(hA:bZ (n0+4) A)(h1:m.lookup ("n":Str)=some (AV.int n))(h2:m.lookup ("wishes":Str)=some (AV.ref wl))
  (hw:kq Y wl dz ws) (m2:(da,ai dQ)∈Y) (hn:n≤25) (pw:ws.length≤100) (zm:dQ.length≤1000) (hW : ∀w∈ws,0≤w.1∧w.1<w.2∧w.2<n) (iq : ∀m' M,(l.F,am m')∈M→cu Y M→jg A M)
  (h : ∀x dx nd ns rl ua,dc ns→bJ ns=iu (lx ws) n→SX g A (bQ g W.X.D.TS W.X.D.NI x dx nd ns rl (gw (iu (lx ws) n)) 0 0 ((ua,ai dQ)::(l.ci,az none)::LR l (("urges",.ref ua)::("backs",.ref x)::m) none none none none none none ta da Y)) (eW W l kV doc pm ct) rest Q) :
  SX g A (LS l m none none none none none none none ta da Y) (eW W l kV doc pm ct) (bA wB 2::bA wB 3::bA wB 4::bA wB 5::rest) Q:=by
 have hh:=hA.handled;have hP : ∀i,i<n→∀k∈lx ws i,(0≤k∧k<n)∧(i:Int)<k:=λi _ k hk=>by
  refine ap (List.mem_map.mp hk) λw hw af=>?_;subst af;refine b8 (List.mem_filter.mp hw) λhw e=>?_;have e:w.1=(i:Int):=by simpa using e
  have:=hW w hw
  exact kW (.i (.E .A (.k .A)) (.i (.a (.L .Z .A) (.a (.T .A .B) (.T .B (.k .B)))) (.a (.a (.L .Z .B) (.T .B (.k .B))) (.T (.k .A) .B)))) rfl e this
 have tH : ∀i,(lx ws i).length≤100:=λi=>by
  unfold lx;rw [ar];exact f9 (eT _ _) pw
 refine ic (An (kJ W.X.T.G W.X.D.FF (ha:=rfl)) (W.X.D.ts.kept W.X.D.TK) (Hq W.X.T W.X.D (n:=n0+2) (hA.le (Ll)))) ?_;refine CY λx dx nd=>?_;refine ⟨.ref x,cZ g W.X.D.TS W.X.D.NI x dx nd [] .none 0 0++LS l (("backs",.ref x)::m) none none none none none none none ta da Y,rfl,b7 (.cE .head),?_⟩;refine dS (L:=(l.ci,az none)::(cZ g W.X.D.TS W.X.D.NI x dx nd [] .none 0 0++LR l (("backs",.ref x)::m) none none none none none none ta da Y)) ?_ (aj.pick (.cE (.tail .head)) iI .refl);refine Id (hbase:=by rfl) (hfew:=by rfl) (hst:=by rfl) (he:=by rfl) (hs:=by rfl) (hs2:=by kst_p) (hin:=by rfl) (hsw:=by rfl) W.X hA hn (λi hi k hk=>(hP i hi k hk).1) tH (o:="backs") ?b1 rfl rfl rfl ?b2 ?b3 (λns k1 k2=>?b4)
 case b1=>exact qG hh (pL W.X.T (bU (.tail _ (ag _ (.head _))) h1)) (rM hn)
 case b2=>exact λM hi=>bU (hi _ (.head _)) rfl
 case b3 =>
  intro M i hi hc aY;refine H7 (hclos:=by rfl) (hkind:=by rfl) (hcell:=by rfl) (hnames:=by rfl) (hs:=by kst_p) hh (hw.inc λq hq=>hi _ (Eg q hq)) (x8 pw) (λw=>decide (w.1=(i:Int))) (·.2) (cl:=[("i",l.ci)]) (bU (env:=eW W l kV doc pm ct) (hi _ (.head _)) ?z1 rfl rfl (by decide)) (λ_=>rfl) (λ_=>rfl) ?z2 ?z3
  case z1=>exact h2
  case z2=>exact λC w acc ia=>eP (bU (mi 1 rfl) rfl) (dZ (c:=l.ci) rfl (md 3 hc)) qO
  case z3=>exact λC w acc ia=>bU (mi 1 rfl) rfl
 case b4 =>
 refine dS (L:=cZ g W.X.D.TS W.X.D.NI x dx nd ns .none 0 0++((l.ci,az none)::LR l (("backs",.ref x)::m) none none none none none none ta da Y)) ?_ (aj.perm bq);refine ic (K:=λv M=>∃ua,v = .ref ua∧M=cZ g W.X.D.TS W.X.D.NI x dx nd ns .none 0 0++((ua,ai dQ)::(l.ci,az none)::LR l (("backs",.ref x)::m) none none none none none none ta da Y)) (lr (K:=λvs M=>bP vs [.ref da]∧M=cZ g W.X.D.TS W.X.D.NI x dx nd ns .none 0 0++((l.ci,az none)::LR l (("backs",.ref x)::m) none none none none none none ta da Y)) (gQ W.X.T (by k_mem)) ?c1 ?c2) ?c3
 case c1=>exact jH (b9 (dZ (c:=l.cd) rfl (ag _ (.tail _ Wt))) dh)
 case c2 =>
  intro vs;refine fT λbk=>?_;refine ap bk.one λv af hv=>?_;subst af;cases AV.cW hv;refine ⟨gp λ_ x=>(by cases x),pT (DC (ag _ (.tail _ (Eg _ m2))) (by simp;exact jZ zm)) ?_⟩;refine fh λua=>?_;exact ⟨_,⟨ua,rfl,rfl⟩,aj.perm bq⟩
 case c3 =>
 refine fh λua=>?_;refine ⟨.ref ua,cZ g W.X.D.TS W.X.D.NI x dx nd ns .none 0 0++((ua,ai dQ)::(l.ci,az none)::LR l (("urges",.ref ua)::("backs",.ref x)::m) none none none none none none ta da Y),rfl,b7 (.cE (.tail (.tail .head))),?_⟩;refine pJ (Ie (hbase:=by rfl) (hfew:=by rfl) (hline:=by rfl) W.X (n0:=n0) (hA.le (bV (.l (.a .A (.c 3)) (.a .A (.c 4))) rfl)) (iq _ _ (mi 2 rfl) λq hq=>.tail _ (.tail _ (Eg q hq))) k1 (by rw [k2];exact Jt (ye hn) (λi hi k hk=>(hP i hi k hk).1) (λi => - i) λi hi k hk=>by have:=(hP i hi k hk).2;exact gV (.i (.T (.k .A) .A) (.T (.g .A) (.g (.k .A)))) rfl this) (bU (ag _ (mi 2 rfl)) rfl)) ?_;rintro v M ⟨rfl,rl,rfl⟩;rw [k2];exact h x dx nd ns rl ua k1 k2
end
section
open PySem PySem.W PySem.W.X PyProof.Rows
variable {g:Gd}{A:bg}{L L' bX bF L₁ L₂ bH nB R Y Z:ae}{env:Env}{rest:List fK}{Q:oP→aU→Prop}
theorem vK{m:List (Str×AV)}{x:Str}{a:AV}(h:m.lookup x=none): ∀o,am ((x,a)::m) o→am m o:=λo ⟨es,ep,h1,h2,h3⟩=>⟨es,ep,h1,h2,λy b hy=>h3 y b (by
 rw [aP];cases e:y==x with
 | true=>rw [beq_iff_eq.mp e,h] at hy;cases hy
 | false=>exact hy)⟩
theorem t9{v:Option AV}: ∀o,az v o→az none o:=λo ⟨w,h1,_⟩=>⟨w,h1,λ_ e=>nomatch e⟩
variable {k:Nat}
theorem Ig(h:kq L wl dz ws)(hk:(cH dz)[k]?=some a): ∃t w,a = .ref t∧(t,cg [.int w.1,.int w.2])∈L∧ws[k]?=some w:=by
 refine du (h.at hk) λt h1 h2 h3=>?_;rw [aI,au h3] at h2;exact ⟨t,ws[k],h1,h2,au h3⟩
theorem HH(h:kq L wl dz ws):(cH dz).length=ws.length:=by have:=congrArg iQ h.v;simpa [cH] using this
noncomputable abbrev upB:List fK:=ju (bA (ju (bA wB 6)) 0)
theorem Wu(W:nD g){l:LC}{kV doc pm ct:aq}{n0:Nat}(hA:bZ n0 A){ta wl ua:ay}{m:List (Str×AV)}{n:Nat}{takes u:List Int}{ws:List (Int×Int)}{dz:List (ay×List AV)}{i:Int}(h1:m.lookup ("wishes":Str)=some (AV.ref wl))(h2:m.lookup ("urges":Str)=some (AV.ref ua))(h3:m.lookup ("k":Str)=none)
  (hw:kq Z wl dz ws) (m1:(l.ck,az (some (.ref ta)))∈Z) (m2:(ta,ai takes)∈Z) (hn:n≤25) (ht:takes.length=n) (hu:u.length=n) (hW : ∀w∈ws,0≤w.1∧w.1<w.2∧w.2<n) (hi:0≤i∧i<n)
  (h:SX g A ((l.F,am m)::(l.ci,az (some (.int i)))::(l.ca,az none)::(ua,ai (nR (an takes) ws i u))::Z) (eW W l kV doc pm ct) rest Q) :
  SX g A ((l.F,am m)::(l.ci,az (some (.int i)))::(l.ca,az none)::(ua,ai u)::Z) (eW W l kV doc pm ct) (bA upB 0::rest) Q:=by
 have hh:=hA.handled;have gE:=HH hw;refine lu (xs:=cH dz) (sH hh (bU (.head _) h1) (md 4 hw.l)) ?_;refine jE λH hH=>?_;refine ⟨Unit,λk _=>(l.F,am m)::(l.ci,az (some (.int i)))::(l.ca,az none)::(ua,ai (nR (an takes) (ws.take k) i u))::Z,λ_ _=>True,(),trivial,.refl,λk _ _=>hH _ (md 4 hw.l),?turn,?done⟩
 case done =>
  intro _ _;rw [gE];dsimp only;rw [gM];exact h
 case turn =>
  intro k _ av lL _ ia;refine eQ (Ig hw lL) λt w af F2 rh=>?_;subst af;have jo:=hW w (bx rh);refine ⟨_,xp (L₁:=ia::(l.F,am m)::(l.ci,az (some (.int i)))::(l.ca,az (some (.int w.1)))::(ua,ai (nR (an takes) (ws.take k) i u))::Z) hh (md 5 F2) (iy (c:=l.ca) rfl (.tail (.tail (.tail .head)))) (b7 (.tail .head)),?_⟩;have kt:nR (an takes) (ws.take (k+1)) i u=if w.2=i then gZ (an takes) (nR (an takes) (ws.take k) i u) w else nR (an takes) (ws.take k) i u:=by
   unfold nR;rw [kI,rh,mE,dE];by_cases e:w.2=i
   ·simp [e]
   ·simp [e]
  have hlen:(nR (an takes) (ws.take k) i u).length=n:=by
   rw [← hu];exact (A6 λw hw=>by
    have:=hW w (lh (List.mem_filter.mp hw).1)
    exact we hu this).2
  dsimp only;rw [kt];generalize nR (an takes) (ws.take k) i u=uk at hlen;refine mL (c:=decide (w.2=i)) (eP (bU (m:=("k",.int w.2)::m) (mi 1 rfl) rfl) (dZ (c:=l.ci) rfl (mi 2 rfl)) qO) (λe=>?yes) (λe=>?no)
  case no =>
   have e:¬w.2=i:=by simpa using e
   rw [Qcs e];exact eJ λs S=>⟨(),trivial,S.cX (aj.pick .head iI (aj.pick .head (vK h3) (aj.pick .head iI (aj.pick .head t9 .refl))))⟩
  case yes =>
   have e:w.2=i:=by simpa using e
   rw [Qct e];have pu : ∀(q:Pos) (M:ae),(l.F,am (("k",.int w.2)::m))∈M→PE g A M (eW W l kV doc pm ct) (.Name "urges" q) (.ref ua):=λq M hM=>bU hM h2;have pi : ∀(q:Pos) (M:ae),(l.ci,az (some (.int i)))∈M→PE g A M (eW W l kV doc pm ct) (.Name "i" q) (.int i):=λq M hM=>dZ (c:=l.ci) rfl hM;have pa : ∀(q:Pos) (M:ae),(l.ca,az (some (.int w.1)))∈M→PE g A M (eW W l kV doc pm ct) (.Name "a" q) (.int w.1):=λq M hM=>dZ (c:=l.ca) rfl hM;have d1:gA uk w.1:=⟨jo.1,by rw [hlen];exact Lm jo⟩;have d2:gA uk i:=⟨hi.1,by rw [hlen];exact hi.2⟩;have d3:gA takes i:=⟨hi.1,by rw [ht];exact hi.2⟩;refine Aj (hs:=by rfl) (l:=ua) (xs:=uk.map .int) (k:=w.1) (a:=.int (min (an uk w.1) (an uk i-an takes i))) (L':=ia::(l.F,am (("k",.int w.2)::m))::(l.ci,az (some (.int i)))::(l.ca,az (some (.int w.1)))::(ua,ai (gZ (an takes) uk w))::Z) ?s1 (pu _ _ (mi 1 rfl)) (pa _ _ (mi 3 rfl)) jo.1 (by simp;exact gV (.i (.a (.L .Z .A) (.T .A (.k .A))) (.T .A (.k .A))) rfl d1) (by simp;exact yi hn hlen) ?s2 ?s3
   case s2 =>
    have e2:aM ((uk.map AV.int).set w.1.toNat (.int (min (an uk w.1) (an uk i-an takes i))))=ai (gZ (an takes) uk w):=by unfold gZ ai;rw [tP,e]
    rw [e2];exact .tail (.tail (.tail (.tail .head)))
   case s3 =>
    exact eJ λs S=>⟨(),trivial,S.cX (aj.pick .head iI (aj.pick .head (vK h3) (aj.pick .head iI (aj.pick .head t9 .refl))))⟩
   case s1 =>
    refine PE.jL (mJ (gQ W.X.T (by k_mem)) (b9 (fM (l:=ua) (k:=w.1) (xs:=uk.map .int) (pu _ _ (mi 1 rfl)) (pa _ _ (mi 3 rfl)) (mi 4 rfl) jo.1 (by have:=kR;exact pW (.i (.l .A (.c 25)) (.i (.e .B .A) (.i (.a (.L .Z .A) (.T .A (.k .B))) (.T .A (.c 9223372036854775808))))) rfl hn hlen d1) (kM d1)) (b9 (jX (fM (l:=ua) (k:=i) (xs:=uk.map .int) (pu _ _ (mi 1 rfl)) (pi _ _ (mi 2 rfl)) (mi 4 rfl) hi.1 (by have:=kR;exact Lo hn jo e) (kM d2)) (fM (l:=ta) (k:=i) (xs:=takes.map .int) (dZ (c:=l.ck) rfl (md 5 m1)) (pi _ _ (mi 2 rfl)) (md 5 m2) hi.1 (by have:=kR;exact Lo hn jo e) (kM d3)) ur) dh)) jU (gp λ_ x=>by cases x) (IP hh))
variable {a x:ay}{f p:Int}
theorem aw.rdy{nd:ay}{ns:List Nd}(h:aw a P P' L L'):aw a P P' (bQ g TS NI x dx nd ns rl rd p f L) (bQ g TS NI x dx nd ns rl rd p f L'):=aw.cE (aw.tail h)
theorem AB{q:fN}{nd:ay}{ns:List Nd}(h:q∈L):q∈bQ g TS NI x dx nd ns rl rd p f L:=ag _ (.tail _ h)
variable {P:Nat→List Int}
theorem UN(hz : ∀i,(P i).length≤100): ∀m,(EL P m).length≤100*m:=by
 intro m
 induction m with
 | zero=>exact cB _
 | succ m ih =>
  have:=ih
  have:=hz m
  rw [AA,aD,ar];exact bB (.i (.l .A (.m 100 .B)) (.i (.l .C (.c 100)) (.l (.a .A .C) (.m 100 (.a .B .O))))) rfl (by assumption) this
noncomputable def LZ(l:LC)(e t r o b:Option AV)(ta da:ay)(Y:ae):ae :=
 (l.ce,az e)::(l.cl,az t)::(l.cr,az r)::(l.co,az o)::(l.cb,az b)::(l.ck,az (some (.ref ta)))::(l.cd,az (some (.ref da)))::Y
variable {F:α}{S:List α}
theorem L8{ia t u ci ca:α}{rl:α}{Z:List α}:(ia::t::(S++(rl::(u::ci::F::ca::Z)))).Perm (F::ci::ca::u::ia::t::(S++(rl::Z))):=mP [[ia],[t],S,[rl],[u],[ci],[F],[ca]] (l:=[0,1,2,3,4,5,6,7]) (l':=[6,5,7,4,0,1,2,3]) Z rfl
variable {l:LC}
theorem YL(W:nD g){n0:Nat}(hA:bZ (n0+1) A){nd:ay}(h1:m.lookup ("wishes":Str)=some (AV.ref wl))(h2:m.lookup ("urges":Str)=some (AV.ref ua))(h3:m.lookup ("k":Str)=none)(h4:m.lookup ("backs":Str)=some (AV.ref x))
  (hw:kq Y wl dz ws) (m2:(ta,ai takes)∈Y) (hn:n≤25) (ht:takes.length=n) (pw:ws.length≤100) (hW : ∀w∈ws,0≤w.1∧w.1<w.2∧w.2<n) (hE : ∀e,e∈EL (lx ws) n↔e.swap∈ws)
   {ns:List Nd}   (hk:dc ns) (hU:UI n (EL (lx ws) n) (an takes) c0 u (bJ ns) [] rd p f)
  (h : ∀u ns rd p f,UI n (EL (lx ws) n) (an takes) c0 u (bJ ns) [] rd p f→rd=[]→SX g A (bQ g W.X.D.TS W.X.D.NI x dx nd ns rl rd p f ((ua,ai u)::(l.ci,az none)::LR l m none none none none none none ta da Y)) (eW W l kV doc pm ct) rest Q) :
  SX g A (bQ g W.X.D.TS W.X.D.NI x dx nd ns rl rd p f ((ua,ai u)::(l.ci,az none)::LR l m none none none none none none ta da Y)) (eW W l kV doc pm ct) (bA wB 6::rest) Q:=by
 have hh:=hA.handled;have tH : ∀i,(lx ws i).length≤100:=λi=>by
  unfold lx;rw [ar];exact f9 (eT _ _) pw
 have hEz:=UN tH n;have Ce : ∀{u:List Int} {vg:VG} {O rd:List Int} {p f:Int},UI n (EL (lx ws) n) (an takes) c0 u vg O rd p f→rd.length≤n:=λ⟨Dn,_,h,_⟩=>by
  have:=Ak (m:=(aF n).map λ(i:Nat)=>(i:Int)) h.rn λi hi=>List.mem_map.mpr ⟨i.toNat,List.mem_range.mpr (by have:=(h.rm i).mp hi;exact pW (.i (.L .Z .A) (.i (.T .A (.k .A)) (.i (.e .B .Z) (.t (.t .A) .A)))) rfl this.1.1 this.1.2 this.2.2.2),by have:=(h.rm i).mp hi;exact pW (.i (.L .Z .A) (.i (.T .A (.k .A)) (.i (.e .B .Z) (.E (.k (.t .A)) .A)))) rfl this.1.1 this.1.2 this.2.2.2⟩
  simpa using this
 let α:={ y:List Int×List Nd×List Int×Int×Int//dc y.2.1∧UI n (EL (lx ws) n) (an takes) c0 y.1 (bJ y.2.1) [] y.2.2.1 y.2.2.2.1 y.2.2.2.2 };refine Dt (α:=α) (λy=>bQ g W.X.D.TS W.X.D.NI x dx nd y.1.2.1 rl y.1.2.2.1 y.1.2.2.2.1 y.1.2.2.2.2 ((ua,ai y.1.1)::(l.ci,az none)::LR l m none none none none none none ta da Y)) (λy=>(n-y.1.2.2.2.2).toNat) ⟨(u,ns,rd,p,f),hk,hU⟩ ?turn;intro bz;obtain ⟨eM,hk,hU⟩:=bz;obtain ⟨u,ns,rd,p,f⟩:=eM;dsimp only at hk hU ⊢;have k7:=Ce hU;refine b8 hU.more λhfn F0=>?_;subst F0;have hF : ∀{M:ae},cu (LR l m none none none none none none ta da Y) M→PE g A M (eW W l kV doc pm ct) (.Name "backs" ⟨275,10,275,15⟩) (.ref x):=λhi=>bU (hi _ (.head _)) h4;refine ⟨decide (p<p) || !rd.isEmpty,vL (he:=by kst_p) (Dq (hbase:=by rfl) (hfew:=by rfl) (hline:=by rfl) W.X (n:=n0) hA (T:=[]) (Lp hn k7) (bU (AB (mi 2 rfl)) h4)),λhc=>lp λQ1 jj=>?_,λhc=>?_⟩
 ·have fw:rd≠[]:=by
   rintro rfl;simp at hc
  have rO:0<rd.length:=List.length_pos_iff.mpr fw;have xT : ∀k∈rd,k∈ns.map (·.key):=λk si=>by
   refine cp hU λDn _ hs _=>?_;rw [← xu];exact (hs.ky k).mpr ((hs.rm k).mp si).1
  refine lu (xs:=rd.map .int) (K:=λM H=>∃t aX,dc aX∧bJ aX=im (bJ ns) rd∧M=(t,cg (rd.map .int))::bQ g W.X.D.TS W.X.D.NI x dx nd aX rl [] (p+rd.length) p ((ua,ai u)::(l.ci,az none)::LR l m none none none none none none ta da Y)∧∀N,(t,cg (rd.map .int))∈N→H N) ?it ?_
  case it =>
   refine GX.mono (DY W.X (T:=[]) W.X.D.ready rfl (bU (AB (mi 2 rfl)) h4) (HV W.X.T W.X.D.toSrt2 hA hk xT (Lp hn k7) rfl)) ?_;refine vB λt aX k1 k2=>?_;have hp:=D5 (A:=A) (g:=g) (L:=(t,cg (rd.map .int))::bQ g W.X.D.TS W.X.D.NI x dx nd aX rl [] (p+rd.length) p ([]++((ua,ai u)::(l.ci,az none)::LR l m none none none none none none ta da Y))) hh (l:=t) (xs:=rd.map .int) (aC _);exact hp.2.mono λr M' ⟨it,e1,e2⟩=>⟨it,_,_,_,e1,e2,⟨t,aX,k1,k2,rfl,λ_ h=>h⟩,hp.1 it⟩
  refine Qa λH t aX k1 k2 hH=>?_;refine ⟨List Int×List Nd×List Int×Int,λk y=>(t,cg (rd.map .int))::bQ g W.X.D.TS W.X.D.NI x dx nd y.2.1 rl y.2.2.1 (p+rd.length) y.2.2.2 ((ua,ai y.1)::(l.ci,az none)::LR l m none none none none none none ta da Y),
   λk y=>dc y.2.1∧UI n (EL (lx ws) n) (an takes) c0 y.1 (bJ y.2.1) (rd.drop k) y.2.2.1 (p+rd.length) y.2.2.2∧y.2.2.2=p+k,(u,aX,[],p),⟨k1,by rw [k2];exact hU.ready,by simp⟩,.refl,λk y _=>hH _ (.head _),?Wv,?Ww⟩
  case Ww =>
   intro bz;obtain ⟨u',qY,d6,f'⟩:=bz;intro eM;refine fU eM λz1 z2 z3=>?_;have e:(rd.map AV.int).length=rd.length:=ar ..;rw [e] at z2 z3;dsimp only at z1 z2 z3 ⊢;rw [zG] at z2;have hm:=z2.more;exact eJ λs S=>jj _ _ ⟨⟨(u',qY,d6,p+rd.length,f'),z1,z2⟩,by dsimp only;exact kW (.i (.t .Z .A) (.i (.a (.L .A (.k .B)) (.E (.a .B (.k .A)) .A)) (.t (.t (.s (.k .B) .A)) (.t (.s (.k .B) .B))))) rfl rO hm,S.cX (.skip .refl)⟩
  case Wv =>
   intro k bz;obtain ⟨u',qY,d6,f'⟩:=bz;intro av lL eM;refine fU eM λz1 z2 z3=>?_;intro ia;rw [aA] at lL;refine ap (Option.map_eq_some_iff.mp lL) λi tx af=>?_;subst af;clear lL;dsimp only at z1 z2 z3 ⊢;have Wx:rd.drop k=i::rd.drop (k+1):=by
    obtain ⟨aY,e⟩:=List.getElem?_eq_some_iff.mp tx;rw [Gg aY,e]
   rw [Wx] at z2;have z2':=z2;refine eQ z2' λDn xx hs zv _=>?_;have Co:=hs.ob i (.head _);refine ⟨ia::(t,cg (rd.map .int))::bQ g W.X.D.TS W.X.D.NI x dx nd qY rl d6 (p+rd.length) f' ((ua,ai u')::(l.ci,az (some (.int i)))::LR l m none none none none none none ta da Y),jF (iy (c:=l.ci) rfl (.tail (.tail (.rdy (.tail .head))))),lp λQ2 F3=>?_⟩;refine dS (L:=(l.F,am m)::(l.ci,az (some (.int i)))::(l.ca,az none)::(ua,ai u')::ia::(t,cg (rd.map .int))::bQ g W.X.D.TS W.X.D.NI x dx nd qY rl d6 (p+rd.length) f' (LZ l none none none none none ta da Y)) ?_ (aj.perm L8.symm);have iY:cu Y (ia::(t,cg (rd.map .int))::bQ g W.X.D.TS W.X.D.NI x dx nd qY rl d6 (p+rd.length) f' (LZ l none none none none none ta da Y)):=λq hq=>.tail _ (.tail _ (AB (md 7 hq)));refine Wu W (n0:=n0+1) hA (takes:=takes) h1 h2 h3 (hw.inc iY) (md 2 (AB (mi 5 rfl))) (iY _ m2) hn ht zv hW Co ?_;have L9:=hs.np i Co.1 Co.2;rw [Qcs (hs.dj i (.head _)),Qct mC] at L9;obtain ⟨nn,ql,k6⟩:=Ai (ns:=qY) (k:=i) (by rw [← xu];exact (hs.ky i).mpr Co);have vj:nn.succ=eC (bJ qY) i:=by rw [← k6,Ia z1 ql]
   have va:nn.succ.length≤2500:=by
    rw [vj,hs.su,ar]
    have:=eT (λe:Int×Int=>decide (e.1=i)) (EL (lx ws) n)
    exact bB (.i (.l .A (.c 25)) (.i (.l .B (.m 100 .A)) (.i (.l .C .B) (.l .C (.c 2500))))) rfl hn hEz this
   have YM:=Ce z2;refine yk W.X.D.done.fn λof dV Cf Bq jy cq jz d1 d2 d3 _=>?_;let T':ae:=(l.F,am m)::(l.ci,az (some (.int i)))::(l.ca,az none)::(ua,ai (nR (an takes) ws i u'))::[ia,(t,cg (rd.map .int))];show SX g A (T'++bQ g W.X.D.TS W.X.D.NI x dx nd qY rl d6 (p+rd.length) f' (LZ l none none none none none ta da Y)) _ _ _
   refine pJ (K:=λv M=>∃lJ tI,dc lJ∧(bJ lJ,tI)=nn.succ.foldl jW (dR (bJ qY) i λq=>(-2,q.2),d6)∧M=T'++bQ g W.X.D.TS W.X.D.NI x dx nd lJ rl tI (p+rd.length) (f'+1) (LZ l none none none none none ta da Y))
    (DU W.X.D.TK W.X.D.lI (KA:=λvs M=>bP vs [.int i]∧M=T'++bQ g W.X.D.TS W.X.D.NI x dx nd qY rl d6 (p+rd.length) f' (LZ l none none none none none ta da Y)) (bU (.head _) h4) qQ sV rfl W.X.D.done.find W.X.D.done.typ (jH (b9 (dZ (c:=l.ci) rfl (mi 1 rfl)) dh)) ?y1) ?y2
   case y1 =>
    intro vs;refine fT λbk=>?_;refine ap bk.one λv af hv=>?_;subst af;refine ⟨pN (.top d1 d2) d3,pT (GX.rf ((ID W.X.T W.X.D.toSrt2 hA z1 ql k6 (by rw [← DA z1 ql,k6];exact L9) (λs io=>?w1) (bB (.i (.l .A (.c 25)) (.i (.l .B (.c 2500)) (.i (.l .C .A) (.l (.a .C .B) (.c 10000))))) rfl hn va YM) rfl hv (L:=T'++LZ l none none none none none ta da Y)).pre (aj.perm uh.symm))) ?_⟩
    case w1 =>
     rw [vj,hs.su] at io;refine ap (List.mem_map.mp io) λe he af=>?_;subst af;rw [← xu];exact (hs.ky _).mpr (hs.es e (List.mem_filter.mp he).1).2
    refine jE λM Wy=>?_;refine eQ Wy λlJ tI e1 e2 af=>?_;subst af;exact ⟨_,⟨lJ,tI,e1,e2,rfl⟩,aj.perm uh⟩
   case y2 =>
    intro v;refine Dg λlJ tI e1 e2=>?_;have No:=z2.turn hE hW;rw [← vj,← e2] at No;refine eJ λs S=>F3 _ _ ⟨(nR (an takes) ws i u',lJ,tI,f'+1),⟨e1,No,by dsimp only;exact ft (.i (.E .A (.a .B (.k .A))) (.E (.a .A .O) (.a .B (.k (.a .A .O))))) rfl z3⟩,?_⟩;have S2:St g ((l.F,am m)::(l.ci,az (some (.int i)))::(l.ca,az none)::(ua,ai (nR (an takes) ws i u'))::ia::(t,cg (rd.map .int))::bQ g W.X.D.TS W.X.D.NI x dx nd lJ rl tI (p+rd.length) (f'+1) (LZ l none none none none none ta da Y)) s:=S;refine (S2.perm (L':=ia::(t,cg (rd.map .int))::bQ g W.X.D.TS W.X.D.NI x dx nd lJ rl tI (p+rd.length) (f'+1) ((ua,ai (nR (an takes) ws i u'))::(l.ci,az (some (.int i)))::LR l m none none none none none none ta da Y)) L8.symm).cX (aj.pick .head iI (aj.pick .head iI (aj.mO (aj.pick .head iI (aj.pick .head iI (aj.pick .head t9 .refl))))))
 ·have rk:rd=[]:=by
   cases rd with
   | nil=>rfl
   | cons a r=>simp at hc
  exact h u ns rd p p hU rk
noncomputable abbrev eB:List fK:=ju (bA wB 9)
variable {T:Int→Int}{e:List Int}
theorem Q3(he:e.length=n)(hW : ∀w∈ws,0≤w.1∧w.1<w.2∧w.2<n):(ws.foldl (gK T) e).length=n:=by
 rw [(JU λw hw=>by have:=hW w hw;exact we he this).2,he]
theorem Q4(he:e.length=n)(hW : ∀w∈ws,0≤w.1∧w.1<w.2∧w.2<n):(ws.foldl (gZ T) e).length=n:=by
 rw [(A6 λw hw=>by have:=hW w hw;exact we he this).2,he]
theorem Wz(W:nD g){l:LC}{kV doc pm ct:aq}{n0:Nat}(hA:bZ n0 A){ta wl ea la:ay}{m:List (Str×AV)}{n:Nat}{takes e t:List Int}{ws:List (Int×Int)}{dz:List (ay×List AV)}(h1:m.lookup ("wishes":Str)=some (AV.ref wl))
  (hw:kq Z wl dz ws) (m1:(l.ck,az (some (.ref ta)))∈Z) (m2:(ta,ai takes)∈Z) (m3:(l.ce,az (some (.ref ea)))∈Z) (m4:(l.cl,az (some (.ref la)))∈Z) (hn:n≤25) (ht:takes.length=n) (he:e.length=n) (hl:t.length=n) (hW : ∀w∈ws,0≤w.1∧w.1<w.2∧w.2<n)
  (h:SX g A ((l.F,am m)::(l.ci,az none)::(l.ca,az none)::(ea,ai (ws.foldl (gK (an takes)) e))::(la,ai (ws.foldl (gZ (an takes)) t))::Z) (eW W l kV doc pm ct) rest Q) :
  SX g A ((l.F,am m)::(l.ci,az none)::(l.ca,az none)::(ea,ai e)::(la,ai t)::Z) (eW W l kV doc pm ct) (bA eB 0::rest) Q:=by
 have hh:=hA.handled;have gE:=HH hw;refine lu (xs:=cH dz) (sH hh (bU (.head _) h1) (md 5 hw.l)) ?_;refine jE λH hH=>?_;refine ⟨Unit,λk _=>(l.F,am m)::(l.ci,az none)::(l.ca,az none)::(ea,ai ((ws.take k).foldl (gK (an takes)) e))::(la,ai ((ws.take k).foldl (gZ (an takes)) t))::Z,λ_ _=>True,(),trivial,.refl,λk _ _=>hH _ (md 5 hw.l),?turn,?done⟩
 case done =>
  intro _ _;rw [gE];dsimp only;rw [gM];exact h
 case turn =>
  intro k _ av lL _ ia;refine eQ (Ig hw lL) λtt w af F2 rh=>?_;subst af;have jo:=hW w (bx rh);refine ⟨_,xp (L₁:=ia::(l.F,am m)::(l.ci,az none)::(l.ca,az (some (.int w.1)))::(ea,ai ((ws.take k).foldl (gK (an takes)) e))::(la,ai ((ws.take k).foldl (gZ (an takes)) t))::Z) hh (md 6 F2) (iy (c:=l.ca) rfl (.tail (.tail (.tail .head)))) (iy (c:=l.ci) rfl (.tail (.tail .head))),?_⟩;have Np : ∀w∈ws.take k,0≤w.1∧w.1<w.2∧w.2<n:=λw hw=>hW w (lh hw);have l1:=Q3 (T:=an takes) he Np;have l2:=Q4 (T:=an takes) hl Np;dsimp only;rw [kI,rh,dE,dE];dsimp only [Option.toList,mu,List.foldl_nil];generalize (ws.take k).foldl (gK (an takes)) e=ek at l1;generalize (ws.take k).foldl (gZ (an takes)) t=tk at l2;have pi : ∀(q:Pos) (M:ae),(l.ci,az (some (.int w.2)))∈M→PE g A M (eW W l kV doc pm ct) (.Name "i" q) (.int w.2):=λq M hM=>dZ (c:=l.ci) rfl hM;have pa : ∀(q:Pos) (M:ae),(l.ca,az (some (.int w.1)))∈M→PE g A M (eW W l kV doc pm ct) (.Name "a" q) (.int w.1):=λq M hM=>dZ (c:=l.ca) rfl hM;have F4 : ∀(q:Pos) (M:ae),(l.ce,az (some (.ref ea)))∈M→PE g A M (eW W l kV doc pm ct) (.Name "early" q) (.ref ea):=λq M hM=>dZ (c:=l.ce) rfl hM;have pl : ∀(q:Pos) (M:ae),(l.cl,az (some (.ref la)))∈M→PE g A M (eW W l kV doc pm ct) (.Name "late" q) (.ref la):=λq M hM=>dZ (c:=l.cl) rfl hM;have pt : ∀(q:Pos) (M:ae),(l.ck,az (some (.ref ta)))∈M→PE g A M (eW W l kV doc pm ct) (.Name "takes" q) (.ref ta):=λq M hM=>dZ (c:=l.ck) rfl hM;have d1 : ∀{is:List Int},is.length=n→gA is w.1:=λh=>⟨jo.1,by rw [h];exact Lm jo⟩;have d2 : ∀{is:List Int},is.length=n→gA is w.2:=λh=>⟨rL jo,by rw [h];exact Lk jo⟩;have z:=kR;have sq:0≤w.2:=rL jo;refine Aj (hs:=by rfl) (l:=ea) (xs:=ek.map .int) (k:=w.2) (a:=.int (max (an ek w.2) (an ek w.1+an takes w.1))) (L':=ia::(l.F,am m)::(l.ci,az (some (.int w.2)))::(l.ca,az (some (.int w.1)))::(ea,ai (gK (an takes) ek w))::(la,ai tk)::Z) ?s1 (F4 _ _ (md 6 m3)) (pi _ _ (mi 2 rfl)) sq (by simp;exact kW (.i (.a (.L .Z .A) (.a (.T .A .B) (.T .B (.k .A)))) (.i (.e .B .A) (.T .B (.k .B)))) rfl jo l1) (by simp;exact yi hn l1) ?s2 ?_
  case s2 =>
   have e2:aM ((ek.map AV.int).set w.2.toNat (.int (max (an ek w.2) (an ek w.1+an takes w.1))))=ai (gK (an takes) ek w):=by unfold gK ai;rw [tP]
   rw [e2];exact .tail (.tail (.tail (.tail .head)))
  case s1 =>
   exact PE.jL (mJ (gQ W.X.T (by k_mem)) (b9 (fM (l:=ea) (k:=w.2) (xs:=ek.map .int) (F4 _ _ (md 6 m3)) (pi _ _ (mi 2 rfl)) (mi 4 rfl) sq (ER hn jo) (kM (d2 l1))) (b9 (jX (fM (l:=ea) (k:=w.1) (xs:=ek.map .int) (F4 _ _ (md 6 m3)) (pa _ _ (mi 3 rfl)) (mi 4 rfl) jo.1 (ES hn jo) (kM (d1 l1))) (fM (l:=ta) (k:=w.1) (xs:=takes.map .int) (pt _ _ (md 6 m1)) (pa _ _ (mi 3 rfl)) (md 6 m2) jo.1 (ES hn jo) (kM (d1 ht))) uq) dh)) jU (gp λ_ x=>by cases x) (Tt hh))
  refine Aj (hs:=by rfl) (l:=la) (xs:=tk.map .int) (k:=w.1) (a:=.int (min (an tk w.1) (an tk w.2-an takes w.2))) (L':=ia::(l.F,am m)::(l.ci,az (some (.int w.2)))::(l.ca,az (some (.int w.1)))::(ea,ai (gK (an takes) ek w))::(la,ai (gZ (an takes) tk w))::Z) ?s3 (pl _ _ (md 6 m4)) (pa _ _ (mi 3 rfl)) jo.1 (by simp;exact kW (.i (.a (.L .Z .A) (.a (.T .A .B) (.T .B (.k .A)))) (.i (.e .B .A) (.T .A (.k .B)))) rfl jo l2) (by simp;exact yi hn l2) ?s4 ?_
  case s4 =>
   have e2:aM ((tk.map AV.int).set w.1.toNat (.int (min (an tk w.1) (an tk w.2-an takes w.2))))=ai (gZ (an takes) tk w):=by unfold gZ ai;rw [tP]
   rw [e2];exact .tail (.tail (.tail (.tail (.tail .head))))
  case s3 =>
   exact PE.jL (mJ (gQ W.X.T (by k_mem)) (b9 (fM (l:=la) (k:=w.1) (xs:=tk.map .int) (pl _ _ (md 6 m4)) (pa _ _ (mi 3 rfl)) (mi 5 rfl) jo.1 (ES hn jo) (kM (d1 l2))) (b9 (jX (fM (l:=la) (k:=w.2) (xs:=tk.map .int) (pl _ _ (md 6 m4)) (pi _ _ (mi 2 rfl)) (mi 5 rfl) sq (ER hn jo) (kM (d2 l2))) (fM (l:=ta) (k:=w.2) (xs:=takes.map .int) (pt _ _ (md 6 m1)) (pi _ _ (mi 2 rfl)) (md 6 m2) sq (ER hn jo) (kM (d2 ht))) ur) dh)) jU (gp λ_ x=>by cases x) (IP hh))
  exact eJ λs S=>⟨(),trivial,S.cX (aj.pick .head iI (aj.pick .head iI (aj.pick .head t9 (aj.pick .head t9 .refl))))⟩
theorem YN{la ea ci ca:α}{Z:List α}:(la::ea::F::ci::ca::Z).Perm (F::ci::ca::ea::la::Z):=mP [[la],[ea],[F],[ci],[ca]] (l:=[0,1,2,3,4]) (l':=[2,3,4,1,0]) Z rfl
theorem Ih(W:nD g){e:Expr}{q p:Pos}(hz:is.length≤1000)(he:PE g A L env e (.ref a))(ha:(a,ai is)∈L)(h1:env.globals=cm)(h2:env.builtins=dU)(h3:env.scope.kind = .function)(h4:env.kindOf "list"=some .globalImplicit)
  (hE:eval (.Call (.Name "list" q) [e] [] p) env=(do fJ p (← eval (.Name "list" q) env) [] (b6 p (aE [e] env)) (bj p (aO [] env)))) (hs:aE [e] env=(false,eval e env)::aE [] env) :
  GX g A L (eval (.Call (.Name "list" q) [e] [] p) env) λv M=>∃D,v = .ref D∧M=(D,ai is)::L:=by
 refine lr (K:=λvs M=>bP vs [.ref a]∧M=L) (gQ W.X.T (by k_mem) h1 h2 h3 h4) (jH (b9 he dh hs)) ?_ hE hs;intro vs;refine fT λbk=>?_;refine ap bk.one λv af hv=>?_;subst af;cases AV.cW hv;exact ⟨gp λ_ x=>(by cases x),DC ha (by simp;exact jZ hz)⟩
theorem YO(W:nD g){n0:Nat}(hA:bZ (n0+9) A)(h1:m.lookup ("wishes":Str)=some (AV.ref wl))(h2:m.lookup ("firsts":Str)=some (AV.ref fa))(h3:m.lookup ("n":Str)=some (AV.int n))(h4:m.lookup ("urges":Str)=some (AV.ref ua))(h5:m.lookup ("turn":Str)=none)
  (hw:kq Y wl dz ws) (m1:(fa,ai firsts)∈Y) (m2:(ta,ai takes)∈Y) (m3:(da,ai dQ)∈Y) (hn:n≤25) (hf:firsts.length=n) (ht:takes.length=n) (hd:dQ.length=n) (hW : ∀w∈ws,0≤w.1∧w.1<w.2∧w.2<n)
  (hu:u=iter (λl=>ws.foldl (gZ (an takes)) l) n dQ)
  (h : ∀ea la,SX g A ((l.F,am m)::(l.ci,az none)::(l.ca,az none)::(ea,ai (iter (λl=>ws.foldl (gK (an takes)) l) n firsts))::(la,ai u)::LZ l (some (.ref ea)) (some (.ref la)) none none none ta da ((ua,ai u)::Y)) (eW W l kV doc pm ct) rest Q) :
  SX g A (LS l m none none none none none none none ta da ((ua,ai u)::Y)) (eW W l kV doc pm ct) (bA wB 7::bA wB 8::bA wB 9::bA wB 10::rest) Q:=by
 have hh:=hA.handled;have F5:A.units+64<w8:=by have:=hA.units;exact yc this
 have iY:cu Y (LS l m none none none none none none none ta da ((ua,ai u)::Y)):=λq hq=>.tail _ (md 10 hq);refine ic (Ih (h1:=by rfl) (h2:=by rfl) (h3:=by rfl) (h4:=by rfl) (hE:=by rfl) (hs:=by rfl) W (a:=fa) (is:=firsts) (rK hn hf) (bU (.head _) h2) (iY _ m1)) ?_;refine fh λea=>?_;refine ⟨.ref ea,_,rfl,iy (c:=l.ce) rfl (.tail (.tail (.tail (.tail .head)))),?_⟩;refine ic (Ih (h1:=by rfl) (h2:=by rfl) (h3:=by rfl) (h4:=by rfl) (hE:=by rfl) (hs:=by rfl) W (a:=da) (is:=dQ) (rK hn hd) (dZ (c:=l.cd) rfl (mi 10 rfl)) (md 12 m3)) ?_;refine fh λla=>?_;refine ⟨.ref la,_,rfl,iy (c:=l.cl) rfl (.tail (.tail (.tail (.tail (.tail (.tail .head)))))),?_⟩;refine dS (L:=(l.F,am m)::(l.ci,az none)::(l.ca,az none)::(ea,ai firsts)::(la,ai dQ)::LZ l (some (.ref ea)) (some (.ref la)) none none none ta da ((ua,ai u)::Y)) ?_ (aj.perm YN.symm);have iZ:cu Y (LZ l (some (.ref ea)) (some (.ref la)) none none none ta da ((ua,ai u)::Y)):=λq hq=>.tail _ (md 7 hq);refine lu (xs:=(jb 0 n).map .int) (qG hh (pL W.X.T (bU (.head _) h3)) (rM hn)) ?_;refine jE λH hH=>?_;refine ⟨Unit,λk _=>(l.F,am m)::(l.ci,az none)::(l.ca,az none)::(ea,ai (iter (λl=>ws.foldl (gK (an takes)) l) k firsts))::(la,ai (iter (λl=>ws.foldl (gZ (an takes)) l) k dQ))::LZ l (some (.ref ea)) (some (.ref la)) none none none ta da ((ua,ai u)::Y),λ_ _=>True,(),trivial,.refl,λk _ _=>hH _,?turn,?done⟩
 case done =>
  intro _ _;have e:((jb 0 n).map AV.int).length=n:=pH 0 n;rw [e];dsimp only;rw [← hu];refine iC (c:=!decide (u=u)) (by simp) (eP (a:=.ref ua) (b:=.ref la) (bU (.head _) h4) (dZ (c:=l.cl) rfl (mi 6 rfl)) (Ec F5 (mi 12 rfl) (mi 4 rfl))) (h ea la)
 case turn =>
  intro k _ av lL _ ia;refine ⟨_,jF (b7 (env:=eW W l kV doc pm ct) (.tail .head)),?_⟩;refine dS (L:=(l.F,am (("turn",av)::m))::(l.ci,az none)::(l.ca,az none)::(ea,ai (iter (λl=>ws.foldl (gK (an takes)) l) k firsts))::(la,ai (iter (λl=>ws.foldl (gZ (an takes)) l) k dQ))::ia::LZ l (some (.ref ea)) (some (.ref la)) none none none ta da ((ua,ai u)::Y)) ?_ (aj.perm (bq (l₁:=[_,_,_,_,_])));refine Wz W (n0:=n0+9) hA (takes:=takes) h1 (hw.inc λq hq=>.tail _ (iZ q hq)) (mi 6 rfl) (.tail _ (iZ _ m2)) (mi 1 rfl) (mi 2 rfl) hn ht (Ep hW hf k).2 (JV hW hd k).2 hW ?_;exact eJ λs S=>⟨(),trivial,(S.perm (bq (l₁:=[_,_,_,_,_]))).cX (aj.pick .head iI (aj.pick .head (vK h5) .refl))⟩
theorem So{o i:Expr}{pos:Pos}{k:Int}{K:AV→ae→Prop}(ho:GX g A L (eval o env) λv M=>∃l xs a,v = .ref l∧(l,cg xs)∈M∧xs[k.toNat]?=some a∧K a M)(hi : ∀M,PE g A M env i (.int k))(h0:0≤k)(hk:k<2 ^ 63)
  (hs : ∀o' i',lV i false o' i'=ix [o',i'] (rq o' i')):GX g A L (eval (.Subscript o i pos) env) λv M=>∃a,AV.Is v a∧K a M:=λs Q S kk=>by
 refine vA (ho s _ S λv M aW hv aN=>hi M aW _ cU aN λw bu hw aS=>?_);refine lF hv λl xs a af hl hx hK=>?_;subst af;refine cp (pR aS hl) λvs n h1 h2=>?_;refine cT hw λt af=>?_;subst af;refine ap (h2.get hx) λv h3 h4=>?_;have h5:vs[k.toNat]?=some v:=by simpa using h3
 refine Qap (T:="tuple") (x:=v) ⟨_,h1,rfl⟩ F.slot_tuple_getitem.lookup (getItem_tuple (ue h1) (Ke h0) hk (j:=k.toNat) ?_ h5 ⟨rfl,kk v M bu ⟨a,h4,hK⟩ aS⟩) (hs _ _);have aY:k.toNat<vs.size:=by
  by_cases h:k.toNat<vs.size
  ·exact h
  ·rw [tM (zK h)] at h5;cases h5
 have EY:¬k<0:=Int.not_lt.mpr h0;have EZ:k<(vs.size:Int):=by have:=eS h0;rw [← this];exact Int.ofNat_lt.mpr aY
 show (let j:=if k<0 then k+vs.size else k;if (decide (0≤j)&&decide (j<vs.size))=true then some j.toNat else none)=some k.toNat;rw [Qcs EY];simp [h0,EZ]
variable {B:List α}
theorem WA{p q:α}{A C:List α}:(p::q::(A++(B++C))).Perm (A++(B++(q::p::C))):=mP [[p],[q],A,B] (l:=[0,1,2,3]) (l':=[2,3,1,0]) C rfl
theorem WB{oa na ra f1 f2 f3 f4 f5 z1 z2 z3 z4 z5 z6 z7 u:α}{X Y:List α}:(oa::(X++(B++(na::ra::f1::f2::f3::f4::f5::z1::z2::z3::z4::z5::z6::z7::u::Y)))).Perm (oa::na::ra::f1::f2::f3::f4::f5::z1::z2::z3::z4::z5::z6::z7::u::(X++(B++Y))):=mP [[oa],X,B,[na],[ra],[f1],[f2],[f3],[f4],[f5],[z1],[z2],[z3],[z4],[z5],[z6],[z7],[u]] (l:=[0,1,2,3,4,5,6,7,8,9,10,11,12,13,14,15,16,17]) (l':=[0,3,4,5,6,7,8,9,10,11,12,13,14,15,16,17,1,2]) Y rfl
noncomputable def cR(n:Nat)(c:CS):List Int:=(aF n).map λ(i:Nat)=>gq c.ends i
variable {c:CS}
theorem Q5(h1 : ∀i:Nat,i<n→c.ends[i]?=some (some (gq c.ends i)))(h2:c.ends.length=n):c.ends.map fF=(cR n c).map AV.int:=by
 unfold cR;rw [bt];refine QaQ (by simp [h2]) λi tx mV=>?_;have hi:i<n:=by rw [ar,h2] at tx;exact tx
 have h3:=h1 i hi;rw [au (kb h2 hi)] at h3;have h4:=fx h3;rw [List.getElem_map,h4];simp [fF]
structure qR(n:Nat)(ws:List (Int×Int))(firsts takes dK:List Int)(ea:Int→Int)(b:Bool)(c:CS):Prop where
 row:c.row.Perm ((aF n).map λ(i:Nat)=>(i:Int))
 F6 : ∃σ lo hi,gF n (λa i=>((a:Int),(i:Int))∈ws) (λi=>an firsts i) (λi=>an takes i) (λi=>an dK i) (λi=>ea i) (λk i=>b=true→rj c.row k i) σ (λi=>gq c.ends i) lo hi
theorem YP(W:nD g){l:LC}{kV doc pm ct:aq}{n0:Nat}(hA:bZ (n0+10) A){fa ta da wl ua ea la:ay}{m:List (Str×AV)}{n:Nat}{firsts takes u early:List Int}{ws:List (Int×Int)}{dz:List (ay×List AV)}(h1:m.lookup ("wishes":Str)=some (AV.ref wl))(h2:m.lookup ("firsts":Str)=some (AV.ref fa))(h4:m.lookup ("urges":Str)=some (AV.ref ua))(h5:m.lookup ("ends":Str)=none)
  (iq : ∀m' M,(l.F,am m')∈M→cu Y M→jg A M)
  (hw:kq Y wl dz ws) (m1:(fa,ai firsts)∈Y) (m2:(ta,ai takes)∈Y) (hn:n≤25) (jl:0<n) (hf:firsts.length=n) (ht:takes.length=n) (hu:u.length=n) (pw:ws.length≤100) (hW : ∀w∈ws,0≤w.1∧w.1<w.2∧w.2<n)
  (hP : ∀lo,lo∈firsts→(∀a∈firsts,lo≤a)→CP n (EL (iA ws) n) (an firsts) (an takes) (an u) (an early) lo) (pj : ∀i:Int,0≤i→i<n→an early i=an firsts i∨∃e∈EL (iA ws) n,e.2=i∧an early i=an early e.1+an takes e.1)
  {Xc:ae} (hX:ml W.X.C.P0 jh qnK fC Xc) {es:List (Pos×ay)}
  (h : ∀ra na oa c1 c2 Y2,cu Y Y2→(∃es,(W.X.C.P0,gz es)∈Y2)→(∃es,(W.X.PL,gz es)∈Y2)→qR n ws firsts takes u (an early) true c1→qR n ws firsts takes u (an early) false c2 →
   SX g A ((oa,ai (cR n c2))::(na,ai (cR n c1))::(ra,ai c1.row)::(l.F,am (("ends",.ref na)::m))::(l.ci,az none)::(l.ca,az none)::(ea,ai early)::(la,ai u)::LZ l (some (.ref ea)) (some (.ref la)) (some (.ref ra)) (some (.ref oa)) none ta da ((ua,ai u)::Y2)) (eW W l kV doc pm ct) rest Q) :
  SX g A (Xc++(bM W.X.PL cD es++((l.F,am m)::(l.ci,az none)::(l.ca,az none)::(ea,ai early)::(la,ai u)::LZ l (some (.ref ea)) (some (.ref la)) none none none ta da ((ua,ai u)::Y)))) (eW W l kV doc pm ct) (bA wB 11::bA wB 12::bA wB 13::rest) Q:=by
 let T1:=λ(m':List (Str×AV)) (r o:Option AV) Y=>(l.F,am m')::(l.ci,az none)::(l.ca,az none)::(ea,ai early)::(la,ai u)::LZ l (some (.ref ea)) (some (.ref la)) r o none ta da ((ua,ai u)::Y);let T2:=λ(X:ae) es (Z:ae)=>X++(bM W.X.PL cD es++Z);change SX g A (T2 Xc es (T1 m none none Y)) _ _ _
 have hh:=hA.handled;have wy : ∀{b c lo},CP n (EL (iA ws) n) (an firsts) (an takes) (an u) (an early) lo→CI n (EL (iA ws) n) (an firsts) (an takes) (an u) (an early) b lo (2*n) c→qR n ws firsts takes u (an early) b c∧c.ends.map fF=(cR n c).map AV.int:=λ{b c lo} hp hc=>by
  refine Xk (hc.fin hp pj) λf1 f2 f3 f4 f5 WC=>?_;refine cT WC λσ f6=>?_;have e:(λa i:Nat=>((a:Int),(i:Int))∈EL (iA ws) n)=λa i:Nat=>((a:Int),(i:Int))∈ws:=funext λa=>funext λi=>propext (xy hW);rw [e] at f6;exact ⟨⟨f5,σ,_,_,f6⟩,Q5 f3 f4⟩
 have iS : ∀{r o:Option AV},cu Y (T1 m r o Y):=λq hq=>.tail _ (md 12 hq);have hua : ∀{r o:Option AV},(ua,ai u)∈T1 m r o Y:=.tail _ (mi 11 rfl);refine IW (ha:=by rfl) (hs:=by rfl) (hw:=by rfl) (K:=λv M=>∃(t ra na:ay) (eR:ae) (aT:List (Pos×ay)) (c:CS) (lo:Int),v = .ref t∧ml W.X.C.P0 jh qnK fC eR∧CP n (EL (iA ws) n) (an firsts) (an takes) (an u) (an early) lo∧CI n (EL (iA ws) n) (an firsts) (an takes) (an u) (an early) true lo (2*n) c∧M=(t,cg [.ref ra,.ref na])::(ra,ai c.row)::(na,aM (c.ends.map fF))::(T2 eR aT (T1 m none none Y)))
  (lr (K:=λvs M=>bP vs [.ref fa,.ref ta,.ref wl,.ref ua,.bool true]∧M=T2 Xc es (T1 m none none Y)) (f:=.ref W.X.fL) (kJ W.X.T.G W.nL (ha:=rfl)) ?a1 ?a2) ?a3
 case a1 =>
  have hF:(l.F,am m)∈T2 Xc es (T1 m none none Y):=ag _ (ag _ (.head _));exact jH (b9 (bU hF h2) (b9 (dZ (c:=l.ck) rfl (ag _ (ag _ (mi 10 rfl)))) (b9 (bU hF h1) (b9 (bU hF h4) (b9 uj dh)))))
 case a2 =>
  intro vs;refine fT λbk=>?_;refine wf W.X.Cc λo Cf Bq jy jz d1 d2 d3=>?_;exact ⟨pN (.top d1 d2) d3,HG W.X (n0:=n0) hA (iq m _ (.head _) iS) hX (iS _ m1) (iS _ m2) hua (hw.inc iS) hf ht hu hn jl pw hW hP pj bk⟩
 case a3 =>
 refine GS λt ra na eR aT c1 lo1 q1 q2 q3=>?_;refine b8 (wy q2 q3) λr1 r2=>?_;rw [r2];let N1:=λo Y=>(na,ai (cR n c1))::(ra,ai c1.row)::T1 (("ends",.ref na)::m) (some (.ref ra)) o Y;refine ⟨.ref t,(t,cg [.ref ra,.ref na])::(ra,ai c1.row)::(na,ai (cR n c1))::(T2 eR aT ((T1 (("ends",.ref na)::m) (some (.ref ra)) none Y))),rfl,xp hh (.head _) (iy (c:=l.cr) rfl (.tail (.tail (.tail (.cE (.cE (.tail (.tail (.tail (.tail (.tail (.tail (.tail .head))))))))))))) (b7 (.tail (.tail (.tail (.cE (.cE .head)))))),?_⟩;refine dS (L:=(ra,ai c1.row)::(na,ai (cR n c1))::(T2 eR aT ((T1 (("ends",.ref na)::m) (some (.ref ra)) none Y)))) ?_ (.skip .refl);refine dS (L:=T2 eR aT (N1 none Y)) ?_ (aj.perm (WA (α:=fN)).symm);have Cp:cu Y (N1 none Y):=λq hq=>(md 15 hq);have YQ:(ua,ai u)∈N1 none Y:=(mi 14 rfl);refine ic (K:=λv M=>∃(oa t px:ay) (eR:ae) (aT:List (Pos×ay)) (c:CS),v = .ref oa∧ml W.X.C.P0 jh qnK fC eR∧qR n ws firsts takes u (an early) false c∧M=(t,cg [.ref px,.ref oa])::(px,ai c.row)::(oa,ai (cR n c))::(T2 eR aT (N1 none Y))) ?b1 ?b2
 case b1 =>
  refine (So (hs:=by kst_p) (k:=1) (K:=λa M=>∃(oa t px:ay) (eR:ae) (aT:List (Pos×ay)) (c:CS),a = .ref oa∧ml W.X.C.P0 jh qnK fC eR∧qR n ws firsts takes u (an early) false c∧M=(t,cg [.ref px,.ref oa])::(px,ai c.row)::(oa,ai (cR n c))::(T2 eR aT (N1 none Y))) ?d1 (λ_=>gP) (by decide) (by decide)).mono ?d2
  case d2 =>
   intro v M bz;refine ap bz λa hv WD=>?_;refine Xm WD λoa t px eR aT c af z0 z1 z2=>?_;subst af;exact ⟨oa,t,px,eR,aT,c,AV.cW hv,z0,z1,z2⟩
  case d1 =>
   refine lr (K:=λvs M=>bP vs [.ref fa,.ref ta,.ref wl,.ref ua,.bool false]∧M=T2 eR aT (N1 none Y)) (f:=.ref W.X.fL) (kJ W.X.T.G W.nL (ha:=rfl)) ?e1 ?e2
   case e1 =>
    have hF:(l.F,am (("ends",.ref na)::m))∈T2 eR aT (N1 none Y):=ag _ (ag _ (mi 2 rfl));exact jH (b9 (bU hF h2) (b9 (dZ (c:=l.ck) rfl (ag _ (ag _ (mi 12 rfl)))) (b9 (bU hF h1) (b9 (bU hF h4) (b9 uj dh)))))
   case e2 =>
    intro vs;refine fT λbk=>?_;refine wf W.X.Cc λo Cf Bq jy jz d1 d2 d3=>?_;refine ⟨pN (.top d1 d2) d3,(HG W.X (n0:=n0) hA (iq _ _ (mi 2 rfl) Cp) q1 (Cp _ m1) (Cp _ m2) YQ (hw.inc Cp) hf ht hu hn jl pw hW hP pj bk).mono ?_⟩;refine GS λt px oa rp mq c lo z1 z2 z3=>?_;refine b8 (wy z2 z3) λy1 y2=>?_;rw [y2];exact ⟨t,_,.ref oa,rfl,.head _,rfl,oa,t,px,rp,mq,c,rfl,z1,y1,rfl⟩
 case b2 =>
 refine OG λoa t2 px rp mq c2 q4 r3=>?_;refine ⟨.ref oa,(t2,cg [.ref px,.ref oa])::(px,ai c2.row)::(oa,ai (cR n c2))::(T2 rp mq (N1 (some (.ref oa)) Y)),rfl,iy (c:=l.co) rfl (.tail (.tail (.tail (.cE (.cE (.tail (.tail (.tail (.tail (.tail (.tail (.tail (.tail (.tail (.tail .head))))))))))))))),?_⟩;refine dS (L:=(oa,ai (cR n c2))::(T2 rp mq (N1 (some (.ref oa)) Y))) ?_ (.skip (.skip .refl));refine dS (L:=(oa,ai (cR n c2))::N1 (some (.ref oa)) (T2 rp mq Y)) ?_ (aj.perm WB.symm);refine iC (c:=false) rfl (xG (hm:=by kst_p) (K:=λv M=>v = .none∧M=(oa,ai (cR n c2))::N1 (some (.ref oa)) (T2 rp mq Y)) (K':=λv w M=>v = .none∧∃c,w = .ref c∧M=(c,ai (cR n c1++cR n c2))::(oa,ai (cR n c2))::N1 (some (.ref oa)) (T2 rp mq Y)) ?f1 ?f2 ?f3) (h ra na oa c1 c2 (T2 rp mq Y) (λq hq=>ag _ (ag _ hq)) (by rcases q4 with rfl | ⟨_,_,_,rfl⟩<;>exact ⟨_,.head _⟩) ⟨_,ag _ (.head _)⟩ r1 r3)
 case f1=>exact λs Q S k=>oi s _ cU S λv s' hv S'=>k v _ s' ⟨AV.cW hv,rfl⟩ S'
 case f2 =>
  refine t6 ?_;refine AF (K:=λv M=>v = .ref na∧M=(oa,ai (cR n c2))::N1 (some (.ref oa)) (T2 rp mq Y)) (K':=λv w M=>v = .ref na∧w = .ref oa∧M=(oa,ai (cR n c2))::N1 (some (.ref oa)) (T2 rp mq Y)) ?g1 ?g2 ?g3
  case g1=>exact λs Q S k=>bU (env:=eW W l kV doc pm ct) (m:=("ends",.ref na)::m) (a:=.ref na) (mi 3 rfl) rfl rfl rfl (by decide) s _ cU S λv s' hv S'=>k v _ s' ⟨AV.cW hv,rfl⟩ S'
  case g2 =>
   refine t6 ?_;exact λs Q S k=>dZ (env:=eW W l kV doc pm ct) (c:=l.co) (a:=.ref oa) rfl (mi 11 rfl) rfl rfl (by decide) s _ cU S λv s' hv S'=>k v _ s' ⟨rfl,AV.cW hv,rfl⟩ S'
  case g3 =>
   refine Oi ?_;intro s Q S k;refine DP (a:=na) (b:=oa) (xs:=(cR n c1).map .int) (ys:=(cR n c2).map .int) (mi 1 rfl) (.head _) (by simp [cR];exact bV (.i (.l .A (.c 25)) (.l (.a .A .A) (.c 100000))) rfl hn) s Q S λc s' S'=>k _ _ s' ⟨rfl,c,rfl,?_⟩ S';rw [← aV]
 case f3 =>
  refine Qb λw M WE=>?_;refine ap WE λc af fG=>?_;subst af;subst fG;exact ⟨.skip .refl,PN (.head _) .none (.ref c) rfl rfl⟩
noncomputable def L6(l:LC)(m:List (Str×AV))(ra na oa ea la ta da:ay)(a b:Option AV)(row e1 e2 early cS:List Int)(Y:ae):ae :=
 (oa,ai e2)::(na,ai e1)::(ra,ai row)::(l.F,am m)::(l.ci,az none)::(l.ca,az a)::(ea,ai early)::(la,ai cS)::LZ l (some (.ref ea)) (some (.ref la)) (some (.ref ra)) (some (.ref oa)) b ta da Y
noncomputable def xO(n:Nat)(u row:List Int):List (Int×Int):=(aF n).map λ(i:Nat)=>(an u i,((row.idxOf (i:Int):Nat):Int))
theorem uo(h:i<is.length):gA is (i:Int):=⟨gR,o8 h⟩
theorem TH{n:Nat}{ws:List (Int×Int)}{firsts takes u early:List Int}{c:CS}(h:qR n ws firsts takes u (an early) true c)(he:early.length=n){j:Nat}(hj:j<n){r:Int}(hr:D7 early (xO n u c.row) takes j r):r=gq c.ends j:=by
 refine yj h.F6 λσ lo hi S=>?_;have d9:c.row.Nodup:=h.row.nodup_iff.mpr (xj n);have hm : ∀i:Nat,i<n→(i:Int)∈c.row:=λi hi=>h.row.mem_iff.mpr (List.mem_map.mpr ⟨i,List.mem_range.mpr hi,rfl⟩);have hg : ∀(l:List Int) (i:Nat),an l (i:Int)=l.getD i 0:=λl i=>by rw [aI];unfold an;rw [bY]
 refine Yv S (pos:=λi=>((c.row.idxOf (i:Int):Nat):Int)) he (hg early) (hg takes) (λi hi=>?_) (λk i hk hi hb=>?_) hj hr
 ·unfold xO;rw [aI,aA,dI hi];rfl
 ·rcases TD d9 (hm k hk) (hm i hi) (hb rfl) with h | h
  ·left;exact KS h
  ·right;exact o8 h
theorem YR(W:nD g){n0:Nat}(hA:bZ (n0+1) A){ra na oa la:ay}{e2:List Int}(h1:m.lookup ("n":Str)=some (AV.int n))(h2:m.lookup ("ends":Str)=some (AV.ref na))(h3:m.lookup ("ranks":Str)=none)(h4:m.lookup ("j":Str)=none)
  (m2:(ta,ai takes)∈Y) (hn:n≤25) (ht:takes.length=n) (hu:u.length=n) (he:early.length=n) (hR:qR n ws firsts takes u (an early) true c)
  (h:SX g A (L6 l m ra na oa ea la ta da none none c.row (cR n c) e2 early u Y) (eW W l kV doc pm ct) rest Q) :
  SX g A (L6 l m ra na oa ea la ta da none none c.row (cR n c) e2 early u Y) (eW W l kV doc pm ct) (bA wB 14::bA wB 15::rest) Q:=by
 have hh:=hA.handled;have Bx:c.row.length=n:=by have:=hR.row.length_eq;simpa using this
 have rc:(cR n c).length=n:=by simp [cR]
 have z:=kR;have F7 : ∀{m b},(l.cl,az (some (.ref la)))∈L6 l m ra na oa ea la ta da none b c.row (cR n c) e2 early u Y:=λ{_ _}=>(mi 9 rfl);have mcr : ∀{m b},(l.cr,az (some (.ref ra)))∈L6 l m ra na oa ea la ta da none b c.row (cR n c) e2 early u Y:=λ{_ _}=>(mi 10 rfl);have F8 : ∀{m b},(l.ce,az (some (.ref ea)))∈L6 l m ra na oa ea la ta da none b c.row (cR n c) e2 early u Y:=λ{_ _}=>(mi 8 rfl);have F9 : ∀{m b},(l.ck,az (some (.ref ta)))∈L6 l m ra na oa ea la ta da none b c.row (cR n c) e2 early u Y:=λ{_ _}=>(mi 13 rfl);have Ga : ∀{m b},(la,ai u)∈L6 l m ra na oa ea la ta da none b c.row (cR n c) e2 early u Y:=λ{_ _}=>(mi 7 rfl);have Gb : ∀{m b},(ea,ai early)∈L6 l m ra na oa ea la ta da none b c.row (cR n c) e2 early u Y:=λ{_ _}=>(mi 6 rfl);have mY : ∀{m b},cu Y (L6 l m ra na oa ea la ta da none b c.row (cR n c) e2 early u Y):=λ{_ _} q hq=>(md 15 hq);refine O0 (hsw:=by rfl) (hclos:=by rfl) (hkind:=by rfl) (hcell:=by rfl) (hnames:=by rfl) (hs:=by kst_p) (cl:=[("row",l.cr),("late",l.cl)]) (xs:=(jb 0 n).map .int) (qG hh (pL W.X.T (bU (mi 3 rfl) h1)) (rM hn)) (λH hH K=>hH _) (by rw [pH];exact rM hn) (λ_=>true) (λk=>[.int (an u k),.int ((c.row.idxOf (k:Int):Nat):Int)]) (λk=>[("i",.int k)]) ?i1 (λC k a ha acc ia P K=>um) ?i2 ?i3
 case i1 =>
  intro C k a ha acc ia P K;refine b8 (nj ha) λhk af=>?_;subst af;exact jF (b7 (.tail .head))
 case i2 =>
  intro C k a ha hp acc ia P K;refine b8 (nj ha) λhk af=>?_;subst af;have hK : ∀{q:fN},q∈L6 l m ra na oa ea la ta da none none c.row (cR n c) e2 early u Y→q∈ia::(C,am [("i",.int k)])::(acc,P)::(K++L6 l m ra na oa ea la ta da none none c.row (cR n c) e2 early u Y):=λh=>.tail _ (md 2 (ag _ h));refine vM (b9 (fM (l:=la) (k:=(k:Int)) (xs:=u.map .int) (dZ (c:=l.cl) rfl (hK F7)) (bU (m:=[("i",.int k)]) (mi 1 rfl) rfl) (hK Ga) (gR) (uJ hn hk) (kM (uo (kb hu hk)))) (HK (sI (hbase:=by rfl) (hfew:=by rfl) (hline:=by rfl) (he:=by rfl) (L₁:=ia::(C,am [("i",.int k)])::(acc,P)::(K++L6 l m ra na oa ea la ta da none none c.row (cR n c) e2 early u Y)) (l:=ra) (xs:=c.row.map .int) (as:=[.int k]) (dZ (c:=l.cr) rfl (hK mcr)) (hK (mi 2 rfl)) CA PySem.F.type_list_index (b9 (bU (m:=[("i",.int k)]) (mi 1 rfl) rfl) dh) (Ts (hR.row.mem_iff.mpr (List.mem_map.mpr ⟨k,List.mem_range.mpr hk,rfl⟩)) (hK (mi 2 rfl)) (yi hn Bx))) dh)) (aZ rfl)
 case i3 =>
 intro acc C ps Fw;have YS:ps.map (·.2)=(xO n u c.row).map iD:=by
  rw [Fw,pH,vG];unfold xO;rw [bt];rfl
 refine ⟨(acc,aM (cH ps))::(d7 ps++L6 l (("ranks",.ref acc)::m) ra na oa ea la ta da none none c.row (cR n c) e2 early u Y),b7 (.tail (.tail (.cE (.tail (.tail (.tail .head)))))),?_⟩;refine lu (xs:=(jb 0 n).map .int) (qG hh (pL W.X.T (bU (.tail _ (ag _ (mi 3 rfl))) h1)) (rM hn)) ?_;refine jE λH hH=>?_;refine ⟨Unit,λk _=>(acc,aM (cH ps))::(d7 ps++L6 l (("ranks",.ref acc)::m) ra na oa ea la ta da none none c.row (cR n c) e2 early u Y),λ_ _=>True,(),trivial,.refl,λk _ _=>hH _,?turn,?done⟩
 case done =>
  intro _ _;exact dS h (.skip (.cE (aj.pick .head iI (aj.pick .head iI (aj.pick .head iI (aj.pick .head (vK h3) .refl))))))
 case turn =>
  intro j _ av lL _ ia;refine b8 (nj lL) λhj af=>?_;subst af;refine ⟨ia::(acc,aM (cH ps))::(d7 ps++L6 l (("j",.int j)::("ranks",.ref acc)::m) ra na oa ea la ta da none none c.row (cR n c) e2 early u Y),jF (b7 (.tail (.tail (.cE (.tail (.tail (.tail .head))))))),?_⟩;have hM : ∀{q:fN},q∈L6 l (("j",.int j)::("ranks",.ref acc)::m) ra na oa ea la ta da none none c.row (cR n c) e2 early u Y→q∈ia::(acc,aM (cH ps))::(d7 ps++L6 l (("j",.int j)::("ranks",.ref acc)::m) ra na oa ea la ta da none none c.row (cR n c) e2 early u Y):=λh=>.tail _ (.tail _ (ag _ h));have pn : ∀(x':Str) (q:Pos) (b:AV),((("j":Str),AV.int j)::("ranks",AV.ref acc)::m).lookup x'=some b→(eW W l kV doc pm ct).kindOf x'=some .local→(x'==("__debug__":Str))=false→PE g A (ia::(acc,aM (cH ps))::(d7 ps++L6 l (("j",.int j)::("ranks",.ref acc)::m) ra na oa ea la ta da none none c.row (cR n c) e2 early u Y)) (eW W l kV doc pm ct) (.Name x' q) b:=λx' q b hb hk hd=>bU (hM (mi 3 rfl)) hb rfl hk hd;have p2:((("j":Str),AV.int j)::("ranks",AV.ref acc)::m).lookup ("ends":Str)=some (.ref na):=h2;have Fa:an (cR n c) j=gq c.ends j:=by unfold an cR;rw [bY,aA,dI hj];rfl
  have pe1:PE g A (ia::(acc,aM (cH ps))::(d7 ps++L6 l (("j",.int j)::("ranks",.ref acc)::m) ra na oa ea la ta da none none c.row (cR n c) e2 early u Y)) (eW W l kV doc pm ct) (.Subscript (.Name "ends" ⟨295,11,295,15⟩) (.Name "j" ⟨295,16,295,17⟩) ⟨295,11,295,18⟩) (.int (an (cR n c) j)) :=
   fM (l:=na) (k:=(j:Int)) (xs:=(cR n c).map .int) (pn _ _ _ p2 rfl rfl) (pn _ _ _ rfl rfl rfl) (hM (mi 1 rfl)) (gR) (uJ hn hj) (kM (uo (kb rc hj)))
  refine iC (c:=false) rfl (xG (hm:=by kst_p) (K:=λv M=>AV.Is v (.int (gq c.ends j))∧M=ia::(acc,aM (cH ps))::(d7 ps++L6 l (("j",.int j)::("ranks",.ref acc)::m) ra na oa ea la ta da none none c.row (cR n c) e2 early u Y)) (K':=λv w M=>AV.Is v (.int (gq c.ends j))∧AV.Is w (.int (gq c.ends j))∧M=ia::(acc,aM (cH ps))::(d7 ps++L6 l (("j",.int j)::("ranks",.ref acc)::m) ra na oa ea la ta da none none c.row (cR n c) e2 early u Y)) ?f1 ?f2 ?f3) ?f4
  case f1=>exact λs Q S k=>pe1 s _ cU S λv s' hv S'=>k v _ s' ⟨by rw [Fa] at hv;exact hv,rfl⟩ S'
  case f2 =>
   intro v;refine fT λhv=>?_;refine lr (K:=λvs M=>bP vs [.ref ea,.ref acc,.ref ta,.int j]∧M=ia::(acc,aM (cH ps))::(d7 ps++L6 l (("j",.int j)::("ranks",.ref acc)::m) ra na oa ea la ta da none none c.row (cR n c) e2 early u Y)) (f:=.ref W.fE) (kJ W.X.T.G W.nE (ha:=rfl)) (jH (b9 (dZ (c:=l.ce) rfl (hM F8)) (b9 (pn _ _ _ rfl rfl rfl) (b9 (dZ (c:=l.ck) rfl (hM F9)) (b9 (pn _ _ _ rfl rfl rfl) dh))))) ?_;intro vs;refine fT λbk=>?_;refine ⟨W.nd.kept,(T6 W.X.T W.nd (n:=n0) hA (j:=j) (hM Gb) (mi 1 rfl) (hM (mY _ m2)) YS (λp hp=>.tail _ (.tail _ (ao _ (Av hp)))) (by rw [he];simp [xO]) (bB (.i (.e .A .B) (.i (.e .C .B) (.e .A .C))) rfl ht he) (kb he hj) (bK (.i (.l .A (.c 25)) (.i (.e .B .A) (.t .B (.c 64)))) rfl hn he) bk).mono ?_⟩;intro w;refine Hd λr hw hr=>?_;rw [TH hR he hj hr] at hw;exact ⟨hv,hw,rfl⟩
  case f3 =>
   intro v w;refine PW λhv hw=>?_;refine ⟨.refl,?_⟩
   have:=Jy (g:=g) (A:=A) (L:=ia::(acc,aM (cH ps))::(d7 ps++L6 l (("j",.int j)::("ranks",.ref acc)::m) ra na oa ea la ta da none none c.row (cR n c) e2 early u Y)) (a:=gq c.ends j) (b:=gq c.ends j) v w hv hw
   simpa using this
  case f4 =>
   exact eJ λs S=>⟨(),trivial,S.cX (aj.pick .head iI (aj.pick .head iI (aj.mO (aj.pick .head iI (aj.pick .head iI (aj.pick .head iI (aj.pick .head (vK h4) .refl)))))))⟩
theorem TJ{l r:Expr}{op:CmpOp}{pos:Pos}{K:aq→ae→Prop}{K':aq→aq→ae→Prop}{wG:aq→ae→Prop}(hl:GX g A L (eval l env) K)(hr : ∀v M,K v M→GX g A M (eval r env) (K' v))(h : ∀v w N,K' v w N→GX g A N (nc op v w) wG)(hm:pD op r=false):
  GX g A L (eval (.Compare l [op] [r] pos) env) wG:=λs Q S k =>
 Qcf (hl s _ S λv M aW hv aN=>hr v M hv aW _ aN λw N bu hw aS=>h v w N hw bu Q aS k) hm
theorem UO{l:ay}{is:List Int}(hh:A.handled=none)(hl:(l,ai is)∈L):GC g A L (.builtin "sum") [.ref l] [] [] (.int is.sum) L:=by
 intro vs be bk eF;refine ap bk.one λv af hv=>?_;subst af;cases AV.cW hv;cases eF.zero;exact Us hh hl
noncomputable def lE(n:Nat)(early cS takes:List Int)(x y:Int):List Int:=(jY n (λi=>an early i) (λi=>an cS i) x y).map λ(i:Nat)=>an takes i
noncomputable def kE(n:Nat)(early cS takes:List Int)(x y:Int):List Int:=if lE n early cS takes x y=[] then [] else [x+(lE n early cS takes x y).sum-y]
noncomputable def qK(n:Nat)(early cS takes:List Int):List Int:=early.flatMap λx=>cS.flatMap λy=>kE n early cS takes x y
theorem xH{v:Int}:v∈is↔∃i:Nat,i<is.length∧v=an is i:=by
 constructor
 ·intro h;obtain ⟨i,hi,e⟩:=List.mem_iff_getElem.mp h;refine ⟨i,hi,?_⟩;unfold an;rw [bY,au hi,← e];rfl
 ·rintro ⟨i,hi,rfl⟩;unfold an;rw [bY,au hi];exact jO hi
theorem Df{cS:List Int}(h1:early.length=n)(h2:cS.length=n){v:Int}:v∈qK n early cS takes↔∃i j:Nat,i<n∧j<n∧jY n (λi=>an early i) (λi=>an cS i) (an early i) (an cS j)≠[]∧v=an early i+((jY n (λi=>an early i) (λi=>an cS i) (an early i) (an cS j)).map λ(i:Nat)=>an takes i).sum-an cS j:=by
 have hb : ∀x y,v∈kE n early cS takes x y↔jY n (λi=>an early i) (λi=>an cS i) x y≠[]∧v=x+((jY n (λi=>an early i) (λi=>an cS i) x y).map λ(i:Nat)=>an takes i).sum-y:=λx y=>by
  unfold kE lE;by_cases e:jY n (λi=>an early i) (λi=>an cS i) x y=[]
  ·simp [e]
  ·rw [Qcs (by simpa using e),w0];exact ⟨λh=>⟨e,h⟩,λh=>h.2⟩
 unfold qK;simp only [QaL,hb];constructor
 ·rintro ⟨x,hx,y,hy,h⟩;refine ap (xH.mp hx) λi hi af=>?_;subst af;refine ap (xH.mp hy) λj hj af=>?_;subst af;exact ⟨i,j,ou h1 hi,ou h2 hj,h⟩
 ·rintro ⟨i,j,hi,hj,h⟩;exact ⟨_,xH.mpr ⟨i,kb h1 hi,rfl⟩,_,xH.mpr ⟨j,kb h2 hj,rfl⟩,h⟩
noncomputable def nq(n:Nat)(c:CS)(dQ:List Int):List Int:=(aF n).map λ(j:Nat)=>an (cR n c) j-an dQ j
theorem Ii{n:Nat}{c:CS}{j:Nat}(hj:j<n):an (cR n c) j=gq c.ends j:=by unfold an cR;rw [bY,aA,dI hj];rfl
theorem HI{v:Int}:v∈nq n c dQ↔∃j:Nat,j<n∧v=gq c.ends j-an dQ j:=by
 unfold nq;rw [QbI];constructor
 ·rintro ⟨j,hj,rfl⟩;have hj:=List.mem_range.mp hj;exact ⟨j,hj,by rw [Ii hj]⟩
 ·rintro ⟨j,hj,rfl⟩;exact ⟨j,List.mem_range.mpr hj,by rw [Ii hj]⟩
def Fb(n:Nat)(ws:List (Int×Int))(takes dQ cS:List Int):Prop:=Cg n (λa i=>((a:Int),(i:Int))∈ws) (λi=>an takes i) (λi=>an dQ i) λi=>an cS i
theorem UP(h:qR n ws firsts takes u (an early) false c)(h1:early.length=n)(h2:u.length=n)(hL:Fb n ws takes dQ u){m1 m2:Int}(a1:m1∈nq n c dQ)(a2 : ∀v∈nq n c dQ,v≤m1)(b1:m2∈qK n early u takes)(b2 : ∀v∈qK n early u takes,v≤m2):m1=m2:=by
 refine yj h.F6 λσ lo hi S=>?_;refine pz ?_ ?_
 ·refine ap (HI.mp a1) λj hj e=>?_;refine tc (Jp S hL hj) λx y hx hy fw hle=>?_
  have:=b2 _ ((Df h1 h2).mpr ⟨x,y,hx,hy,fw,rfl⟩)
  exact xZ (.i (.E .A (.s .B .C)) (.i (.L (.s .B .C) (.s (.a .D .F) .G)) (.i (.L (.s (.a .D .F) .G) .H) (.L .A .H)))) rfl e hle this
 ·refine tc ((Df h1 h2).mp b1) λi j df hj fw e=>?_;refine ap (UC S hL fw) λk hk hle=>?_
  have:=a2 _ (HI.mpr ⟨k,hk,rfl⟩)
  exact xZ (.i (.E .A (.s (.a .B .C) .D)) (.i (.L (.s (.a .B .C) .D) (.s .F .G)) (.i (.L (.s .F .G) .H) (.L .A .H)))) rfl e hle this
theorem Q6(hn:0<n)(h:qR n ws firsts takes u (an early) false c)(h1:early.length=n)(h2:u.length=n)(hL:Fb n ws takes dQ u):qK n early u takes≠[]:=by
 refine yj h.F6 λσ lo hi S=>?_;refine tc (Jp S hL hn) λx y hx hy fw hle=>?_;exact Qaj ((Df h1 h2).mpr ⟨x,y,hx,hy,fw,rfl⟩)
variable {f:α→List β}
theorem AQ{c:Nat}(h : ∀x,(f x).length≤c): ∀l:List α,(l.flatMap f).length≤c*l.length:=by
 intro l
 induction l with
 | nil=>exact cM _
 | cons a l ih =>
  have:=ih
  have:=h a
  rw [QaD,aD,cj,Nat.mul_add,Nat.mul_one];exact Xi (by assumption) this
variable {l:List α}
theorem IX{x:α}(h:l[k]?=some x):(l.take (k+1)).flatMap f=(l.take k).flatMap f++f x:=by
 rw [kI,h,jC];simp
theorem IY{n:Nat}{early cS takes:List Int}(x y:Int):(kE n early cS takes x y).length≤1:=by
 unfold kE;split<;>simp
noncomputable abbrev bI:List fK:=ju (bA (ju (bA wB 17)) 0)
theorem WF(W:nD g){l:LC}{kV doc pm ct:aq}{n0:Nat}(hA:bZ (n0+9) A){ra na oa ea la ta da bd:ay}{m:List (Str×AV)}{n:Nat}{row e1 e2 takes cS early B:List Int}{x y:Int}{i1 i2:fN}(h1:m.lookup ("n":Str)=some (AV.int n))(h2:m.lookup ("bounds":Str)=some (AV.ref bd))(h3:m.lookup ("within":Str)=none)
  (m2:(ta,ai takes)∈Y) (hn:n≤25) (ht:takes.length=n) (hu:cS.length=n) (he:early.length=n) (hB:B.length≤1000)
  (h:SX g A (i2::i1::(bd,ai (B++kE n early cS takes x y))::L6 l m ra na oa ea la ta da (some (.int x)) none row e1 e2 early cS Y) (eW W l kV doc pm ct) rest Q) :
  SX g A (i2::i1::(bd,ai B)::L6 l m ra na oa ea la ta da (some (.int x)) (some (.int y)) row e1 e2 early cS Y) (eW W l kV doc pm ct) (bA bI 0::bA bI 1::rest) Q:=by
 have hh:=hA.handled;have F5:A.units+64<w8:=by have:=hA.units;exact yc this
 have z:=kR;have Nq : ∀{m},(l.ca,az (some (.int x)))∈L6 l m ra na oa ea la ta da (some (.int x)) (some (.int y)) row e1 e2 early cS Y:=λ{_}=>(mi 5 rfl);have Gb : ∀{m},(ea,ai early)∈L6 l m ra na oa ea la ta da (some (.int x)) (some (.int y)) row e1 e2 early cS Y:=λ{_}=>(mi 6 rfl);have Ga : ∀{m},(la,ai cS)∈L6 l m ra na oa ea la ta da (some (.int x)) (some (.int y)) row e1 e2 early cS Y:=λ{_}=>(mi 7 rfl);have F8 : ∀{m},(l.ce,az (some (.ref ea)))∈L6 l m ra na oa ea la ta da (some (.int x)) (some (.int y)) row e1 e2 early cS Y:=λ{_}=>(mi 8 rfl);have F7 : ∀{m},(l.cl,az (some (.ref la)))∈L6 l m ra na oa ea la ta da (some (.int x)) (some (.int y)) row e1 e2 early cS Y:=λ{_}=>(mi 9 rfl);have Nr : ∀{m},(l.cb,az (some (.int y)))∈L6 l m ra na oa ea la ta da (some (.int x)) (some (.int y)) row e1 e2 early cS Y:=λ{_}=>(mi 12 rfl);have F9 : ∀{m},(l.ck,az (some (.ref ta)))∈L6 l m ra na oa ea la ta da (some (.int x)) (some (.int y)) row e1 e2 early cS Y:=λ{_}=>(mi 13 rfl);have mY : ∀{m},cu Y (L6 l m ra na oa ea la ta da (some (.int x)) (some (.int y)) row e1 e2 early cS Y):=λ{_} q hq=>(md 15 hq);refine GM (h1:=by rfl) (h2:=by rfl) (h3:=by rfl) (h4:=by rfl) (hE:=by rfl) (hs:=by rfl) (hsw:=by rfl) (hclos:=by rfl) (hkind:=by rfl) (hcell:=by rfl) (hnames:=by rfl) (hfs:=by kst_p) W.X.T hh (cl:=[("takes",l.ck),("late",l.cl),("early",l.ce),("b",l.cb),("a",l.ca)]) (n:=n) (res:=(lE n early cS takes x y).map .int) (λk=>decide (x≤an early k)&&decide (an cS k≤y)) (λk=>.int (an takes k)) ?hres (bU (mi 6 rfl) h1) (rM hn) (λ_=>rfl) (λ_=>rfl) ?j0 ?helt rfl ?cont
 case hres=>unfold lE jY;rw [bt];rfl
 case j0 =>
  intro C k hk acc ia P;have hM : ∀{q:fN},q∈L6 l m ra na oa ea la ta da (some (.int x)) (some (.int y)) row e1 e2 early cS Y→q∈ia::(C,am [("i",.int k)])::(acc,P)::(i2::i1::(bd,ai B)::L6 l m ra na oa ea la ta da (some (.int x)) (some (.int y)) row e1 e2 early cS Y):=λh=>.tail _ (md 5 h);exact xA (Sz (eP (a:=.int (an early k)) (b:=.int x) (fM (l:=ea) (k:=(k:Int)) (xs:=early.map .int) (dZ (c:=l.ce) rfl (hM F8)) (bU (m:=[("i",.int k)]) (mi 1 rfl) rfl) (hM Gb) (gR) (uJ hn hk) (kM (uo (kb he hk)))) (dZ (c:=l.ca) rfl (hM Nq)) Jx) λ_=>eP (a:=.int (an cS k)) (b:=.int y) (fM (l:=la) (k:=(k:Int)) (xs:=cS.map .int) (dZ (c:=l.cl) rfl (hM F7)) (bU (m:=[("i",.int k)]) (mi 1 rfl) rfl) (hM Ga) (gR) (uJ hn hk) (kM (uo (kb hu hk)))) (dZ (c:=l.cb) rfl (hM Nr)) U5)
 case helt =>
  intro C k hk _ acc ia P;have hM : ∀{q:fN},q∈L6 l m ra na oa ea la ta da (some (.int x)) (some (.int y)) row e1 e2 early cS Y→q∈ia::(C,am [("i",.int k)])::(acc,P)::(i2::i1::(bd,ai B)::L6 l m ra na oa ea la ta da (some (.int x)) (some (.int y)) row e1 e2 early cS Y):=λh=>.tail _ (md 5 h);exact fM (l:=ta) (k:=(k:Int)) (xs:=takes.map .int) (dZ (c:=l.ck) rfl (hM F9)) (bU (m:=[("i",.int k)]) (mi 1 rfl) rfl) (hM (mY _ m2)) (gR) (uJ hn hk) (kM (uo (kb ht hk)))
 case cont =>
 intro wi;refine ⟨m,i2::i1::(bd,ai B)::L6 l (("within",.ref wi)::m) ra na oa ea la ta da (some (.int x)) (some (.int y)) row e1 e2 early cS Y,.tail (.tail (.tail (.tail (.tail (.tail .head))))),?_⟩;have hM : ∀{q:fN},q∈L6 l (("within",.ref wi)::m) ra na oa ea la ta da (some (.int x)) (some (.int y)) row e1 e2 early cS Y→q∈(wi,ai (lE n early cS takes x y))::i2::i1::(bd,ai B)::L6 l (("within",.ref wi)::m) ra na oa ea la ta da (some (.int x)) (some (.int y)) row e1 e2 early cS Y:=λh=>.tail _ (md 3 h);have hF:(l.F,am (("within",.ref wi)::m))∈(wi,ai (lE n early cS takes x y))::i2::i1::(bd,ai B)::L6 l (("within",.ref wi)::m) ra na oa ea la ta da (some (.int x)) (some (.int y)) row e1 e2 early cS Y:=hM (mi 3 rfl);have JW : ∀B',aj (i2::i1::(bd,ai B')::L6 l m ra na oa ea la ta da (some (.int x)) none row e1 e2 early cS Y) ((wi,ai (lE n early cS takes x y))::i2::i1::(bd,ai B')::L6 l (("within",.ref wi)::m) ra na oa ea la ta da (some (.int x)) (some (.int y)) row e1 e2 early cS Y):=λB' =>
  .skip (aj.pick .head iI (aj.pick .head iI (aj.pick .head iI (aj.pick .head iI (aj.pick .head iI (aj.pick .head iI (aj.pick .head (vK h3) (aj.pick .head iI (aj.pick .head iI (aj.pick .head iI (aj.pick .head iI (aj.pick .head iI (aj.pick .head iI (aj.pick .head iI (aj.pick .head iI (aj.pick .head t9 .refl))))))))))))))))
 refine mL (R2 F5 (bU hF rfl) (.head _)) (λe=>?yes) (λe=>?no)
 case no =>
  have e:lE n early cS takes x y=[]:=by simpa using e
  have eB:B++kE n early cS takes x y=B:=by unfold kE;rw [Qct e,fg]
  rw [eB] at h;exact dS h (JW B)
 case yes =>
  have e:¬lE n early cS takes x y=[]:=by simpa using e
  have eB:B++kE n early cS takes x y=B++[x+(lE n early cS takes x y).sum-y]:=by unfold kE;rw [Qcs e]
  rw [eB] at h;refine qI (a:=.none) (L':=(wi,ai (lE n early cS takes x y))::i2::i1::(bd,ai (B++[x+(lE n early cS takes x y).sum-y]))::L6 l (("within",.ref wi)::m) ra na oa ea la ta da (some (.int x)) (some (.int y)) row e1 e2 early cS Y) (sI (hbase:=by rfl) (hfew:=by rfl) (hline:=by rfl) (he:=by rfl) (L₁:=(wi,ai (lE n early cS takes x y))::i2::i1::(bd,ai B)::L6 l (("within",.ref wi)::m) ra na oa ea la ta da (some (.int x)) (some (.int y)) row e1 e2 early cS Y) (l:=bd) (xs:=B.map .int) (as:=[.int (x+(lE n early cS takes x y).sum-y)]) (bU (m:=("within",.ref wi)::m) hF h2) (mi 3 rfl) gv qx (b9 (jX (jX (dZ (c:=l.ca) rfl (hM Nq)) (PE.jL (mJ (gQ W.X.T (by k_mem)) (b9 (bU hF rfl) dh) jU (gp λ_ x=>by cases x) (UO hh (.head _)))) uq) (dZ (c:=l.cb) rfl (hM Nr)) ur) dh) (vH (xs:=B.map .int) ?u ?uz)) (dS h (JW _))
  case uz=>simp;exact jZ hB
  case u =>
   have e3:aM (B.map AV.int++[.int (x+(lE n early cS takes x y).sum-y)])=ai (B++[x+(lE n early cS takes x y).sum-y]):=by unfold ai;rw [aV];rfl
   rw [e3];exact .tail (.tail (.tail .head))
theorem YT(W:nD g){l:LC}{kV doc pm ct:aq}{n0:Nat}(hA:bZ (n0+9) A){ra na oa ea la ta da:ay}{m:List (Str×AV)}{n:Nat}{row e1 firsts takes dQ u early:List Int}{ws:List (Int×Int)}{c:CS}(h1:m.lookup ("n":Str)=some (AV.int n))(h3:m.lookup ("within":Str)=none)
  (m2:(ta,ai takes)∈Y) (m3:(da,ai dQ)∈Y) (hn:n≤25) (jl:0<n) (ht:takes.length=n) (hd:dQ.length=n) (hu:u.length=n) (he:early.length=n) (hR:qR n ws firsts takes u (an early) false c) (hL:Fb n ws takes dQ u)
  (h : ∀v s,AV.Is v (.bool true)→(∃M,cu Y M∧St g M s)→Q (.ret v) s) :
  SX g A (L6 l m ra na oa ea la ta da none none row e1 (cR n c) early u Y) (eW W l kV doc pm ct) (bA wB 16::bA wB 17::bA wB 18::rest) Q:=by
 have hh:=hA.handled;have z:=kR;have rc:(cR n c).length=n:=by simp [cR]
 refine ic AO ?_;refine fh λbd=>?_;refine ⟨.ref bd,(bd,ai [])::L6 l (("bounds",.ref bd)::m) ra na oa ea la ta da none none row e1 (cR n c) early u Y,rfl,b7 (.tail (.tail (.tail (.tail .head)))),?_⟩;refine lu (xs:=early.map .int) (sH hh (l:=ea) (dZ (c:=l.ce) rfl (mi 9 rfl)) (mi 7 rfl)) ?_;refine jE λH hH=>?_;refine ⟨Unit,λk _=>(bd,ai ((early.take k).flatMap λx=>u.flatMap λy=>kE n early u takes x y))::L6 l (("bounds",.ref bd)::m) ra na oa ea la ta da none none row e1 (cR n c) early u Y,λ_ _=>True,(),trivial,.refl,λk _ _=>hH _ (mi 7 rfl),?turn,?done⟩
 case turn =>
  intro k _ av hx _ ia;rw [aA] at hx;refine ap (Option.map_eq_some_iff.mp hx) λx jK af=>?_;subst af;clear hx;have Nt:((early.take k).flatMap λx=>u.flatMap λy=>kE n early u takes x y).length≤625:=by
   have a1:=AQ (f:=λx=>u.flatMap λy=>kE n early u takes x y) (c:=25) (λx=>by
    have:=AQ (f:=λy=>kE n early u takes x y) (c:=1) (λy=>IY x y) u
    exact bB (.i (.l .A (.c 25)) (.i (.e .B .A) (.i (.l .C (.m 1 .B)) (.l .C (.c 25))))) rfl hn hu this) (early.take k)
   have a2:(early.take k).length≤25:=by rw [jD];exact Lq hn he
   exact bK (.i (.l .A (.m 25 .B)) (.i (.l .B (.c 25)) (.l .A (.c 625)))) rfl a1 a2
  dsimp only;rw [IX jK];generalize (early.take k).flatMap (λx=>u.flatMap λy=>kE n early u takes x y)=B at Nt;refine ⟨ia::(bd,ai B)::L6 l (("bounds",.ref bd)::m) ra na oa ea la ta da (some (.int x)) none row e1 (cR n c) early u Y,jF (iy (c:=l.ca) rfl (.tail (.tail (.tail (.tail (.tail (.tail (.tail .head)))))))),lp λQ1 jj=>?_⟩;refine lu (xs:=u.map .int) (sH hh (l:=la) (dZ (c:=l.cl) rfl (mi 11 rfl)) (mi 9 rfl)) ?_;refine jE λH2 yQ=>?_;refine ⟨Unit,λk _=>ia::(bd,ai (B++(u.take k).flatMap λy=>kE n early u takes x y))::L6 l (("bounds",.ref bd)::m) ra na oa ea la ta da (some (.int x)) none row e1 (cR n c) early u Y,λ_ _=>True,(),trivial,?YU,λk _ _=>yQ _ (mi 9 rfl),?WG,?WH⟩
  case YU =>
   dsimp only;rw [List.take_zero,List.flatMap_nil,fg];exact .refl
  case WH =>
   intro _ _;have e:(u.map AV.int).length=u.length:=ar ..;rw [e];dsimp only;rw [gM];exact eJ λs S=>jj _ _ ⟨(),trivial,S.cX (aj.pick .head iI (aj.pick .head iI (aj.pick .head iI (aj.pick .head iI (aj.pick .head iI (aj.pick .head iI (aj.pick .head iI (aj.pick .head t9 .refl))))))))⟩
  case WG =>
   intro j _ av hy _ ib;rw [aA] at hy;refine ap (Option.map_eq_some_iff.mp hy) λy Fc af=>?_;subst af;clear hy;have Ma:(B++(u.take j).flatMap λy=>kE n early u takes x y).length≤1000:=by
    have a1:=AQ (f:=λy=>kE n early u takes x y) (c:=1) (λy=>IY x y) (u.take j);have a2:(u.take j).length≤25:=by rw [jD];exact Lq hn hu
    rw [aD];exact bB (.i (.l .A (.c 625)) (.i (.l .B (.m 1 .C)) (.i (.l .C (.c 25)) (.l (.a .A .B) (.c 1000))))) rfl Nt a1 a2
   dsimp only;rw [IX Fc,← aH];generalize B++(u.take j).flatMap (λy=>kE n early u takes x y)=B2 at Ma;refine ⟨ib::ia::(bd,ai B2)::L6 l (("bounds",.ref bd)::m) ra na oa ea la ta da (some (.int x)) (some (.int y)) row e1 (cR n c) early u Y,jF (iy (c:=l.cb) rfl (.tail (.tail (.tail (.tail (.tail (.tail (.tail (.tail (.tail (.tail (.tail (.tail (.tail (.tail (.tail .head)))))))))))))))),lp λQ2 F3=>?_⟩;refine WF W (n0:=n0) hA (takes:=takes) h1 rfl h3 m2 hn ht hu he Ma ?_;exact eJ λs S=>F3 _ _ ⟨(),trivial,S⟩
 case done =>
  intro _ _;have e:(early.map AV.int).length=early.length:=ar ..;rw [e];dsimp only;rw [gM];refine SH (TJ (hm:=by kst_p) (K:=λv M=>(∃m1,AV.Is v (.int m1)∧m1∈nq n c dQ∧∀a∈nq n c dQ,a≤m1)∧∃lz,M=(lz,ai (nq n c dQ))::(bd,ai (qK n early u takes))::L6 l (("bounds",.ref bd)::m) ra na oa ea la ta da none none row e1 (cR n c) early u Y)
   (K':=λv w M=>(∃m1 m2,AV.Is v (.int m1)∧AV.Is w (.int m2)∧m1=m2)∧∃lz,M=(lz,ai (nq n c dQ))::(bd,ai (qK n early u takes))::L6 l (("bounds",.ref bd)::m) ra na oa ea la ta da none none row e1 (cR n c) early u Y)
   (wG:=λv M=>AV.Is v (.bool true)∧cu Y M) ?c1 ?c2 ?c3) λv M s hv S=>h v s hv.1 ⟨M,hv.2,S⟩
  case c3 =>
   rintro v w N ⟨⟨m1,m2,hv,hw,e⟩,lz,rfl⟩;intro s Q S k
   have:=qO (g:=g) (A:=A) (L:=(lz,ai (nq n c dQ))::(bd,ai (qK n early u takes))::L6 l (("bounds",.ref bd)::m) ra na oa ea la ta da none none row e1 (cR n c) early u Y) (a:=m1) (b:=m2) v w hv hw
   rw [e,decide_eq_true rfl] at this;exact this s Q cU S λr s' hr S'=>k r _ s' ⟨hr,λq hq=>.tail _ (.tail _ (.tail _ (.tail _ (.tail _ (.tail _ (.tail _ (.tail _ (.tail _ (.tail _ (.tail _ (.tail _ (.tail _ (.tail _ (.tail _ (.tail _ (.tail _ hq))))))))))))))))⟩ S'
  case c2 =>
   rintro v M ⟨⟨m1,hv,a1,a2⟩,lz,rfl⟩;refine lr (K:=λvs M=>bP vs [.ref bd]∧M=(lz,ai (nq n c dQ))::(bd,ai (qK n early u takes))::L6 l (("bounds",.ref bd)::m) ra na oa ea la ta da none none row e1 (cR n c) early u Y) (gQ W.X.T (by k_mem)) (jH (b9 (bU (m:=("bounds",.ref bd)::m) (mi 5 rfl) rfl) dh)) ?_;intro vs;refine fT λbk=>?_;refine ap bk.one λw af hw=>?_;subst af;cases AV.cW hw;refine ⟨gp λ_ x=>(by cases x),(Jl hh (mi 1 rfl) (Q6 jl hR he hu hL)).mono ?_⟩;rintro w M ⟨⟨m2,hw,b1,b2⟩,rfl⟩;exact ⟨⟨m1,m2,hv,hw,UP hR he hu hL a1 a2 b1 b2⟩,lz,rfl⟩
  case c1 =>
   refine lr (K:=λvs M=>∃lz,vs=[.ref lz]∧M=(lz,ai (nq n c dQ))::(bd,ai (qK n early u takes))::L6 l (("bounds",.ref bd)::m) ra na oa ea la ta da none none row e1 (cR n c) early u Y) (gQ W.X.T (by k_mem)) ?d1 ?d2
   case d2 =>
    refine fh λlz=>?_;refine ⟨gp λ_ x=>(by cases x),(Jl hh (.head _) (by unfold nq;intro e;have:=congrArg iQ e;simp at this;exact bV (.i (.t .Z .A) (.i (.e .A .Z) .f)) rfl jl this)).mono ?_⟩;rintro v M ⟨⟨m1,hv,a1,a2⟩,rfl⟩;exact ⟨⟨m1,hv,a1,a2⟩,lz,rfl⟩
   case d1 =>
    refine pK (GX.se (CU (h1:=by rfl) (h2:=by rfl) (h3:=by rfl) (h4:=by rfl) (hE:=by rfl) (hs:=by rfl) (hclos:=by rfl) (hkind:=by rfl) (hcell:=by rfl) (hnames:=by rfl) (hfs:=by kst_p) W.X.T hh (cl:=[("others",l.co),("dues",l.cd)]) (n:=n) (res:=(nq n c dQ).map .int) (λ_=>true) (λk=>.int (an (cR n c) k-an dQ k)) ?hres (bU (mi 4 rfl) h1) (rM hn) (λ_=>rfl) (λ_=>rfl) (λC k hk acc ia P=>um) ?helt)) ?_
    case hres=>rw [vG];unfold nq;rw [bt];rfl
    case helt =>
     intro C k hk _ acc ia P;exact jX (fM (l:=oa) (k:=(k:Int)) (xs:=(cR n c).map .int) (dZ (c:=l.co) rfl (mi 15 rfl)) (bU (m:=[("j",.int k)]) (mi 1 rfl) rfl) (mi 4 rfl) (gR) (uJ hn hk) (kM (uo (kb rc hk)))) (fM (l:=da) (k:=(k:Int)) (xs:=dQ.map .int) (dZ (c:=l.cd) rfl (mi 18 rfl)) (bU (m:=[("j",.int k)]) (mi 1 rfl) rfl) (md 19 m3) (gR) (uJ hn hk) (kM (uo (kb hd hk)))) ur
    refine fh λlz=>?_;exact pP.mono λvs N ⟨e1,e2⟩=>⟨lz,by rw [e1],e2⟩
theorem TL: ∀w∈l3 sc,0≤w.1∧w.1<w.2∧w.2<eN sc:=λw hw=>by
 unfold l3 at hw;refine ap (List.mem_flatMap.mp hw) λi hi hw=>?_;refine ap (List.mem_map.mp hw) λj hj af=>?_;subst af;have hi:=List.mem_range.mp hi;have hp:=(List.mem_filter.mp hj).2;unfold lC at hp;have hp:=of_decide_eq_true hp;refine ⟨?_,hp,by dsimp only;exact o8 hi⟩;unfold ly;exact Int.fmod_nonneg_of_pos _ (bV (.T .Z (.a (.m 2 (.k .A)) .O)) rfl)
theorem Sp(hn:eN sc≤25):(l3 sc).length≤50:=by
 have:=AQ (f:=λi=>((aF 2).filter (lC sc i)).map λj=>(ly sc i j,(i:Int))) (c:=2) (λi=>by
  rw [ar]
  have:=eT (lC sc i) (aF 2)
  simpa using this) (aF (eN sc))
 rw [QaB] at this;unfold l3;exact bK (.i (.l .A (.c 25)) (.i (.l .B (.m 2 .A)) (.l .B (.c 50)))) rfl hn this
theorem UQ(hz:sc.length≤63):0<eN sc∧eN sc≤25:=by
 have h1:=Db sc;unfold eN;exact Xj hz h1
theorem Ij(hW : ∀w∈ws,0≤w.1∧w.1<w.2∧w.2<n)(e:Int×Int):e∈EL (lx ws) n↔e.swap∈ws:=by
 rw [AP];constructor
 ·intro bz;refine du bz λi hi h1 h2=>?_;refine ap (List.mem_map.mp h2) λw hw h3=>?_;refine b8 (List.mem_filter.mp hw) λhw h4=>?_;have h4:w.1=(i:Int):=by simpa using h4
  have:w=e.swap:=Qbd (by rw [h4,← h1];rfl) h3
  rw [← this];exact hw
 ·intro he
  have:=hW _ he
  dsimp only [gL] at this;refine ⟨e.2.toNat,ft (.i (.a (.L .Z .A) (.a (.T .A .B) (.T .B (.k .A)))) (.t (.t .A) .A)) rfl this,ft (.i (.a (.L .Z .A) (.a (.T .A .B) (.T .B (.k .A)))) (.E .A (.k (.t .A)))) rfl this,List.mem_map.mpr ⟨e.swap,List.mem_filter.mpr ⟨he,?_⟩,rfl⟩⟩;simp;exact ft (.i (.a (.L .Z .A) (.a (.T .A .B) (.T .B (.k .A)))) (.E .A (.x .A .Z))) rfl this
theorem UR{m:Nat}: ∀{ws:List (Int×Int)},(ws.filter λw=>decide (w.2<((m+1:Nat):Int))).length=(ws.filter λw=>decide (w.2<(m:Int))).length+(ws.filter λw=>decide (w.2=(m:Int))).length:=by
 intro ws
 induction ws with
 | nil=>exact rfl
 | cons w ws ih =>
  have ih:=ih;rw [eD,eD,eD];by_cases h1:w.2<(m:Int)
  ·rw [Qct (by simp;exact gV (.i (.T .A (.k .A)) (.T .A (.a (.k .A) .O))) rfl h1),Qct (by simpa using h1),Qcs (by simp;exact gV (.i (.T .A (.k .A)) (.n (.E .A (.k .A)))) rfl h1),cj,cj];exact K5 ih
  ·by_cases h2:w.2=(m:Int)
   ·rw [Qct (by simp;exact gV (.i (.E .A (.k .A)) (.T .A (.a (.k .A) .O))) rfl h2),Qcs (by simpa using h1),Qct (by simpa using h2),cj,cj];exact K4 ih
   ·rw [Qcs (by simp;exact gV (.i (.n (.T .A (.k .A))) (.i (.n (.E .A (.k .A))) (.L (.a (.k .A) .O) .A))) rfl h1 h2),Qcs (by simpa using h1),Qcs (by simpa using h2)];exact ih
theorem TM(hW : ∀w∈ws,0≤w.2): ∀m:Nat,(EL (iA ws) m).length=(ws.filter λw=>decide (w.2<(m:Int))).length:=by
 intro m
 induction m with
 | zero =>
  have:(ws.filter λw=>decide (w.2<((0:Nat):Int)))=[]:=List.filter_eq_nil_iff.mpr λw hw=>by have:=hW w hw;simp;exact BF this
  rw [this];rfl
 | succ m ih =>
  rw [AA,aD,ar,ih,UR];unfold iA;rw [ar]
theorem US{n:Nat}{ws:List (Int×Int)}{firsts takes u early:List Int}(hW : ∀w∈ws,0≤w.1∧w.1<w.2∧w.2<n)(hz:ws.length≤100)(hf:firsts.length=n)(hT : ∀i:Int,0≤i→i<n→1≤an takes i)(he:early=iter (λl=>ws.foldl (gK (an takes)) l) n firsts)
  (hu : ∀w∈ws,an u w.1≤an u w.2-an takes w.2) (lo:Int) (kC : ∀a∈firsts,lo≤a):CP n (EL (iA ws) n) (an firsts) (an takes) (an u) (an early) lo:=by
 refine fU (Ic (T:=an takes) hW hf) λe1 e2 e3=>?_;rw [← he] at e1 e2 e3;refine ⟨hT,λe h=>(hW e ((xy hW).mp h)).2.1,λi h1 _=>e1 i h1,λe h=>e2 e ((xy hW).mp h),λe h=>hu e ((xy hW).mp h),λi h1 h2=>kC _ (xH.mpr ⟨i.toNat,pW (.i (.e .A .B) (.i (.L .Z .A) (.i (.T .A (.k .B)) (.t (.t .A) .A)))) rfl hf h1 h2,by rw [eS h1]⟩),?_⟩;rw [TM (λw hw=>by have:=hW w hw;exact rL this) n];exact f9 (eT _ _) hz
theorem UT(hW : ∀w∈ws,0≤w.1∧w.1<w.2∧w.2<n)(hf:firsts.length=n)(he:early=iter (λl=>ws.foldl (gK (an takes)) l) n firsts):
  ∀i:Int,0≤i→i<n→an early i=an firsts i∨∃e∈EL (iA ws) n,e.2=i∧an early i=an early e.1+an takes e.1:=λi h1 _=>by
 refine fU (Ic (T:=an takes) hW hf) λ_ _ e3=>?_;rw [← he] at e3;exact (e3 i h1).imp id λ⟨e,a,b⟩=>⟨e,(xy hW).mpr a,b⟩
theorem WI{u i a c1 c2 c3 c4 c5 c6 c7:α}{Y:List α}:(u::i::F::a::c1::c2::c3::c4::c5::c6::c7::Y).Perm (F::i::a::c1::c2::c3::c4::c5::c6::c7::u::Y):=mP [[u],[i],[F],[a],[c1],[c2],[c3],[c4],[c5],[c6],[c7]] (l:=[0,1,2,3,4,5,6,7,8,9,10]) (l':=[2,1,3,4,5,6,7,8,9,10,0]) Y rfl
theorem WJ{i a e t c1 c2 c3 c4 c5 c6 c7 u f k d w:α}{T X R:List α}:(F::i::a::e::t::c1::c2::c3::c4::c5::c6::c7::u::f::k::d::w::(T++(X++(B++R)))).Perm (X++(B++(F::i::a::e::t::c1::c2::c3::c4::c5::c6::c7::u::f::k::d::w::(T++R)))):=mP [[F],[i],[a],[e],[t],[c1],[c2],[c3],[c4],[c5],[c6],[c7],[u],[f],[k],[d],[w],T,X,B] (l:=[0,1,2,3,4,5,6,7,8,9,10,11,12,13,14,15,16,17,18,19]) (l':=[18,19,0,1,2,3,4,5,6,7,8,9,10,11,12,13,14,15,16,17]) R rfl
theorem Q7{i:Int}(h0:0≤i)(h:i<eN sc):1≤an (jV sc) i:=by
 unfold an jV;rw [aA,dI (by exact wc h0 h)];show 1≤AH sc _
 unfold AH;exact jf (.L .O (.a (.k (.b .A)) .O)) rfl
theorem UU(W:nD g){n0:Nat}(hA:bZ (n0+11) A)(iq:jg A R){sl:ay}{sc:List Int}(hz:sc.length≤63)(m1:yl g sl (sc.map .int)){Xc:ae}(hX:ml W.X.C.P0 jh qnK fC Xc){es:List (Pos×ay)}{vs:List aq}(bk:bP vs [.ref sl]):
  GX g A (Xc++(bM W.X.PL cD es++R)) (call (.ref W.fA) vs) λv M=>AV.Is v (.bool true)∧(∃es,(W.X.C.P0,gz es)∈M)∧∃es,(W.X.PL,gz es)∈M:=by
 refine ap bk.one λv af hv=>?_;subst af;refine wf W.fn λo kV doc pm ct ho fX hd=>?_;refine xL (hclo:=by rfl) (hco:=by rfl) (hgen:=by rfl) (binds:=[("script",v)]) (.top ho fX) hd rfl (.top (by obtain ⟨oc,F1,t,h⟩:=W.code;exact ⟨W.cA,oc,F1,t,rfl,h⟩)) hA.room ?_ (λF=>[("b",F+1+1+1+1+1+1+1+1+1),("others",F+1+1+1+1+1+1+1+1),("row",F+1+1+1+1+1+1+1),("late",F+1+1+1+1+1+1),("early",F+1+1+1+1+1),("a",F+1+1+1+1),("i",F+1+1+1),("dues",F+1+1),("takes",F+1)]) (λ_=>rfl) λF=>?_
 ·intro s S;exact dY rfl
 generalize (F+1+1+1+1+1+1+1+1+1:Nat)=cb;generalize (F+1+1+1+1+1+1+1+1:Nat)=co;generalize (F+1+1+1+1+1+1+1:Nat)=cr;generalize (F+1+1+1+1+1+1:Nat)=cl;generalize (F+1+1+1+1+1:Nat)=ce;generalize (F+1+1+1+1:Nat)=ca;generalize (F+1+1+1:Nat)=ci;generalize (F+1+1:Nat)=cd;generalize (F+1:Nat)=ck;let l:LC:=⟨F,ck,cd,ci,ca,ce,cl,cr,co,cb⟩;have fB:bZ (n0+10) (A.deeper (eW W l kV doc pm ct)):=hA.deeper;show ∃L₂,BX g A.in1 (eW W l kV doc pm ct) [("script",v)] ((cb,az none)::(co,az none)::(cr,az none)::(cl,az none)::(ce,az none)::(ca,az none)::(ci,az none)::(cd,az none)::(ck,az none)::(F,am [])::(Xc++(bM W.X.PL cD es++R))) L₂∧SX g (A.deeper (eW W l kV doc pm ct)) L₂ (eW W l kV doc pm ct) [bA wB 0,bA wB 1,bA wB 2,bA wB 3,bA wB 4,bA wB 5,bA wB 6,bA wB 7,bA wB 8,bA wB 9,bA wB 10,bA wB 11,bA wB 12,bA wB 13,bA wB 14,bA wB 15,bA wB 16,bA wB 17,bA wB 18] _
 refine ⟨_,BX.cons (b7 (.tail (.tail (.tail (.tail (.tail (.tail (.tail (.tail (.tail .head)))))))))) hv BX.nil,?_⟩;refine dS (L:=By l sl (Xc++(bM W.X.PL cD es++R))) ?_ (aj.perm (bq (l₁:=[_,_,_,_,_,_,_,_,_])).symm);refine b8 (UQ hz) λjl hn=>?_;have hW:=TL (sc:=sc);have gE:=Sp hn;have zx:(jG sc).length=eN sc:=by simp [jG]
 have aY:(jV sc).length=eN sc:=by simp [jV]
 have zy:(ka sc).length=eN sc:=by simp [ka]
 refine YJ W (n0:=n0+9) fB hz m1 λfa ta da wl dz Nu=>?_;generalize hY:(fa,ai (jG sc))::(ta,ai (jV sc))::(da,ai (ka sc))::(wl,aM (cH dz))::(d7 dz++(Xc++(bM W.X.PL cD es++R)))=Y;have yR:cu R Y:=by rw [← hY];exact λq hq=>.tail _ (md 3 (ag _ (ag _ (ag _ hq))))
 have yf:(fa,ai (jG sc))∈Y:=by rw [← hY];exact .head _
 have yt:(ta,ai (jV sc))∈Y:=by rw [← hY];exact .tail _ (.head _)
 have yd:(da,ai (ka sc))∈Y:=by rw [← hY];exact .tail _ (mi 1 rfl)
 have yw:kq Y wl dz (l3 sc):=Nu.inc (by
  rw [← hY];intro q hq;rcases List.mem_cons.mp hq with rfl | hq
  ·exact .tail _ (mi 2 rfl)
  ·exact .tail _ (md 3 (ao _ hq)))
 have Bm : ∀{Y:ae},cu R Y→∀m' M,(l.F,am m')∈M→cu Y M→jg (A.deeper (eW W l kV doc pm ct)) M:=λhi m' M hF hM=>iq.IV (λq hq=>hM q (hi q hq)) hF;refine YK W (n0:=n0) (fB.le (bV (.l (.a .A (.c 4)) (.a .A (.c 10))) rfl)) rfl rfl yw yd hn (Bg gE) (rK hn zy) hW (Bm yR) λx dx nd ns rl ua k1 k2=>?_;have hU0:UI (eN sc) (EL (lx (l3 sc)) (eN sc)) (an (jV sc)) (λd => - an (ka sc) d) (ka sc) (bJ ns) [] (gw (iu (lx (l3 sc)) (eN sc))) 0 0:=by
  rw [k2];exact UI.start (λi hi k hk=>by
   refine ap (List.mem_map.mp hk) λw hw af=>?_;subst af
   have:=hW w (List.mem_filter.mp hw).1
   exact ft (.i (.a (.L .Z .A) (.a (.T .A .B) (.T .B (.k .A)))) (.a (.L .Z .B) (.T .B (.k .A)))) rfl this) zy
 refine YL W (n0:=n0) (fB.le (Lr)) (takes:=jV sc) rfl rfl rfl rfl yw yt hn aY (Bg gE) hW (Ij hW) k1 hU0 λu ns rd p f hU rk=>?_;refine kc (TF (Ij hW) hW zy hU rk) λu1 u2 u3 u4=>?_;have zv:u.length=eN sc:=by obtain ⟨_,_,_,h,_⟩:=hU;exact h
 refine dS (L:=LS l [("urges",.ref ua),("backs",.ref x),("n",.int (eN sc)),("wishes",.ref wl),("firsts",.ref fa),("script",.ref sl)] none none none none none none none ta da ((ua,ai u)::Y)) ?_ ?sub
 case sub =>
  unfold bQ;refine aj.cE (K:=cZ g W.X.D.TS W.X.D.NI x dx nd ns (.ref rl) p f) (.skip (aj.perm WI.symm))
 refine YO W (n0:=n0) (fB.le (Ls)) (fa:=fa) (wl:=wl) (ua:=ua) (n:=eN sc) rfl rfl rfl rfl rfl yw yf yt yd hn zx aY zy hW u1 λea la=>?_;generalize hE:iter (λl=>(l3 sc).foldl (gK (an (jV sc))) l) (eN sc) (jG sc)=early;have rc:early.length=eN sc:=by rw [← hE];exact (Ep hW zx _).2
 rw [← hY];refine dS (L:=Xc++(bM W.X.PL cD es++((l.F,am [("urges",.ref ua),("backs",.ref x),("n",.int (eN sc)),("wishes",.ref wl),("firsts",.ref fa),("script",.ref sl)])::(l.ci,az none)::(l.ca,az none)::(ea,ai early)::(la,ai u)::LZ l (some (.ref ea)) (some (.ref la)) none none none ta da ((ua,ai u)::(fa,ai (jG sc))::(ta,ai (jV sc))::(da,ai (ka sc))::(wl,aM (cH dz))::(d7 dz++R))))) ?_ (aj.perm WJ.symm);generalize zz:(fa,ai (jG sc))::(ta,ai (jV sc))::(da,ai (ka sc))::(wl,aM (cH dz))::(d7 dz++R)=Y0;have zR:cu R Y0:=by rw [← zz];exact λq hq=>.tail _ (md 3 (ag _ hq))
 have zf:(fa,ai (jG sc))∈Y0:=by rw [← zz];exact .head _
 have zt:(ta,ai (jV sc))∈Y0:=by rw [← zz];exact .tail _ (.head _)
 have zd:(da,ai (ka sc))∈Y0:=by rw [← zz];exact .tail _ (mi 1 rfl)
 have zw:kq Y0 wl dz (l3 sc):=Nu.inc (by
  rw [← zz];intro q hq;rcases List.mem_cons.mp hq with rfl | hq
  ·exact .tail _ (mi 2 rfl)
  ·exact .tail _ (md 3 (ao _ hq)))
 refine YP W (n0:=n0) fB (wl:=wl) (fa:=fa) (ua:=ua) (n:=eN sc) (firsts:=jG sc) (takes:=jV sc) (ws:=l3 sc) rfl rfl rfl rfl (Bm zR) zw zf zt hn jl zx aY zv (Bg gE) hW (λlo _ kC=>US hW (Bg gE) zx (λi h0 h1=>Q7 h0 h1) hE.symm u3 lo kC) (UT hW zx hE.symm) hX λra na oa c1 c2 Y2 Gc ⟨FL,tb1⟩ ⟨mq,tb2⟩ r1 r2=>?_;refine YR W (n0:=n0) (fB.le (Lr)) (ra:=ra) (na:=na) (oa:=oa) (ea:=ea) (la:=la) (n:=eN sc) (takes:=jV sc) (ws:=l3 sc) (firsts:=jG sc) (c:=c1) rfl rfl rfl rfl (.tail _ (Gc _ zt)) hn aY zv rc r1 ?_;refine YT W (n0:=n0) (fB.le (Ls)) (n:=eN sc) (takes:=jV sc) (dQ:=ka sc) (ws:=l3 sc) (firsts:=jG sc) (c:=c2) rfl rfl (.tail _ (Gc _ zt)) (.tail _ (Gc _ zd)) hn jl aY zy zv rc r2 ⟨λi hi=>u2 i (gR),λa i hai=>u3 _ hai,λa ha=>?lat⟩ λv s hv ⟨M,iM,S⟩=>⟨M,⟨hv,⟨FL,iM _ (.tail _ tb1)⟩,mq,iM _ (.tail _ tb2)⟩,S⟩
 case lat =>
  rcases u4 a (gR) with h | ⟨w,hw,h1,h2⟩
  ·exact .inl h
  ·have hb:=hW w hw;refine .inr ⟨w.2.toNat,?_,?_⟩
   ·have e:((a:Int),((w.2.toNat:Nat):Int))=w:=Qbd h1.symm (eS (rL hb));rw [e];exact hw
   ·skip
    rw [eS (by exact rL hb)];exact h2
end
section
open PySem PySem.W PySem.W.X PyProof.Rows
noncomputable def hq:QbG:={ vq with main:={ PySem.Challenge.pw_dn0053_11.main with body:=[top 18] } }
noncomputable def Eh:List Str:=["_wall","insort_right","bisect_right","insort_left","bisect_left","cmp_to_key","_NODE_OUT","_NODE_DONE","_NodeInfo","CycleError","TopologicalSorter","_law_works","_law_course","_law_end"]
noncomputable def hH(w:sz)(x:Str):Int:=reduceHash (w.params.strHash x.cps)
noncomputable def fO(st:fK)(name qual:Str)(dV kV doc pm cd ct:aq):Obj:={ cls:=.type "function",data:=.func (gy st name qual dV kV doc pm cd ct) }
noncomputable def cO(vs:List aq):Obj:={ cls:=.type "code",data:=.fields (ba vs) }
noncomputable def kK(w:sz):mz:=[
 (2,{ cls:=.none,data:=.dict (ba []) 0 }),
 (1,{ cls:=(.type "dict"),data:=.dict (ba [⟨hH w "builtins",(.str "builtins" 162),(.ref 4)⟩,⟨hH w "__main__",(.str "__main__" 163),(.ref 5)⟩]) 2 }),
 (4,{ cls:=(.type "module"),dict:=some 0,data:=.plain }),
 (22,{ cls:=(.type "tuple"),data:=.seq (ba [(.int (0) 196),.none]) 0 }),
 (31,{ cls:=(.type "tuple"),data:=.seq (ba [(.int (0) 209),.none]) 0 }),
 (40,{ cls:=(.type "tuple"),data:=.seq (ba [(.int (0) 223),.none]) 0 }),
 (49,{ cls:=(.type "tuple"),data:=.seq (ba [(.int (0) 236),.none]) 0 }),
 (109,{ cls:=(.type "tuple"),data:=.seq (ba [.none]) 0 }),
 (29,cO [(.str "insort_right" 198),(.str "insort_right" 199),(.str "/claim/cut.py" 200),(.int (5) 0),(.int (4) 0),(.int (0) 0),(.int (1) 0),(.int (3) 0),(.ref 24),(.bool true),(.int (181) 0),(.ref 25),.none,(.ref 26),(.ref 27),(.ref 28),(.int (206) 0),(.int (5) 0),(.str "/claim/cut.py" 207)]),
 (38,cO [(.str "bisect_right" 211),(.str "bisect_right" 212),(.str "/claim/cut.py" 213),(.int (11) 0),(.int (4) 0),(.int (0) 0),(.int (1) 0),(.int (3) 0),(.ref 33),(.bool true),(.int (181) 0),(.ref 34),.none,(.ref 35),(.ref 36),(.ref 37),(.int (220) 0),(.int (11) 0),(.str "/claim/cut.py" 221)]),
 (47,cO [(.str "insort_left" 225),(.str "insort_left" 226),(.str "/claim/cut.py" 227),(.int (31) 0),(.int (4) 0),(.int (0) 0),(.int (1) 0),(.int (3) 0),(.ref 42),(.bool true),(.int (181) 0),(.ref 43),.none,(.ref 44),(.ref 45),(.ref 46),(.int (233) 0),(.int (31) 0),(.str "/claim/cut.py" 234)]),
 (56,cO [(.str "bisect_left" 238),(.str "bisect_left" 239),(.str "/claim/cut.py" 240),(.int (37) 0),(.int (4) 0),(.int (0) 0),(.int (1) 0),(.int (3) 0),(.ref 51),(.bool true),(.int (181) 0),(.ref 52),.none,(.ref 53),(.ref 54),(.ref 55),(.int (247) 0),(.int (37) 0),(.str "/claim/cut.py" 248)]),
 (63,cO [(.str "cmp_to_key" 252),(.str "cmp_to_key" 253),(.str "/claim/cut.py" 254),(.int (58) 0),(.int (1) 0),(.int (0) 0),(.int (0) 0),(.int (3) 0),(.ref 58),(.bool true),(.int (181) 0),(.ref 59),.none,(.ref 60),(.ref 61),(.ref 62),(.int (258) 0),(.int (58) 0),(.str "/claim/cut.py" 259)]),
 (78,cO [(.str "__init__" 285),(.str "_NodeInfo.__init__" 286),(.str "/claim/cut.py" 287),(.int (89) 0),(.int (2) 0),(.int (0) 0),(.int (0) 0),(.int (3) 0),(.ref 73),(.bool true),(.int (181) 0),(.ref 74),.none,(.ref 75),(.ref 76),(.ref 77),(.int (290) 0),(.int (89) 0),(.str "/claim/cut.py" 291)]),
 (115,cO [(.str "__init__" 336),(.str "TopologicalSorter.__init__" 337),(.str "/claim/cut.py" 338),(.int (97) 0),(.int (2) 0),(.int (0) 0),(.int (0) 0),(.int (3) 0),(.ref 110),(.bool true),(.int (181) 0),(.ref 111),.none,(.ref 112),(.ref 113),(.ref 114),(.int (343) 0),(.int (97) 0),(.str "/claim/cut.py" 344)]),
 (122,cO [(.str "_get_nodeinfo" 346),(.str "TopologicalSorter._get_nodeinfo" 347),(.str "/claim/cut.py" 348),(.int (106) 0),(.int (2) 0),(.int (0) 0),(.int (0) 0),(.int (3) 0),(.ref 117),(.bool true),(.int (181) 0),(.ref 118),.none,(.ref 119),(.ref 120),(.ref 121),(.int (352) 0),(.int (106) 0),(.str "/claim/cut.py" 353)]),
 (129,cO [(.str "add" 355),(.str "TopologicalSorter.add" 356),(.str "/claim/cut.py" 357),(.int (111) 0),(.int (2) 0),(.int (0) 0),(.int (0) 0),(.int (7) 0),(.ref 124),(.bool true),(.int (181) 0),(.ref 125),.none,(.ref 126),(.ref 127),(.ref 128),(.int (364) 0),(.int (111) 0),(.str "/claim/cut.py" 365)]),
 (134,cO [(.str "prepare" 367),(.str "TopologicalSorter.prepare" 368),(.str "/claim/cut.py" 369),(.int (120) 0),(.int (1) 0),(.int (0) 0),(.int (0) 0),(.int (3) 0),(.ref 131),(.bool true),(.int (181) 0),(.ref 132),.none,.none,.none,(.ref 133),(.int (370) 0),(.int (120) 0),(.str "/claim/cut.py" 371)]),
 (141,cO [(.str "get_ready" 373),(.str "TopologicalSorter.get_ready" 374),(.str "/claim/cut.py" 375),(.int (128) 0),(.int (1) 0),(.int (0) 0),(.int (0) 0),(.int (3) 0),(.ref 136),(.bool true),(.int (181) 0),(.ref 137),.none,(.ref 138),(.ref 139),(.ref 140),(.int (380) 0),(.int (128) 0),(.str "/claim/cut.py" 381)]),
 (148,cO [(.str "is_active" 383),(.str "TopologicalSorter.is_active" 384),(.str "/claim/cut.py" 385),(.int (139) 0),(.int (1) 0),(.int (0) 0),(.int (0) 0),(.int (3) 0),(.ref 143),(.bool true),(.int (181) 0),(.ref 144),.none,(.ref 145),(.ref 146),(.ref 147),(.int (387) 0),(.int (139) 0),(.str "/claim/cut.py" 388)]),
 (162,cO [(.str "done" 397),(.str "TopologicalSorter.done" 398),(.str "/claim/cut.py" 399),(.int (147) 0),(.int (1) 0),(.int (0) 0),(.int (0) 0),(.int (7) 0),(.ref 157),(.bool true),(.int (181) 0),(.ref 158),.none,(.ref 159),(.ref 160),(.ref 161),(.int (408) 0),(.int (147) 0),(.str "/claim/cut.py" 409)]),
 (169,cO [(.str "_find_cycle" 411),(.str "TopologicalSorter._find_cycle" 412),(.str "/claim/cut.py" 413),(.int (170) 0),(.int (1) 0),(.int (0) 0),(.int (0) 0),(.int (3) 0),(.ref 164),(.bool true),(.int (181) 0),(.ref 165),.none,(.ref 166),(.ref 167),(.ref 168),(.int (421) 0),(.int (170) 0),(.str "/claim/cut.py" 422)]),
 (188,cO [(.str "_law_works" 445),(.str "_law_works" 446),(.str "/claim/cut.py" 447),(.int (202) 0),(.int (1) 0),(.int (0) 0),(.int (0) 0),(.int (3) 0),(.ref 185),(.bool true),(.int (181) 0),(.ref 186),.none,.none,.none,(.ref 187),(.int (448) 0),(.int (202) 0),(.str "/claim/cut.py" 449)]),
 (193,cO [(.str "_law_course" 451),(.str "_law_course" 452),(.str "/claim/cut.py" 453),(.int (210) 0),(.int (5) 0),(.int (0) 0),(.int (0) 0),(.int (3) 0),(.ref 190),(.bool true),(.int (181) 0),(.ref 191),.none,.none,.none,(.ref 192),(.int (454) 0),(.int (210) 0),(.str "/claim/cut.py" 455)]),
 (198,cO [(.str "_law_end" 457),(.str "_law_end" 458),(.str "/claim/cut.py" 459),(.int (254) 0),(.int (4) 0),(.int (0) 0),(.int (0) 0),(.int (3) 0),(.ref 195),(.bool true),(.int (181) 0),(.ref 196),.none,.none,.none,(.ref 197),(.int (460) 0),(.int (254) 0),(.str "/claim/cut.py" 461)]),
 (203,cO [(.str "law" 463),(.str "law" 464),(.str "/claim/cut.py" 465),(.int (267) 0),(.int (1) 0),(.int (0) 0),(.int (0) 0),(.int (3) 0),(.ref 200),(.bool true),(.int (181) 0),(.ref 201),.none,.none,.none,(.ref 202),(.int (466) 0),(.int (267) 0),(.str "/claim/cut.py" 467)]),
 (30,fO (top 2) "insort_right" "insort_right" (.ref 22) (.ref 23) .none (.str "cpy313.bisect" 194) (.ref 29) .none),
 (39,fO (top 3) "bisect_right" "bisect_right" (.ref 31) (.ref 32) .none (.str "cpy313.bisect" 194) (.ref 38) .none),
 (48,fO (top 4) "insort_left" "insort_left" (.ref 40) (.ref 41) .none (.str "cpy313.bisect" 194) (.ref 47) .none),
 (57,fO (top 5) "bisect_left" "bisect_left" (.ref 49) (.ref 50) .none (.str "cpy313.bisect" 194) (.ref 56) .none),
 (64,fO (top 7) "cmp_to_key" "cmp_to_key" .none .none .none (.str "cpy313.functools" 250) (.ref 63) .none),
 (189,fO (top 15) "_law_works" "_law_works" .none .none .none (.str "law_dn0053_11" 443) (.ref 188) .none),
 (194,fO (top 16) "_law_course" "_law_course" .none .none .none (.str "law_dn0053_11" 443) (.ref 193) .none),
 (199,fO (top 17) "_law_end" "_law_end" .none .none .none (.str "law_dn0053_11" 443) (.ref 198) .none),
 (204,fO (top 18) "law" "law" .none .none .none (.str "law_dn0053_11" 443) (.ref 203) .none),
 (83,{ cls:=(.type "type"),data:=.cls { name:="_NodeInfo",bases:=[(.type "object")],mro:=[(.ref 83),(.type "object")],ns:=82,qualname:="_NodeInfo",hasDict:=false,slotNames:=["node","npredecessors","successors"],subclasses:=[],abstract:=false,collection:=none,hasDel:=false },slots:=ba [none,none,some (.str "_NodeInfo" 269),some (.str "_NodeInfo" 277),some (.builtin "object.__new__"),some (.bool false)] }),
 (82,{ cls:=(.type "dict"),data:=.dict (ba [⟨hH w "__module__",(.str "__module__" 276),(.str "cpy313.graphlib" 261)⟩,⟨hH w "__firstlineno__",(.str "__firstlineno__" 280),(.int (86) 279)⟩,⟨hH w "__slots__",(.str "__slots__" 284),(.ref 72)⟩,⟨hH w "__init__",(.str "__init__" 292),(.ref 79)⟩,⟨hH w "__static_attributes__",(.str "__static_attributes__" 296),(.ref 80)⟩,⟨hH w "node",(.str "node" 298),(.ref 84)⟩,⟨hH w "npredecessors",(.str "npredecessors" 300),(.ref 85)⟩,⟨hH w "successors",(.str "successors" 302),(.ref 86)⟩,⟨hH w "__doc__",(.str "__doc__" 303),.none⟩]) 5 }),
 (84,{ cls:=(.type "member_descriptor"),data:=.fields (ba [(.str "node" 297),(.ref 83),(.builtin "proto.slot"),(.builtin "proto.slot#set"),(.int (2) 0)]) }),
 (85,{ cls:=(.type "member_descriptor"),data:=.fields (ba [(.str "npredecessors" 299),(.ref 83),(.builtin "proto.slot"),(.builtin "proto.slot#set"),(.int (1) 0)]) }),
 (86,{ cls:=(.type "member_descriptor"),data:=.fields (ba [(.str "successors" 301),(.ref 83),(.builtin "proto.slot"),(.builtin "proto.slot#set"),(.int (0) 0)]) }),
 (180,{ cls:=(.type "type"),data:=.cls { name:="TopologicalSorter",bases:=[(.type "object")],mro:=[(.ref 180),(.type "object")],ns:=179,qualname:="TopologicalSorter",hasDict:=true,slotNames:=[],subclasses:=[],abstract:=false,collection:=none,hasDel:=false },slots:=ba [none,none,some (.str "TopologicalSorter" 324),some (.str "TopologicalSorter" 332),some (.builtin "object.__new__"),some (.bool true)] }),
 (179,{ cls:=(.type "dict"),data:=.dict (ba [⟨hH w "__module__",(.str "__module__" 331),(.str "cpy313.graphlib" 261)⟩,⟨hH w "__firstlineno__",(.str "__firstlineno__" 335),(.int (95) 334)⟩,⟨hH w "__init__",(.str "__init__" 345),(.ref 116)⟩,⟨hH w "_get_nodeinfo",(.str "_get_nodeinfo" 354),(.ref 123)⟩,⟨hH w "add",(.str "add" 366),(.ref 130)⟩,⟨hH w "prepare",(.str "prepare" 372),(.ref 135)⟩,⟨hH w "get_ready",(.str "get_ready" 382),(.ref 142)⟩,⟨hH w "is_active",(.str "is_active" 389),(.ref 149)⟩,⟨hH w "__bool__",(.str "__bool__" 396),(.ref 156)⟩,⟨hH w "done",(.str "done" 410),(.ref 163)⟩,⟨hH w "_find_cycle",(.str "_find_cycle" 423),(.ref 170)⟩,⟨hH w "static_order",(.str "static_order" 430),(.ref 177)⟩,⟨hH w "__static_attributes__",(.str "__static_attributes__" 435),(.ref 178)⟩,⟨hH w "__dict__",(.str "__dict__" 437),(.ref 181)⟩,⟨hH w "__weakref__",(.str "__weakref__" 439),(.ref 182)⟩,⟨hH w "__doc__",(.str "__doc__" 440),.none⟩]) 4 }),
 (79,fO (fu 11 1) "__init__" "_NodeInfo.__init__" .none .none .none (.str "cpy313.graphlib" 261) (.ref 78) .none),
 (116,fO (fu 13 0) "__init__" "TopologicalSorter.__init__" (.ref 109) .none .none (.str "cpy313.graphlib" 261) (.ref 115) .none),
 (123,fO (fu 13 1) "_get_nodeinfo" "TopologicalSorter._get_nodeinfo" .none .none .none (.str "cpy313.graphlib" 261) (.ref 122) .none),
 (130,fO (fu 13 2) "add" "TopologicalSorter.add" .none .none .none (.str "cpy313.graphlib" 261) (.ref 129) .none),
 (135,fO (fu 13 3) "prepare" "TopologicalSorter.prepare" .none .none .none (.str "cpy313.graphlib" 261) (.ref 134) .none),
 (142,fO (fu 13 4) "get_ready" "TopologicalSorter.get_ready" .none .none .none (.str "cpy313.graphlib" 261) (.ref 141) .none),
 (149,fO (fu 13 5) "is_active" "TopologicalSorter.is_active" .none .none .none (.str "cpy313.graphlib" 261) (.ref 148) .none),
 (163,fO (fu 13 7) "done" "TopologicalSorter.done" .none .none .none (.str "cpy313.graphlib" 261) (.ref 162) .none),
 (170,fO (fu 13 8) "_find_cycle" "TopologicalSorter._find_cycle" .none .none .none (.str "cpy313.graphlib" 261) (.ref 169) .none)]
noncomputable def kT:mz:=[(59,{ cls:=.none,data:=.fields (ba []) }),(191,{ cls:=.none,data:=.fields (ba []) })]
noncomputable def KL(w:sz):mz:=kK w++kT
noncomputable def aL:List ay:=[2,1,4,22,31,40,49,109,29,38,47,56,63,78,115,122,129,134,141,148,162,169,188,193,198,203,30,39,48,57,64,189,194,199,204,83,82,84,85,86,180,179,79,116,123,130,135,142,149,163,170,59,191]
noncomputable def tJ:List (Str×aq):=[("insort_right",.ref 30),("bisect_right",.ref 39),("insort_left",.ref 48),("bisect_left",.ref 57),("cmp_to_key",.ref 64),("_NODE_OUT",.int (-1) 264),("_NODE_DONE",.int (-2) 267),("_NodeInfo",.ref 83),("TopologicalSorter",.ref 180),("_law_works",.ref 189),("_law_course",.ref 194),("_law_end",.ref 199),("law",.ref 204),("__builtins__",.ref 4),("__name__",.str "law_dn0053_11" 443)]
noncomputable def bL:List (Str×aq):=("__build_class__",.builtin "__build_class__")::CZ
noncomputable def Ge(s:aU):Nat×List (Option Obj)×List (Option aq)×List (Option aq)×List (Option aq):=(s.heap.objs.size,aL.map s.heap.get?,tJ.map (λp=>s.heap.nsMap cm p.1),bL.map (λp=>s.heap.nsMap cm p.1),bL.map λp=>s.heap.nsMap dU p.1)
noncomputable def Gf(w:sz):Nat×List (Option Obj)×List (Option aq)×List (Option aq)×List (Option aq):=(205,(KL w).map (λp=>some p.2),tJ.map (λp=>some p.2),bL.map (λ_=>none),bL.map λp=>some p.2)
theorem WK:LeftO vq hq Eh (λs=>xlAt hq [] s&&recOk (OpenLaw.row jq).records s) Ge Gf 3000:=by
 intro w;kernel_rfl
variable {D:aq→Prop}{K:mz}{f:ay}{t:Tok}
theorem tK(h:iF g K){dV:aq}(e1:K.lookup f=some (fO st name qual dV kV doc pm (.ref c) ct))(e2:K.lookup c=some (cO vs))(e3:(ba vs)[1]?=some (.str qual t))(hD:D dV):ma g st name qual D f :=
 ⟨_,dV,kV,doc,pm,.ref c,ct,(h _ _ e1).1,(h _ _ e1).2,rfl,⟨c,_,_,t,rfl,(h _ _ e2).1,(h _ _ e2).2,rfl,e3⟩,hD⟩
theorem Mb{g:Gd}{K:mz}(h:iF g K){T:ay}{as:List AV}{ws:List aq}(e:K.lookup T=some { cls:=.type "tuple",data:=.seq (ba ws) 0 })(ha:bP ws as):qU g as (.ref T):=⟨T,_,ws,0,rfl,(h _ _ e).1,(h _ _ e).2,rfl,ha⟩
theorem A7(h:iF g K){T:ay}(e:K.lookup T=some { cls:=.type "tuple",data:=.seq (ba [.int 0 t,.none]) 0 }):qU g [.int 0,.none] (.ref T):=Mb h e (.cons ⟨t,rfl⟩ (.cons rfl .nil))
theorem to{w:sz}(h:iF g (kK w))(e1:(kK w).lookup f=some (fO st name qual .none .none doc pm (.ref c) ct))(e2:(kK w).lookup c=some (cO vs))(e3:(ba vs)[1]?=some (.str qual t))
  (e4:j' (kK w) (.ref C) name=some (some (.ref f))) (e5:tR (kK w) (.ref f)=some (.type "function")):qV g (kK w) C name qual st f:=⟨e4,e5,tK h e1 e2 e3 rfl⟩
structure vl(mg mb:Str→Option aq):Prop where
 n : ∀p∈tJ,mg p.1=some p.2
 b : ∀p∈bL,mg p.1=none∧mb p.1=some p.2
theorem Sq{w:sz}:uf (kK w) 180:=⟨⟨_,rfl,rfl⟩,by kernel_rfl,by kernel_rfl,by kernel_rfl,by kernel_rfl⟩
theorem Nv{g:Gd}{K:mz}(h:iF g K){c P:ay}{vs:List aq}{file:Str}{flags text:Int}{tf tg tt:Tok}{qj:Bool}(e:K.lookup c=some (cO vs))(e1:(ba vs)[11]?=some (.ref P))(e2:(ba vs).getD 11 .none = .ref P)(e3:(ba vs).getD 18 .none = .str file tf)(e4:(ba vs).getD 7 .none = .int flags tg)(e5:(ba vs).getD 9 .none = .bool qj)(e6:(ba vs).getD 10 .none = .int text tt)(e7:c≠P):Qbx g.dB c P :=
 ⟨_,_,file,tf,flags,tg,qj,text,tt,(h _ _ e).1,rfl,rfl,e1,e2,e3,e4,e5,e6,e7⟩
theorem Er{w:sz}{p:ay}(e1:GB (kK w) 83 name=some (some (.ref p)))(e2:tR (kK w) (.ref p)=some (.type "member_descriptor"))(e3:slotIn (kK w) p 83=some i)(e4 : ∀od,NA (kK w) 83 od name=some (.bind (.builtin "member_descriptor.__get__") (.ref p))):oY (kK w) 83 name p i:=⟨e1,e2,e3,e4⟩
theorem s1{w:sz}:oY (kK w) 83 "node" 84 0:=Er (by kernel_rfl) (by kernel_rfl) (by kernel_rfl) (λod=>by kernel_rfl)
theorem s2{w:sz}:oY (kK w) 83 "npredecessors" 85 1:=Er (by kernel_rfl) (by kernel_rfl) (by kernel_rfl) (λod=>by kernel_rfl)
theorem s3{w:sz}:oY (kK w) 83 "successors" 86 2:=Er (by kernel_rfl) (by kernel_rfl) (by kernel_rfl) (λod=>by kernel_rfl)
theorem UV{w:sz}:wo (kK w) 83:=⟨⟨_,_,rfl,rfl⟩,by kernel_rfl,by kernel_rfl,⟨by kernel_rfl,by kernel_rfl,by kernel_rfl,by kernel_rfl⟩⟩
theorem TO{w:sz}:wo (kK w) 180:=⟨⟨_,_,rfl,rfl⟩,by kernel_rfl,by kernel_rfl,⟨by kernel_rfl,by kernel_rfl,by kernel_rfl,by kernel_rfl⟩⟩
theorem WL{w:sz}: ∀x∈(["_node2info","_ready_nodes","_npassedout","_nfinished"]:List Str),j' (kK w) (.ref 180) x=some none∧GB (kK w) 180 x=some none:=by
 intro x hx;rcases List.mem_cons.mp hx with rfl | hx
 ·exact ⟨by kernel_rfl,by kernel_rfl⟩
 rcases List.mem_cons.mp hx with rfl | hx
 ·exact ⟨by kernel_rfl,by kernel_rfl⟩
 rcases List.mem_cons.mp hx with rfl | hx
 ·exact ⟨by kernel_rfl,by kernel_rfl⟩
 rcases List.mem_cons.mp hx with rfl | hx
 ·exact ⟨by kernel_rfl,by kernel_rfl⟩
 cases hx
theorem Nw:(("object":Str),nU "object")∈bL:=.tail _ (mi 12 rfl)
theorem vl.nm(N:vl mg mb)(x:Str)(v:aq)(h:tJ.lookup x=some v):mg x=some v:=by
 have : ∀l:List (Str×aq),(∀p∈l,mg p.1=some p.2)→l.lookup x=some v→mg x=some v:=by
  intro l
  induction l with
  | nil=>intro _ h;cases h
  | cons p l ih =>
   intro hl h;rw [aP] at h;cases e:x==p.1 with
   | true =>
    rw [e] at h;rw [beq_iff_eq.mp e,hl p (.head _)];exact h
   | false =>
    rw [e] at h;exact ih (λq hq=>hl q (.tail _ hq)) h
 exact this tJ N.n h
noncomputable abbrev Ju{g:Gd}{mg mb:Str→Option aq}(h:iF g (kK g.w))(N:vl mg mb)(G:l6 g mg mb):fR g where
 mg:=mg
 mb:=mb
 G:=G
 bi:=λx v hx=>N.b (x,v) (.tail _ hx)
 uU:=39
 yM:=57
 qe:=30
 uV:=48
 br:=tK h rfl rfl rfl (A7 h rfl)
 bl:=tK h rfl rfl rfl (A7 h rfl)
 ir:=tK h rfl rfl rfl (A7 h rfl)
 il:=tK h rfl rfl rfl (A7 h rfl)
 BN:=N.nm _ _ rfl
 MA:=N.nm _ _ rfl
 Fo:=N.nm _ _ rfl
 nil:=N.nm _ _ rfl
noncomputable abbrev UW{g:Gd}(h:iF g (kK g.w)):Cls g where
 K:=kK g.w
 TK:=h
 NI:=83
 ni:=UV
 Fy:=79
 AJ:=to h rfl rfl rfl (by kernel_rfl) (by kernel_rfl)
 pn:=84
 pp:=85
 ps:=86
 sN:=s1
 sP:=s2
 sS:=s3
noncomputable abbrev UX{g:Gd}{mg mb:Str→Option aq}(h:iF g (kK g.w))(N:vl mg mb)(G:l6 g mg mb)(hS:oB g):rR (Ju h N G) where
 toCls:=UW h
 M:=hS
 MM:=N.nm _ _ rfl
 TS:=180
 ts:=TO
 lI:=Sq
 xS:=116
 yr:=123
 qW:=130
 AU:=135
 vV:=142
 wq:=149
 AW:=163
 wr:=170
 yX:=to h rfl rfl rfl (by kernel_rfl) (by kernel_rfl)
 add:=to h rfl rfl rfl (by kernel_rfl) (by kernel_rfl)
 yu:=to h rfl rfl rfl (by kernel_rfl) (by kernel_rfl)
 ready:=to h rfl rfl rfl (by kernel_rfl) (by kernel_rfl)
 act:=to h rfl rfl rfl (by kernel_rfl) (by kernel_rfl)
 done:=to h rfl rfl rfl (by kernel_rfl) (by kernel_rfl)
 yY:=to h rfl rfl rfl (by kernel_rfl) (by kernel_rfl)
 fld:=WL
 E2:=⟨264,N.nm _ _ rfl⟩
 JC:=⟨267,N.nm _ _ rfl⟩
 FF:=N.nm _ _ rfl
 JD:=by kernel_rfl
 LG:=by kernel_rfl
 MN:=tK h rfl rfl rfl (Mb h rfl (.cons rfl .nil))
noncomputable abbrev UY{g:Gd}{mg mb:Str→Option aq}(h:iF g (kK g.w))(N:vl mg mb)(G:l6 g mg mb)(hS:oB g)(hN:rS g):gD g where
 T:=Ju h N G
 D:=UX h N G hS
 C:={ f:=64,cc:=63,P0:=59,fn:=⟨_,.none,.none,_,_,(h 64 _ rfl).1,(h 64 _ rfl).2,rfl⟩,code:=⟨_,_,_,(h 63 _ rfl).1,(h 63 _ rfl).2,rfl,rfl⟩,hd:=Nv h rfl rfl rfl rfl rfl rfl rfl (by decide),G:=G,B:=⟨4,_,N.nm _ _ rfl,by decide,(h 4 _ rfl).1,(h 4 _ rfl).2,rfl,rfl,rfl⟩,M:=hS,NO:=hN,MX:=(N.b ("object",.type "object") Nw).1,obj:=(N.b ("object",.type "object") Nw).2,bc:=(N.b ("__build_class__",.builtin "__build_class__") (.head _)).2,nm:=⟨_,N.nm _ _ rfl⟩ }
 M5:=⟨by kernel_rfl,by kernel_rfl⟩
 M6:=⟨_,_,rfl,rfl⟩
 nC:=N.nm _ _ rfl
 fL:=194
 cL:=193
 PL:=191
 Cc:=⟨_,.none,.none,_,_,(h 194 _ rfl).1,(h 194 _ rfl).2,rfl⟩
 A1:=⟨_,_,_,(h 193 _ rfl).1,(h 193 _ rfl).2,rfl,rfl⟩
 FS:=Nv h rfl rfl rfl rfl rfl rfl rfl (by decide)
noncomputable abbrev UZ{g:Gd}{mg mb:Str→Option aq}(h:iF g (kK g.w))(N:vl mg mb)(G:l6 g mg mb)(hS:oB g)(hN:rS g):nD g where
 X:=UY h N G hS hN
 fW:=189
 fE:=199
 fA:=204
 cA:=203
 wk:=tK h rfl rfl rfl rfl
 nd:=tK h rfl rfl rfl rfl
 nW:=N.nm _ _ rfl
 nE:=N.nm _ _ rfl
 nL:=N.nm _ _ rfl
 fn:=⟨_,.none,.none,_,_,(h 204 _ rfl).1,(h 204 _ rfl).2,rfl⟩
 code:=⟨_,_,_,(h 203 _ rfl).1,(h 203 _ rfl).2,rfl,rfl⟩
noncomputable def Mc:DefRec:={ name:="law",params:=Am (top 18),body:=ju (top 18),scope:=mK (top 18),pos:=⟨267,0,303,70⟩ }
variable {m:Str→Option aq}
theorem JX{a:ay}{x0:Str}{v0:aq}(hk : ∀b o,h.get? b=some o→h'.get? b=some o)(hn:h'.Ns a m)(e:h.nsMap a x0=some v0): ∀x,m x=h.nsMap a x:=by
 obtain ⟨o,es,ep,h1,h2,h3,h4⟩:=hn;unfold Qcc at e;intro x;cases q:h.get? a with
 | none=>rw [q] at e;cases e
 | some o' =>
  have:=hk a o' q
  rw [h1] at this;obtain rfl:=fx this;unfold Qcc;rw [q];dsimp only;rw [h2];exact (h4 x).symm
theorem WM: ∀{K:mz},AllIn h K→∀p∈K,h.get? p.1=some p.2:=by
 intro K
 induction K with
 | nil=>intro _ p hp;cases hp
 | cons q K ih =>
  intro H p hp;rcases List.mem_cons.mp hp with rfl | hp
  ·exact H.1
  ·exact ih H.2 p hp
theorem Sr{K:mz}{a:ay}{o:Obj}:K.lookup a=some o→(a,o)∈K:=by
 induction K with
 | nil=>intro h;cases h
 | cons p K ih =>
  obtain ⟨b,q⟩:=p;intro h;rw [aP] at h;cases e:a==b with
  | true =>
   rw [e] at h;have e:a=b:=beq_iff_eq.mp e;cases h;subst e;exact .head _
  | false=>rw [e] at h;exact .tail _ (ih h)
theorem TP(w:sz): ∀p∈kK w,p.1∉[59,191]:=by
 have e:((kK w).map (·.1)).all (λa=>decide (a∉[59,191]))=true:=by kernel_rfl
 intro p hp
 have:=List.all_eq_true.mp e p.1 (List.mem_map.mpr ⟨p,hp,rfl⟩)
 simpa using this
theorem U0(k : ∀b o,h.get? b=some o→b∉[59,191]→h'.get? b=some o)(t1:h.TableAt c1 59 #[])(t2:h.TableAt c2 191 #[]){p1 p2:Array aq}(e1:h'.get? 59=some (tableObj p1))(e2:h'.get? 191=some (tableObj p2)):OldK h h':=by
 have one : ∀{c P:ay} {ps:Array aq} (t:h.TableAt c P #[]) (e:h'.get? P=some (tableObj ps)) (o:Obj),h.get? P=some o→asItWas h h' P o:=λ{c P ps} t e o ho=>by
  have YV:o={ cls:=.none,data:=.fields #[] }:=fx (ho.symm.trans t.2);subst YV;exact .inr (.inl ⟨t.isCodeTable,rfl,#[],ps,rfl,by rw [Array.empty_append];exact e⟩)
 refine ⟨λb o ho=>?_,λb o ho=>?_⟩
 ·by_cases h1:b=59
  ·subst h1;exact one t1 e1 o ho
  ·by_cases h2:b=191
   ·subst h2;exact one t2 e2 o ho
   ·exact .inl (k b o ho (by simp [h1,h2]))
 ·by_cases h1:b=59
  ·subst h1;exact ⟨_,e1⟩
  ·by_cases h2:b=191
   ·subst h2;exact ⟨_,e2⟩
   ·exact ⟨o,k b o ho (by simp [h1,h2])⟩
theorem nt1:cm∉[59,191]:=by decide
theorem nt2:dU∉[59,191]:=by decide
theorem nt3:zI∉[59,191]:=by decide
theorem Nx:NR∉[59,191]:=by decide
theorem WN:WalkX hq Eh (XL hq []) Ge Gf (OpenLaw.row jq).toRowW Mc [] λf vs=>Qb0 f vs:=by
 intro w s0 s1 mg mb G y fa o pm cd doc dV kV ho hd eb hD hmg hg args vals as L uO YW rk gE kC
 wrow_args uO YW rk gE kC
 rename_i is _ _ _ _ _ as1 as2 l vs as3 hL _ _ _ hI _ hlen _;have y1:s0.heap.objs.size=205:=congrArg Prod.fst y;have y2:aL.map s0.heap.get?=(KL w).map λp=>some p.2:=congrArg (λx=>x.2.1) y;have y3:tJ.map (λp=>s0.heap.nsMap cm p.1)=tJ.map λp=>some p.2:=congrArg (λx=>x.2.2.1) y;have y4:bL.map (λp=>s0.heap.nsMap cm p.1)=bL.map λ_=>none:=congrArg (λx=>x.2.2.2.1) y;have y5:bL.map (λp=>s0.heap.nsMap dU p.1)=bL.map λp=>some p.2:=congrArg (λx=>x.2.2.2.2) y;have l7 : ∀p∈KL w,s0.heap.get? p.1=some p.2:=WM (allIn_of (by rw [← y2];rfl));let g:Gd:=⟨(OpenLaw.row jq).prog,w,s1.heap,s1.os,[59,191]⟩;have hK:iF g (kK g.w):=λa o e=>by
  have hm:=Sr e;exact ⟨L.keeps _ _ (l7 _ (ao _ hm)),TP w _ hm⟩
 have q1 : ∀p∈tJ,s0.heap.nsMap cm p.1=some p.2:=List.map_inj_left.mp y3;have q2 : ∀p∈bL,s0.heap.nsMap cm p.1=none:=List.map_inj_left.mp y4;have q3 : ∀p∈bL,s0.heap.nsMap dU p.1=some p.2:=List.map_inj_left.mp y5;have e1:=JX L.keeps G.T.g (q1 _ (.head _));have e2:=JX L.keeps G.T.b (q3 _ (.head _));have hN:vl mg mb:=⟨λp hp=>by rw [e1];exact q1 p hp,λp hp=>by rw [e1,e2];exact ⟨q2 p hp,q3 p hp⟩⟩;have hG:l6 g mg mb:=⟨G.T.g,G.T.b,nt1,nt2⟩;have hS:oB g:=⟨⟨_,(hK 1 _ rfl).1⟩,nt3⟩;have hO:rS g:=⟨Nx,_,_,_,(hK 2 _ rfl).1,rfl,λe he=>by simp at he,rfl⟩;obtain rfl:fa=204:=by
  have:=hN.nm ("law":Str) _ rfl
  have:=hmg.symm.trans this
  simpa using this
 obtain ⟨hl,gB⟩:=script_at L;subst hl;have Md:=script_obj L hL;have YX:yl g s0.heap.objs.size (is.map AV.int):=λL' s S=>⟨_,S.keep _ _ Md (by show s0.heap.objs.size∉[59,191];rw [y1];decide),_,_,rfl,by rw [List.toList_toArray];exact bP.Hf hI⟩;have Ny:s1.heap.get? 59=some { cls:=.none,data:=.fields #[] }:=L.keeps _ _ (l7 (59,_) (ag _ (.head _)));have Me:s1.heap.get? 191=some { cls:=.none,data:=.fields #[] }:=L.keeps _ _ (l7 (191,_) (ag _ (mi 1 rfl)));have sX : ∃o,s1.heap.get? (s1.heap.objs.size-1)=some o∧s1.heap.objs.size-1∉[59,191]:=by
  rw [gB,w9];exact ⟨_,Md,by rw [y1];decide⟩
 have hSt:St g ([(59,gz [])]++(bM 191 cD []++[])) s1:=by
  refine ⟨by decide,λp hp=>?_,λp hp=>?_,λb o e _=>e,sX,hg,rfl,G.T.nolimit,Nx⟩
  ·rcases List.mem_cons.mp hp with rfl | hp
   ·exact ⟨_,Ny,#[],rfl,trivial,λ_=>rfl⟩
   ·rcases List.mem_cons.mp hp with rfl | hp
    ·exact ⟨_,Me,#[],rfl,trivial,λ_=>rfl⟩
    ·cases hp
  ·right;rcases List.mem_cons.mp hp with rfl | hp
   ·exact .head _
   ·rcases List.mem_cons.mp hp with rfl | hp
    ·exact .tail _ (.head _)
    ·cases hp
 have iq:jg callerA []:=⟨[],rfl,λe he=>by cases he⟩;have hA:bZ (0+11) callerA:=⟨rfl,by decide,by decide⟩;have YY:=UU (UZ hK hN hG hS hO) hA iq (sl:=s0.heap.objs.size) (sc:=is) (bV (.i (.n (.T (.k (.c 63)) (.k .A))) (.l .A (.c 63))) rfl hlen) YX (Xc:=[(59,gz [])]) (.inl rfl) (es:=[]) (vs:=[.ref s0.heap.objs.size]) (.cons rfl .nil) s1;have C63:s1.heap.get? 63=_:=(hK 63 _ rfl).1;have YZ:s1.heap.get? 193=_:=(hK 193 _ rfl).1;refine cw (YY (λv s'=>GoodWG (OpenLaw.row jq).claim (classAt s0.heap) (ExcName.means s0.heap) [ofPy (PyData.list (is.map PyData.int))] s1 (.ok (.ret v)) s') hSt λv M s' hM S'=>?_) (λ_ _ x=>x) λ_ _ x=>x.elim;obtain ⟨hv,⟨FL,t1⟩,mq,t2⟩:=hM;cases hv;obtain ⟨_,g1,p1,rfl,_⟩:=S'.get t1;obtain ⟨_,g2,p2,rfl,_⟩:=S'.get t2;refine ⟨.inl ⟨.bool true,.bool true,[],rfl,λ_=>rfl,ReadsW.bool _,by kernel_rfl,λ_=>⟨.nil,λa ha=>by cases ha⟩⟩,U0 S'.keep (table_at C63 rfl rfl Ny rfl) (table_at YZ rfl rfl Me rfl) g1 g2,S'.os,AllBare.of_eq S'.gens⟩
end
end
end Mine
theorem Mine.WO:OpenLaw.wellSaid PySem.Challenge.rw_dn0053_11=true:=by kernel_rfl
theorem PySem.Challenge.cw_dn0053_11_holds : PySem.Challenge.rw_dn0053_11.Holds := by
 refine holds_law Mine.WO fun ab3=>?_
 refine holds_openX (q:=Mine.hq) (loose:=Mine.Eh) (Xt:=fun s=>xlAt Mine.hq [] s&&recOk (OpenLaw.row PySem.Challenge.rw_dn0053_11).records s) (XP:=XL Mine.hq []) (Yf:=Mine.Ge) (Ya:=Mine.Gf) (N:=3000) (d:=Mine.Mc) (kwd:=[]) Mine.WK (fun s e=>xl_of s (Bool.and_eq_true_iff.mp e).1) XL.keeps (by rfl) (by rfl) (by rfl) (fun s e=>recFacts_of (Bool.and_eq_true_iff.mp e).2) (by rfl) (by first | assumption | decide +kernel) (by decide +kernel) ⟨rfl,rfl,rfl,rfl,rfl,by decide +kernel⟩ ?hw Mine.WN
 case hw=>w_witness2
