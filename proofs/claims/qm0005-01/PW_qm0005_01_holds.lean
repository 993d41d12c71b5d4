import PyProof.Rows.All
import Wide.ObjOpen
import Wide.Head
import Wide.Well
import Wide.OneHead
import Wide.BridgeG
import Wide.Once
import OpenK.Peek
import OpenK.KGet
import OpenK.KDescr
import OpenK.KCall
import OpenK.KMake
import OpenK.KCls
import Open.Head
import OpenK.KWalk
import OpenK.KMore
import OpenK.KList
import Open.Seg
import Open.Boot
import Open.Tree
import Open.FastRun
import Open.FastT9
import KE.KItem
import KE.KBoundM
import KE.KDictList
import OpenK.KOwn
import KE.KIsNot
import KE.KxPercent
import KE.KSuperObj
import KE.KSuper
import KE.KTupTruth
import KE.KxTruthy
import Lean
import PySem.Challenge.RW_qm0005_01
set_option Elab.async false
set_option linter.all false
set_option maxRecDepth 100000
set_option genSizeOf false
set_option genInjectivity false
set_option backward.match.sparseCases false
set_option tactic.hygienic false
set_option genCtorIdx false
set_option compiler.extract_closed false
namespace Mine.Internal
open Array renaming getElem?_eq_none→MF,toArray_toList→Mo,any_toList→Mt,getElem?_toList→pY,getElem?_eq_some_iff→ww,length_toList→zE,replicate→zm
open Bool renaming true→H,false→g,noConfusion→iG,and_eq_true→iX,false_ne_true→lS,and_eq_true_iff→lT,not_eq_true'→sW,or_eq_true_iff→s_,or_true→un,and_false→uw,or_eq_true→wQ,eq_false_iff→ws,false_and→z9
open False renaming elim→o6
open Int renaming toNat_lt→Eb,lt_of_le_of_lt→Me,fmod→kW,natCast_nonneg→mB,ofNat_lt→pd,fdiv→qB,ofNat→tc,ofNat_le→wD,le_trans→wF,lt_of_lt_of_le→wG,le_refl→wH,toNat_of_nonneg→zI
open List renaming length_singleton→Aa,getElem?_zip_eq_some→D1,mem_replicate→D2,getElem?_take_of_lt→D3,mem_of_mem_drop→D4,drop_take→D8,getElem?_set_self→DM,getElem?_set_ne→DN,any_cons→DR,take_of_length_le→Ea,nodup_nil→Eo,filter_sublist→Ep,forall_mem_cons→Es,drop_append_of_le_length→Et,map_drop→Eu,mem_of_mem_take→Ew,getElem_mem→Ex,zip_nil_right→L',find?_cons_of_pos→L5,find?_cons_of_neg→L6,mem_reverse→L7,getElem?_of_mem→L8,isEmpty_iff→L9,drop_sublist→L_,getElem?_eq_none_iff→M0,mem_append_right→ME,foldl_append→MI,filter_cons_of_pos→MJ,filter_cons_of_neg→MK,length_filter_le→ML,filter_filter→MM,filter_congr→MN,drop_of_length_le→MR,getElem?_drop→MT,any_eq_true→MW,cons_lt_cons_iff→MZ,map_fst_zip→Ma,take_append_drop→Mb,filter_cons→Mc,size_toArray→Mf,append_assoc→h2,mem_cons→h7,length_append→hz,getElem?_eq_some_iff→i2,append_nil→iL,length_map→ig,mem_singleton→iv,map_append→k4,mem_of_getElem?→l8,not_mem_nil→lR,mem_append→li,all_eq_true→mC,length_cons→mT,lookup→o8,length_drop→oC,length_take→oD,getElem?_map→oa,getElem?_eq_getElem→oe,map→oh,getElem?_append_right→pX,getElem?_append_left→qF,nodup_cons→qG,drop_drop→qI,replicate→rG,all_cons→rL,mem_filter→rM,mem_nil_iff→rP,nodup_append→rQ,mem_append_left→s0,map_map→s1,drop_eq_getElem_cons→s4,length_reverse→s7,drop_left'→s8,filterMap_cons→sZ,length→uB,length_nil→uD,nil_append→ur,mem_map_of_mem→wA,map_cons→wC,of_mem_zip→wy,map_take→z',reverse_cons→z6,mem_map→zA,drop_eq_nil_of_le→zG,eq_nil_of_length_eq_zero→zK,cons_ne_nil→z_,getElem?_eq_none→zo,length_set→zp,cons_append→zy,forIn_cons→zz
open List.cons renaming inj→rC
open List.span renaming loop→Ey
open Nat renaming not_lt_of_le→Ac,add_sub_cancel_left→Ad,sub_le→D',beq_refl→DQ,lt_of_succ_lt→Ed,le_of_sub_eq_zero→Ei,ble_eq_true_of_le→En,sub_le_sub_left→Er,lt_of_le_of_ne→L0,le_sub_of_add_le'→MO,sub_le_sub_right→MP,lt_sub_iff_add_lt'→MQ,lt_of_succ_lt_succ→MS,sub_add_cancel→MU,pos_of_ne_zero→Mm,le_trans→f1,le_refl→g',add_le_add→h9,add_le_add_left→hJ,lt_of_lt_of_le→hy,le_succ→iA,beq→iE,ne_of_lt→iI,le_of_lt→iN,ne_of_gt→iP,add_right_comm→iU,le_add_right→ih,le_of_eq→im,add_le_add_right→iq,not_lt→j9,lt_irrefl→jP,mul_le_mul_left→jY,zero_le→jd,le_add_left→jv,le_succ_of_le→jw,le_antisymm→k6,le_of_ble_eq_true→kC,ble→kK,lt_succ_self→kY,lt_of_le_of_lt→lB,succ_le_succ→lC,le_add_right_of_le→l_,zero_add→mU,ne_of_beq_eq_false→n7,lt_or_ge→nG,add_comm→nJ,eq_of_beq_eq_true→nL,lt_one_iff→oF,add_assoc→oG,not_lt_zero→p3,blt→pT,lt_trans→pW,lt_succ_of_lt→qH,succ_le_of_lt→rO,le_of_succ_le→s9,le_of_lt_succ→td,add_sub_of_le→uG,min_le_right→wE,succ_pos→wJ,succ_lt_succ→wR,min_le_left→wS,sub_self→wT,lt_succ_of_le→wW,not_le_of_lt→z7,le_add_left_of_le→z8,min_eq_left→zF,lt_add_of_pos_right→zP,succ_ne_self→zQ,lt_of_sub_eq_succ→zX,sub_sub→zY
open Nat.succ renaming inj→rI
open Option renaming bind_some→L3,some→U,none→V,none→hR,bind_eq_some_iff→ul,map_eq_some_iff→wp,isSome_iff_exists→z1,some→zs
open Option.some renaming inj→io
open Prod renaming fst→zw
open Prod.mk renaming inj→zD
open PyProof.Rows renaming mod_int→L1,subscriptTail→uu,tail_any→uv
open PySem renaming wpAny_setField→D0,foldedSetIterable→D5,wpAny_truthy_bool→D7,Comprehension→DI,wpAny_Constant_str→DP,wpAny_mkText→DU,wpAny_Assign_stores→Ec,wpAny_BinOp→Ee,assignInOrder→Eg,codeAny_of_tree→Eh,wpAt_bind→Ej,wpAny_isSubtype_exc→Ek,ks_wpAt_mono→Em,codeAny_call_builtin→L4,wpAny_storeName_local→MB,intKind→Mg,wpAny_setItem_pairs→Mq,aRefKeyMayBeTheName_at→Mv,wpAny_isTrue_Compare1→Mw,wpAny_evalPart_none→Mx,Value→g7,wpAny→g8,Str→g9,wpAny_mono→hj,Expr→ho,Shared→hr,wpAny_bind→hw,Obj→i',Around→iH,World→iZ,Stmt→ie,wpAny_pure→ip,model→iu,Env→j8,Heap→jA,call→kZ,codeAny→l9,FuncData→lQ,Pos→lg,starEach→mA,Addr→mS,rawInt→my,wpAny_holding→n',Program→n6,keywordEach→nH,backTo→nb,backToKw→nc,assignEach→ng,Const→o4,DictEntry→o5,compareOp→o7,execs→o9,notedBy→o_,Model→oz,wpAny_evalAll_nil→p1,Keyword→pS,wpAny_call→pV,wpAny_standAt→pZ,wpAny_items_nil→pa,wpAny_items_cons→pb,OsState→qA,getAttr→qD,mainGlobals→qE,wpAny_loadName_local→rA,binaryOp→rB,typeIs_str→rH,sizeLine→rJ,assign→rK,strIterType→rN,importedModules→rz,swappedStores→s2,wpAny_execs_nil→s3,wpAny_loadPart_at→s5,handleBy→s6,Operator→sU,BindsTo→sV,wpAny_field→sX,callEnv→sY,setAttr→uA,excClassObj→uC,treeTable→uF,Params→ui,wpAny_Name→um,wpAny_of_eq→ut,callWith→wB,call_meets→wI,wpAny_loadPart→wK,assignAll→wO,compEnv→wP,reprText→wU,builtinsNs→wv,codeAny_mono→wz,wpAt_of_wpAny→z0,wpAt→z3,cStatics→z4,cameBackBy→zB,sysModules→zC,sliceRange→zH,attributeBase→zJ,IsL→zL,wpAny_execs_cons→zO,keeperOf→zU,letOwnedTupleGo→zW,wpAny_For→zZ,wpAny_Constant_int→zr,codeAny_call_def→zx
open PySem.Builtin.Str renaming glued→Ms,Writer→uE
open PySem.Calls renaming loadGlobal_builtin→DO,Name_function_global→zq
open PySem.Challenge renaming pw_qm0005_01→LZ
open PySem.Code renaming quiet_builtin→MH
open PySem.F renaming type_list_pop→MA,slot_str_getitem→Mh,slot_list_append→Mi,slot_list_extend→Mj,entry_list_pop→Ml,slot_list_insert→Mn,slot_dict_delitem→Mr,slot_list_pop→zM
open PySem.Heap renaming size_after_update→DX,get?_update_ne→MG,lt_size→it,get?_push_of_some→jT,size_push→lz,SameBut→mw,get?_push_size→n9,get?_update_self→uo,get?_update_other→zu
open PySem.Heap.DictOf renaming new→D9
open PySem.Heap.SameBut renaming update→D_
open PySem.Keeper renaming frame→zR,machine→zS,boundFrame→zT
open PySem.Obj renaming mapFields→DW,data_mapFields→DY,isFreed_of_fields→DZ
open PySem.PyData renaming eqv→Ef,keyHash→n8,canLayAll0→wM,depthAll→wN,eqvAll→zV
open PySem.ReadsAll renaming nil→My,cons→Mz
open PySem.Str renaming empty→DJ,ofString→DL,length_append→MV
open PySem.StrLaws renaming found_one→L2
open PySem.Value renaming isInt_shape→Mp,ref→lA,int→z2,none→zv
open PySem.W renaming openEnds→Ab,builtinNamed→DK,copiedNames→DT,findObj_own→DV,findIn→iO,Frag→jc,dictOf→ji,getL→lP,instObj→lh,keepIn→nI,hasDictIn→n_,callWith_of→o',mroIn→oA,typeIn→oE,Looks→ob,putL→oc,SharedT→oy,emptyDict→p0,clsIn→pU,handedIn→qC,boot_heap→qz,takerIn→rD,any_some→rE,looks_findIn→rF,boot_drawn→uj,boot_toks→uk,codeIn→uq,looks_clsIn→wL,methodObj→wq,specialIn→wt,looks_mroIn→wu,codeRec_of→wx,putName_dict→zN,namesMeet→zj,openGood→zl,plainOver→zt
open PySem.W.Fast renaming tw4187177175401517315→zk
open PySem.W.KPc renaming ite_no→EA,short_good→EB,good_mono→Ez,Good→qJ,turn→wV
open PySem.W.Looks renaming ld→D6
open PySem.W.SharedT renaming abs→MY
open PySem.W.WShape renaming hasItems→MX
section
theorem O{α:Sort u}{a:α}:a=a:=rfl
open PySem PySem.W PySem.Calls PyProof.Rows
noncomputable abbrev pw:=PySem.Challenge.pw_qm0005_01
noncomputable abbrev ix:=PySem.Challenge.rw_qm0005_01
theorem f2{a b:Bool}(h:(a&&b)=true):a=true∧b=true:=Bool.and_eq_true_iff.mp h
end
section
set_option maxHeartbeats 0
open PySem PySem.W
noncomputable def uH(a:oy->Thread->Option (oy×Thread))(b:Thread->Bool):Nat->oy->Thread->Option oy|0,_,_=>V|n+1,s,t=>match through t with|H=>U s|g=>match b t with|g=>V|H=>match a s t with|U (s',c)=>uH a b n s' c|V=>V
theorem EC{tb:String->Option Builtin}{p:n6}{w:iZ}{a:Nat}{b:Option g7}:∀{n:Nat} {s s':oy} {t:Thread},uH (stepT (denote tb) p w) (stepOk a b) n s t=U s'->topRun tb p w a b n s.abs t=U s'.abs
 |0,_,_,_,h=>by cases h
 |n+1,s,s',t,h=>by
  unfold uH at h;unfold topRun;cases d:through t with
  |true=>rw[d]at h;cases h;rfl
  |false=>
   rw[d]at h;cases c:stepOk a b t with
   |false=>rw[c]at h;cases h
   |true=>
    rw[c]at h;cases hs:stepT (denote tb) p w s t with
    |none=>rw[hs]at h;cases h
    |some r=>obtain⟨e,f⟩:=r;rw[hs]at h;rw[stepT_spec hs];exact EC h
noncomputable def wX(P:ui):BT:=.node (boot_o_0 P) (.node (boot_o_1 P) (.node (boot_o_3 P) (.node (boot_o_7 P) .nil .nil) .nil) (.node (boot_o_5 P) (.node (boot_o_9 P) .nil .nil) .nil)) (.node (boot_o_2 P) (.node (boot_o_4 P) (.node (boot_o_8 P) .nil .nil) .nil) (.node (boot_o_6 P) (.node (boot_o_10 P) .nil .nil) .nil))
theorem M1(P:ui):absHeap (wX P) 11 {}=qz P:=by kernel_rfl
noncomputable def p4:String:="special-get-raises"
noncomputable def pf(w:iZ)(os:qA):Option oy:=uH (Fast.tw10156331382660048174 (Fast.tw11892475500146522536 Fast.tw14364793385576792824) LZ w) (Fast.tw6613529449190102663 11 (U (.ref 6))) 16000 ⟨wX w.params,11,{},#[],uj,uk,os⟩ (topStub LZ)
end
section
set_option maxHeartbeats 0
open PySem PySem.W PySem.Calls PyProof.Rows
noncomputable section
noncomputable def rR(i:Nat):ie:=(pw.main.body[i]?).getD (.Pass ⟨0,0,0,0⟩)
noncomputable def M2(i j:Nat):ie:=match rR i with| .ClassDef _ _ _ b _ _ _ _ _ _ _=>(b[j]?).getD (.Pass ⟨0,0,0,0⟩)|s=>s
noncomputable def dE(w:iZ)(k:g9)(t:Nat)(v:g7):o5:=⟨hashStr w k,.str k t,v⟩
noncomputable abbrev MD:=g9×Nat
noncomputable def te:ie->g9| .FunctionDef n _ _ _ _ _ _ _ _ _=>n| .ClassDef n _ _ _ _ _ _ _ _ _ _=>n|_=>DJ
noncomputable def Ae(s:ie):Nat:=s.pos.line
noncomputable def M3:ie->Nat| .FunctionDef _ a _ _ _ _ _ _ _ _=>a.args.length|_=>0
noncomputable def ED(s:ie)(q:g9)(cd e:g7)(c:List (g9×mS))(d:g7)(m:MD):i':=match s with| .FunctionDef n a b _ _ _ f _ _ _=>⟨.type "function",V,.func ⟨n,q,a,.stmts b,f,3,c,e,.none,.none,.str m.1 m.2,V,cd,d,0⟩,#[]⟩|_=>⟨.none,V,.plain,#[]⟩
noncomputable def M4(nm:g9)(bs a:List g7)(c:mS)(q:g9)(b:Bool)(sub:List g7)(sl:Array (Option g7)):i':=⟨.type "type",V,.cls ⟨nm,bs,a,c,q,b,[],sub,g,V,g⟩,sl⟩
noncomputable def qK:MD:=("yaml.error",194)
noncomputable def m1:MD:=("yaml.tokens",321)
noncomputable def m2:MD:=("yaml.events",798)
noncomputable def m3:MD:=("yaml.reader",1142)
noncomputable def m4:MD:=("yaml.scanner",1285)
noncomputable def m5:MD:=("yaml.parser",2098)
noncomputable def m6:MD:=("law_qm0005_01",2419)
noncomputable def uI(i:Nat)(l:List g7):mS×i':=(i,⟨.type "tuple",V,.seq l.toArray 0,#[]⟩)
noncomputable abbrev nM:=jc×List o5
noncomputable def Af(w:iZ)(s:ie)(q:g9)(m:MD)(c b:g7)(a:List (g9×mS))(i t u:Nat):nM:=([(i,⟨.type "code",V,.fields #[.str (te s) t,.str q (t+1),.str "/claim/cut.py" (t+2),.int (Ae s) 0,.int (M3 s) 0,.int 0 0,.int 0 0,.int 3 0,.ref (i - 5),.bool H,.int 181 0,.ref (i - 4),.none,.ref (i - 3),.ref (i - 2),.ref (i - 1),.int u 0,.int (Ae s) 0,.str "/claim/cut.py" (u+1)],#[]⟩),(i+1,ED s q (.ref i) c a b m)],[dE w (te s) (u+2) (.ref (i+1))])
noncomputable def Ag(c:Nat)(s:ie):g9:=match c with|0=>te s|_=>⟨((te (rR c)).cps.toList++46::(te s).cps.toList).toArray⟩
noncomputable def tf(c j:Nat):ie:=match c with|0=>rR j|_=>M2 c j
noncomputable def lj(w:iZ)(c:Nat)(m:MD):Nat->Nat->Nat->List Nat->nM
 |_,_,_,[]=>([],[])|j,i,t,u::us=>
  let x:=Af w (tf c j) (Ag c (tf c j)) m .none .none [] i t (t+u);let r:=lj w c m (j+1) (i+7) (t+u+3) us
  (x.1++r.1,x.2++r.2)
noncomputable def nN(w:iZ)(c:Nat)(m:MD)(j i t u:Nat)(l:List g7):nM:=
 let x:=Af w (tf c j) (Ag c (tf c j)) m (.ref (i - 6)) .none [] i t (t+u)
 (uI (i - 6) l::x.1,x.2)
noncomputable def EE(w:iZ)(c:Nat)(m:MD)(j i t u k h:Nat):nM:=
 let x:=Af w (tf c j) (Ag c (tf c j)) m .none (.ref h) [("__class__",k)] i t (t+u)
 (uI h [.ref k]::x.1,x.2)
noncomputable def uJ(o:mS×i')(p:nM):nM:=(o::p.1,p.2)
noncomputable def pg:List g7:=[.type "object"]
noncomputable def uK:List g7:=.type "Exception"::.type "BaseException"::pg
noncomputable def hK(w:iZ)(c a T z k:Nat)(m:MD)(b:List g7)(sub:List Nat)(p:Option g7)(x:List o5)(P:List nM):nM:=
 let n:=te (rR c)
 let r:=match k with|0=>(z+1,2,[])|1=>(z+3,3,[dE w "__weakref__" (z+2) (.ref (a+1))])|2=>(z+5,4,[dE w "__dict__" (z+2) (.ref (a+1)),dE w "__weakref__" (z+4) (.ref (a+2))])|_=>(z+2,3,[])
 (P.flatMap (·.1)++[(a - 1,⟨.type "dict",V,.dict (dE w "__module__" (T+7) (.str m.1 m.2)::dE w "__firstlineno__" (T+11) (.int (Ae (rR c)) (T+10))::(x++P.flatMap (·.2)++dE w "__static_attributes__" z (.ref (a - 2))::(r.2.2++[dE w "__doc__" r.1 .none]))).toArray r.2.1,#[]⟩),(a,M4 n (b.take 1) (.ref a::b) (a - 1) n H (sub.map .ref) #[p,V,U (.str n T),U (.str n (T+8)),U (.builtin (match(generalizing:=false) b with| .ref 67::_=>"Exception.__new__"| .ref 95::_=>"Exception.__new__"| .type "Exception"::_=>"Exception.__new__"|_=>"object.__new__")),U (.bool H)])],[dE w n (r.1+match k with|1=>4|_=>2) (.ref a)])
noncomputable def uL(w:iZ)(T:Nat)(s:g9):o5:=dE w "id" (T+13) (.str s (T+12))
noncomputable def th:Nat->List g7|0=>[]|n+1=>.none::th n
noncomputable def uM:List g7:=.ref 114::pg
noncomputable def nO:List g7:=.ref 427::pg
noncomputable def Ah(w:iZ):Nat->Nat->Nat->List g9->List nM|_,_,_,[]=>[]|c,a,T,s::r=>hK w c a T (T+14) 0 m1 uM [] (U (.ref (a - 9))) [uL w T s] []::Ah w (c+1) (a+12) (T+18) r
noncomputable def EF(w:iZ):Nat->Nat->Nat->List g9->List nM|_,_,_,[]=>[]|c,a,T,s::r=>hK w c a T (T+27) 0 m1 uM [] (U (.ref (a - 16))) [uL w T s] [lj w c m1 1 (a - 4) (T+14) [7]]::EF w (c+1) (a+19) (T+31) r
noncomputable def rS(w:iZ)(c a T:Nat)(b:List g7)(sub:List Nat):nM:=hK w c a T (T+12) 0 m2 b sub (U (.ref (a - 9))) [] []
noncomputable def tj(w:iZ)(c a T z u n:Nat)(b:List g7)(sub:List Nat):nM:=hK w c a T (T+z) 0 m2 b sub (U (.ref (a - 17))) [] [nN w c m2 0 (a - 4) (T+12) u (th n)]
noncomputable def EG(w:iZ):List nM:=[hK w 2 53 196 252 2 qK pg [] V [] [lj w 2 qK 0 34 208 [10],
 nN w 2 qK 1 42 223 11 [.int 4 221,.int 75 222],lj w 2 qK 2 49 237 [6]]]++
 [hK w 3 67 260 272 1 qK uK [95,659] (U (.ref 58)) [] []]++
 [hK w 4 95 280 317 0 qK (.ref 67::uK) [744,1293] (U (.ref 71)) [] [nN w 4 qK 0 84 292 9 (th 5),lj w 4 qK 1 91 304 [5]]]++
 [hK w 6 114 323 346 2 m1 pg [135,147,159,179,191,203,215,227,239,251,263,275,287,299,311,323,342,361,380,400] (U (.ref 98)) [] [lj w 6 m1 0 110 335 [6]]]++
 [hK w 7 135 354 383 0 m1 uM [] (U (.ref 119)) [uL w 354 "<directive>"] [lj w 7 m1 1 131 368 [8]]]++
 Ah w 8 147 387 ["<document start>","<document end>"]++
 [hK w 10 179 423 450 0 m1 uM [] (U (.ref 162)) [uL w 423 "<stream start>"] [nN w 10 m1 1 175 437 7 (th 3)]]++
 Ah w 11 191 454 ["<stream end>","<block sequence start>","<block mapping start>","<block end>","[","{","]","}","?",":","-",","]++
 EF w 23 342 670 ["<alias>","<anchor>","<tag>"]++
 [hK w 26 400 763 794 0 m1 uM [] (U (.ref 383)) [uL w 763 "<scalar>"] [nN w 26 m1 1 396 777 9 (th 1)]]++
 [hK w 28 427 800 830 2 m2 pg [449,481,501,513,533,553] (U (.ref 403)) [] [nN w 28 m2 0 416 812 6 (th 2),lj w 28 m2 1 423 821 [4]]]++
 [tj w 29 449 838 25 7 2 nO [469,565,585]]++
 [tj w 30 469 867 31 10 3 (.ref 449::nO) [597,621]]++
 [rS w 31 481 902 nO [609,633]]++
 [tj w 32 501 918 25 7 3 nO []]++
 [rS w 33 513 947 nO []]++
 [tj w 34 533 963 29 9 5 nO []]++
 [tj w 35 553 996 25 7 3 nO []]++
 [rS w 36 565 1025 (.ref 449::nO) []]++
 [tj w 37 585 1041 33 11 3 (.ref 449::nO) []]++
 [rS w 38 597 1078 (.ref 469::.ref 449::nO) []]++
 [rS w 39 609 1094 (.ref 481::nO) []]++
 [rS w 40 621 1110 (.ref 469::.ref 449::nO) []]++
 [rS w 41 633 1126 (.ref 481::nO) []]++
 [hK w 43 659 1144 1180 0 m3 (.ref 67::uK) [] (U (.ref 636)) [] [lj w 43 m3 0 648 1156 [9,4]]]++
 [lj w 0 m3 44 667 1184 [4]]++
 [hK w 45 730 1191 1277 2 m3 pg [1281] (U (.ref 669)) [] [lj w 45 m3 0 681 1203 [5],nN w 45 m3 1 689 1212 5 [(.int 0 1211)],nN w 45 m3 2 697 1221 5 [(.int 1 1220)],nN w 45 m3 3 705 1230 6 [(.int 1 1229)],lj w 45 m3 4 712 1239 [4,8,5]]]++
 [hK w 47 744 1287 1299 0 m4 (.ref 95::.ref 67::uK) [] (U (.ref 735)) [] []]++
 [hK w 48 763 1303 1334 2 m4 pg [] V [] [lj w 48 m4 0 759 1315 [10]]]++
 [hK w 49 1281 1342 2093 3 m4 (.ref 730::pg) [1521] (U (.ref 768)) [] [uJ (771,⟨.type "cell",V,.cell (U (.ref 1281)),#[]⟩) (EE w 49 m4 0 782 1354 6 771 776),uJ (uI 784 []) (nN w 49 m4 1 791 1363 5 [(.ref 784)]),lj w 49 m4 2 798 1371 [4,4,4,5,7,6,7,5,6,5,5,5,4,4,4,7,4,4,7,4,4,7,6,7,7,8,4,4,4,4,4,5,4,4,5,4,4,4,4,4,4,4,5,5,8,8,7,8,7,7,7,6,12,12,18,8,6,7,7,10],([],[dE w "ESCAPE_REPLACEMENTS" 1959 (.ref 1213)]),([],[dE w "ESCAPE_CODES" 1969 (.ref 1215)]),lj w 49 m4 64 1221 1970 [11,12,8,11,13,9,9,10,5]]]++
 [hK w 51 1293 2100 2112 0 m5 (.ref 95::.ref 67::uK) [] (U (.ref 1284)) [] []]++
 [hK w 52 1521 2116 2414 3 m5 (.ref 1281::.ref 730::pg) [] (U (.ref 1296)) [dE w "DEFAULT_TAGS" 2134 (.ref 1304)] [([(1299,⟨.type "cell",V,.cell (U (.ref 1521)),#[]⟩),(1304,⟨.type "dict",V,.dict #[dE w "!" 2128 (.str "!" 2129),dE w "!!" 2130 (.str "tag:yaml.org,2002:" 2131)] 2,#[]⟩)],[]),EE w 52 m5 1 1311 2135 6 1299 1305,lj w 52 m5 2 1318 2144 [4,4,5,6,8,10,9,5,11,4,4,4],nN w 52 m5 14 1403 2254 17 [(.bool g),(.bool g)],lj w 52 m5 15 1410 2274 [5,6,6,5,6,5,5],nN w 52 m5 22 1460 2333 7 [(.bool g)],lj w 52 m5 23 1467 2343 [5,5,5,5],nN w 52 m5 27 1496 2375 7 [(.bool g)],lj w 52 m5 28 1503 2385 [5,4,5]]]++
 [([uI 1524 [.bool H,.bool g],uI 1525 [.str "value" 2423,.none,.none,.ref 1524,.str "" 2424,.none]],[dE w "_law_NAMES" 2422 (.str "abcdefghijklmnopqrstuvwxyz" 2421),dE w "_law_NOTHING" 2425 (.ref 1525)]),lj w 0 m6 56 1531 2426 [4,7,10,7,7,15,9,13,10,4,4],([(1606,⟨(.type "code"),V,.fields #[(.str "law" 2549),(.str "law" 2550),(.str "/claim/cut.py" 2551),(.int 1718 0),(.int 1 0),(.int 0 0),(.int 0 0),(.int 3 0),(.ref 1603),(.bool H),(.int 181 0),(.ref 1604),.none,.none,.none,(.ref 1605),(.int 2552 0),(.int 1718 0),(.str "/claim/cut.py" 2553)],#[]⟩),(1607,ED (rR 67) "law" (.ref 1606) .none [] .none m6)],[dE w "law" 2554 (.ref 1607)])]
noncomputable def kE(w:iZ):jc:=(0,boot_o_0 w.params)::(2,⟨.none,V,.dict #[dE w "type.__subclasses__.Exception.0" 276 (.int 67 0),dE w "type.__subclasses__.Exception.n" 277 (.int 1 0)] 2,#[]⟩)::
 (3,⟨(.type "dict"),V,.dict (#[dE w "__name__" 165 (.str "law_qm0005_01" 2419),dE w "__doc__" 166 .none,dE w "__package__" 167 .none,dE w "__loader__" 168 (.builtin "__main__.__loader__#opaque"),dE w "__spec__" 169 .none,dE w "__annotations__" 170 (.ref 6),dE w "__builtins__" 171 (.ref 4),dE w "__file__" 173 (.str "/claim/cut.py" 172),dE w "__cached__" 174 .none,dE w "_wall" 193 (.ref 21)]++((EG w).flatMap (·.2)).toArray) 70,#[]⟩)::(EG w).flatMap (·.1)
end
end
section
set_option maxHeartbeats 0
open PySem PySem.W PySem.Calls PyProof.Rows
noncomputable section
noncomputable def rT:List i'->Nat->jc->jc|[],_,_=>[]|o::l,i,ks=>match ks with|[]=>[]|k::r=>match iE k.1 i with|H=>(k.1,o)::rT l (i+1) r|g=>rT l (i+1) (k::r)
noncomputable def uN(h:jA)(K:jc):jc:=rT h.objs.toList 0 K
noncomputable def EH:g7->Bool| .type c=>c !="list"|_=>H
noncomputable def rU(h:jA):Bool:=kK 1608 h.objs.size&&h.objs.toList.all λo=>o.alive&&EH o.cls
noncomputable def qv:n6:={pw with main:={pw.main with body:=pw.main.body.drop 67}}
noncomputable def oH:List g9:=(pw.boundNames.filter λn=>n !=("law":g9))
noncomputable def tm(P:ui)(a:hr):Bool:=staticsOk (rz pw.main.body) (qz P) a.heap&&namesBound pw a.heap&&gensDone a&&laidKept (qz P) a.heap
end
end
section
set_option maxHeartbeats 0
open PySem PySem.W PySem.Calls PyProof.Rows
theorem M5:decide (ix.foot<=(behindTheImports pw).length)=true:=by kernel_rfl
theorem w2:ix.footing.all footLine=true:=by kernel_rfl
theorem w3:noClassBlock pw ix.footing=true:=by kernel_rfl
theorem w4:(ix.most.all (λn=>decide (63<=n))&&ix.bound.all (λn=>decide (2^63<=n)))=true:=by kernel_rfl
theorem w6:defStands ix.about ix.above=true:=by kernel_rfl
theorem w7:ix.namesIt=true:=by kernel_rfl
theorem w8:(["type","isinstance","issubclass","getattr","hasattr"]:List g9).all (λn=>ix.about !=[n])=true:=by kernel_rfl
theorem M6:(ix.own.contains ix.name&&ix.own.eraseDups.length==ix.own.length&&ix.own.all (λn=>!DK n))=true:=by kernel_rfl
theorem M7:(!ix.writes||(pw.main.body.flatMap importedNames).all λn=>!ix.reads n)=true:=by kernel_rfl
theorem M8:((pw.main.body.flatMap importedNames).all (λn=>!ix.reads n||(drawsOf n pw.main.body).all λa=>a.2 !=("attrgetter":g9)&&a.2 !=("methodcaller":g9)))=true:=by kernel_rfl
theorem p2:(pw.boundNames.contains ix.row.name&&!startupNames.contains ix.row.name)=true:=by kernel_rfl
theorem w5:noRoadLSs {strict:=H,foot:=U ix.bound',writes:=ix.writes,may:=ix.may} ix.footing=true:=by kernel_rfl
theorem w9:ix.bound'.all (λn=>!DK n||ix.about==[n]||!ix.reads n)=true:=by kernel_rfl
theorem M9:(zj pw ix.footing λa n=>a.kind== .module||a.names.lookup n !=U .globalExplicit)=true:=by kernel_rfl
theorem M_:zj pw ix.footing (λa n=>(!(["type","isinstance","issubclass","getattr","hasattr"]:List g9).contains n||a.names.lookup n==U .globalImplicit)&& (ix.may !=U n||a.kind== .module||a.names.lookup n==U .globalImplicit))=true:=by kernel_rfl
theorem M':zj pw ix.above (λ_ n=>!ix.own.contains n)=true:=by kernel_rfl
theorem v1:sreFenced pw.main=true:=by kernel_rfl
theorem v2:((moduleNames pw.main.body).isEmpty||lookedIntoSs (moduleNames pw.main.body) pw.main.body)=true:=by kernel_rfl
theorem v4:pw.boundNames.all (λn=>!worldNames.contains n)=true:=by kernel_rfl
theorem v6:(zj pw pw.main.body λ_ n=>attrL n)=true:=by kernel_rfl
theorem v3:namesResolve pw=true:=by kernel_rfl
theorem Zv1:readsOut pw pw.main.body "vars"=false:=by kernel_rfl
theorem Zv2:readsOut pw pw.main.body "dir"=false:=by kernel_rfl
theorem Zv3:readsOut pw pw.main.body "locals"=false:=by kernel_rfl
theorem Zv4:(!(rz pw.main.body).all cThrough.contains)=false:=by kernel_rfl
theorem Zv5:noRoadLSs {strict:=false,foot:=V,bare:=[]} pw.main.body=true:=by kernel_rfl
theorem v5:noRoadLSs {strict:=!(rz pw.main.body).all cThrough.contains,foot:=V,bare:=(["vars","dir","locals"]:List g9).filter (readsOut pw pw.main.body)} pw.main.body=true:=by rw[Zv4,List.filter_cons_of_neg (by rw[Zv1];decide),List.filter_cons_of_neg (by rw[Zv2];decide),List.filter_cons_of_neg (by rw[Zv3];decide)];exact Zv5
theorem v7:(ix.row.loose.isEmpty&&ix.row.makers.isEmpty&& (ix.row.records.isEmpty||ix.row.raises.all λa=>a.1 != .builtin "AttributeError"&&a.1 != .builtin "TypeError")&& (ix.row.raises.all λa=>match a.1 with| .builtin n=>!ix.row.prog.boundNames.contains (DL n)&&!ofTheWorld.contains n| .own _=>H)&& decide (ix.row.records.map (·.1)).Nodup&&(ix.row.records.all λx=>!x.1.opensWith "__"&&!DK x.1&&ix.row.prog.boundNames.contains x.1&&x.2.all λf=>!f.1.opensWith "__")&& ix.row.toRowW.solid&&ix.row.pre.litsOk&&ix.row.post.litsOk&&ix.row.raises.all (·.2.litsOk))=true:=by kernel_rfl
theorem an{a b:Bool}(x:a=H)(y:b=H):(a&&b)=true:=lT.mpr ⟨x,y⟩
theorem Na:looksOpen pw=true:=an (an (an (an (an v1 v2) v3) v4) v5) v6
theorem Nb:ix.row.partSaid=true:=by have h:=v7;have j:=f2 h;have i:=f2 j.1;have f:=f2 i.1;have e:=f2 f.1;have d:=f2 e.1;have c:=f2 d.1;have b:=f2 c.1;have a:=f2 b.1;have h1:=f2 a.1;exact an (an (an (an (an (an (an (an (an (an (an (an (an Na h1.1) h1.2) a.2) b.2) c.2) d.2) e.2) f.2) i.2) j.2) O) O) O
theorem EI:ix.row.wellSaid=true:=by have h:=f2 p2;exact an (an Nb h.1) h.2
theorem abt:ix.wellSaid=true:=by have b:=f2 M6;have a:=f2 b.1;have c:=f2 w4;exact(an (an (an (an (an (an (an (an (an (an (an (an (an (an (an (an (an (an EI M5) w2) w3) c.1) c.2) w5) w6) w7) w8) w9) M7) M8) M_) a.1) a.2) b.2) M') M9)
end
section
set_option maxHeartbeats 0
open PySem PySem.W PySem.Calls PyProof.Rows
theorem Zo01:(λ(w:iZ) (os:qA)=>(pf (w.withFollow p4 g) os).map (λT=>tm (w.withFollow p4 g).params T.abs&&rU T.abs.heap))=λw _=>U H:=by kernel_rfl
theorem Zo02:(λ(w:iZ) (os:qA)=>(pf (w.withFollow p4 g) os).map (λT=>zk qv oH (rz pw.main.body) (λ_=>H) H T.abs))=λw _=>U (zl qv oH):=by kernel_rfl
theorem Zo03:(λ(w:iZ) (os:qA)=>(pf (w.withFollow p4 g) os).map (λT=>uN T.abs.heap (kE (w.withFollow p4 g))))=λw _=>U (kE (w.withFollow p4 g)):=by kernel_rfl
end
section
set_option maxHeartbeats 0
open PySem PySem.W PySem.Calls PyProof.Rows
theorem Zo11:(λ(w:iZ) (os:qA)=>(pf (w.withFollow p4 H) os).map (λT=>tm (w.withFollow p4 H).params T.abs&&rU T.abs.heap))=λw _=>U H:=by kernel_rfl
theorem Zo12:(λ(w:iZ) (os:qA)=>(pf (w.withFollow p4 H) os).map (λT=>zk qv oH (rz pw.main.body) (λ_=>H) H T.abs))=λw _=>U (zl qv oH):=by kernel_rfl
theorem Zo13:(λ(w:iZ) (os:qA)=>(pf (w.withFollow p4 H) os).map (λT=>uN T.abs.heap (kE (w.withFollow p4 H))))=λw _=>U (kE (w.withFollow p4 H)):=by kernel_rfl
end
section
variable{A B C D E F I:Prop}{Q:Prop}
theorem hv(h:A∧B)(k:A→B→Q):Q:=k h.1 h.2
theorem i5(h:A∧B∧C)(k:A→B→C→Q):Q:=hv h.2 (k h.1)
theorem p5(h:A∧B∧C∧D)(k:A→B→C→D→Q):Q:=i5 h.2 (k h.1)
theorem kL(h:A∧B∧C∧D∧E)(k:A→B→C→D→E→Q):Q:=p5 h.2 (k h.1)
theorem lD(h:A∧B∧C∧D∧E∧F∧I)(k:A→B→C→D→E→F→I→Q):Q:=kL h fun a b c d h=>i5 h (k a b c d)
theorem jZ(h0:A)(h1:B)(a:C):A∧B∧C:=⟨h0,h1,a⟩
theorem oi(h0:A)(h1:B)(a:C)(b:D)(c:E):A∧B∧C∧D∧E:=⟨h0,h1,a,b,c⟩
end
section
variable{Tx:Sort ux}{A B C D E:Tx→Prop}{Q:Prop}
theorem hE(h:∃x,A x)(k:∀x,A x→Q):Q:=h.elim k
theorem hc(h:∃x,A x∧B x)(k:∀x,A x→B x→Q):Q:=hE h fun x h=>hv h (k x)
theorem jB(h:∃x,A x∧B x∧C x)(k:∀x,A x→B x→C x→Q):Q:=hE h fun x h=>i5 h (k x)
theorem ph(h:∃x,A x∧B x∧C x∧D x)(k:∀x,A x→B x→C x→D x→Q):Q:=hE h fun x h=>p5 h (k x)
theorem mD(h:∃x,A x∧B x∧C x∧D x∧E x)(k:∀x,A x→B x→C x→D x→E x→Q):Q:=hE h fun x h=>kL h (k x)
theorem h_(x)(h0:A x)(h1:B x):∃x,A x∧B x:=⟨x,h0,h1⟩
theorem Ai(x)(h0:A x)(h1:B x)(a:C x):∃x,A x∧B x∧C x:=⟨x,h0,h1,a⟩
theorem tn(x)(h0:A x)(h1:B x)(a:C x)(b:D x)(c:E x):∃x,A x∧B x∧C x∧D x∧E x:=⟨x,h0,h1,a,b,c⟩
end
section
variable{Tx:Sort ux}{Ty:Sort uy}{A B C D:Tx→Ty→Prop}{Q:Prop}
theorem jj(h:∃x y,A x y)(k:∀x y,A x y→Q):Q:=hE h fun x h=>hE h (k x)
theorem jC(h:∃x y,A x y∧B x y)(k:∀x y,A x y→B x y→Q):Q:=hE h fun x h=>hc h (k x)
theorem i0(h:∃x y,A x y∧B x y∧C x y)(k:∀x y,A x y→B x y→C x y→Q):Q:=hE h fun x h=>jB h (k x)
theorem mV(h:∃x y,A x y∧B x y∧C x y∧D x y)(k:∀x y,A x y→B x y→C x y→D x y→Q):Q:=hE h fun x h=>ph h (k x)
theorem rV(x)(y)(h0:A x y):∃x y,A x y:=⟨x,y,h0⟩
theorem lU(x)(y)(h0:A x y)(h1:B x y):∃x y,A x y∧B x y:=⟨x,y,h0,h1⟩
theorem l'(x)(y)(h0:A x y)(h1:B x y)(a:C x y):∃x y,A x y∧B x y∧C x y:=⟨x,y,h0,h1,a⟩
theorem ts(x)(y)(h0:A x y)(h1:B x y)(a:C x y)(b:D x y):∃x y,A x y∧B x y∧C x y∧D x y:=⟨x,y,h0,h1,a,b⟩
end
section
variable{Tx:Sort ux}{Ty:Sort uy}{Tz:Sort uz}{A B C D:Tx→Ty→Tz→Prop}{Q:Prop}
theorem nh(h:∃x y z,A x y z)(k:∀x y z,A x y z→Q):Q:=hE h fun x h=>jj h (k x)
theorem kM(h:∃x y z,A x y z∧B x y z)(k:∀x y z,A x y z→B x y z→Q):Q:=hE h fun x h=>jC h (k x)
theorem oI(h:∃x y z,A x y z∧B x y z∧C x y z)(k:∀x y z,A x y z→B x y z→C x y z→Q):Q:=hE h fun x h=>i0 h (k x)
theorem lV(h:∃x y z,A x y z∧B x y z∧C x y z∧D x y z)(k:∀x y z,A x y z→B x y z→C x y z→D x y z→Q):Q:=hE h fun x h=>mV h (k x)
theorem rW(x)(y)(z)(h0:A x y z)(h1:B x y z):∃x y z,A x y z∧B x y z:=⟨x,y,z,h0,h1⟩
theorem Aj(x)(y)(z)(h0:A x y z)(h1:B x y z)(a:C x y z):∃x y z,A x y z∧B x y z∧C x y z:=⟨x,y,z,h0,h1,a⟩
theorem pi(x)(y)(z)(h0:A x y z)(h1:B x y z)(a:C x y z)(b:D x y z):∃x y z,A x y z∧B x y z∧C x y z∧D x y z:=⟨x,y,z,h0,h1,a,b⟩
end
section
variable{Tx:Sort ux}{Ty:Sort uy}{Tz:Sort uz}{Tu:Sort a}{A B C D:Tx→Ty→Tz→Tu→Prop}{Q:Prop}
theorem jK(h:∃x y z u,A x y z u∧B x y z u∧C x y z u∧D x y z u)(k:∀x y z u,A x y z u→B x y z u→C x y z u→D x y z u→Q):Q:=hE h fun x h=>lV h (k x)
theorem qL(x)(y)(z)(u)(h0:A x y z u)(h1:B x y z u)(a:C x y z u)(b:D x y z u):∃x y z u,A x y z u∧B x y z u∧C x y z u∧D x y z u:=⟨x,y,z,u,h0,h1,a,b⟩
end
theorem wY{Tx:Sort ux}{A:Tx→Prop}(h:∀G:Prop,(∀x,A x→G)→G):∃x,A x:=h _ fun x h0=>⟨x,h0⟩
theorem Nf{Tx:Sort ux}{Ty:Sort uy}{Tz:Sort uz}{Tu:Sort f}{a:Sort i}{b:Sort j}{A B C D E:Tx→Ty→Tz→Tu→a→b→Prop}(h:∀G:Prop,(∀x y z u v w,A x y z u v w→B x y z u v w→C x y z u v w→D x y z u v w→E x y z u v w→G)→G):∃x y z u v w,A x y z u v w∧B x y z u v w∧C x y z u v w∧D x y z u v w∧E x y z u v w:=h _ fun x y z u v w h0 h1 c d e=>⟨x,y,z,u,v,w,h0,h1,c,d,e⟩
theorem jk:true=true:=rfl
theorem EJ{a b Q:Prop}(h:a∨b)(x:a→Q)(y:b→Q):Q:=Or.elim h x y
theorem hH{α:Type u}{a:α}{P:Prop}(h:(none:Option α)=some a):P:=nomatch h
theorem kf{B:Prop}(h:(B→False)→False):B:=Classical.byContradiction h
local macro_rules |`(tactic| exists $x:ident)=>`(tactic| refine kf fun $x=>?_)
local macro_rules |`(tactic| right)=>`(tactic| first|assumption|exact Nat.le_add_right _ _|decide)
theorem i3{a b c:Nat}(h:a<b)(e:c=b+1):a<c:=e▸Nat.lt_succ_of_lt h
theorem uO{a b c:Nat}(h:a≤b)(e:c=b+1):a≤c:=e▸Nat.le_succ_of_le h
theorem nP{b c:Nat}(e:c=b+1):b<c:=e▸Nat.lt_succ_self b
theorem EK{α:Sort u}{a b:α}{P:α→Prop}(h:a=b)(k:P b):P a:=h▸k
theorem Nh{α:Sort u}{a b:α}{P:α→Prop}(h:b=a)(k:P b):P a:=h▸k
noncomputable def Tg(A:Prop):Prop:=True
noncomputable def Ak{α:Sort u}{p:Prop}(e:p)(M:α→Prop)(a:α):Prop:=M a
@[elab_as_elim]theorem Nj {α:Sort u} {a b:α} {M:α→Prop} (e:a=b) (k:Ak e M a):M a:=k
@[elab_as_elim]theorem Nk {α:Sort u} {a b:α} {M:α→Prop} (e:b=a) (k:Ak e M a):M a:=k
theorem Nl{α:Sort u}{a:α}{p:Prop}{e:p}{P:α→Prop}:Ak e (fun x=>Tg (P x)) a:=trivial
@[elab_as_elim]theorem Zx3 {α:Sort u} {a b:α} {P:α→Prop} (h:a=b) (k:P b):P a:=h▸k
noncomputable def Zx1(A:Prop):Prop:=Tg A→A
local macro_rules (kind:=Lean.Parser.Tactic.rewriteSeq)|s=>do
 let r:=s[2][1].getSepArgs
 if s[1][0].getNumArgs>0 then Lean.Macro.throwUnsupported
 if r.size>1 then return ←`(tactic| ($[$(r.map fun x=>⟨s.setArg 2 (s[2].setArg 1 (Lean.mkNullNode #[x]))⟩)];*))
 let t:Lean.Term:=⟨r[0]![1]⟩
 let b:=r[0]![0].isNone
 let g:=s[3].isNone
 let l:=s[3][0][1][0]
 if l.getNumArgs>1 then Lean.Macro.throwUnsupported
 let h:Lean.Ident:=⟨if g then Lean.mkIdent `x else l[0]⟩
 let n x:=Lean.mkIdent (.str `Mine.Internal x)
 let q:=n (if b then"Nj"else"Nk")
 let k:=n (if b==g then"EK"else"Nh")
 let w←`($k (P:=fun $h=>?P $h) ?e $(←if g then `(?_)else `($h)))
 let(u,w,z)←show Lean.MacroM (Lean.Term×Lean.Term×Lean.TSyntax `tactic) from match g with
  |true=>return(←`(Zx1 _),w,←`(tactic| (clear a;rotate_right)))
  |false=>return(←`(Tg (type_of% $h)→_),←`((?g:_→_) $w),←`(tactic| (clear a $h;intro $h:ident)))
 `(tactic| first|focus (refine (?f:$u) ?d;rotate_left;refine $q ($t ..) ?_;exact Nl (e:=?e) (P:=?P);rotate_right;refine fun a=>$w;$z)|fail)
local macro_rules |`(tactic| show $t:term)=>`(tactic| first|refine (?_:$t)|change $t)
local macro_rules (kind:=Lean.Parser.Tactic.clear)|s=>do
 let a:=s[1].getArgs
 if a[0]!.getId !=`zz3 then Lean.Macro.throwUnsupported
 let e:Lean.Term:=⟨a[1]!⟩
 let l←(a.extract 2).mapM fun h=>`(tactic| try rewrite [$e:term]at $(⟨h⟩):ident)
 `(tactic| ($[$(l.push (←`(tactic| try rewrite [$e:term])))];*))
noncomputable def Cv(G a:Prop):Prop:=(G=a)→a→G
def Zx2(k:Lean.Name)(s:Lean.Syntax):Lean.MacroM Lean.Syntax:=do
 if !s[s.getNumArgs-1].isNone then Lean.Macro.throwUnsupported
 let c:Lean.TSyntax `conv:=⟨Lean.mkNode k s.getArgs.pop⟩
 `(tactic| focus (refine (?f:Cv _ ?H) ?e ?p;rotate_left;(conv=>lhs;$c:conv);rotate_left;exact fun _ p=>p))
local macro_rules |`(tactic| left)=>Zx2 `Lean.Parser.Tactic.Conv.whnf (Lean.mkNullNode #[Lean.mkAtom "whnf",Lean.mkNullNode])
local macro_rules (kind:=Lean.Parser.Tactic.unfold)|s=>Zx2 `Lean.Parser.Tactic.Conv.unfold s
local macro_rules (kind:=Lean.Parser.Tactic.dsimp)|s=>if s[3].isNone then Lean.Macro.throwUnsupported else Zx2 `Lean.Parser.Tactic.Conv.dsimp s
theorem Zx4(B k:Nat):B+k+(1+k)=B+(1+2*k):=(Nat.add_assoc ..).trans (congrArg (B+·) ((Nat.add_left_comm ..).trans (congrArg (1+·) (Nat.two_mul _).symm)))
theorem je{a b c n:Nat}(h:a+(b+c)≤n):a+b+c≤n:=Nat.add_assoc a b c▸h
theorem qM{a b c n:Nat}(h:a+b+c≤n):a+(b+c)≤n:=(Nat.add_assoc a b c).symm▸h
theorem jL{a b c n:Nat}(h:a+c+b≤n):a+b+c≤n:=Nat.add_right_comm a c b▸h
theorem jM{a b n:Nat}(h:b+a≤n):a+b≤n:=Nat.add_comm b a▸h
theorem lE{a b c n:Nat}(h:n≤a+(b+c)):n≤a+b+c:=(Nat.add_assoc a b c).symm▸h
theorem kD{a b c n:Nat}(h:n≤a+b+c):n≤a+(b+c):=Nat.add_assoc a b c▸h
theorem uP{a b c n:Nat}(h:n≤a+c+b):n≤a+b+c:=Nat.add_right_comm a c b▸h
theorem iy{a b:Nat}(h:a+1≤b):a<b:=h
theorem jD{a b:Nat}(h:a<b):a+1≤b:=h
theorem qN{α:Type u}(n:Nat)(x:α)(l:List α):(l.take n++x::l.drop n).length=l.length+1:=by rw [List.length_append,List.length_cons,←Nat.add_assoc,←List.length_append,List.take_append_drop]
theorem up{a b n m:Nat}(h:a≤b)(k:b+n≤m):a+n≤m:=Nat.le_trans (Nat.add_le_add_right h n) k
theorem tt{a b:Nat}(h:b≤a):(a:Int) - b=(a - b:Nat):=(Int.ofNat_sub h).symm
theorem rX{a b c:Nat}(h:a+b<c):a<c:=Nat.lt_of_le_of_lt (Nat.le_add_right a b) h
theorem lW{a b c:Nat}(h:a+b≤c):a≤c:=Nat.le_trans (Nat.le_add_right a b) h
section
open PySem
set_option genCtorIdx true in
inductive ja where
 |L|I|ad|E|aF|cN
 |j (n:Nat)
inductive AV where
 |none
 |bool (b:Bool)
 |int (i:Int)
 |str (l:List Nat)
 |val (v:g7)
 |av (l:List AV)
 |obj (C:Nat) (ks:List Nat) (a:List AV)
 |cO (C:Nat) (ks:List Nat) (a:List AV)
 |au (f:Nat)
 |mut(m:ja)
 deriving Inhabited
inductive MC where
 |m (l:List AV)
 |bS (a:List (Int×AV))
 |bK (a:List (List Nat×AV))
 |dv (o:i') (a:List (Int×AV))
 |dU (o:i') (l:List AV)
structure St where
 L:Option (List Nat×List AV)
 I:Option MC
 ad:Option MC
 E:Option MC
 aF:Option MC
 cN:Option MC
 j:Nat->Option MC
 f:Nat
noncomputable def St.cell(st:St):ja->Option MC| .L=>hR| .I=>st.I| .ad=>st.ad| .E=>st.E| .aF=>st.aF| .cN=>st.cN| .j n=>st.j n
noncomputable abbrev Loc:=List (Option AV)
structure h5 where
 cf:Nat
 er:List AV
structure oJ where
 cm:Nat->Option (List Nat)
 cv:Nat->Option (List Nat)
 be:Nat->Nat->Option AV
 sub:Nat->Nat->Bool
 es:Nat->Option (List (List Nat×AV))
 a1:Nat
 fv:Nat->Bool
 bW:Nat->Option (List AV)
 dV:List Nat->List Nat->Bool
set_option genCtorIdx true in
inductive Op where
 |add|sub|mod|fdiv
set_option genCtorIdx true in
inductive Cm where
 |eq|b'|lt|le|gt|ge|ca|c4|cg|cj
set_option genCtorIdx true in
inductive It where
 |ef|m|eK|e7
inductive DE where
 |aE
 |j (i:Nat)
 |cW (a:AV)
 |aI (a:AV)
 |cD (e:DE) (k:Nat)
 |a0 (o:Op) (a b:DE)
 |Q (o:Cm) (a b:DE)
 |cb (o p:Cm) (a b c:DE)
 |and (a b:DE)
 |or (a b:DE)
 |not (a:DE)
 |cc (t a b:DE)
 |nil
 |cons (a r:DE)
 |av (a:DE)
 |m (a:DE)
 |dict (b:Bool)
 |call (f:Nat) (args:DE)
 |bX (f:Nat) (e args:DE)
 |eL (e:DE) (k:Nat)
 |a9 (f:Nat) (e:DE)
 |new (C:Nat) (args:DE)
 |et (i:Nat) (args:DE)
 |len (e:DE)
 |cP (e:DE) (C:Nat)
 |eM (e:DE)
 |J (e:DE)
 |sub (e i:DE)
 |cd (e a b:DE)
 |ch
 |aD (e x:DE)
 |ext (e x:DE)
 |cn (e:DE)
 |eu (e:DE)
 |ev (e i x:DE)
 |join (s:List Nat) (e:DE)
 |ci (s:List Nat) (e:DE)
 |ew (a b:DE)
 |ex (n:Int) (e:DE)
 |dK (f:Nat) (args:DE)
 |ey (f:Nat) (args:DE)
inductive DS where
 |aE
 |da
 |seq (a b:DS)
 |y (e:DE)
 |bT (c:List Nat) (e:DE)
 |cQ (c:List Nat) (e:DE)
 |ez (e:DE) (k:Nat) (x:DE)
 |co (e:DE) (k:Nat) (m:ja)
 |cE (e i x:DE)
 |eg (e i:DE)
 |cR (i:Nat) (o:Op) (e:DE)
 |cF (e:DE) (k:Nat) (o:Op) (x:DE)
 |ite (t:DE) (a b:DS)
 |bs (t:DE) (b:DS)
 |b6 (t:It) (c:List Nat) (e:DE) (b:DS)
 |ret (e:DE)
 |brk
 |eN (C:Nat) (args:DE)
 |eO (e:DE)
 |e8 (b:DS)
 |eA (b:DS) (i:Nat) (D:Nat) (h:DS) (d:Nat) (h':DS)
noncomputable abbrev PC:=Nat->List AV->St->(AV->St->Prop)->(h5->St->Prop)->Prop
noncomputable def kF:Nat->List Nat->List AV->Option AV
 |k,x::ks,v::a=>match iE k x with|H=>U v|g=>kF k ks a
 |_,_,_=>hR
theorem EL:kF k (x::ks) (v::a)=cond (iE k x) (U v) (kF k ks a):=rfl
noncomputable def mE:Nat->AV->List Nat->List AV->List Nat×List AV
 |k,a,x::ks,v::d=>match iE k x with|H=>(x::ks,a::d)|g=>match mE k a ks d with|(b,c)=>(x::b,v::c)
 |k,a,_,_=>([k],[a])
theorem EM:mE k a (x::ks) (v::b)=cond (iE k x) (x::ks,a::b) (x::(mE k a ks b).1,v::(mE k a ks b).2):=rfl
open Classical in
noncomputable def nQ{α:Type}(f:ja->Option α)(m:ja)(x:α):ja->Option α:=λm'=>if m'=m then U x else f m'
noncomputable def ni{α:Type}(f:Nat->Option α)(n:Nat)(x:α):Nat->Option α:=λk=>match iE k n with|H=>U x|g=>f k
noncomputable def St.ba(st:St)(m:ja)(c:MC):St:=match m with| .L=>st| .I=>{st with I:=U c}| .ad=>{st with ad:=U c}| .E=>{st with E:=U c}| .aF=>{st with aF:=U c}| .cN=>{st with cN:=U c}| .j n=>{st with j:=ni st.j n c}
noncomputable abbrev St.fZ(st:St)(x:List Nat×List AV):St:={st with L:=U x}
noncomputable def St.new(st:St)(c:MC):St:={st with j:=ni st.j st.f c,f:=st.f+1}
theorem p6(f)(n)(x:α)(k):ni f n x k=if k=n then U x else f k:=by unfold ni;induction h:iE k n with|true=>rw[if_pos<|nL h]|false=>rw[if_neg<|n7 h]
theorem EN{f aC}{m}{x:α}(h1:aC m=U x)(a:∀n,n≠m->aC n=f n):aC=nQ f m x:=funext λn=>by
 by_cases q:n=m;.exact(q▸h1).trans (if_pos q).symm
 .exact(a n q).trans (if_neg q).symm
theorem EO(st:St)(n)(c):({st with j:=ni st.j n c}).cell=nQ st.cell (.j n) c:=EN ((p6 ..).trans<|if_pos O) λm q=>by cases m with|j k=>exact(p6 ..).trans<|if_neg λh=>q<|congrArg _ h|_=>rfl
theorem uQ{st:St}{m}(h:m≠ .L):(st.ba m c).cell=nQ st.cell m c:=by cases m with|L=>exact absurd O h|j n=>exact EO st n c|_=>exact EN O λn q=>by cases n<;>first|rfl|exact absurd O q
theorem wZ(st:St)(m)(c):(st.ba m c).L=st.L:=by induction m<;>rfl
theorem EP(st:St)(m)(c):(st.ba m c).f=st.f:=by induction m<;>rfl
theorem EQ(st:St)(c):(st.new c).cell=nQ st.cell (.j st.f) c:=EO _ _ c
noncomputable def w_:Option MC->Option Bool
 |U c=>match c with| .m l=>U (!l.isEmpty)| .bS l=>U (!l.isEmpty)| .bK l=>U (!l.isEmpty)|_=>hR
 |hR=>hR
noncomputable def nS(st:St):AV->Option Bool
 | .none=>U g| .bool b=>U b| .int i=>U (!decide (i=0))| .str l=>U (!l.isEmpty)| .av l=>U (!l.isEmpty)| .obj .. =>U H| .au _=>U H| .mut m=>match m with| .L=>U H|m=>w_ (st.cell m)
 |_=>hR
noncomputable def binI(o:Op)(a b:Int):Option Int:=match o with| .add=>U (a+b)| .sub=>U (a - b)| .mod=>if 0<b then U (kW a b)else hR| .fdiv=>if 0<b/\b<1000000 then U (qB a b)else hR
noncomputable def Al:AV->Option Int| .int i=>U i|_=>hR
theorem ER(h:Al a=U i):a=.int i:=by cases a<;>first|exact hH h|(cases h;rfl)
noncomputable def rY(o:Op)(x y:AV):Option AV:=(Al x).bind λa=>(Al y).bind λb=>(binI o a b).map .int
theorem ES(h:rY o x y=U r):∃i j k,x=.int i/\y=.int j/\binI o i j=U k/\r=.int k:=hc (ul.mp h) λi h1 h=>hc (ul.mp h) λj a h=>hc (wp.mp h) λk b c=>⟨i,j,k,ER h1,ER a,b,c.symm⟩
noncomputable def i8(c:Nat):List Nat->Bool|[]=>g|x::r=>match iE c x with|H=>H|g=>i8 c r
theorem Am:i8 c (x::r)=cond (iE c x) H (i8 c r):=rfl
noncomputable def qO:List Nat->List Nat->Bool|[],_=>H|_::_,[]=>g|a::r,b::s=>if a=b then qO r s else decide (a<b)
theorem Nm:qO (a::r) (b::s)=if a=b then qO r s else decide (a<b):=rfl
noncomputable def ha:List Nat->List Nat->Bool
 |[],[]=>H|a::r,b::t=>match iE a b with|H=>ha r t|g=>g
 |_,_=>g
noncomputable def lF(x:List Nat):List AV->Option Bool
 |[]=>U g| .str y::r=>match lF x r with|U b=>U (match ha x y with|H=>H|g=>b)|hR=>hR
 |_::_=>hR
noncomputable def tu{L:Type}(p:L->Bool):List (L×AV)->Option AV|[]=>hR|(j,v)::r=>match p j with|H=>U v|g=>tu p r
theorem Nn{r:List (L×AV)}:tu p ((j,v)::r)=cond (p j) (U v) (tu p r):=rfl
noncomputable def rZ{L:Type}(p:L->Bool):List (L×AV)->Bool|[]=>g|(j,_)::r=>match p j with|H=>H|g=>rZ p r
theorem No{r:List (L×AV)}:rZ p ((j,v)::r)=cond (p j) H (rZ p r):=rfl
noncomputable def qP{L:Type}(p:L->Bool)(i:L)(v:AV):List (L×AV)->List (L×AV)|[]=>[(i,v)]|(j,u)::r=>match p j with|H=>(j,v)::r|g=>(j,u)::qP p i v r
theorem An{r:List (L×AV)}:qP p i v ((j,u)::r)=cond (p j) ((j,v)::r) ((j,u)::qP p i v r):=rfl
noncomputable def tv{L:Type}(p:L->Bool):List (L×AV)->List (L×AV)|[]=>[]|(j,u)::r=>match p j with|H=>r|g=>(j,u)::tv p r
theorem ET{r:List (L×AV)}:tv p ((j,v)::r)=cond (p j) r ((j,v)::tv p r):=rfl
noncomputable def uR(i:Int)(l:List (Int×AV)):Bool:=rZ (λj=>decide (j=i)) l
noncomputable def uS(i:Int)(l:List (Int×AV)):Option AV:=tu (λj=>decide (j=i)) l
noncomputable def Ao(i:Int)(v:AV)(l:List (Int×AV)):List (Int×AV):=qP (λj=>decide (j=i)) i v l
noncomputable def xb(i:Int)(l:List (Int×AV)):List (Int×AV):=tv (λj=>decide (j=i)) l
noncomputable def r0(i:List Nat)(l:List (List Nat×AV)):Bool:=rZ (λj=>ha j i) l
noncomputable def xc(i:List Nat)(l:List (List Nat×AV)):Option AV:=tu (λj=>ha j i) l
noncomputable def Np(i:List Nat)(v:AV)(l:List (List Nat×AV)):List (List Nat×AV):=qP (λj=>ha j i) i v l
noncomputable def tw(st:St)(m:ja):AV->Option Bool
 | .int i=>match st.cell m with|U (.bS a)=>U (uR i a)|_=>hR
 | .str i=>match st.cell m with|U (.bK a)=>U (r0 i a)|_=>hR
 |_=>hR
noncomputable def Ap(T:oJ)(D:Nat):AV->Option Bool
 | .str i=>match T.es D with|U a=>U (r0 i a)|_=>hR
 |_=>hR
noncomputable def kG:Nat->AV->Bool|_,.none=>H|_,.bool _=>H|_,.int _=>H|_,.str l=>l.all (pT · 1114112)|n+1,.av l=>l.all (kG n)|_,_=>g
noncomputable def xe(l:List AV):Bool:=l.all (kG 6)
noncomputable def EU(a b:Int):Cm->Option Bool| .eq=>U (decide (a=b))| .b'=>U (!decide (a=b))| .lt=>U (decide (a<b))| .le=>U (decide (a<=b))| .gt=>U (decide (b<a))| .ge=>U (decide (b<=a))|_=>hR
noncomputable def Aq(a b:List Nat)(n:Bool):Option Bool:=match a with
 |[c]=>match n with|H=>U (!i8 c b)|g=>U (i8 c b)
 |_=>hR
noncomputable def EV(a b:List Nat):Cm->Option Bool| .eq=>U (ha a b)| .b'=>U (!ha a b)| .le=>U (qO a b)| .cg=>Aq a b g| .cj=>Aq a b H|_=>hR
noncomputable def r1(r:Option Bool):Cm->Option Bool| .cg=>r| .cj=>r.map (!·)|_=>hR
noncomputable def xf:AV->Option Bool| .none=>U H| .mut _=>U g| .int _=>U g| .obj .. =>U g| .str _=>U g| .av _=>U g|_=>hR
noncomputable def Ar(x:AV):Cm->Option Bool
 | .ca=>xf x| .c4=>match xf x with|U H=>U g|U g=>U H|hR=>hR
 |_=>hR
noncomputable def EW:Cm->Option Bool| .eq=>U g|_=>hR
noncomputable def EX(a:List Nat)(l:List AV):Cm->Option Bool| .cg=>lF a l|_=>hR
noncomputable def k7(T:oJ)(st:St)(o:Cm)(x y:AV):Option Bool:=match y with
 | .none=>Ar x o| .int b=>match x with| .int a=>EU a b o| .none=>EW o|_=>hR
 | .str b=>match x with| .str a=>EV a b o| .none=>EW o|_=>hR
 | .av l=>match x with| .str a=>EX a l o|_=>hR
 | .mut m=>r1 (tw st m x) o| .val v=>match v with| .ref D=>r1 (Ap T D x) o|_=>hR
 |_=>hR
noncomputable def mF(n:Nat)(A:Prop):Prop:=match kK n 1000000 with|H=>A|g=>False
noncomputable def xg(n:Nat)(A:Prop):Prop:=match kK n 500 with|H=>A|g=>False
noncomputable def lX(b:Bool)(A B:Prop):Prop:=match b with|H=>A|g=>B
theorem EY(x:A)(y:B):lX b A B:=by cases b<;>assumption
noncomputable def i9{α:Type}(o:Option α)(P:α->Prop):Prop:=match o with|U a=>P a|hR=>False
theorem nj{P:α->Prop}(h:o=U a)(k:P a):i9 o P:=h▸k
theorem jU{P:α->Prop}{B:Prop}(h:i9 o P)(k:∀a,o=U a->P a->B):B:=by induction o with|none=>exact h.elim|some a=>exact k a O h
theorem uT(h:ja.j a=ja.j b):a=b:=by injection h
theorem xh(h:AV.str a=AV.str b):a=b:=by injection h
noncomputable def placeOf(i:Int)(n:Nat):Option Nat:=if 0<=i then U i.toNat else if i= -1 then(if n=0 then hR else U (n - 1))else hR
noncomputable def qQ:AV->Option (Option Nat)| .none=>U hR| .int i=>if 0<=i then U (U i.toNat)else hR|_=>hR
noncomputable def As{α:Type}(l:List α):Option Nat->List α|hR=>l|U j=>l.take j
noncomputable def Au{α:Type}(l:List α):Option Nat->List α|hR=>l|U j=>l.drop j
noncomputable def oj{α:Type}(l:List α)(a b:AV):Option (List α):=(qQ a).bind λI=>(qQ b).map λJ=>Au (As l J) I
theorem Nq(p:Nat):qQ (.int p)=U (U p):=by show(if(0)<=p then U _ else hR)=_;rfl
noncomputable def Nr:AV->Option (List Nat)| .str a=>U a|_=>hR
noncomputable def Av:List AV->Option (List Nat)|[]=>U []|a::r=>match r with|[]=>Nr a|_=>hR
noncomputable def Aw:MC->Option (List AV)| .m l=>U l| .dU _ l=>U l|_=>hR
noncomputable def xi:Int->List Nat->List AV|_,[]=>[]|i,c::r=>.av [.int i,.str [c]]::xi (i+1) r
noncomputable def p7:Int->Nat->List AV|_,0=>[]|i,n+1=>.int i::p7 (i+1) n
variable(T:oJ)(C:PC)
noncomputable def EZ(c:MC)(P:List AV->Prop):Prop:=match c with| .m l=>P l|_=>False
noncomputable def r2(st:St)(x:AV)(P:ja->MC->Prop):Prop:=match x with| .mut m=>i9 (st.cell m) (P m)|_=>False
theorem E0(h:st.cell m=U c)(p:P m c):r2 st (.mut m) P:=nj h p
theorem E1{st}{P}(h:r2 st x P){B:Prop}(k:∀m c,x=.mut m->st.cell m=U c->P m c->B):B:=by cases x<;>first|exact jU h λc=>k _ c O|exact h.elim
noncomputable def lY(st:St)(x:AV)(P:ja->List AV->Prop):Prop:=r2 st x λm c=>EZ c λl=>P m l
theorem oK{P}(h:st.cell m=U (.m l))(p:P m l):lY st (.mut m) P:=E0 h p
theorem r3(h:lY st x P){B:Prop}(k:∀m l,x=.mut m->st.cell m=U (.m l)->P m l->B):B:=E1 h λm c e q h=>by induction c<;>first|exact k m _ e q h|exact h.elim
noncomputable def Ax(c:MC)(P:List (Int×AV)->Prop):Prop:=match c with| .bS a=>P a|_=>False
noncomputable def qR(st:St)(x:AV)(P:List Nat->List AV->Prop):Prop:=match x with
 | .mut .L=>match st.L with|U (ks,a)=>P ks a|hR=>False
 |_=>False
theorem xj(h:qR st x P){B:Prop}(k:∀ks a,x=.mut .L->st.L=U (ks,a)->P ks a->B):B:=by
 cases x with
 |«mut» m=>cases m with
  |L=>
   have:∀o,st.L=o->(match o with
    |some (ks,a)=>P ks a|hR=>False)->B:=λo e h=>by
    cases o with|none=>exact o6 h|some p=>exact k _ _ O e h
   exact this _ O h
  |_=>exact o6 h
 |_=>exact o6 h
noncomputable def xk(o c:Option AV)(P:AV->Prop):Prop:=match o with|U v=>P v|hR=>i9 c P
theorem Nt{B:Prop}(h:xk o c P)(k:∀v,o=U v->P v->B)(k2:∀v,o=hR->c=U v->P v->B):B:=by induction o with|none=>exact jU h λv=>k2 v O|some v=>exact k v O h
noncomputable def E2(v:g7)(P:Nat->Prop):Prop:=match v with| .ref D=>P D|_=>False
theorem Nu{B:Prop}(h:E2 v P)(k:∀D,v=.ref D->P D->B):B:=by induction v<;>first|exact k _ O h|exact h.elim
noncomputable def p8(a:AV)(k:Nat)(st:St)(Q:AV->St->Prop):Prop:=match a with
 | .mut .L=>match st.L with
  |U (ks,b)=>match kF k ks b with|U v=>Q v st|hR=>match T.be T.a1 k with|U v=>Q v st|hR=>False
  |hR=>False
 | .obj D ks b=>match kF k ks b with|U v=>Q v st|hR=>match T.be D k with|U v=>Q v st|hR=>False
 | .cO _ ks b=>match kF k ks b with|U v=>Q v st|hR=>False
 | .val (.ref D)=>match T.be D k with|U v=>Q v st|hR=>False
 |_=>False
noncomputable def tx(D:Nat)(l:List AV)(st:St)(Q:AV->St->Prop):Prop:=match T.cm D with|U ks=>ks.length=l.length/\Q (.obj D ks l) st|hR=>False
noncomputable def pj(y:AV)(P:Int->Prop):Prop:=match y with| .int i=>P i|_=>False
noncomputable def qS(y:AV)(P:List Nat->Prop):Prop:=match y with| .str i=>P i|_=>False
noncomputable def ty{α:Type}(l:List α)(y:AV)(P:α->Prop):Prop:=pj y λj=>i9 (placeOf j l.length) λn=>i9 l[n]? P
theorem r4{B:Prop}(h:pj y P)(k:∀i,y=.int i->P i->B):B:=by cases y<;>first|exact k _ O h|exact h.elim
theorem uU{B:Prop}(h:qS y P)(k:∀i,y=.str i->P i->B):B:=by cases y<;>first|exact k _ O h|exact h.elim
noncomputable def E3(T:oJ)(x:AV)(st:St)(P:ja->List (Int×AV)->Prop)(R:List (List Nat×AV)->Prop):Prop:=match x with
 | .mut m=>i9 (st.cell m) λc=>Ax c (P m)| .val v=>match v with| .ref D=>i9 (T.es D) R|_=>False
 |_=>False
theorem Nv{T}(h:E3 T x st P R){B:Prop}(k:∀m a,x=.mut m->st.cell m=U (.bS a)->P m a->B)(l:∀D a,x=.val (.ref D)->T.es D=U a->R a->B):B:=by
 cases x with
 |«mut» m=>exact jU h λc e h=>by cases c<;>first|exact k m _ O e h|exact h.elim
 |val v=>cases v<;>first|exact jU h λa=>l _ a O|exact h.elim
 |_=>exact h.elim
noncomputable def MC.gA:MC->Bool| .m _=>H|_=>g
theorem Ay{P:α->Prop}{B:Prop}(h:ty l y P)(k:∀j n c,y=.int j->placeOf j l.length=U n->l[n]?=U c->P c->B):B:=r4 h λj e h=>jU h λn h1 h=>jU h λc=>k j n c e h1
theorem uV{P:α->Prop}(h1:placeOf j l.length=U n)(a:l[n]?=U c)(h:P c):ty l (.int j) P:=by show i9 _ _;rw[h1];show i9 _ P;rw[a];exact h
noncomputable def xl(o:Op)(x y:AV)(st:St)(Q:AV->St->Prop):Prop:=match x with
 | .mut _=>match o with| .add=>lY st x λd l=>lY st y λd c=>mF (l.length+c.length) (Q (.mut (.j st.f)) (st.new (.m (l++c))))|_=>False
 | .str a=>match o with| .add=>qS y λb=>mF (a.length+b.length) (Q (.str (a++b)) st)|_=>False
 |_=>i9 (rY o x y) λr=>Q r st
theorem Az(h:binI o a b=U r):rY o (.int a) (.int b)=U (.int r):=congrArg (Option.map _) h
theorem AA(h:binI o a b=U r)(q:Q (.int r) st):xl o (.int a) (.int b) st Q:=nj (Az h) q
theorem xm(h:0<n):binI .mod a n=U (kW a n):=if_pos h
noncomputable def E4(x:AV)(st:St)(Q:AV->St->Prop):Prop:=match x with| .str l=>Q (.int l.length) st|_=>lY st x λa l=>Q (.int l.length) st
noncomputable def E5(x:AV)(st:St)(Q:AV->St->Prop):Prop:=r2 st x λb c=>Ax c λa=>Q (.mut (.j st.f)) (st.new (.m (a.map λp=>.int p.1)))
noncomputable def E6(c:MC)(y:AV)(P:AV->Prop):Prop:=match c with| .m l=>ty l y P| .bS a=>pj y λi=>i9 (uS i a) P| .bK a=>qS y λi=>i9 (xc i a) P| .dv _ a=>pj y λi=>i9 (uS i a) P|_=>False
noncomputable def r5(x y:AV)(st:St)(Q:AV->St->Prop):Prop:=match x with| .str l=>ty l y λc=>Q (.str [c]) st| .av l=>ty l y λc=>Q c st| .mut m=>i9 (st.cell m) λc=>E6 c y λa=>Q a st| .val (.ref D)=>i9 (T.es D) λb=>qS y λi=>i9 (xc i b) λa=>Q a st|_=>False
theorem E7{T}{st:St}(h:st.cell m=U c)(k:E6 c y λa=>Q a st):r5 T (.mut m) y st Q:=by show i9 _ _;rw[h];exact k
noncomputable def AB(x i j:AV)(st:St)(Q:AV->St->Prop):Prop:=match x with| .str l=>i9 (oj l i j) λr=>Q (.str r) st| .mut m=>i9 (st.cell m) λc=>i9 (Aw c) λl=>i9 (oj l i j) λr=>Q (.mut (.j st.f)) (st.new (.m r))|_=>False
theorem AC{i j}(h1:st.cell m=U c)(a:Aw c=U l)(b:oj l i j=U r)(k:Q (.mut<|.j st.f)<|st.new<|.m r):AB (.mut m) i j st Q:=nj h1<|nj a<|nj b k
noncomputable def AD(a b:AV)(st:St)(Q:AV->St->Prop):Prop:=lY st a λm l=>mF (l.length+1) (Q .none (st.ba m (.m (l++[b]))))
noncomputable def oL(a b:AV)(st:St)(Q:AV->St->Prop):Prop:=lY st a λm l=>lY st b λm' c=>m≠m'/\mF (l.length+c.length) (Q .none (st.ba m (.m (l++c))))
noncomputable def E8(a:AV)(st:St)(Q:AV->St->Prop):Prop:=lY st a λm l=>i9 l.getLast? λv=>Q v (st.ba m (.m l.dropLast))
noncomputable def Nw(l:List AV)(P:AV->List AV->Prop):Prop:=match l with|v::r=>P v r|[]=>False
noncomputable def E9(a:AV)(st:St)(Q:AV->St->Prop):Prop:=lY st a λm l=>Nw l λv r=>Q v (st.ba m (.m r))
noncomputable def AE(a j b:AV)(st:St)(Q:AV->St->Prop):Prop:=lY st a λm l=>pj j λn=>0<=n/\n.toNat<=l.length/\mF (l.length+1) (Q .none (st.ba m (.m (l.take n.toNat++b::l.drop n.toNat))))
noncomputable def AF(s:List Nat)(a:AV)(st:St)(Q:AV->St->Prop):Prop:=lY st a λb l=>i9 (Av l) λr=>mF r.length (Q (.str r) st)
noncomputable def Nx(s:List Nat)(a:AV)(st:St)(Q:AV->St->Prop):Prop:=qS a λl=>lX (T.dV s l) (∀r:List Nat,r.length<=1000000->Q (.str r) st) False
noncomputable def xn(x y:AV)(st:St)(Q:AV->St->Prop):Prop:=(∃m m' l,x=.mut m/\y=.mut m'/\st.cell m=U (.m l)/\st.cell m'=U (.m l)/\xe l=H/\Q (.bool H) st)\/x=y/\kG 6 x=H/\Q (.bool H) st
noncomputable def methP(a:AV)(P:Nat->Prop):Prop:=match a with| .au f=>P f|_=>False
theorem Ny(h:methP a P){B:Prop}(k:∀f,a=.au f->P f->B):B:=by cases a<;>first|exact k _ O h|exact h.elim
noncomputable def Nz(a:AV)(k:Nat)(st:St)(Q:AV->St->Prop)(X:h5->St->Prop):Prop:=qR st a λks c=>i9 (kF k ks c) λr=>methP r λf=>i9 (T.bW f) λb=>C f (.mut .L::b) st Q X
noncomputable def tz(a:AV)(st:St)(P:Prop):Prop:=lY st a λb b=>P
noncomputable def kr(x:AV)(st:St)(P:Bool->St->Prop):Prop:=match nS st x with|U r=>P r st|hR=>False
noncomputable def nk(y:AV)(st:St)(P:List AV->St->Prop):Prop:=match y with| .av l=>P l st|_=>False
noncomputable def r6(a:AV)(P:Prop):Prop:=match a with| .mut .L=>P|_=>False
theorem AG(h:r6 a P):a=.mut .L/\P:=by
 cases a with
 |«mut» m=>cases m with|L=>exact⟨rfl,h⟩|_=>exact o6 h
 |_=>exact o6 h
noncomputable def AH(n:Int)(x:AV)(st:St)(Q:AV->St->Prop):Prop:=lY st x λb l=>∃a:List Int,l=a.map .int/\Q (.mut (.j st.f)) (st.new (.m (a.map λi=>.int (kW i n))))
noncomputable def E_(D:Nat)(x:AV)(st:St)(Q:AV->St->Prop):Prop:=match x with| .obj a _ _=>lX (T.fv D) (Q (.bool (T.sub a D)) st) False|_=>False
noncomputable def E'(x:AV)(st:St)(Q:AV->St->Prop):Prop:=match x with| .str _=>Q (.bool H) st|_=>False
noncomputable def Fa(a:AV)(P:Prop):Prop:=match a with| .none=>P|_=>False
theorem NA(h:Fa a P):a=.none/\P:=by cases a<;>first|exact⟨rfl,h⟩|exact h.elim
noncomputable def AI{α:Type}(o:Option α)(P:Prop):Prop:=match o with|U _=>False|hR=>P
theorem Fb{o:Option α}{P B:Prop}(h:AI o P)(k:o=hR->P->B):B:=by cases o with|some _=>exact h.elim|none=>exact k O h
noncomputable def NB(f:Nat)(l:List AV)(st:St)(Q:AV->St->Prop)(X:h5->St->Prop):Prop:=AI st.L (C f (.mut .L::l) {st with L:=U ([],[])} (λr st=>Fa r (Q (.mut .L) st)) X)
noncomputable def uW(f:Loc->St->(AV->St->Prop)->(h5->St->Prop)->Prop)(ρ:Loc)(X:h5->St->Prop)(aC:AV->AV->St->Prop)(x:AV)(st:St):Prop:=f ρ st (aC x) X
noncomputable def NC(k:Nat)(Q:AV->St->Prop)(a:AV)(st:St):Prop:=p8 T a k st Q
noncomputable def ND(o:Op)(Q:AV->St->Prop)(x y:AV)(st:St):Prop:=xl o x y st Q
noncomputable def tA(o:Cm)(Q:AV->St->Prop)(x y:AV)(st:St):Prop:=match k7 T st o x y with|U r=>Q (.bool r) st|hR=>False
noncomputable def NE(Q:AV->St->Prop)(x y:AV)(st:St):Prop:=nk y st λl st=>Q (.av (x::l)) st
noncomputable def NF(f:Nat)(Q:AV->St->Prop)(X:h5->St->Prop)(y:AV)(st:St):Prop:=nk y st λl st=>C f l st Q X
noncomputable def NG(D:Nat)(Q:AV->St->Prop)(y:AV)(st:St):Prop:=nk y st λl st=>tx T D l st Q
theorem NH{T}{Q}(h:tA T o Q x y st){B:Prop}(k:∀r,k7 T st o x y=U r->Q (.bool r) st->B):B:=by unfold tA at h;generalize e:k7 T st o x y=c at h;cases c with|none=>exact h.elim|some r=>exact k r e h
noncomputable def Fc(a:AV)(P:Bool->Prop):Prop:=match a with| .bool r=>P r|_=>False
theorem Fd(h:Fc a P){B:Prop}(k:∀r,a=.bool r->P r->B):B:=by cases a<;>first|exact k _ O h|exact h.elim
noncomputable def NI(f:Loc->St->(AV->St->Prop)->(h5->St->Prop)->Prop)(o p:Cm)(ρ:Loc)(Q:AV->St->Prop)(X:h5->St->Prop)(x y:AV)(st:St):Prop:=tA T o (λr st=>Fc r λr=>lX r (f ρ st (tA T p Q y) X) (Q (.bool g) st)) x y st
noncomputable def NJ(f:Loc->St->(AV->St->Prop)->(h5->St->Prop)->Prop)(ρ:Loc)(Q:AV->St->Prop)(X:h5->St->Prop)(x:AV)(st:St):Prop:=kr x st λr st=>lX r (f ρ st Q X) (Q x st)
noncomputable def NK(f:Loc->St->(AV->St->Prop)->(h5->St->Prop)->Prop)(ρ:Loc)(Q:AV->St->Prop)(X:h5->St->Prop)(x:AV)(st:St):Prop:=kr x st λr st=>lX r (Q x st) (f ρ st Q X)
noncomputable def NL(Q:AV->St->Prop)(x:AV)(st:St):Prop:=kr x st λr st=>Q (.bool (!r)) st
noncomputable def NM(f aC:Loc->St->(AV->St->Prop)->(h5->St->Prop)->Prop)(ρ:Loc)(Q:AV->St->Prop)(X:h5->St->Prop)(x:AV)(st:St):Prop:=kr x st λr st=>lX r (f ρ st Q X) (aC ρ st Q X)
noncomputable def tupK(Q:AV->St->Prop)(y:AV)(st:St):Prop:=nk y st λl st=>mF l.length (Q (.av l) st)
noncomputable def NN(aC:Loc->St->(AV->St->Prop)->(h5->St->Prop)->Prop)(f:Nat)(ρ:Loc)(Q:AV->St->Prop)(X:h5->St->Prop)(a:AV)(st:St):Prop:=r6 a (aC ρ st (λy st=>nk y st λl st=>C f (.mut .L::l) st Q X) X)
noncomputable def NO(Q:AV->St->Prop)(x y:AV)(st:St):Prop:=r5 T x y st Q
noncomputable def NP(Q:AV->St->Prop)(x:AV)(st:St):Prop:=E4 x st Q
noncomputable def NQ(Q:AV->St->Prop)(x:AV)(st:St):Prop:=E5 x st Q
noncomputable def NS(Q:AV->St->Prop)(x:AV)(st:St):Prop:=E8 x st Q
noncomputable def NT(Q:AV->St->Prop)(x:AV)(st:St):Prop:=E9 x st Q
noncomputable def NU(f:Loc->St->(AV->St->Prop)->(h5->St->Prop)->Prop)(ρ:Loc)(Q:AV->St->Prop)(X:h5->St->Prop)(a:AV)(st:St):Prop:=tz a st (f ρ st (λb st=>AD a b st Q) X)
noncomputable def NV(s:List Nat)(Q:AV->St->Prop)(x:AV)(st:St):Prop:=AF s x st Q
noncomputable def NW(f:List Nat)(Q:AV->St->Prop)(x:AV)(st:St):Prop:=Nx T f x st Q
noncomputable def NX(f aC:Loc->St->(AV->St->Prop)->(h5->St->Prop)->Prop)(ρ:Loc)(Q:AV->St->Prop)(X:h5->St->Prop)(x:AV)(st:St):Prop:=f ρ st (λi st=>aC ρ st (λj st=>AB x i j st Q) X) X
noncomputable def WE:DE->Loc->St->(AV->St->Prop)->(h5->St->Prop)->Prop
 | .j i,ρ,st,Q,_=>match ρ[i]? with|U (U a)=>Q a st|_=>False
 | .cW a,_,st,Q,_=>Q a st| .aI a,_,st,Q,_=>Q a st| .cD e k,ρ,st,Q,X=>WE e ρ st (NC T k Q) X| .a0 o a b,ρ,st,Q,X=>WE a ρ st (uW (WE b) ρ X (ND o Q)) X| .Q o a b,ρ,st,Q,X=>WE a ρ st (uW (WE b) ρ X (tA T o Q)) X| .cb o p a b c,ρ,st,Q,X=>WE a ρ st (uW (WE b) ρ X (NI T (WE c) o p ρ Q X)) X| .and a b,ρ,st,Q,X=>WE a ρ st (NJ (WE b) ρ Q X) X| .or a b,ρ,st,Q,X=>WE a ρ st (NK (WE b) ρ Q X) X| .not a,ρ,st,Q,X=>WE a ρ st (NL Q) X| .cc t a b,ρ,st,Q,X=>WE t ρ st (NM (WE a) (WE b) ρ Q X) X| .nil,_,st,Q,_=>Q (.av []) st| .cons a r,ρ,st,Q,X=>WE a ρ st (uW (WE r) ρ X (NE Q)) X| .av a,ρ,st,Q,X=>WE a ρ st (tupK Q) X| .m a,ρ,st,Q,X=>WE a ρ st (λy st=>nk y st λl st=>mF l.length (Q (.mut (.j st.f)) (st.new (.m l)))) X| .dict b,_,st,Q,_=>Q (.mut (.j st.f)) (st.new (match b with|H=>.bK []|g=>.bS []))| .call f args,ρ,st,Q,X=>WE args ρ st (NF C f Q X) X| .bX f e args,ρ,st,Q,X=>WE e ρ st (NN C (WE args) f ρ Q X) X| .eL e k,ρ,st,Q,X=>WE e ρ st (λa st=>Nz T C a k st Q X) X| .a9 f e,ρ,st,Q,X=>WE e ρ st (λa st=>r6 a (Q (.au f) st)) X| .new D args,ρ,st,Q,X=>WE args ρ st (NG T D Q) X| .et i args,ρ,st,Q,X=>match ρ[i]? with|U (U (.val (.ref D)))=>lX (T.cm D).isSome (WE args ρ st (λy st=>nk y st λl st=>tx T D l st Q) X) False|_=>False
 | .len e,ρ,st,Q,X=>WE e ρ st (NP Q) X| .cP e D,ρ,st,Q,X=>WE e ρ st (λx st=>E_ T D x st Q) X| .eM e,ρ,st,Q,X=>WE e ρ st (λx st=>E' x st Q) X| .J e,ρ,st,Q,X=>WE e ρ st (NQ Q) X| .sub e i,ρ,st,Q,X=>WE e ρ st (uW (WE i) ρ X (NO T Q)) X| .cd e a b,ρ,st,Q,X=>WE e ρ st (NX (WE a) (WE b) ρ Q X) X| .ch,_,st,Q,_=>Q .none st| .aD e x,ρ,st,Q,X=>WE e ρ st (NU (WE x) ρ Q X) X| .ext e x,ρ,st,Q,X=>WE e ρ st (λa st=>tz a st (WE x ρ st (λb st=>oL a b st Q) X)) X| .cn e,ρ,st,Q,X=>WE e ρ st (NS Q) X| .eu e,ρ,st,Q,X=>WE e ρ st (NT Q) X| .ev e i x,ρ,st,Q,X=>WE e ρ st (λa st=>tz a st (WE i ρ st (λj st=>WE x ρ st (λb st=>AE a j b st Q) X) X)) X| .join s e,ρ,st,Q,X=>WE e ρ st (NV s Q) X| .ci f e,ρ,st,Q,X=>WE e ρ st (NW T f Q) X| .ew a b,ρ,st,Q,X=>WE a ρ st (λx st=>WE b ρ st (λy st=>xn x y st Q) X) X| .ex n e,ρ,st,Q,X=>WE e ρ st (λx st=>AH n x st Q) X| .dK f args,ρ,st,Q,X=>i9 ρ[(0:Nat)]? λo=>i9 o λa=>r6 a (WE args ρ st (λy st=>nk y st λl st=>C f (.mut .L::l) st Q X) X)| .ey f args,ρ,st,Q,X=>WE args ρ st (λy st=>nk y st λl st=>NB C f l st Q X) X| .aE,_,_,_,_=>False
theorem pn{T}{C}(h:ρ[i]?=U (U a))(q:Q a st):WE T C (.j i) ρ st Q X:=by show(match ρ[i]? with|some<|U a=>Q a st|_=>False);rw[h];exact q
structure KS where
 n:Loc->St->Prop
 aX:AV->St->Prop
 b:Loc->St->Prop
 aK:Loc->h5->St->Prop
noncomputable def KS.seq(k:KS)(f:Loc->St->KS->Prop):KS:=⟨λρ st=>f ρ st k,k.aX,k.b,k.aK⟩
class inductive j0 (W:Loc->St->(AV->St->Prop)->(h5->St->Prop)->Prop)(B:Loc->St->KS->Prop)(k:KS):Loc->St->Prop
 |turn {ρ:Loc} {st:St} (R:Loc->St->Prop) (a:∀ρ st,R ρ st->j0 W B k ρ st)
  (h:W ρ st (λx st=>kr x st λr st=>lX r (B ρ st ⟨R,k.aX,k.n,k.aK⟩) (k.n ρ st)) (k.aK ρ)):j0 W B k ρ st
noncomputable def qT(a:AV):List Nat->Loc->Loc|[],ρ=>ρ|i::r,ρ=>qT a r (ρ.set i (U a))
noncomputable def qU:List Nat->List AV->Loc->Option Loc|[],[],ρ=>U ρ|i::c,a::b,ρ=>qU c b (ρ.set i (U a))|_,_,_=>hR
noncomputable def xo:List Nat->AV->Loc->Option Loc|[i],a,ρ=>U (ρ.set i (U a))|b,.av l,ρ=>qU b l ρ|_,_,_=>hR
noncomputable def ll(B:Loc->St->KS->Prop)(c:List Nat)(b:St->Prop)(k:KS):List AV->Loc->St->Prop|[],ρ,st=>b st/\k.n ρ st|a::r,ρ,st=>b st/\i9 (xo c a ρ) λρ=>B ρ st ⟨λρ st=>ll B c b k r ρ st,k.aX,k.n,k.aK⟩
noncomputable def AJ(o:AV)(f:Nat)(a:AV)(ρ:Loc)(st:St)(P:Loc->St->Prop):Prop:=qR st o λks b=>xg ks.length (P ρ (st.fZ (mE f a ks b)))
noncomputable def xp:ja->Option MC| .cN=>U (.bS [])| .L=>hR| .j _=>hR|_=>U (.m [])
noncomputable def Fe(o:AV)(f:Nat)(m:ja)(ρ:Loc)(st:St)(P:Loc->St->Prop):Prop:=qR st o λks a=>AI (st.cell m) (i9 (xp m) λc=>xg ks.length (P ρ ((st.ba m c).fZ (mE f (.mut m) ks a))))
noncomputable def NY(st:St)(m:ja)(c:MC)(j v:AV)(P:St->Prop):Prop:=match c with| .m l=>pj j λn=>0<=n/\n.toNat<l.length/\P (st.ba m (.m (l.set n.toNat v)))| .bS a=>pj j λi=>mF (a.length+1) (P (st.ba m (.bS (Ao i v a))))| .bK a=>qS j λi=>mF (a.length+1) (P (st.ba m (.bK (Np i v a))))|_=>False
noncomputable def AK(a j v:AV)(ρ:Loc)(st:St)(P:Loc->St->Prop):Prop:=r2 st a λm c=>NY st m c j v (P ρ)
noncomputable def Ff(a j:AV)(ρ:Loc)(st:St)(P:Loc->St->Prop):Prop:=r2 st a λm c=>Ax c λb=>pj j λi=>lX (uR i b) (P ρ (st.ba m (.bS (xb i b)))) False
noncomputable def Fg(a:AV)(P:List AV->Prop):Prop:=match a with| .av l=>P l|_=>False
theorem NZ(h:Fg a P){B:Prop}(k:∀l,a=.av l->P l->B):B:=by cases a<;>first|exact k _ O h|exact h.elim
noncomputable def Fh(b:List Nat)(a:AV)(ρ:Loc)(st:St)(P:Loc->St->Prop):Prop:=Fg a λl=>i9 (qU b l ρ) λρ=>P ρ st
noncomputable def KS.bT(k:KS)(b:List Nat)(ρ:Loc)(a:AV)(st:St):Prop:=k.n (qT a b ρ) st
noncomputable def N0(e:DE)(f:Nat)(ρ:Loc)(k:KS)(a:AV)(st:St):Prop:=WE T C e ρ st (λo st=>AJ o f a ρ st k.n) (k.aK ρ)
noncomputable def KS.ite(p q:Loc->St->KS->Prop)(ρ:Loc)(k:KS)(x:AV)(st:St):Prop:=kr x st λr st=>lX r (p ρ st k) (q ρ st k)
noncomputable def WS:DS->Loc->St->KS->Prop
 | .da,ρ,st,k=>k.n ρ st| .seq a b,ρ,st,k=>WS a ρ st (k.seq (WS b))| .y e,ρ,st,k=>WE T C e ρ st (λc st=>k.n ρ st) (k.aK ρ)| .bT d e,ρ,st,k=>WE T C e ρ st (k.bT d ρ) (k.aK ρ)| .cQ d e,ρ,st,k=>WE T C e ρ st (λa st=>Fh d a ρ st k.n) (k.aK ρ)| .ez e f x,ρ,st,k=>WE T C x ρ st (N0 T C e f ρ k) (k.aK ρ)| .co e f m,ρ,st,k=>WE T C e ρ st (λo st=>Fe o f m ρ st k.n) (k.aK ρ)| .cE e i x,ρ,st,k=>WE T C x ρ st (λv st=>WE T C e ρ st (λa st=>WE T C i ρ st (λj st=>AK a j v ρ st k.n) (k.aK ρ)) (k.aK ρ)) (k.aK ρ)| .eg e i,ρ,st,k=>WE T C e ρ st (λa st=>WE T C i ρ st (λj st=>Ff a j ρ st k.n) (k.aK ρ)) (k.aK ρ)| .cR i o e,ρ,st,k=>match ρ[i]? with|U (U x)=>WE T C e ρ st (λy st=>i9 (rY o x y) λr=>k.n (ρ.set i (U r)) st) (k.aK ρ)|_=>False
 | .cF e f o x,ρ,st,k=>WE T C e ρ st (λq st=>p8 T q f st (λu st=>WE T C x ρ st (λy st=>i9 (rY o u y) λr=>AJ q f r ρ st k.n) (k.aK ρ))) (k.aK ρ)| .ite t a b,ρ,st,k=>WE T C t ρ st (KS.ite (WS a) (WS b) ρ k) (k.aK ρ)| .bs t b,ρ,st,k=>j0 (WE T C t) (WS b) k ρ st| .b6 .ef d e b,ρ,st,k=>WE T C e ρ st (λx st=>pj x λn=>0<=n/\n<=1000/\ll (WS b) d (λc=>True) k (p7 0 n.toNat) ρ st) (k.aK ρ)| .b6 .m d e b,ρ,st,k=>WE T C e ρ st (λx st=>lY st x λm l=>ll (WS b) d (λst=>st.cell m=U (.m l)) k l ρ st) (k.aK ρ)| .b6 .eK d e b,ρ,st,k=>WE T C e ρ st (λx st=>E3 T x st (λm s=>∀o:i',ll (WS b) d (λst=>st.cell m=U (.dv o s)) ⟨λρ st=>st.cell m=U (.dv o s)/\k.n ρ (st.ba m (.bS s)),λc c=>False,λc c=>False,λc c c=>False⟩ (s.map λp=>.int p.1) ρ (st.ba m (.dv o s))) λs=>ll (WS b) d (λc=>True) k (s.map λp=>.str p.1) ρ st) (k.aK ρ)| .b6 .e7 d e b,ρ,st,k=>WE T C e ρ st (λx st=>qS x λl=>ll (WS b) d (λc=>True) k (xi 0 l) ρ st) (k.aK ρ)| .ret e,ρ,st,k=>WE T C e ρ st k.aX (k.aK ρ)| .brk,ρ,st,k=>k.b ρ st| .eN D args,ρ,st,k=>WE T C args ρ st (λy st=>nk y st λl st=>k.aK ρ ⟨D,l⟩ st) (k.aK ρ)| .eO e,ρ,st,k=>WE T C e ρ st (λx st=>kr x st λr st=>lX r (k.n ρ st) False) (k.aK ρ)| .e8 b,ρ,st,k=>WS b ρ st ⟨k.n,k.aX,k.b,λc c c=>False⟩| .eA b i D h w h',ρ,st,k=>WS b ρ st ⟨k.n,k.aX,k.b,λρ e st=>match T.cv e.cf with
  |U ks=>match T.sub e.cf D with|H=>WS h (ρ.set i (U (.cO e.cf ks e.er))) st ⟨λρ st=>k.n (ρ.set i hR) st,λc c=>False,λc c=>False,λc c c=>False⟩|g=>match T.sub e.cf w with|H=>WS h' (ρ.set i (U (.cO e.cf ks e.er))) st ⟨λρ st=>k.n (ρ.set i hR) st,λc c=>False,λc c=>False,λc c c=>False⟩|g=>False
  |hR=>False⟩
 | .aE,_,_,_=>False
end
section
open PySem
noncomputable def oB{α:Type}(o:Option α)(f:α->Bool):Bool:=match o with|U a=>f a|V=>g
theorem ff{P:Prop}(h:g=H):P:=iG h
theorem iC{A:Sort ux}{P:A->Prop}(a)(h:g=H):P a:=ff h
theorem ik{A:Sort ux}{B:Sort uy}{P:A->B->Prop}(a b)(h:g=H):P a b:=ff h
theorem hn{A:Sort ux}{B:Sort uy}{C:Sort uz}{P:A->B->C->Prop}(a b c)(h:g=H):P a b c:=ff h
theorem ht{A:Sort ux}{B:Sort uy}{C:Sort uz}{D:Sort u}{P:A->B->C->D->Prop}(a b c d)(h:g=H):P a b c d:=ff h
theorem kt{A:Sort ux}{B:Sort uy}{C:Sort uz}{D:Sort u}{E:Sort v}{P:A->B->C->D->E->Prop}(a b c d e)(h:g=H):P a b c d e:=ff h
noncomputable def hk{α:Type}(_:α):Bool:=g
noncomputable def h4{α a:Type}(_:α)(_:a):Bool:=g
noncomputable def hu{α a b:Type}(_:α)(_:a)(_:b):Bool:=g
noncomputable def iD{α a b c:Type}(_:α)(_:a)(_:b)(_:c):Bool:=g
noncomputable def xA(nm:g9->lg->Bool)(n:o4->Bool)(B:UnaryOp->ho->Bool)(d:ho->g9->lg->Bool)(f:ho->sU->ho->Bool)(j:ho->List CmpOp->List ho->Bool)(h:BoolOp->List ho->lg->Bool)(w:ho->ho->ho->Bool)(A:List ho->Bool)(y:List ho->Bool)(t:List (Option ho)->List ho->Bool)(z:ho->ho->Bool)(sl:Option ho->Option ho->Option ho->Bool)(i:ho->List ho->List pS->lg->Bool)(q:ho->List DI->Scope->lg->Bool):ho->Bool| .Name x p=>nm x p| .Constant k _ _=>n k| .UnaryOp o x _=>B o x| .Attribute o x p=>d o x p| .BinOp l o r _=>f l o r| .Compare l o r _=>j l o r| .BoolOp o l p=>h o l p| .IfExp a b c _=>w a b c| .Tuple l _ _=>A l| .List l _=>y l| .Dict k v _=>t k v| .Subscript v s _=>z v s| .Slice a b c _=>sl a b c| .Call aC l m p=>i aC l m p| .ListComp e aC s p=>q e aC s p|_=>g
noncomputable def j_(f:g9->Bool):ho->Bool:=xA (λx a=>f x) hk h4 hu hu hu hu hu hk hk h4 h4 hu iD iD
noncomputable def r7(f:o4->Bool):ho->Bool:=xA h4 f h4 hu hu hu hu hu hk hk h4 h4 hu iD iD
noncomputable def AL(f:UnaryOp->ho->Bool):ho->Bool:=xA h4 hk f hu hu hu hu hu hk hk h4 h4 hu iD iD
noncomputable def mG(f:ho->g9->lg->Bool):ho->Bool:=xA h4 hk h4 f hu hu hu hu hk hk h4 h4 hu iD iD
noncomputable def xq(f:ho->sU->ho->Bool):ho->Bool:=xA h4 hk h4 hu f hu hu hu hk hk h4 h4 hu iD iD
noncomputable def xr(f:ho->List CmpOp->List ho->Bool):ho->Bool:=xA h4 hk h4 hu hu f hu hu hk hk h4 h4 hu iD iD
noncomputable def AM(f:BoolOp->List ho->lg->Bool):ho->Bool:=xA h4 hk h4 hu hu hu f hu hk hk h4 h4 hu iD iD
noncomputable def Fi(f:ho->ho->ho->Bool):ho->Bool:=xA h4 hk h4 hu hu hu hu f hk hk h4 h4 hu iD iD
noncomputable def xs(f:List ho->Bool):ho->Bool:=xA h4 hk h4 hu hu hu hu hu f hk h4 h4 hu iD iD
noncomputable def AN(f:List ho->Bool):ho->Bool:=xA h4 hk h4 hu hu hu hu hu hk f h4 h4 hu iD iD
noncomputable def AO:ho->Bool:=xA h4 hk h4 hu hu hu hu hu hk hk (λks a=>ks.isEmpty&&a.isEmpty) h4 hu iD iD
noncomputable def uX(f:ho->ho->Bool):ho->Bool:=xA h4 hk h4 hu hu hu hu hu hk hk h4 f hu iD iD
noncomputable def Fj(f:Option ho->Option ho->Option ho->Bool):ho->Bool:=xA h4 hk h4 hu hu hu hu hu hk hk h4 h4 f iD iD
noncomputable def k8(f:ho->List ho->List pS->lg->Bool):ho->Bool:=xA h4 hk h4 hu hu hu hu hu hk hk h4 h4 hu f iD
noncomputable def uY(f:Int->Bool):o4->Bool| .int j=>f j|_=>g
noncomputable def xt(f:g9->Bool):o4->Bool| .str t=>f t|_=>g
noncomputable def l0{α:Type}:List α->Bool|[]=>H|_::_=>g
noncomputable def lc{α:Type}(f:α->List α->Bool):List α->Bool|[]=>g|x::r=>f x r
noncomputable def l1{α:Type}(f:α->Bool):List α->Bool:=lc λx r=>l0 r&&f x
noncomputable def l2{α:Type}(f:α->α->Bool):List α->Bool:=lc λx=>l1 (f x)
noncomputable def N1:UnaryOp->Bool| .Not=>H|_=>g
noncomputable def N2:UnaryOp->Bool| .USub=>H|_=>g
noncomputable def N3:CmpOp->Bool| .Eq=>H|_=>g
noncomputable def Fn:sU->Bool| .Mod=>H|_=>g
noncomputable def Fo:BoolOp->Bool| .And=>H| .Or=>g
noncomputable def N4(f:g9->ho->lg->Bool):pS->Bool|⟨U k,x,p⟩=>f k x p|⟨V,_,_⟩=>g
noncomputable def Fp(o:BoolOp)(p:lg)(y:ho):List ho->ho|[]=>y|z::r=>.BoolOp o (y::z::r) p
noncomputable def r8(b:Bool)(f:ho->Bool):Option ho->Bool|U x=>f x|V=>b
noncomputable def Fq(f:ho->List DI->Scope->lg->Bool):ho->Bool:=xA h4 hk h4 hu hu hu hu hu hk hk h4 h4 hu iD f
noncomputable def Fs(f:g9->lg->Bool):ho->Bool:=xA f hk h4 hu hu hu hu hu hk hk h4 h4 hu iD iD
noncomputable def yA(i:ho->Bool)(c:List ho->ho->Bool)(j:ho->List ie->List ie->Bool)(w:ho->List ie->List ie->Bool)(k:ho->ho->List ie->List ie->Bool)(s:Option ho->Bool)(n:Option ho->Option ho->Bool)(a:ho->Bool)(tr:List ie->List ExceptHandler->List ie->List ie->Bool)(d:ho->sU->ho->Bool)(f:List ho->Bool)(m:lg->Bool)(e:lg->Bool):ie->Bool| .Expr x _=>i x| .Assign l x _=>c l x| .If x l r _=>j x l r| .While x l r _=>w x l r| .For t x l r _=>k t x l r| .Return o _=>s o| .Raise o q _=>n o q| .Assert x _ _=>a x| .Try b h o aC _=>tr b h o aC| .AugAssign t o x _=>d t o x| .Delete l _=>f l| .Pass p=>m p| .Break p=>e p|_=>g
noncomputable def AP(f:ho->Bool):ie->Bool:=yA f h4 hu hu iD hk h4 hk iD hu hk hk hk
noncomputable def qV(f:List ho->ho->Bool):ie->Bool:=yA hk f hu hu iD hk h4 hk iD hu hk hk hk
noncomputable def Ft(f:ho->List ie->List ie->Bool):ie->Bool:=yA hk h4 f hu iD hk h4 hk iD hu hk hk hk
noncomputable def Fu(f:ho->List ie->List ie->Bool):ie->Bool:=yA hk h4 hu f iD hk h4 hk iD hu hk hk hk
noncomputable def Fv(f:ho->ho->List ie->List ie->Bool):ie->Bool:=yA hk h4 hu hu f hk h4 hk iD hu hk hk hk
noncomputable def Fw(f:Option ho->Bool):ie->Bool:=yA hk h4 hu hu iD f h4 hk iD hu hk hk hk
noncomputable def Fx(f:Option ho->Option ho->Bool):ie->Bool:=yA hk h4 hu hu iD hk f hk iD hu hk hk hk
noncomputable def Fy(f:ho->Bool):ie->Bool:=yA hk h4 hu hu iD hk h4 f iD hu hk hk hk
noncomputable def AQ(f:List ie->List ExceptHandler->List ie->List ie->Bool):ie->Bool:=yA hk h4 hu hu iD hk h4 hk f hu hk hk hk
noncomputable def AR(f:ho->sU->ho->Bool):ie->Bool:=yA hk h4 hu hu iD hk h4 hk iD f hk hk hk
noncomputable def Fz(f:List ho->Bool):ie->Bool:=yA hk h4 hu hu iD hk h4 hk iD hu f hk hk
noncomputable def FA:ie->Bool:=yA hk h4 hu hu iD hk h4 hk iD hu hk (λa=>H) hk
noncomputable def FC:ie->Bool:=yA hk h4 hu hu iD hk h4 hk iD hu hk hk (λa=>H)
section
variable{α:Type}
theorem j1{P:Prop}{f:α->Bool}(h:oB o f=H)(k:∀a,o=U a->f a=H->P):P:=by cases o with|none=>exact iG h|some a=>exact k a O h
theorem iY{P:List α->Prop}(h:l0 l=H)(k:P []):P l:=by cases l with|nil=>exact k|cons=>exact iG h
theorem lZ{P:List α->Prop}{l}(h:lc f l=H)(k:∀x r,f x r=H->P (x::r)):P l:=by cases l with|nil=>exact iG h|cons x r=>exact k x r h
theorem i4{P:List α->Prop}(h:l1 f l=H)(k:∀x,f x=H->P [x]):P l:=lZ h λx r h=>iY (P:=λr=>P _) (f2 h).1<|k x (f2 h).2
theorem uZ{P:List α->Prop}(h:l2 f l=H)(k:∀x y,f x y=H->P [x,y]):P l:=lZ h λx a h=>i4 (P:=λr=>P _) h<|k x
end
section
variable{P:ho->Prop}{x:ho}
theorem ma{P:ho->Prop}(h:xA nm B au t w A y E Y Q D T sl z C x=H)(k0:∀x p,nm x p=H->P (.Name x p))(k1:∀k n p,B k=H->P (.Constant k n p))(k2:∀o x p,au o x=H->P (.UnaryOp o x p))(k3:∀o x p,t o x p=H->P (.Attribute o x p))(G:∀l o r p,w l o r=H->P (.BinOp l o r p))(k5:∀l o r p,A l o r=H->P (.Compare l o r p))(I:∀o l p,y o l p=H->P (.BoolOp o l p))(J:∀a b c p,E a b c=H->P (.IfExp a b c p))(L:∀l n p,Y l=H->P (.Tuple l n p))(M:∀l p,Q l=H->P (.List l p))(d:∀k v p,D k v=H->P (.Dict k v p))(f:∀v s p,T v s=H->P (.Subscript v s p))(i:∀a b c p,sl a b c=H->P (.Slice a b c p))(j:∀aC l m p,z aC l m p=H->P (.Call aC l m p))(q:∀e aC s p,C e aC s p=H->P (.ListComp e aC s p)):P x:=by cases x<;>first|exact ff h|exact k0 _ _ h|exact k1 _ _ _ h|exact k2 _ _ _ h|exact k3 _ _ _ h|exact G _ _ _ _ h|exact k5 _ _ _ _ h|exact I _ _ _ h|exact J _ _ _ _ h|exact L _ _ _ h|exact M _ _ h|exact d _ _ _ h|exact f _ _ _ h|exact i _ _ _ _ h|exact j _ _ _ _ h|exact q _ _ _ _ h
theorem ku(h:j_ f x=H)(k:∀x p,f x=H->P (.Name x p)):P x:=ma h k hn hn hn ht ht hn ht hn ik hn hn ht ht ht
theorem tB(h:r7 f x=H)(k:∀c n p,f c=H->P (.Constant c n p)):P x:=ma h ik k hn hn ht ht hn ht hn ik hn hn ht ht ht
theorem FD(h:AL f x=H)(k:∀o y p,f o y=H->P (.UnaryOp o y p)):P x:=ma h ik hn k hn ht ht hn ht hn ik hn hn ht ht ht
theorem mW(h:mG f x=H)(k:∀o y p,f o y p=H->P (.Attribute o y p)):P x:=ma h ik hn hn k ht ht hn ht hn ik hn hn ht ht ht
theorem AS(h:xq f x=H)(k:∀l o r p,f l o r=H->P (.BinOp l o r p)):P x:=ma h ik hn hn hn k ht hn ht hn ik hn hn ht ht ht
theorem AT(h:xr f x=H)(k:∀l o r p,f l o r=H->P (.Compare l o r p)):P x:=ma h ik hn hn hn ht k hn ht hn ik hn hn ht ht ht
theorem FE(h:AM f x=H)(k:∀o l p,f o l p=H->P (.BoolOp o l p)):P x:=ma h ik hn hn hn ht ht k ht hn ik hn hn ht ht ht
theorem N5(h:Fi f x=H)(k:∀a b c p,f a b c=H->P (.IfExp a b c p)):P x:=ma h ik hn hn hn ht ht hn k hn ik hn hn ht ht ht
theorem AU(h:xs f x=H)(k:∀l n p,f l=H->P (.Tuple l n p)):P x:=ma h ik hn hn hn ht ht hn ht k ik hn hn ht ht ht
theorem FF(h:AN f x=H)(k:∀l p,f l=H->P (.List l p)):P x:=ma h ik hn hn hn ht ht hn ht hn k hn hn ht ht ht
theorem xv(h:uX f x=H)(k:∀v s p,f v s=H->P (.Subscript v s p)):P x:=ma h ik hn hn hn ht ht hn ht hn ik hn k ht ht ht
theorem N6(h:Fj f x=H)(k:∀a b c p,f a b c=H->P (.Slice a b c p)):P x:=ma h ik hn hn hn ht ht hn ht hn ik hn hn k ht ht
theorem k9(h:k8 f x=H)(k:∀aC l m p,f aC l m p=H->P (.Call aC l m p)):P x:=ma h ik hn hn hn ht ht hn ht hn ik hn hn ht k ht
end
section
variable{P:o4->Prop}{x:o4}
theorem xw(h:uY f x=H)(k:∀j,f j=H->P (.int j)):P x:=by cases x<;>first|cases h|exact k _ h
theorem AW(h:xt f x=H)(k:∀j,f j=H->P (.str j)):P x:=by cases x<;>first|cases h|exact k _ h
end
theorem FG{P:ho->Prop}(h:AO x=H)(k:∀p,P<|.Dict [] [] p):P x:=ma h ik hn hn hn ht ht hn ht hn ik (λa b p h=>by cases a<;>cases b<;>first|exact k p|exact ff h) hn ht ht ht
section
variable{P:ie->Prop}{x:ie}
theorem nT{P:ie->Prop}(h:yA n f s J w G E a I i k D j x=H)(k0:∀x p,n x=H->P (.Expr x p))(k1:∀l x p,f l x=H->P (.Assign l x p))(k2:∀x l r p,s x l r=H->P (.If x l r p))(k3:∀x l r p,J x l r=H->P (.While x l r p))(y:∀t x l r p,w t x l r=H->P (.For t x l r p))(k5:∀o p,G o=H->P (.Return o p))(z:∀o q p,E o q=H->P (.Raise o q p))(A:∀x m p,a x=H->P (.Assert x m p))(B:∀b h o aC p,I b h o aC=H->P (.Try b h o aC p))(C:∀t o x p,i t o x=H->P (.AugAssign t o x p))(c:∀l p,k l=H->P (.Delete l p))(d:∀p,D p=H->P (.Pass p))(e:∀p,j p=H->P (.Break p)):P x:=by cases x<;>first|exact ff h|exact k0 _ _ h|exact k1 _ _ _ h|exact k2 _ _ _ _ h|exact k3 _ _ _ _ h|exact y _ _ _ _ _ h|exact k5 _ _ h|exact z _ _ _ h|exact A _ _ _ h|exact B _ _ _ _ _ h|exact C _ _ _ _ h|exact c _ _ h|exact d _ h|exact e _ h
theorem FH(h:AP f x=H)(k:∀x p,f x=H->P (.Expr x p)):P x:=nT h k hn ht ht kt ik hn hn kt ht ik iC iC
theorem tC(h:qV f x=H)(k:∀l x p,f l x=H->P (.Assign l x p)):P x:=nT h ik k ht ht kt ik hn hn kt ht ik iC iC
theorem N7(h:Ft f x=H)(k:∀x l r p,f x l r=H->P (.If x l r p)):P x:=nT h ik hn k ht kt ik hn hn kt ht ik iC iC
theorem N8(h:Fu f x=H)(k:∀x l r p,f x l r=H->P (.While x l r p)):P x:=nT h ik hn ht k kt ik hn hn kt ht ik iC iC
theorem N9(h:Fv f x=H)(k:∀t x l r p,f t x l r=H->P (.For t x l r p)):P x:=nT h ik hn ht ht k ik hn hn kt ht ik iC iC
theorem N_(h:Fw f x=H)(k:∀o p,f o=H->P (.Return o p)):P x:=nT h ik hn ht ht kt k hn hn kt ht ik iC iC
theorem N'(h:Fx f x=H)(k:∀o q p,f o q=H->P (.Raise o q p)):P x:=nT h ik hn ht ht kt ik k hn kt ht ik iC iC
theorem Oa(h:Fy f x=H)(k:∀x m p,f x=H->P (.Assert x m p)):P x:=nT h ik hn ht ht kt ik hn k kt ht ik iC iC
theorem FI(h:AQ f x=H)(k:∀b h o aC p,f b h o aC=H->P (.Try b h o aC p)):P x:=nT h ik hn ht ht kt ik hn hn k ht ik iC iC
theorem FJ(h:AR f x=H)(k:∀t o x p,f t o x=H->P (.AugAssign t o x p)):P x:=nT h ik hn ht ht kt ik hn hn kt k ik iC iC
theorem Ob(h:Fz f x=H)(k:∀l p,f l=H->P (.Delete l p)):P x:=nT h ik hn ht ht kt ik hn hn kt ht k iC iC
theorem Oc(h:FA x=H)(k:∀p,P<|.Pass p):P x:=nT h ik hn ht ht kt ik hn hn kt ht ik (λp a=>k p) iC
theorem Od(h:FC x=H)(k:∀p,P<|.Break p):P x:=nT h ik hn ht ht kt ik hn hn kt ht ik iC λp a=>k p
end
section
variable{P:ho->Prop}{x:ho}
theorem Oe(h:Fq f x=H)(k:∀e aC s p,f e aC s p=H->P (.ListComp e aC s p)):P x:=ma h ik hn hn hn ht ht hn ht hn ik hn hn ht ht k
theorem Of(h:Fs f x=H)(k:∀n p,f n p=H->P (.Name n p)):P x:=ma h k hn hn hn ht ht hn ht hn ik hn hn ht ht ht
end
end
section
open PySem PySem.W PySem.Calls PyProof.Rows
structure Gl where
 prog:n6
 w:iZ
 K:jc
 b2:Nat
 bP:List g9
 T:oJ
 c5:g9->Option g7
 eh:g9->Option g7
 quiet:Nat->Bool
noncomputable def Gl.aH(G:Gl)(k:Nat):g9:=match G.bP[k]? with|U x=>x|V=>⟨zm k 0⟩
structure Mu where
 L:Option (Nat×Nat)
 cell:ja->Option Nat
 t:List (Nat×i')
 bQ:List (Nat×Nat×Nat)
noncomputable def S(l:List Nat):g9:=⟨l.toArray⟩
variable(G:Gl)
mutual
inductive RelV (μ:Mu):g7->AV->Prop|none:RelV μ .none .none|bool (b:Bool):RelV μ (.bool b) (.bool b)|int (i:Int) (t:Tok):RelV μ (.int i t) (.int i)|str (l:List Nat) (t:Tok):l.length<=1000000->RelV μ (.str (S l) t) (.str l)|val (v:g7):qC v=H->RelV μ v (.val v)|av {a:Nat} {c:List g7} {n:Nat} {l:List AV}:((a,({cls:=.type "tuple",data:=.seq c.toArray n}:i'))∈μ.t\/G.K.lookup a=U ({cls:=.type "tuple",data:=.seq c.toArray n}:i'))->ia μ c l->l.length<=1000000->RelV μ (.ref a) (.av l)|obj {a d C:Nat} {e:List o5} {n:Nat} {ks:List Nat} {c:List AV}:(a,lh C d)∈μ.t->(d,ji e n)∈μ.t->iV μ e ks c->G.T.cm C=U ks->RelV μ (.ref a) (.obj C ks c)|cO {a d C:Nat} {e:List o5} {n:Nat} {ks:List Nat} {c:List AV}:(a,C,d)∈μ.bQ->(d,ji e n)∈μ.t->iV μ e ks c->G.T.cv C=U ks->RelV μ (.ref a) (.cO C ks c)|au {a x h f:Nat}:(a,wq (.ref f) (.ref x))∈μ.t->μ.L=U (x,h)->RelV μ (.ref a) (.au f)|L {x h:Nat}:μ.L=U (x,h)->RelV μ (.ref x) (.mut .L)|mut{a:Nat} {m:ja}:μ.cell m=U a->m≠ .L->RelV μ (.ref a) (.mut m)
inductive ia (μ:Mu):List g7->List AV->Prop|nil:ia μ [] []|cons {v:g7} {a:AV} {c:List g7} {b:List AV}:RelV μ v a->ia μ c b->ia μ (v::c) (a::b)
inductive iV (μ:Mu):List o5->List Nat->List AV->Prop|nil:iV μ [] [] []|cons {k:Nat} {t:Tok} {v:g7} {a:AV} {c:List o5} {ks:List Nat} {b:List AV}:RelV μ v a->iV μ c ks b->iV μ (⟨n8 G.w.params (G.aH k),.str (G.aH k) t,v⟩::c) (k::ks) (a::b)
end
structure ib (μ af:Mu):Prop where
 L:∀p,μ.L=U p->af.L=U p
 cell:∀m a,μ.cell m=U a->af.cell m=U a
 t:∀p∈μ.t,p∈af.t
 bQ:∀p∈μ.bQ,p∈af.bQ
theorem ib.refl(μ):ib μ μ:=⟨λa h=>h,λa a h=>h,λa h=>h,λa h=>h⟩
theorem ib.trans(x:ib a b)(y:ib b c):ib a c:=⟨λd h=>y.L _<|x.L _ h,λd d h=>y.cell _ _<|x.cell _ _ h,λd h=>y.t _<|x.t _ h,λd h=>y.bQ _<|x.bQ _ h⟩
variable{G}
noncomputable def nU(o:i'):Prop:=∃n,o.cls=.type n/\n≠"tuple"/\n≠"dict"/\n≠"method"
structure p9 (μ af:Mu):Prop where
 L:∀p,μ.L=U p->af.L=U p
 cell:∀m a,μ.cell m=U a->af.cell m=U a
 t:∀p∈μ.t,¬nU p.2->p∈af.t
 bQ:∀p∈μ.bQ,p∈af.bQ
theorem ib.eP(E:ib μ af):p9 μ af:=⟨E.L,E.cell,λp h a=>E.t p h,E.bQ⟩
theorem Og{d:Option Nat}:¬nU ({cls:=.type "tuple",dict:=d,data:=x}):=λ⟨n,h,a,_⟩=>a (by cases h;rfl)
theorem FK{C d:Nat}:¬nU (lh C d):=λ⟨n,h,_⟩=>by cases h
theorem no_dict:¬nU (ji b n):=λ⟨n,h,_,a,_⟩=>a (by cases h;rfl)
theorem Oh:¬nU (wq f x):=λ⟨n,h,_,_,a⟩=>a (by cases h;rfl)
theorem ia.ad{C:List _->List AV->Prop}(n:C [] [])(c:∀{v a e d},RelV G μ v a->ia G μ e d->C e d->C (v::e) (a::d))(h:ia G μ e d):C e d:=ia.rec (motive_1:=λb b b=>True) (motive_3:=λb b b b=>True) ⟨⟩ (λb=>⟨⟩) (λb b=>⟨⟩) (λb b b=>⟨⟩) (λb b=>⟨⟩) (λb b b b=>⟨⟩) (λb b b b b=>⟨⟩) (λb b b b b=>⟨⟩) (λb b=>⟨⟩) (λb=>⟨⟩) (λb b=>⟨⟩) n (λr f b=>c r f) ⟨⟩ (λb b b b=>⟨⟩) h
theorem iV.ad{C:List _->List _->List AV->Prop}(n:C [] [] [])(c:∀{k t v a e ks d},RelV G μ v a->iV G μ e ks d->C e ks d->C (⟨n8 G.w.params<|G.aH k,.str (G.aH k) t,v⟩::e) (k::ks) (a::d)){e}{ks}{d}(h:iV G μ e ks d):C e ks d:=iV.rec (motive_1:=λb b b=>True) (motive_2:=λb b b=>True) ⟨⟩ (λb=>⟨⟩) (λb b=>⟨⟩) (λb b b=>⟨⟩) (λb b=>⟨⟩) (λb b b b=>⟨⟩) (λb b b b b=>⟨⟩) (λb b b b b=>⟨⟩) (λb b=>⟨⟩) (λb=>⟨⟩) (λb b=>⟨⟩) ⟨⟩ (λb b b b=>⟨⟩) n (λr f b=>c r f) h
noncomputable def RelV.fF(G:Gl)(μ:Mu)(v:g7):AV->Prop| .none=>v=.none| .bool b=>v=.bool b| .int i=>∃t,v=.int i t| .str l=>∃t,v=.str (S l) t/\l.length<=1000000| .val u=>v=u/\qC u=H| .av l=>∃a c n,v=.ref a/\((a,({cls:=.type "tuple",data:=.seq c.toArray n}:i'))∈μ.t\/G.K.lookup a=U ({cls:=.type "tuple",data:=.seq c.toArray n}:i'))/\ia G μ c l/\l.length<=1000000| .obj C ks c=>∃a d e n,v=.ref a/\(a,lh C d)∈μ.t/\(d,ji e n)∈μ.t/\iV G μ e ks c/\G.T.cm C=U ks| .cO C ks c=>∃a d e n,v=.ref a/\(a,C,d)∈μ.bQ/\(d,ji e n)∈μ.t/\iV G μ e ks c/\G.T.cv C=U ks| .au f=>∃a x h,v=.ref a/\(a,wq (.ref f) (.ref x))∈μ.t/\μ.L=U (x,h)| .mut m=>∃a,v=.ref a/\((m=.L/\∃h,μ.L=U (a,h))\/(m≠ .L/\μ.cell m=U a))
theorem RelV.aO(h:RelV G μ v a):RelV.fF G μ v a:=h.casesOn O (λe=>rfl) (λe t=>⟨t,rfl⟩) (λe t h=>⟨t,rfl,h⟩) (λe h=>⟨rfl,h⟩) (λh r z=>⟨_,_,_,rfl,h,r,z⟩) (λa b c d=>⟨_,_,_,_,rfl,a,b,c,d⟩) (λa b c d=>⟨_,_,_,_,rfl,a,b,c,d⟩) (λa b=>⟨_,_,_,rfl,a,b⟩) (λp=>⟨_,rfl,.inl ⟨rfl,_,p⟩⟩) λc n=>⟨_,rfl,.inr ⟨n,c⟩⟩
theorem RelV.db{i}(h:RelV G μ v a)(e:a=.int i):∃t,v=.int i t:=by clear zz3 e h;exact h.aO
theorem RelV.cS(h:RelV G μ v a)(e:a=.str l):∃t,v=.str (S l) t/\l.length<=1000000:=by clear zz3 e h;exact h.aO
section
variable{μ af:Mu}(E:p9 μ af)
include E
theorem RelV.ce(h:RelV G μ v a):RelV G af v a:=RelV.rec .none .bool .int .str .val (λh b z r=>.av (h.imp (λq=>E.t _ q Og) id) r z) (λh1 d b t r=>.obj (E.t _ h1 FK) (E.t _ d no_dict) r t) (λh1 d b t r=>.cO (E.bQ _ h1) (E.t _ d no_dict) r t) (λh p=>.au (E.t _ h Oh)<|E.L _ p) (λp=>.L<|E.L _ p) (λc=>.mut<|E.cell _ _ c) .nil (λb b=>.cons) .nil (λb b=>.cons) h
theorem ia.ce(h:ia G μ b a):ia G af b a:=ia.ad .nil (λr c=>.cons<|r.ce E) h
theorem iV.ce(h:iV G μ b c a):iV G af b c a:=iV.ad .nil (λr d=>.cons<|r.ce E) h
end
section
variable{μ af:Mu}(E:ib μ af)
include E
theorem RelV.aP(h:RelV G μ v a):RelV G af v a:=h.ce E.eP
theorem ia.aP(h:ia G μ b a):ia G af b a:=h.ce E.eP
theorem iV.aP(h:iV G μ b c a):iV G af b c a:=h.ce E.eP
end
noncomputable def ii(μ:Mu)(a:Nat):Prop:=(∃x,μ.L=U (x,a))\/(∃m,μ.cell m=U a)\/∃C d,(a,C,d)∈μ.bQ
class inductive j' (G:Gl)(μ:Mu){K L:Type}(f:L->K):List (K×g7)->List (L×AV)->Prop
 |nil:j' G μ f [] []
 |cons {k:L} {v:g7} {b:AV} {c:List (K×g7)} {a:List (L×AV)}:RelV G μ v b->j' G μ f c a->j' G μ f ((f k,v)::c) ((k,b)::a)
theorem j'.ce{K L}{f}(E:p9 μ af){b:List (K×g7)}{a:List (L×AV)}(h:j' G μ f b a):j' G af f b a:=h.rec .nil λr c=>.cons<|r.ce E
theorem j'.aP{K L}{f}(E:ib μ af){b:List (K×g7)}{a:List (L×AV)}(h:j' G μ f b a):j' G af f b a:=h.ce E.eP
noncomputable def k_(G:Gl)(μ:Mu)(h:jA)(a:Nat):MC->Prop| .m l=>∃d n,h.get? a=U (listOf d n)/\ia G μ d.toList l/\l.length<=1000000| .bS b=>∃c,h.DictOf (intKind G.prog G.w) a c/\j' G μ id c b/\b.length<=1000000| .bK b=>∃c,h.DictOf (strKind G.prog G.w) a c/\j' G μ S c b/\b.length<=1000000/\∀p∈b,p.1.length<=1000000| .dU o l=>h.get? a=U o/\∃d n,o=listOf d n/\ia G μ d.toList l/\l.length<=1000000| .dv o b=>h.get? a=U o/\∃c,h.DictOf (intKind G.prog G.w) a c/\j' G μ id c b/\b.length<=1000000
theorem k_.ce(E:p9 μ af)(x:k_ G μ h a c):k_ G af h a c:=c.casesOn (λb x=>x.imp λb h=>h.imp λb h=>⟨h.1,h.2.1.ce E,h.2.2⟩) (λb x=>x.imp λb h=>⟨h.1,h.2.1.ce E,h.2.2⟩) (λb x=>x.imp λb h=>⟨h.1,h.2.1.ce E,h.2.2⟩) (λb b x=>⟨x.1,x.2.imp λb h=>⟨h.1,h.2.1.ce E,h.2.2⟩⟩) (λb b x=>⟨x.1,x.2.imp λb h=>h.imp λb h=>⟨h.1,h.2.1.ce E,h.2.2⟩⟩) x
theorem k_.aP(E:ib μ af)(x:k_ G μ h a c):k_ G af h a c:=x.ce E.eP
theorem k_.dc{a}{c}(e:∀o,h.get? a=U o->h'.get? a=U o)(x:k_ G μ h a c):k_ G μ h' a c:=c.casesOn (λb x=>x.imp λb h=>h.imp λb h=>⟨e _ h.1,h.2⟩) (λb x=>x.imp λb h=>⟨jA.DictOf.at h.1 e,h.2⟩) (λb x=>x.imp λb h=>⟨jA.DictOf.at h.1 e,h.2⟩) (λb b x=>⟨e _ x.1,x.2.imp λb h=>⟨jA.DictOf.at h.1 e,h.2⟩⟩) (λb b x=>⟨e _ x.1,x.2⟩) x
structure Inv (G:Gl)(μ:Mu)(st:St)(h:jA):Prop where
 aV:G.K.In h
 cw:∀(a:Nat) o,G.K.lookup a=U o->a<G.b2
 t:∀p∈μ.t,h.get? p.1=U p.2/\G.b2<=p.1/\¬ii μ p.1
 c7:∀ks b,st.L=U (ks,b)->∃x e f n,μ.L=U (x,e)/\(x,lh G.T.a1 e)∈μ.t/\h.get? e=U (ji f n)/\iV G μ f ks b
 cG:st.L=V->μ.L=V
 cp:∀m c,st.cell m=U c->∃a,μ.cell m=U a/\k_ G μ h a c
 ck:∀m,st.cell m=V->μ.cell m=V
 cX:∀a D d,(a,D,d)∈μ.bQ->∃o b,h.get? a=U o/\o.cls=.ref D/\o.dict=U d/\o.data=.fields b
 bw:∀a,ii μ a->G.b2<=a/\a<h.objs.size
 inj:∀m m' a,μ.cell m=U a->μ.cell m'=U a->m=m'
 dd:∀x a m,μ.L=U (x,a)->μ.cell m≠U a
 de:∀x a D d,μ.L=U (x,a)->(a,D,d)∉μ.bQ
 a2:∀m a D d,μ.cell m=U a->(a,D,d)∉μ.bQ
 cx:∀n,st.f<=n->st.cell (.j n)=V
 df:st.cell .L=V
 bk:G.b2<=h.objs.size
end
section
open PySem PySem.W PySem.Calls PyProof.Rows
theorem p_(f)(m)(x:α):nQ f m x m=U x:=if_pos O
theorem pq(f)(x:α)(h:m'≠m):nQ f m x m'=f m':=if_neg h
section
variable{G:Gl}{μ af:Mu}{st:St}{h h':jA}
theorem Inv.g5(e:μ.cell m=U a):ii μ a:=.inr<|.inl ⟨m,e⟩
theorem Inv.same(I:Inv G μ st h)(hs:h.objs.size<=h'.objs.size)(b:∀(a:Nat) o,h.get? a=U o->(a<G.b2\/ii μ a\/∃z,(a,z)∈μ.t)->h'.get? a=U o):Inv G μ st h':=⟨λa o e=>b a o (I.aV a o e)<|.inl<|I.cw a o e,I.cw,λp f=>⟨b _ _ (I.t p f).1<|.inr<|.inr ⟨_,f⟩,(I.t p f).2⟩,λy i e=>(jK (I.c7 y i e) λx k l n h1 q s t=>qL x k l n h1 q (b _ _ s<|.inr<|.inl (.inl ⟨x,h1⟩)) t),I.cG,λm c e=>(hc (I.cp m c e) λa j w=>h_ a j<|w.dc λo e=>b a o e<|.inr (.inl (.inr (.inl ⟨m,j⟩)))),I.ck,λa D d e=>(jC (I.cX a D d e) λo i h1 r=>lU o i (b _ _ h1<|.inr<|.inl (.inr (.inr ⟨D,d,e⟩))) r),λa e=>⟨(I.bw a e).1,hy (I.bw a e).2 hs⟩,I.inj,I.dd,I.de,I.a2,I.cx,I.df,f1 I.bk hs⟩
theorem Inv.keeps(I:Inv G μ st h)(hs:h.objs.size<=h'.objs.size)(b:∀a o,h.get? a=U o->h'.get? a=U o):Inv G μ st h':=I.same hs λa o e c=>b a o e
theorem Inv.sameBut(I:Inv G μ st h){b:Nat}(hs:mw b h h')(h1:G.b2<=b)(c:¬ii μ b)(d:∀p∈μ.t,p.1≠b):Inv G μ st h':=by
 refine I.same (im hs.1.symm) λa o e w=>(hs.2 a λq=>?_).trans e;subst q;rcases w with w|w|⟨f,w⟩
 .exact absurd w<|Ac h1
 .exact c w
 .exact d _ w O
noncomputable def Mu.bM(μ:Mu)(a:Nat)(o:i'):Mu:={μ with t:=(a,o)::μ.t}
theorem ib.bM(μ)(a)(o):ib μ<|μ.bM a o:=⟨λb h=>h,λb b h=>h,λb=>.tail _,λb h=>h⟩
theorem ii.bM:ii (μ.bM a o) b↔ii μ b:=Iff.rfl
theorem Inv.bM(I:Inv G μ st h){a:Nat}(t:h.get? a=U o)(s:G.b2<=a)(hm:¬ii μ a):Inv G (μ.bM a o) st h:=by
 haveI E:=ib.bM μ a o;refine⟨I.aV,I.cw,λp f=>?_,λw y e=>(jK (I.c7 w y e) λx i j n h1 k l q=>qL x i j n h1 (.tail _ k) l<|q.aP E),I.cG,λm c e=>(hc (I.cp m c e) λb r d=>h_ b r<|d.aP E),I.ck,I.cX,I.bw,I.inj,I.dd,I.de,I.a2,I.cx,I.df,I.bk⟩
 .rcases h7.mp f with rfl|f
  .exact jZ t s hm
  .exact I.t p f
theorem Inv.fresh(I:Inv G μ st h):¬ii μ h.objs.size:=λm=>jP _ (I.bw _ m).2
theorem Inv.eQ(I:Inv G μ st h)(b:o.isFreed=g):Inv G (μ.bM h.objs.size o) st<|h.push o:=(I.keeps (by rw[lz];exact iA _) λa c=>jT _).bM (n9 _ b) I.bk I.fresh
noncomputable def Mu.bC(μ:Mu)(m:ja)(a:Nat):Mu:={μ with cell:=nQ μ.cell m a}
theorem ib.bC(d:μ.cell m=V):ib μ<|μ.bC m a:=
 ⟨λc h=>h,λm' b e=>by
  haveI:m'≠m:=by rintro rfl;rw[d]at e;cases e
  exact(pq _ _ this).trans e,λc h=>h,λc h=>h⟩
theorem u0{a b}(e:(μ.bC m a).cell m'=U b):(m'=m/\b=a)\/(m'≠m/\μ.cell m'=U b):=by
 by_cases q:m'=m;.clear zz3 (Eq.symm q) e;haveI:nQ _ m' a m'=U b:=e;rw[p_]at this;exact .inl ⟨rfl,(io this).symm⟩
 .haveI:nQ _ m a m'=U b:=e;rw[pq _ _ q]at this;exact .inr ⟨q,this⟩
theorem ii.bC(x:ii (μ.bC m a) b):b=a\/ii μ b:=by
 exists c;rcases x with⟨x,h⟩|⟨m',h⟩|h
 .exact c<|.inr<|.inl ⟨x,h⟩
 .rcases u0 h with⟨_,q⟩|⟨_,q⟩
  .exact c<|.inl q
  .exact c<|.inr<|.inr<|.inl ⟨m',q⟩
 .exact c<|.inr<|.inr<|.inr h
theorem Inv.f0(I:Inv G μ st h)(hm:st.cell m=V)(au:m≠ .L)(Q:G.b2<=a/\a<h.objs.size)(nm:¬ii μ a)(nf:∀p∈μ.t,p.1≠a)(Y:k_ G (μ.bC m a) h a c)(t:ac.L=st.L) (r:ac.cell=nQ st.cell m c) (w:∀n,ac.f<=n->st.f<=n/\ja.j n≠m):Inv G (μ.bC m a) ac h:=by
 have E:=ib.bC (a:=a)<|I.ck m hm;refine⟨I.aV,I.cw,λp f=>⟨(I.t p f).1,(I.t p f).2.1,λq=>?_⟩,λns vs e=>(jK (I.c7 ns vs (t▸e)) λx B C n h1 J L M=>qL x B C n h1 J L<|M.aP E),λe=>I.cG (t▸e),λm' A e=>?_,λm' e=>?_,λa D d e=>(jC (I.cX a D d e) lU),λb e=>?_,λm1 m2 b i j=>?_,λx b m' i j=>?_,I.de,λm' b D d i j=>?_,λn z=>?_,I.df,I.bk⟩
 .rcases q.bC with q|q
  .exact nf p f q
  .exact(I.t p f).2.2 q
 .rw[r]at e;by_cases q:m'=m;.subst q;rw[p_]at e;cases e;exact h_ _ (p_ _ _ _) Y
  .rw[pq _ _ q]at e;exact hc (I.cp m' A e) λb T s=>h_ b (E.cell _ _ T)<|s.aP E
 .rw[r]at e;exists k;by_cases q:m'=m;.subst q;rw[p_]at e;cases e
  .rw[pq _ _ q]at e;exact k<|(pq _ _ q).trans<|I.ck m' e
 .rcases e.bC with q|q
  .clear zz3 q;exact Q
  .exact I.bw b q
 .exists k;rcases u0 i with⟨x1,l⟩|⟨x1,l⟩<;>rcases u0 j with⟨x2,o⟩|⟨x2,o⟩
  .refine k ?_;rw[x1,x2]
  .exact absurd (.inr<|.inl ⟨m2,l▸o⟩) nm
  .exact absurd (.inr<|.inl ⟨m1,o▸l⟩) nm
  .exact k<|I.inj m1 m2 b l o
 .exists k;rcases u0 j with⟨_,y⟩|⟨_,y⟩
  .exact absurd (.inl ⟨x,y▸i⟩) nm
  .exact I.dd x b m' i y
 .rcases u0 i with⟨_,y⟩|⟨_,y⟩
  .exact absurd (.inr<|.inr ⟨D,d,y▸j⟩) nm
  .exact I.a2 m' b D d y j
 .rw[r,pq _ _ (w n z).2];exact I.cx n (w n z).1
theorem Inv.gB(I:Inv G μ st h)(hm:st.cell m=V)(f:m≠ .L)(i:h.objs.size<=h'.objs.size)(e:h.objs.size<h'.objs.size)(d:a=h.objs.size)(s:∀b o,h.get? b=U o->h'.get? b=U o) (r:k_ G (μ.bC m a) h' a c)(j:ac.L=st.L) (k:ac.cell=nQ st.cell m c) (l:∀n,ac.f<=n->st.f<=n/\ja.j n≠m):Inv G (μ.bC m a) ac h':=(I.keeps i s).f0 hm f ⟨d▸I.bk,d▸e⟩ (λq=>jP _ (d▸(I.bw a q).2)) (λp f q=>jP _ (d▸q▸it (I.t p f).1)) r j k l
theorem Inv.ei(I:Inv G μ st h){a}(hm:μ.cell m=U a)(hs:mw a h h')(T:k_ G μ h' a c):Inv G μ (st.ba m c) h':=by
 haveI C:ii μ a:=.inr<|.inl ⟨m,hm⟩;have i:=hs.1.symm;have j:∀(b:Nat) o,h.get? b=U o->b≠a->h'.get? b=U o:=λb o e q=>(hs.2 b q).trans e;have f:m≠ .L:=λq=>by subst q;haveI:=I.ck .L I.df;rw[this]at hm;cases hm
 have s:st.cell m≠none:=λq=>by rw[I.ck m q]at hm;cases hm
 refine⟨λb o e=>j b o (I.aV b o e)<|iI<|hy (I.cw b o e) (I.bw a C).1,I.cw,λp w=>⟨j _ _ (I.t p w).1 λq=>(I.t p w).2.2 (q▸C),(I.t p w).2⟩,λY y e=>(jK (I.c7 Y y<|(wZ st m c).symm.trans e) λx A J n h1 L M Q=>⟨x,A,J,n,h1,L,j _ _ M λq=>I.dd x A m h1 (q▸hm),Q⟩),(λe=>I.cG<|(wZ st m c).symm.trans e),λm' E e=>?_,λm' e=>?_,λb D d e=>(kf λk=>jC (I.cX b D d e) λo y h1 r=>k ⟨o,y,j _ _ h1 λq=>I.a2 m a D d hm (q▸e),r⟩),λb e=>?_,I.inj,I.dd,I.de,I.a2,λn t=>?_,?_,by rw[<-i];exact I.bk⟩
 .rw[uQ f]at e;by_cases q:m'=m;.subst q;haveI:=e;rw[p_]at this;cases this;exact h_ a hm T
  .haveI:=e;rw[pq _ _ q]at this;exact hc (I.cp m' E this) λb B l=>h_ b B<|l.dc λo e=>j b o e λz=>q<|I.inj m' m b B (z▸hm)
 .rw[uQ f]at e;exists k;by_cases q:m'=m;.subst q;haveI:=e;rw[p_]at this;cases this
  .haveI:=e;rw[pq _ _ q]at this;exact k<|I.ck m' this
 .haveI:=I.bw b e;exact⟨this.1,(iy<|jM<|jM (f1 (jD this.2) (im i)))⟩
 .rw[EP]at t;haveI:ja.j n≠m:=λq=>s (q▸I.cx n t);show(st.ba m c).cell _=V;rw[uQ f];rw[pq _ _ this];exact I.cx n t
 .rw[uQ f];rw[pq _ _<|Ne.symm f];exact I.df
theorem Inv.fG(I:Inv G μ st h){x a}{k:List _}{n}{ks:List _}{j:List AV}(c:μ.L=U (x,a))(hx:(x,lh G.T.a1 a)∈μ.t)(hs:mw a h h')(w:h'.get? a=U (ji k n)) (y:iV G μ k ks j):Inv G μ {st with L:=U (ks,j)} h':=by
 haveI s:ii μ a:=.inl ⟨x,c⟩;haveI f:h.objs.size=h'.objs.size:=hs.1.symm;have i:∀(b:Nat) o,h.get? b=U o->b≠a->h'.get? b=U o:=λb o e q=>(hs.2 b q).trans e;refine⟨λb o e=>i b o (I.aV b o e)<|iI<|hy (I.cw b o e) (I.bw a s).1,I.cw,λp c=>⟨i _ _ (I.t p c).1 (λq=>(I.t p c).2.2 (q▸s)),(I.t p c).2⟩,λA B e=>?_,(λe=>nomatch e),λm' t e=>(hc (I.cp m' t e) λb m l=>h_ b m<|l.dc λo e=>i b o e λz=>I.dd x a m' c (z▸m)),I.ck,λb D d e=>(jC (I.cX b D d e) λo j h1 r=>⟨o,j,i _ _ h1 λq=>I.de x a D d c (q▸e),r⟩),λb e=>?_,I.inj,I.dd,I.de,I.a2,I.cx,I.df,by rw[<-f];exact I.bk⟩;.cases e;exact qL x a k n c hx w y
 .haveI:=I.bw b e;exact⟨this.1,(iy<|jM<|jM (f1 (jD this.2) (im f)))⟩
end
@[elab_as_elim]theorem RelV.fH {st} (r:RelV G μ v<|.mut m) (I:Inv G μ st h) (d:st.cell m=U c) {P:g7->Prop} (k:∀a,μ.cell m=U a->m≠ .L->k_ G μ h a c->P (.ref a)):P v:=hc r.aO λa e z=>by rw[e];refine EJ z (λz=>?_) λz=>hc (I.cp m c d) λb f q=>k a z.2 z.1 (io (f.symm.trans z.2)▸q);rw[z.1]at d;exact hH d
end
section
open PySem PySem.W PySem.Calls PyProof.Rows
theorem u1{α:Type}{l:List α}(k:l.Nodup){i j:Nat}{x}(e:l[i]?=U x)(f:l[j]?=U x):i=j:=by
 refine hE (i2.mp e) λc a=>hE (i2.mp f) λd b=>?_;have pw:=List.pairwise_iff_getElem.mp k;rcases Nat.lt_trichotomy i j with h|h|h
 .exact absurd (a.trans b.symm)<|pw i j c d h
 .exact h
 .exact absurd (b.trans a.symm)<|pw j i d c h
structure Fm where
 a:Gl
 C:iH
 r:j8
 slots:List g9
 a_:Nat
 bD:jA
 b7:Mu
 eR:Array GenState
 eS:qA
 eT:Drawn
 bi:List j8
structure Fm.z (Φ:Fm):Prop where
 kind:Φ.r.scope.kind=.function
 j:Φ.r.locals=Φ.a_
 slot:∀(i:Nat) x,Φ.slots[i]?=U x->Φ.r.kindOf x=U .local
 nodup:Φ.slots.Nodup
 b3:Φ.bD.objs.size<=Φ.a_
 bk:Φ.a.b2<=Φ.bD.objs.size
 b8:∀h:jA,Φ.a.K.In h->h.Ns Φ.r.globals Φ.a.c5
 b9:∀h:jA,Φ.a.K.In h->h.Ns Φ.r.builtins Φ.a.eh
 dW:Φ.C.frames=U (Φ.r::Φ.bi)
 cT:Φ.r.frame=U Φ.a_
 dh:∀r∈Φ.bi,r.scope.kind≠ .module/\∃(a_:Nat) (o:i'),r.frame=U a_/\Φ.bD.get? a_=U o/\(∀b,o.data≠ .fields b)/\Φ.a.b2<=a_/\¬ii Φ.b7 a_/\∀p∈Φ.b7.t,p.1≠a_
structure Dy (Φ:Fm)(μ:Mu)(ρ:Loc)(st:St)(s:hr):Prop where
 ext:ib Φ.b7 μ
 Y:Inv Φ.a μ st s.heap
 bx:∀(a:Nat) o,Φ.bD.get? a=U o->¬ii Φ.b7 a->s.heap.get? a=U o
 ns:∃m,s.heap.Ns Φ.a_ m/\∀(i:Nat) x a,Φ.slots[i]?=U x->ρ[i]?=U (U a)->∃v,m x=U v/\RelV Φ.a μ v a
 bl:¬ii μ Φ.a_
 bz:∀p∈μ.t,p.1≠Φ.a_
 a7:∀a,ii μ a->ii Φ.b7 a\/Φ.bD.objs.size<=a
 bb:∀p∈μ.t,p∈Φ.b7.t\/Φ.bD.objs.size<=p.1
 bY:s.gens=Φ.eR
 bZ:s.os=Φ.eS
 b4:s.drawn=Φ.eT
inductive PE (Φ:Fm)(ρ:Loc)(μ:Mu)(Q:AV->St->Prop)(v:g7)(s:hr):Prop|dX (af:Mu) (a:AV) (ac:St) (q:Q a ac) (e:ib μ af) (r:RelV Φ.a af v a) (y:Dy Φ af ρ ac s):PE Φ ρ μ Q v s
section
variable{Φ:Fm}{μ af:Mu}{ρ:Loc}{st ac:St}{s:hr}{h':jA}{Q:AV->St->Prop}
theorem PE.up(E:ib μ af)(x:PE Φ ρ af Q v s):PE Φ ρ μ Q v s:=by obtain⟨b,a,ac,h1,c,d,e⟩:=x;exact⟨_,a,_,h1,E.trans c,d,e⟩
theorem PE.mk(h:Q a st)(r:RelV Φ.a μ v a)(D:Dy Φ μ ρ st s):PE Φ ρ μ Q v s:=⟨μ,a,st,h,ib.refl μ,r,D⟩
theorem Dy.toks(D:Dy Φ μ ρ st s)(t):Dy Φ μ ρ st {s with toks:=t}:=⟨D.ext,D.Y,D.bx,D.ns,D.bl,D.bz,D.a7,D.bb,D.bY,D.bZ,D.b4⟩
theorem Dy.cH(D:Dy Φ μ ρ st s):Φ.a_<s.heap.objs.size:=hc D.ns λm a b=>a.lt
theorem Dy.keeps(D:Dy Φ μ ρ st s)(hs:s.heap.objs.size<=h'.objs.size)(b:∀a o,s.heap.get? a=U o->h'.get? a=U o):Dy Φ μ ρ st {s with heap:=h',toks:=t}:=hc D.ns λm c d=>⟨D.ext,D.Y.keeps hs b,λa o e q=>b a o<|D.bx a o e q,⟨m,c.keeps b,d⟩,D.bl,D.bz,D.a7,D.bb,D.bY,D.bZ,D.b4⟩
theorem Dy.e9(D:Dy Φ μ ρ st s)(E:ib μ af)(I:Inv Φ.a af ac s.heap)(j:¬ii af Φ.a_)(h:∀p∈af.t,p.1≠Φ.a_)(l:∀a,ii af a->ii Φ.b7 a\/Φ.bD.objs.size<=a)(k:∀p∈af.t,p∈Φ.b7.t\/Φ.bD.objs.size<=p.1):Dy Φ af ρ ac s:=by refine hc D.ns λm e f=>⟨D.ext.trans E,I,D.bx,⟨m,e,λi x a b c=>?_⟩,j,h,l,k,D.bY,D.bZ,D.b4⟩;exact hc (f i x a b c) λv h1 d=>h_ v h1<|d.aP E
theorem Dy.eQ(i:Φ.z)(D:Dy Φ μ ρ st s){o:i'}(f:o.isFreed=g){t:Nat}:Dy Φ (μ.bM s.heap.objs.size o) ρ st {s with heap:=s.heap.push o,toks:=t}:=by
 haveI e:Dy Φ μ ρ st {s with heap:=s.heap.push o,toks:=t}:=D.keeps (by rw[lz];exact iA _) λa h=>jT _;refine e.e9 (ib.bM _ _ _) (D.Y.eQ f) D.bl (λp d=>?_) D.a7 λp d=>?_
 .rcases h7.mp d with b|d;clear zz3 b
  .exact iP D.cH
  .exact D.bz p d
 .rcases h7.mp d with c|d;clear zz3 c
  .exact .inr<|f1 i.b3<|iN D.cH
  .exact D.bb p d
theorem Dy.f3(l:Φ.z)(D:Dy Φ μ ρ st s)(hm:st.cell m=V)(k:m≠ .L)(d:s.heap.objs.size<h'.objs.size)(e:∀b o,s.heap.get? b=U o->h'.get? b=U o)(j:k_ Φ.a (μ.bC m s.heap.objs.size) h' s.heap.objs.size c)(f:ac.L=st.L) (h:ac.cell=nQ st.cell m c) (i:∀n,ac.f<=n->st.f<=n/\ja.j n≠m):Dy Φ (μ.bC m s.heap.objs.size) ρ ac {s with heap:=h',toks:=t}:=(D.keeps (iN d) e).e9 (ib.bC<|D.Y.ck m hm) (D.Y.gB hm k (iN d) d O e j f h i) (λq=>q.bC.elim (iI D.cH) D.bl) D.bz (λa q=>q.bC.elim (λq=>.inr (q▸f1 l.b3 (iN D.cH)))<|D.a7 a) D.bb
theorem xx{h:jA}:h.objs.size<(h.push o).objs.size:=by rw[lz];exact kY _
theorem Dy.gC(j:Φ.z)(D:Dy Φ μ ρ st s)(hm:st.cell m=V)(h:m≠ .L)(f:k_ Φ.a (μ.bC m s.heap.objs.size) (s.heap.push o) s.heap.objs.size c)(b:ac.L=st.L) (d:ac.cell=nQ st.cell m c) (e:∀n,ac.f<=n->st.f<=n/\ja.j n≠m):Dy Φ (μ.bC m s.heap.objs.size) ρ ac {s with heap:=s.heap.push o,toks:=t}:=D.f3 j hm h xx (λa i=>jT _) f b d e
theorem Oi(h:st.f+1<=k):st.f<=k/\ja.j k≠ja.j st.f:=⟨s9 h,λq=>jP _ (uT q▸h)⟩
theorem FL:ja.j n≠ .L:=λq=>by cases q
theorem PE.new(i:Φ.z)(D:Dy Φ μ ρ st s)(a:s.heap.objs.size<h'.objs.size)(e:∀b o,s.heap.get? b=U o->h'.get? b=U o)(d:ib μ (μ.bC (.j st.f) s.heap.objs.size)->k_ Φ.a (μ.bC (.j st.f) s.heap.objs.size) h' s.heap.objs.size c)(h:Q (.mut<|.j st.f)<|st.new c):PE Φ ρ μ Q (.ref s.heap.objs.size) {s with heap:=h',toks:=t}:=
 haveI hm:=D.Y.cx _<|g' _
 haveI E:=ib.bC<|D.Y.ck _ hm
 ⟨_,_,_,h,E,.mut (p_ _ _ _) FL,D.f3 i hm FL a e (d E) O (EQ _ _) λf=>Oi⟩
theorem Dy.ei(D:Dy Φ μ ρ st s)(hm:μ.cell m=U a)(hs:mw a s.heap h')(f:k_ Φ.a μ h' a c):Dy Φ μ ρ (st.ba m c) {s with heap:=h',toks:=t}:=by
 refine hc D.ns λj h i=>?_;have d:ii μ a:=.inr<|.inl ⟨m,hm⟩;refine⟨D.ext,D.Y.ei hm hs f,λb o e q=>?_,⟨j,h.sameBut hs λq=>D.bl (q▸d),i⟩,D.bl,D.bz,D.a7,D.bb,D.bY,D.bZ,D.b4⟩;refine(hs.2 b λz=>?_).trans<|D.bx b o e q;clear zz3 z q e;rcases D.a7 _ d with w|w
 .exact q w
 .exact absurd (it e)<|j9.mpr w
theorem Dy.fG(D:Dy Φ μ ρ st s)(d:μ.L=U (x,a))(hx:(x,lh Φ.a.T.a1 a)∈μ.t)(hs:mw a s.heap h')(i:h'.get? a=U (ji h n)) (c:iV Φ.a μ h ks m):Dy Φ μ ρ {st with L:=U (ks,m)} {s with heap:=h',toks:=t}:=by
 refine hc D.ns λl j k=>?_;have f:ii μ a:=.inl ⟨x,d⟩;refine⟨D.ext,D.Y.fG d hx hs i c,λb o e q=>?_,⟨l,j.sameBut hs λq=>D.bl (q▸f),k⟩,D.bl,D.bz,D.a7,D.bb,D.bY,D.bZ,D.b4⟩;refine(hs.2 b λz=>?_).trans<|D.bx b o e q;clear zz3 z q e;rcases D.a7 _ f with w|w
 .exact q w
 .exact absurd (it e)<|j9.mpr w
theorem Dy.gD(A:Φ.z)(D:Dy Φ μ ρ st s)(f:Φ.slots[i]?=U x)(r:RelV Φ.a μ v a)(hm:∀m,s.heap.Ns Φ.a_ m->h'.Ns Φ.a_ λy=>if y=x then U v else m y) (hs:mw Φ.a_ s.heap h'):Dy Φ μ (ρ.set i<|U a) st {s with heap:=h',toks:=t}:=by
 refine hc D.ns λw n p=>⟨D.ext,D.Y.sameBut hs (f1 A.bk A.b3) D.bl D.bz,λb o e q=>(hs.2 b ?_).trans<|D.bx b o e q,⟨_,hm w n,λj y b d c=>?_⟩,D.bl,D.bz,D.a7,D.bb,D.bY,D.bZ,D.b4⟩;.haveI:=it e;exact iI<|hy this A.b3
 .by_cases q:y=x
  .clear zz3 q d;haveI:=(u1 A.nodup d f);subst this;have k:=by cases nG j _ with|inl h=>exact h|inr h=>rw[zo (by rw[zp];exact h)]at c;cases c
   rw[DM k]at c;cases c;exact h_ v (if_pos O) r
  .haveI:i≠j:=λz=>by clear zz3 z f;rw[f]at d;exact q (io d).symm
   rw[DN this]at c;exact hc (p j y b d c) λu h1 l=>h_ u ((if_neg q).trans h1) l
end
end
section
open PySem PySem.W PySem.Calls PyProof.Rows
section
variable{Φ:Fm}{μ:Mu}{ρ:Loc}{st:St}{s:hr}{Q:AV->St->Prop}{E:g7->hr->Prop}{A:iH}
noncomputable abbrev Fm.q(Φ:Fm):oz:=iu Φ.a.prog Φ.a.w
theorem AX(l:Φ.z)(D:Dy Φ μ ρ st s){i:Nat}(b:Φ.slots[i]?=U x)(e:(x==("__debug__"))=g)(k:ρ[i]?=U (U a))(h:Q a st):g8 Φ.q A (eval (.Name x aa) Φ.r) (PE Φ ρ μ Q) E s:=kf λd=>hc D.ns λm f j=>hc (j i x a b k) λv h1 c=>d<|um (rA l.kind (l.slot i x b) (l.j▸f) h1<|.mk h c D) e
theorem Oj(e:Φ.z)(D:Dy Φ μ ρ st s)(hx:Φ.r.kindOf x=U .globalImplicit)(b:(x==("__debug__"))=g)(d:Φ.a.c5 x=U v)(c:RelV Φ.a μ v a)(h:Q a st):g8 Φ.q A (eval (.Name x aa) Φ.r) (PE Φ ρ μ Q) E s:=zq e.kind hx (loadGlobal_global (e.b8 _ D.Y.aV) d<|.mk h c D) b
theorem Ol(D:Dy Φ μ ρ st s)(h:Q .none st):g8 Φ.q A (eval (.Constant .none k aa) Φ.r) (PE Φ ρ μ Q) E s:=wpAny_Constant_none<|.mk h .none D
theorem Om(D:Dy Φ μ ρ st s)(h:Q (.bool b) st):g8 Φ.q A (eval (.Constant (.bool b) k aa) Φ.r) (PE Φ ρ μ Q) E s:=wpAny_Constant_bool<|.mk h (.bool b) D
theorem On(D:Dy Φ μ ρ st s)(h:Q (.int i) st):g8 Φ.q A (eval (.Constant (.int i) k aa) Φ.r) (PE Φ ρ μ Q) E s:=zr<|.mk h (.int i _)<|D.toks _
theorem Oo(D:Dy Φ μ ρ st s)(hx:x=S l)(hl:l.length<=1000000)(h:Q (.str l) st):g8 Φ.q A (eval (.Constant (.str x) k aa) Φ.r) (PE Φ ρ μ Q) E s:=by subst hx;exact DP<|.mk h (.str l _ hl)<|D.toks _
theorem xy{P:AV->AV->St->Prop}{R:g7->g7->Sem g7}(h1:g8 Φ.q A (eval d Φ.r) (PE Φ ρ μ λx st=>∀af s',ib μ af->Dy Φ af ρ st s'->g8 Φ.q A (eval e Φ.r) (PE Φ ρ af λy st=>P x y st) E s') E s)(n:∀af v u x y st s',ib μ af->RelV Φ.a af v x->RelV Φ.a af u y->P x y st->Dy Φ af ρ st s'->g8 Φ.q A (R v u) (PE Φ ρ af Q) E s'):g8 Φ.q A (eval d Φ.r) (λv a=>g8 Φ.q A (eval e Φ.r) (λu b=>g8 Φ.q A (R v u) (PE Φ ρ μ Q) E b) E a) E s:=by refine hj h1 (λv a q=>?_) λc c q=>q;obtain⟨af,x,ac,k,f,o,l⟩:=q;refine hj (k _ _ f l) (λu b q=>?_) λc c q=>q;obtain⟨j,y,i,k2,h,p,m⟩:=q;exact hj (n _ v u x y _ _ (f.trans h) (o.aP h) p k2 m) (λc c q=>q.up<|f.trans h) λc c q=>q
theorem FM(c)(b):i8 c b=decide (c∈b):=by induction b with|nil=>rfl|cons x r a=>dsimp only[Am];induction h:iE c x with|true=>simp[nL h]|false=>haveI:=n7 h;rw[a];simp[this]
theorem u2(r:RelV Φ.a μ v<|.int i):∃t,v=.int i t:=r.aO
theorem r9(r:RelV Φ.a μ v<|.str l):∃t,v=.str (S l) t:=r.aO.imp λa h=>h.1
theorem FN(r:RelV Φ.a μ v<|.bool b):v=.bool b:=r.aO
theorem AY(r:RelV Φ.a μ v .none):v=.none:=r.aO
theorem Oq(l):(S l).cps.toList=l:=rfl
theorem Ot(l):(S l).length=l.length:=rfl
theorem Ou(a b):S a++S b=S (a++b):=by show g9.append _ _=_;unfold g9.append S;simp
theorem FO:∀a b,qO a b=!decide (b<a)
 |[],b=>(congrArg not<|decide_eq_false<|List.not_lt_nil b).symm|x::a,[]=>(congrArg not<|decide_eq_true<|List.nil_lt_cons x a).symm|x::a,y::b=>by
  dsimp only[Nm];by_cases h:x=y;.subst h;rw[if_pos O,FO];simp
  .rw[if_neg h];by_cases q:x<y
   .haveI:¬(y::b<x::a):=by
     intro z
     rcases MZ.mp z with z|⟨z,_⟩
     .exact Nat.lt_asymm q z
     .exact h z.symm
    simp[q,this]
   .haveI:y::b<x::a:=MZ.mpr<|.inl<|L0 (Nat.le_of_not_lt q) λe=>h e.symm;simp[q,this]
noncomputable def ol:Op->sU| .add=>.Add| .sub=>.Sub| .mod=>.Mod| .fdiv=>.FloorDiv
theorem Ov(D:Dy Φ μ ρ st s)(a:binI o i j=U r)(h:Q (.int r) st):g8 Φ.q A (rB (ol o) (.int i t)<|.int j u) (PE Φ ρ μ Q) E s:=by
 have h':∀k,zs k=U r->∀t n,PE Φ ρ μ Q (.int k t) {s with toks:=n}:=λk e t n=>io e▸ .mk h (.int _ _) (D.toks _);induction o with
 |add=>exact PyProof.Rows.add_int<|h' _ a _ _|sub=>exact PyProof.Rows.sub_int<|h' _ a _ _|mod=>
  haveI a:(if 0<j then U _ else V)=U r:=a;exists c;by_cases b:0<j;.rw[if_pos b]at a;exact c<|L1 (Int.ne_of_gt b)<|h' _ a _ _
  .rw[if_neg b]at a;exact hH a
 |fdiv=>
  haveI a:(if 0<j/\j<1000000 then U _ else V)=U r:=a;exists c;by_cases b:0<j/\j<1000000;.rw[if_pos b]at a;exact c<|PyProof.Rows.floordiv_int (Int.ne_of_gt b.1) (h' _ a _ _)<|.inl<|PyProof.noPylong_small (pd.mp (by rw[Int.natAbs_of_nonneg (Int.le_of_lt b.1)];exact Int.lt_trans b.2 (by decide)))
  .rw[if_neg b]at a;exact hH a
end
end
section
open PySem PySem.W PySem.Calls PyProof.Rows
noncomputable def md:Cm->CmpOp| .eq=>.Eq| .b'=>.NotEq| .lt=>.Lt| .le=>.LtE| .gt=>.Gt| .ge=>.GtE| .ca=>.Is| .c4=>.IsNot| .cg=>.In| .cj=>.NotIn
theorem u3(a:List _):∀b,ha a b=decide (a=b):=by
 induction a with
 |nil=>intro b;cases b<;>rfl
 |cons x a c=>
  intro b;cases b with|nil=>rfl|cons y b=>
   show(match iE x y with|true=>ha a b|false=>g)=_;by_cases h:x=y;.rw[h,DQ];exact(c b).trans<|decide_eq_decide.mpr ⟨congrArg _,λe=>(rC e).2⟩
   .rw[show iE x y=g from ws.mpr λe=>h<|nL e];exact(decide_eq_false λe=>h (rC e).1).symm
theorem FP(h:S a=S b):a=b:=by
 haveI:(S a).cps.toList=(S b).cps.toList:=by rw[h]
 exact this
section
variable{Φ:Fm}{μ:Mu}{ρ:Loc}{st:St}{s:hr}{Q:AV->St->Prop}{E:g7->hr->Prop}{A:iH}
theorem Ow(x y:List _)(b):(match ha x y with|true=>H|false=>b)=(S y==S x||b):=by
 rw[u3];by_cases z:x=y;.subst z;simp
 .haveI:¬S y=S x:=λk=>z (FP k).symm;simp[z,this]
set_option tactic.hygienic true in
theorem Ox{x:List _}{d:List _}{l:List AV}(h:ia Φ.a μ d l):∀{b},lF x l=U b->∃e,StrsAre d e/\e.any (· ==S x)=b:=by
 induction l generalizing d with
 |nil=>cases h;exactλh=>⟨[],.nil,io h⟩
 |cons a l f=>
  cases h with|cons r m=>
   intro b h;exists k;cases a<;>first|exact hH h|skip
   rename_i y;refine hE (r9 r) λt i=>?_;refine k ?_;rw[i];revert h;show(match lF x l with|some b=>U (match ha x y with|true=>H|false=>b)|hR=>hR)=U b->_;generalize q:lF x l=o at f;intro h;cases o with|none=>exact hH h|some c=>exact hc (f m O) λe h1 j=>⟨_,.cons _ _ h1,by rw[DR,j,<-Ow];exact io h⟩
theorem xz(D:Dy Φ μ ρ st s){b:List g7}(h:(a,({cls:=.type "tuple",data:=.seq b.toArray n}))∈μ.t\/Φ.a.K.lookup a=U ({cls:=.type "tuple",data:=.seq b.toArray n})):IsTup s.heap a b.toArray:=⟨_,h.elim (λh=>(D.Y.t _ h).1) λh=>D.Y.aV _ _ h,rfl,n,rfl⟩
theorem tq(e:U x=U b)(h:Q (.bool b) st):Q (.bool x) st:=io e▸h
theorem Oy(D:Dy Φ μ ρ st s)(a:EU i j o=U b)(h:Q (.bool b) st):g8 Φ.q A (o7 (md o) (.int i t)<|.int j u) (PE Φ ρ μ Q) E s:=by
 induction o<;>first|exact hH a|skip
 .exact P.eq_int<|.mk (tq a h) (.bool _) D
 .exact P.ne_int<|.mk (tq a h) (.bool _) D
 .exact P.lt_int<|.mk (tq a h) (.bool _) D
 .exact P.le_int<|.mk (tq a h) (.bool _) D
 .exact P.gt_int<|.mk (tq a h) (.bool _) D
 .exact P.ge_int<|.mk (tq a h) (.bool _) D
theorem FQ(i j):((S i).cps.toList==(S j).cps.toList)=ha i j:=by rw[u3,Bool.eq_iff_iff];simp[Oq]
theorem FR(h:Aq i j n=U b):∃c,i=[c]/\U (bif n then !i8 c j else i8 c j)=U b:=by induction i with|nil=>exact hH h|cons c r=>induction r with|nil=>exact h_ c O (by induction n<;>exact h)|cons=>exact hH h
theorem Oz(D:Dy Φ μ ρ st s)(a:EV i j o=U b)(h:Q (.bool b) st):g8 Φ.q A (o7 (md o) (.str (S i) t)<|.str (S j) u) (PE Φ ρ μ Q) E s:=by
 induction o<;>first|exact hH a|skip
 .exact P.eq_str<|.mk (by rw[FQ];exact tq a h) (.bool _) D
 .exact P.ne_str<|.mk (by unfold bne;rw[FQ];exact tq a h) (.bool _) D
 .exact P.le_str<|.mk (by rw[show(!decide _)=qO i j by rw[FO];exact congrArg _<|decide_eq_decide.mpr Iff.rfl];exact tq a h) (.bool _) D
 .exact hc (FR (n:=g) a) λc e q=>by rw[e];exact P.in_str<|.mk (by rw[L2,<-FM];exact tq q h) (.bool _) D
 .exact hc (FR (n:=H) a) λc e q=>by rw[e];exact P.notIn_str<|.mk (by rw[L2,<-FM];exact tq q h) (.bool _) D
end
end
section
open PySem PySem.W PySem.Calls PyProof.Rows
structure FS (l:List g9):Prop where
 b0:l.Nodup
 aJ:∀x∈l,x.length<l.length
theorem AZ(G:Gl)(k):(∃x,G.bP[k]?=U x/\G.aH k=x)\/(G.bP.length<=k/\G.aH k=⟨zm k 0⟩):=by unfold Gl.aH;induction h:G.bP[k]? with|some x=>exact .inl ⟨x,rfl,rfl⟩|none=>exact .inr ⟨M0.mp h,rfl⟩
theorem u4(k):(⟨zm k 0⟩:g9).length=k:=by show(zm k 0).size=k;simp
theorem OA{G:Gl}(f:FS G.bP)(k e)(h:G.aH k=G.aH e):k=e:=by
 rcases AZ G k with⟨x,c,a⟩|⟨c,a⟩<;>rcases AZ G e with⟨y,d,b⟩|⟨d,b⟩
 .rw[a,b]at h;subst h;exact u1 f.b0 c d
 .haveI:=f.aJ x<|l8 c;rw[a,b]at h;rw[h,u4]at this;exact absurd this (j9.mpr d)
 .haveI:=f.aJ y<|l8 d;rw[a,b]at h;rw[<-h,u4]at this;exact absurd this (j9.mpr c)
 .rw[a,b]at h;haveI:=congrArg g9.length h;rwa [u4,u4]at this
noncomputable def tD(l:List g9)(x:g9):Bool:=!l.contains x&&decide (x.length<l.length)
theorem FT{G:Gl}(h:tD G.bP x=H)(k):G.aH k≠x:=by
 rw[iX]at h;rcases AZ G k with⟨y,a,b⟩|⟨a,b⟩
 .rw[b];intro q;clear zz3 q a;haveI:=l8 a;simp[this]at h
 .intro q;rw[b]at q;haveI:=congrArg g9.length q;rw[u4]at this;exact iI (hy (of_decide_eq_true h.2) a) this.symm
noncomputable def qa(K:jc)(D:Nat):Bool:=iO K (.ref D) "__getattribute__"==U (U (.builtin "object.__getattribute__"))&&iO K (.ref D) "__getattr__"==U V&&n_ K D
 &&iO K (.ref D) "__setattr__"==U (U (.builtin "object.__setattr__"))&&zt K D&&iO K (.ref D) "__bool__"==U V&&iO K (.ref D) "__len__"==U V
noncomputable def r_(K:jc)(D:Nat)(x:g9):Bool:=(iO K (.ref D) x).any (noGet K)&&rD K D x==U V
noncomputable def A0(K:jc)(D:Nat)(x:g9)(v:g7):Bool:=iO K (.ref D) x==U (U v)&&wt K v "__get__"==U V&&qC v&&!DT.contains x
noncomputable def FU(v:g7):CFound->Bool| .val u=>u==v|_=>g
theorem OB(h:FU v c=H):c=.val v:=by cases c<;>first|exact ff h|exact congrArg _<|beq_iff_eq.mp h
noncomputable def A1(K:jc)(D:Nat)(x:g9)(v:g7):Bool:=readsIn K D (.type "type")&&(findCls K (.ref D) (.type "type") x).any (FU v)&&qC v
noncomputable def qW(K:jc)(D f:Nat)(x:g9):Bool:=iO K (.ref D) x==U (U (.ref f))&&isFn K (.ref f)&&fnIn K f&&wt K (.ref f) "__get__"==U (U (.builtin "function.__get__"))&&takesIn K (.ref f)==U g&&!DT.contains x
noncomputable def FV:g7->Bool| .ref _=>H|_=>g
theorem OC(h:FV v=H):∃c,v=.ref c:=by induction v<;>first|exact⟨_,rfl⟩|cases h
noncomputable def qb:List g7->Bool|[]=>g|v::r=>(v::r==[.type "Exception",.type "BaseException",.type "object"])||(FV v&&qb r)
theorem FW{P:List _->Prop}(h0:P [.type "Exception",.type "BaseException",.type "object"])(h1:∀c r,P r->P (.ref c::r))(l):qb l=H->P l:=l.rec nofun λv r d h=>(s_.mp h).elim (λe=>(eq_of_beq e).symm▸h0) λe=>hv ((iX _ _).mp e) λa b=>hE (OC a) λc e=>e.symm▸h1 c r (d b)
theorem u5(l)(h:qb l=H):l.contains (.type "object")=H/\l.contains (.type "Exception")=H/\l.contains (.type "BaseException")=H/\l.contains (.type "AttributeError")=g/\l.contains (.type "NameError")=false:=by
 refine FW (P:=λl=>l.contains _=H/\l.contains _=H/\l.contains _=H/\l.contains _=g/\l.contains _=g) ?_ ?_ l h;.decide+kernel
 .rintro c r ⟨a,b,d,e,f⟩
  simp only[List.contains_cons,a,b,d,e,f,un,Bool.or_false];exact oi trivial trivial trivial O O
theorem FX{K}{cd}(h:pU K C=U cd):∃c dd sl,K.lookup C=U ⟨c,dd,.cls cd,sl⟩:=by unfold pU at h;induction e:K.lookup C with|none=>rw[e]at h;exact hH h|some o=>rw[e]at h;obtain⟨c,dd,x,sl⟩:=o;cases x<;>first|exact hH h|exact io h▸⟨c,dd,sl,rfl⟩
noncomputable def r'(K:jc)(C:mS):Bool:=(pU K C).any λcd=>qb cd.mro
noncomputable def xB(K:jc)(D:Nat):Bool:=r' K D&&n_ K D&&iO K (.ref D) "__getattribute__"==U (U (.builtin "BaseException.__getattribute__"))&&iO K (.ref D) "__getattr__"==U V&&iO K (.ref D) "__setattr__"==U (U (.builtin "object.__setattr__"))
theorem A2{K}(h:xB K D=H):r' K D=H/\n_ K D=H/\iO K (.ref D) "__getattribute__"=U (U<|.builtin "BaseException.__getattribute__")/\iO K (.ref D) "__getattr__"=U V/\iO K (.ref D) "__setattr__"=U (U<|.builtin "object.__setattr__"):=by unfold xB at h;simp only[iX,beq_iff_eq]at h;refine kf λi=>hv h λf e=>hv f λf d=>?_;obtain⟨⟨a,b⟩,c⟩:=f;exact i<|oi a b c d e
theorem FY{K}{D:Nat}(h:r' K D=H):oA K D (.type "BaseException")=U true:=by refine hc (rE h) λcd b a=>?_;unfold oA;rw[b,L3,if_neg (by rw[(by induction q:cd.mro with|nil=>rw[q]at a;cases a|cons _ _=>rfl:cd.mro.isEmpty=g)];decide),(u5 _ a).2.2.1]
section
open Builtin Builtin.ObjectAttr
variable{ai:n6}{w:iZ}{A:iH}{E:g7->hr->Prop}{s:hr}{K:jc}{x C:mS}{ox:i'}{od:Option i'}{name:g9}{ay:Bool}{Q:g7->hr->Prop}
theorem OD(X:K.In s.heap)(I:InstAt s.heap x ox C od)(b:iO K (.ref C) "__getattribute__"=U (U<|.builtin "BaseException.__getattribute__"))(c:iO K (.ref C) "__getattr__"=U V)(j:oA K C (.type "BaseException")=U H)(k:findObj K C od name=U (.value v)) (l:qC v=H) (h:Q v {s with toks:=s.toks+1}):g8 (iu ai w) A (qD (.ref x) name ay) Q E s:=by obtain⟨n,aC,d,t,os⟩:=s;haveI a:=I.type (M:=iu ai w);haveI e:=rF (M:=iu ai w) X b;haveI f:=rF (M:=iu ai w) X c;haveI i:=looks_find (M:=iu ai w) X I k;haveI m:=(F.attrBase_Exception).ga.bind<|.ref x;refine hw<|DU<|n' (hw (a.at (hw (e.at ?_))));refine hw<|f.at<|hw<|wpAny_attempt<|n' ?_;unfold callGetattribute;rw[show(ay&&onTheHeap _)=g by induction ay<;>rfl];refine pV<|L4 (F.attrBase_Exception).ga.plain F.entry_bexc_ga<|@check_slot _ _ _ _ _ _ "__getattribute__" _ _ _ _ (by decide+kernel) (by decide+kernel) (a.andThen<|wu X j) (F.args_bexc_ga _ _)<|hw<|ip<|hw (ip (hw (a.at (hw (i.at ?_)))));refine ip ?_;show g8 _ _ (handedOut v) _ _ _;rw[handedOut_of l];exact ip h
end
noncomputable def xC(K:jc)(a D:Nat)(b:Bool):Bool:=if b then isIn K (.ref a) D else
 kin_not K a D&&plainGet K a "__class__"&&n_ K a&&iO K (.ref a) "__class__"==U (U (.builtin "object.__class__"))&&
 wt K (.builtin "object.__class__") "__get__"==U (U (.builtin "getset_descriptor.__get__"))&&takesIn K (.builtin "object.__class__")==U H&&oA K a (.type "object")==U H
structure Gl.z (G:Gl):Prop where
 eU:∀h:jA,G.K.In h->h.NoLimit
 bk:2<=G.b2
 b8:∀h:jA,G.K.In h->h.Ns qE G.c5
 b9:∀h:jA,G.K.In h->h.Ns wv G.eh
 f4:FS G.bP
 cls:∀D,(D=G.T.a1\/(G.T.cm D).isSome=H)->qa G.K D=H
 eV:∀D ks k,((D=G.T.a1/\k<G.bP.length)\/(G.T.cm D=U ks/\k∈ks))->r_ G.K D (G.aH k)=H
 e_:∀D ks,G.T.cv D=U ks->xB G.K D=H/\∀k∈ks,r_ G.K D (G.aH k)=H
 bQ:∀C D,(G.T.cv C).isSome=H->(G.T.cv D).isSome=H->oA G.K C (.ref D)=U (G.T.sub C D)
 cat:∀D k a,G.T.be D k=U a->∃v,(∀μ,RelV G μ v a)/\A0 G.K D (G.aH k) v=H/\A1 G.K D (G.aH k) v=H
 fw:∀D d,G.T.es D=U d->D≠1/\∃b e,(∀h:jA,G.K.In h->h.DictAt (strKind G.prog G.w) D b e)/\(∀μ,j' G μ S b d)/\∀p∈d,p.1.length<=1000000
 f5:∀c D,(G.T.cm c).isSome=H->G.T.fv D=H->xC G.K c D (G.T.sub c D)=H
theorem Gl.z.inj{G:Gl}(b:G.z)(k a)(h:G.aH k=G.aH a):k=a:=OA b.f4 k a h
section
variable{Φ:Fm}{μ:Mu}{ρ:Loc}{st:St}{s:hr}{Q:AV->St->Prop}{E:g7->hr->Prop}{A:iH}
theorem FZ:kF x (x::ks) (v::a)=U v:=by dsimp only[EL];rw[DQ];rfl
theorem A3{k x:Nat}(q:iE k x=g):kF k (x::ks) (v::a)=kF k ks a:=by rw[EL,q];rfl
theorem bq(k x:Nat):k=x\/iE k x=false:=(Classical.em _).imp id λn=>ws.mpr λh=>n<|nL h
theorem F0{ks}:∀{b},kF k ks b=U a->k∈ks:=ks.rec (motive:=λks=>∀{b},kF k ks b=U a->k∈ks) (hH) λx ks c b=>b.casesOn (hH) λv b h=>(bq k x).elim (λe=>by clear zz3 e;exact .head _) λq=>.tail _<|c<|(A3 q).symm.trans h
theorem OE:lP x (⟨h,.str x t,v⟩::a)=U (U v):=by unfold lP;rw[L5 (by simp[g7.isStr])]
theorem A4(n:y≠x):lP x (⟨h,.str y t,v⟩::a)=lP x a:=by unfold lP;rw[L6 (by simp[g7.isStr,n])];rfl
theorem A5(a:Φ.a.z){k x:Nat}(q:iE k x=g):Φ.a.aH x≠Φ.a.aH k:=λz=>n7 q (a.inj _ _ z).symm
theorem xD(j:Φ.a.z)(h:iV Φ.a μ c ks d):kF k ks d=U a->∃v,lP (Φ.a.aH k) c=U (U v)/\RelV Φ.a μ v a:=iV.ad (C:=λc ks d=>kF k ks d=U a->∃v,lP _ c=U (U v)/\RelV _ μ v a) (hH) (λ{x t v b c ks i} r _ f h=>(bq k x).elim (λe=>by clear zz3 e h;exact h_ v OE (io (FZ.symm.trans h)▸r)) λq=>(A4<|A5 j q).symm▸f ((A3 q).symm.trans h)) h
theorem A6(r:RelV Φ.a μ v a):qC v=true:=r.casesOn O (λb=>rfl) (λb b=>rfl) (λb b b=>rfl) (λb h=>h) (λb b b=>rfl) (λb b b b=>rfl) (λb b b b=>rfl) (λb b=>rfl) (λb=>rfl) λb b=>rfl
theorem F1(h:∀k,Φ.a.aH k≠x){ks}{c}(k:iV Φ.a μ a ks c):lP x a=U none:=iV.ad (C:=λa b b=>lP x a=U _) O (λb b=>(A4<|h _).trans) k
theorem F2(j:Φ.a.z)(h:iV Φ.a μ a ks c):kF k ks c=V->lP (Φ.a.aH k) a=U none:=iV.ad (C:=λa ks c=>kF k ks c=V->lP _ a=U _) (λi=>rfl) (λ{x t v b a ks f} _ _ d h=>(bq k x).elim (λe=>by subst e;cases FZ.symm.trans h) λq=>(A4<|A5 j q).trans<|d<|(A3 q).symm.trans h) h
theorem tF{K}(h:qa K D=H):iO K (.ref D) "__getattribute__"=U (U<|.builtin "object.__getattribute__")/\iO K (.ref D) "__getattr__"=U V/\n_ K D=H/\iO K (.ref D) "__setattr__"=U (U<|.builtin "object.__setattr__")/\zt K D=true:=by unfold qa at h;simp only[iX,beq_iff_eq]at h;exact kf λc=>hv h λb d=>hv b λa d=>c<|oi (a.1.1.1.1) (a.1.1.1.2) (a.1.1.2) (a.1.2) (a.2)
theorem F3{K}(h:qa K D=H):iO K (.ref D) "__bool__"=U V/\iO K (.ref D) "__len__"=U none:=by unfold qa at h;simp only[iX,beq_iff_eq]at h;exact⟨h.1.2,h.2⟩
theorem u6{K}(h:r_ K D x=H):(∃a,iO K (.ref D) x=U a/\noGet K a=H)/\rD K D x=U none:=by rw[iX]at h;exact⟨rE h.1,beq_iff_eq.mp h.2⟩
theorem OF(t:Φ.a.z)(D:Dy Φ μ ρ st s){x b k:Nat}{e}{n}{ks}{i}(I:InstAt s.heap x ox b<|U<|ji e n)(r:iV Φ.a μ e ks i) (q:kF k ks i=U a) (c:iO Φ.a.K (.ref b) "__getattribute__"=U (U<|.builtin "object.__getattribute__")) (o:n_ Φ.a.K b=H) (p:(iO Φ.a.K (.ref b)<|Φ.a.aH k).any (noGet Φ.a.K)=H)(h:Q a st):g8 Φ.q A (qD (.ref x) (Φ.a.aH k) ay) (PE Φ ρ μ Q) E s:=kf λm=>hc (xD t r q) λv h1 f=>hc (rE p) λd j l=>m<|get_value D.Y.aV I c (DV o j l h1) (A6 f)<|.mk h f<|D.toks _
theorem OG(G:Φ.a.z)(D:Dy Φ μ ρ st s){x c k:Nat}(I:InstAt s.heap x ox c<|U<|ji m n)(r:iV Φ.a μ m ks y) (f:kF k ks y=U a) (t:Φ.a.T.cv c=U ks) (h:Q a st):g8 Φ.q A (qD (.ref x) (Φ.a.aH k) ay) (PE Φ ρ μ Q) E s:=kf λq=>hc (xD G r f) λv h1 e=>hv (G.e_ c ks t) λj l=>kL (A2 j) λc1 c2 c3 i z=>hv (u6<|l k<|F0 f) λb B=>hc b λd o p=>q<|OD D.Y.aV I c3 i (FY c1) (DV c2 o p h1) (A6 e)<|.mk h e<|D.toks _
theorem OH(y:Φ.a.z)(D:Dy Φ μ ρ st s){x d k:Nat}(I:InstAt s.heap x ox d<|U<|ji j n)(q:iV Φ.a μ j ks r) (p:kF k ks r=V) (f:iO Φ.a.K (.ref d) "__getattribute__"=U (U<|.builtin "object.__getattribute__")) (o:n_ Φ.a.K d=H) (m:Φ.a.T.be d k=U a) (h:Q a st):g8 Φ.q A (qD (.ref x) (Φ.a.aH k) ay) (PE Φ ρ μ Q) E s:=by refine kf λl=>jB (y.cat d k a m) λv h1 e t=>?_;unfold A0 at e;simp only[iX,beq_iff_eq,sW]at e;refine hv e λb i=>hv b λc c3=>?_;obtain⟨c1,c2⟩:=c;exact l<|get_value D.Y.aV I f (findObj_cls o c1 c2 c3 i<|F2 y q p) c3<|.mk h (h1 μ)<|D.toks _
theorem OI(l:Φ.a.z)(D:Dy Φ μ ρ st s)(i:Φ.a.T.be e k=U a)(h:Q a st):g8 Φ.q A (qD (.ref e) (Φ.a.aH k) ay) (PE Φ ρ μ Q) E s:=by refine kf λf=>jB (l.cat e k a i) λv h1 j d=>?_;unfold A1 at d;simp only[iX]at d;exact hv d λb c3=>hv b λc1 c2=>f<|cls_value D.Y.aV c1 (hc (rE c2) λc q h=>q.trans<|congrArg _<|OB h) c3<|.mk h (h1 μ)<|D.toks _
end
end
section
open PySem PySem.W PySem.Calls PyProof.Rows
noncomputable def Fl(Sl:List Nat)(F:Nat->Prop)(h h':jA):Prop:=h.objs.size<=h'.objs.size/\∀(b:Nat) o,h.get? b=U o->∃a,h'.get? b=U a/\a.cls=o.cls/\a.dict=o.dict/\ ((∃d c,o.data=.fields d/\a.data=.fields c)\/a.data=o.data)/\(b∉Sl->¬F b->a=o)
theorem Fl.trans(x:Fl Sl F a b)(y:Fl Sl F b c):Fl Sl F a c:=by
 refine⟨f1 x.1 y.1,λk o e=>?_⟩;refine kf λd=>mD (x.2 k o e) λD w c1 r B g1=>mD (y.2 k D w) λG z c2 t j C=>d<|tn G z (c2.trans c1) (t.trans r) ?_ λl f=>(C l f).trans<|g1 l f;exists d;rcases B with⟨m,h,p,q⟩|p
 .rcases j with⟨n,i,p2,f⟩|p2
  .exact d<|.inl ⟨m,_,p,f⟩
  .exact d<|.inl ⟨m,h,p,p2.trans q⟩
 .rcases j with⟨n,i,p2,f⟩|p2
  .exact d<|.inl ⟨n,_,p▸p2,f⟩
  .exact d<|.inr<|p2.trans p
theorem Fl.keeps(hs:h.objs.size<=h'.objs.size)(k:∀b o,h.get? b=U o->h'.get? b=U o):Fl Sl F h h':=⟨hs,λb o e=>⟨o,k b o e,rfl,rfl,.inr O,λa a=>rfl⟩⟩
theorem Fl.slots{Sl:List Nat}{h h'}(x:jA.SlotsOnly Sl h h'):Fl Sl F h h':=by refine⟨im x.1.symm,λb o e=>?_⟩;exact hE (x.2.2 b o e) λsl a=>tn _ a O O (.inr O) λq c=>io<|a.symm.trans ((x.2.1 b q).trans e)
theorem Fl.field{a:Nat}(f)(i:h.get? a=U o)(c:o.data=.fields l)(hF:F a):Fl Sl F h<|h.update a<|DW f:=by
 refine⟨im (DX ..).symm,λb k e=>?_⟩;by_cases q:b=a;.subst q;rw[i]at e;cases e;have d:=DY c f;exact⟨_,uo _ i<|DZ d,i'.cls_mapFields _ _,by induction o;cases c;rfl,.inl ⟨_,_,c,d⟩,λj=>absurd hF⟩
 .exact tn k ((zu _ _<|Ne.symm q).trans e) O O (.inr O) λj j=>rfl
theorem Fl.fields(x:Fl Sl F h h'){b:Nat}{o}(k:h.get? b=U o)(d:∀a,o.data≠ .fields a):∃c,h'.get? b=U c/\∀a,c.data≠ .fields a:=by
 refine kf λj=>mD (x.2 b o k) λc e i i f i=>?_;rcases f with⟨a,_,p,_⟩|p
 .exact absurd p<|d a
 .exact j<|h_ c e λa q=>d a (p▸q)
noncomputable def pr(h:jA)(l:List j8):Prop:=∀ae∈l,ae.scope.kind≠ .module/\∃L o,ae.frame=U L/\h.get? L=U o/\∀a,o.data≠ .fields a
theorem pr.fun(x:pr h l):h.FunFrames ({}) l:=by induction l with|nil=>trivial|cons ae r d=>exists c;obtain⟨k,L,o,h1,a,b⟩:=x _<|.head _;exact c<|jZ k ⟨L,o,h1,rfl,a,b⟩<|d λe he=>x e<|.tail _ he
theorem pr.R(x:pr h l)(y:Fl Sl F h h'):pr h' l:=λae he=>by exists e;obtain⟨k,L,o,h1,a,b⟩:=x _ he;obtain⟨f,c,d⟩:=y.fields a b;exact e ⟨k,L,f,h1,c,d⟩
noncomputable def j2(l:List j8):List Nat:=l.filterMap (·.frame)
noncomputable def nV(N:Nat->Prop)(d:g7)(h:jA)(e:Nat):Prop:=∃a c T oT b,h.get? e=U a/\a.data=.fields c/\c[1]?=U (.ref T)/\N T/\T≠e/\h.get? T=U oT/\oT.data=.fields b/\b[3]?=U d
noncomputable def OJ(h:jA)(e:Nat):Prop:=∃a b,h.get? e=U a/\a.data=.fields b/\b[1]?=U .none
noncomputable def sa(N:Nat->Prop)(a:g7)(h:jA)(e:Nat):Prop:=OJ h e\/nV N .none h e\/nV N a h e
theorem nV.aP(k:∀b,N b->c b)(x:nV N d h e):nV c d h e:=jj x λl n a=>lV a λT oT m h1 f i a=>hv a λj r=>⟨l,n,T,oT,m,h1,f,i,k _ j,r⟩
theorem sa.aP(k:∀b,N b->a b)(x:sa N c h e):sa a c h e:=x.imp id λx=>x.imp (nV.aP k)<|nV.aP k
section
variable{M:oz}{A:iH}{E:g7->hr->Prop}{s:hr}
theorem F4{L e:Nat}(t:A.frames=U (ae::i)) (hl:pr s.heap (ae::i)) (B:ae.frame=U L) (he:s.heap.get? e=U x) (r:x.data=.fields C) (n:1<C.size) (hN:∀b,s.heap.objs.size<=b->N b)(h:∀h',Fl (j2 (ae::i)) (λb=>b=e\/N b) s.heap h'->nV N (my L) h' e->Q () {s with heap:=h'}):g8 M A (do let a <-frameOf ae;let z <-entryPlaceOf L m;let b <-EntryCells.newEntry y a .none (my L) .none z;setField (.ref e) 1 b) Q E s:=by
 refine hw<|wpAny_frameOf_fun t hl.fun B λc f=>?_;haveI p:Fl _ (λb=>b=e\/N b) s.heap c:=Fl.slots f;refine hE (f.2.2 e x he) λsl k=>hw<|wpAny_entryPlaceOf λz w=>hw<|wpAny_newObj_type ?_<|w.sizeOk5 _ _ _ _ _;generalize hT:({cls:=.type _,dict:=V,data:=.fields _}:i')=oT;haveI q:oT.isFreed=false:=by rw[<-hT];rfl
 haveI d:=jT oT k;haveI l:=iP<|it k;haveI j:=DY (o:={x with slots:=sl}) r (·.setIfInBounds 1<|lA c.objs.size);refine D0 d r n<|h _ ((p.trans<|Fl.keeps (by rw[lz];exact iA _) λb o=>jT _).trans (Fl.field (Sl:=j2 (ae::i)) (F:=λb=>b=e\/N b) (·.setIfInBounds 1<|lA c.objs.size) d r<|.inl O)) ⟨_,_,_,_,_,(uo (DW (·.setIfInBounds 1 _)) d<|DZ j),j,by simp[n],(hN _<|im f.1.symm),l,((zu _ (DW (·.setIfInBounds 1<|lA c.objs.size))<|Ne.symm l).trans<|n9 c q),(by rw[<-hT]),?_⟩;simp
theorem A7{L e:Nat}(j:A.frames=U (ae::a)) (hl:pr s.heap (ae::a)) (l:ae.frame=U L) (t:sa N (my L) s.heap e) (hN:∀b,s.heap.objs.size<=b->N b)(h:∀h',Fl (j2 (ae::a)) (λb=>b=e\/N b) s.heap h'->nV N (my L) h' e->Q () {s with heap:=h'}):g8 M A (noteFrame (.ref e) ae) Q E s:=by
 unfold noteFrame;simp only[l];exists k;rcases t with⟨n,o,he,d,h1⟩|⟨n,o,T,oT,r,he,d,h1,m,f,hT,c,i⟩|⟨n,o,T,oT,r,he,d,h1,m,f,hT,c,i⟩
 .exact k<|hw<|sX he d h1<|F4 j hl l he d (ww.mp h1).1 hN h
 .refine k<|hw<|sX he d h1<|hw<|sX hT c i<|hw<|D0 hT c (ww.mp i).1 ?_;have p:=Fl.field (Sl:=j2 (ae::a)) (F:=λb=>b=e\/N b) (·.setIfInBounds 3 zv) hT c<|.inr m;exact F4 j (hl.R p) l ((zu _ _ f).trans he) d (ww.mp h1).1 (λb q=>hN b (by rw[DX]at q;exact q)) λh' w=>h h'<|p.trans w
 .refine k<|hw<|sX he d h1<|hw<|sX hT c i ?_;rw[if_pos (show(my L==my L)=H from by simp)];exact ip<|h _ (Fl.keeps (g' _) λx x q=>q) ⟨n,o,T,oT,r,he,d,h1,m,f,hT,c,i⟩
theorem xE(m:nV N p s.heap e)(h:∀h',Fl Sl (λb=>b=e\/N b) s.heap h'->nV N (f.elim zv λf=>my f) h' e->Q () {s with heap:=h'}):g8 M A (setFlight (.ref e) f) Q E s:=by exists l;obtain⟨n,o,T,oT,q,he,i,h1,j,c,hT,a,k⟩:=m;refine l<|hw<|sX he i h1 ?_;haveI hl:=(ww.mp k).1;haveI d:=DY a (·.setIfInBounds 3<|f.elim zv λf=>my f);refine D0 hT a hl<|h _ (Fl.field _ hT a<|.inr j) ⟨n,o,T,_,_,(zu _ _ c).trans he,i,h1,j,c,uo _ hT<|DZ d,d,?_⟩;rw[Array.getElem?_setIfInBounds_self_of_lt hl]
theorem OK{L e:Nat}(c:A.frames=U (ae::a)) (hl:pr s.heap (ae::a)) (k:ae.frame=U L) (l:sa N (my L) s.heap e) (hN:∀b,s.heap.objs.size<=b->N b)(h:∀h',Fl (j2 (ae::a)) (λb=>b=e\/N b) s.heap h'->nV N .none h' e->Q () {s with heap:=h'}):g8 M A (leaving ae<|.ref e) Q E s:=hw<|A7 c hl k l hN λh' f d=>xE d λj i=>h _<|f.trans i
end
end
section
open PySem PySem.W PySem.Calls PyProof.Rows
noncomputable def oM(A:iH)(d:Nat):Prop:=A.depth+d<900/\A.units+8*d<9000
theorem oM.deeper(R:oM A (d+1))(ae):oM (A.deeper ae) d:=hv R λh1 a=>⟨(lB (im<|iU _ 1 d) h1),(lB (f1 (im<|iU _ 3 _)<|hJ (by decide:3<=8) _) a)⟩
noncomputable def xF(G:Gl)(h:jA)(μ:Mu)(a:List j8):Prop:=∀ae∈a,ae.scope.kind≠ .module/\∃(L:Nat) (o:i'),ae.frame=U L/\h.get? L=U o/\(∀b,o.data≠ .fields b)/\G.b2<=L/\¬ii μ L/\∀p∈μ.t,p.1≠L
structure Px (G:Gl)(f:jA)(c:Mu)(k:List j8)(j:g7)(X:h5->St->Prop)(e:Nat)(μ:Mu)(st:St)(x:h5)(s:hr):Prop where
 dY:X x st
 ext:ib c μ
 Y:Inv G μ st s.heap
 cy:∃d i n ks,(e,x.cf,d)∈μ.bQ/\(d,ji i n)∈μ.t/\G.T.cv x.cf=U ks/\iV G μ i ks x.er
 new:f.objs.size<=e
 e':sa (λb=>f.objs.size<=b/\¬ii μ b/\∀p∈μ.t,p.1≠b) j s.heap e
 bx:∀(a:Nat) o,f.get? a=U o->¬ii c a->∃h,s.heap.get? a=U h/\h.cls=o.cls/\h.dict=o.dict/\h.data=o.data/\(a∉j2 k->h=o)
 a7:∀a,ii μ a->ii c a\/f.objs.size<=a
 bb:∀p∈μ.t,p∈c.t\/f.objs.size<=p.1
structure OL (s s':hr):Prop where
 bY:s'.gens=s.gens
 bZ:s'.os=s.os
 b4:s'.drawn=s.drawn
noncomputable def RC(G:Gl)(s:hr)(μ:Mu)(c:List j8)(Q:AV->St->Prop)(X:h5->St->Prop)(r:Result)(s':hr):Prop:=
 OL s s'/\match r with
 | .ok (.ret v)=>∃af a ac,Q a ac/\ib μ af/\RelV G af v a/\Inv G af ac s'.heap/\(∀(b:Nat) o,s.heap.get? b=U o->¬ii μ b->s'.heap.get? b=U o)/\
  (∀b,ii af b->ii μ b\/s.heap.objs.size<=b)/\(∀p∈af.t,p∈μ.t\/s.heap.objs.size<=p.1)
 | .error v=>∃e af ac x,v=.ref e/\Px G s.heap μ c .none X e af ac x s'|_=>False
noncomputable def F5(o:i'):Option lQ:=match o.data with| .func a=>U a|_=>V
noncomputable def k'(G:Gl)(f:Nat):Option lQ:=(G.K.lookup f).bind F5
theorem tG(h:k' G f=U a):∃o,G.K.lookup f=U o/\o.data=.func a:=by refine hc (ul.mp h) λo e h=>h_ o e ?_;obtain⟨c,d,x,sl⟩:=o;cases x<;>first|exact hH h|exact congrArg _<|io h
noncomputable def iF(a:lQ):List g9:=a.params.args.map (·.arg)
noncomputable def i6(G:Gl)(d:Nat):PC:=λf args st Q X=>∀(A:iH) (s:hr) (μ:Mu) (b:List g7) (e:List j8) (a:Args) (c:lQ),oM A d->A.frames=U e->(A.handled=V\/G.quiet f=H)->xF G s.heap μ e->Inv G μ st s.heap->ia G μ b args->k' G f=U c->sV s c a ((iF c).zip b)->l9 (iu G.prog G.w) A (.call (.ref f) a) (RC G s μ e Q X) s
theorem Inv.R{st}(I:Inv G μ st h)(y:Fl Sl F h h')(hS:∀b∈Sl,G.b2<=b/\¬ii μ b/\∀p∈μ.t,p.1≠b)(hF:∀b,F b->G.b2<=b/\(¬ii μ b\/∃D d,(b,D,d)∈μ.bQ)/\∀p∈μ.t,p.1≠b):Inv G μ st h':=by
 have j:∀(a:Nat) o,h.get? a=U o->a∉Sl->¬F a->h'.get? a=U o:=λa o e aD aE=>by refine mD (y.2 a o e) λs L w w w z=>?_;rw[L,z aD aE]
 have E:=λa m q=>(hS a q).2.1 m;have C:∀a,ii μ a->(∀D d,(a,D,d)∉μ.bQ)->¬F a:=λa m n q=>by
  rcases(hF a q).2.1 with z|⟨D,d,z⟩
  .exact z m
  .exact n D d z
 refine⟨λa o e=>j a o (I.aV a o e) (λq=>(jP _<|hy (I.cw a o e) (hS a q).1)) λq=>(jP _<|hy (I.cw a o e) (hF a q).1),I.cw,λp k=>⟨j _ _ (I.t p k).1 (λq=>(hS _ q).2.2 p k O) λq=>(hF _ q).2.2 p k O,(I.t p k).2⟩,λns t e=>?_,I.cG,λm c e=>?_,I.ck,λa D d e=>?_,λa e=>⟨(I.bw a e).1,hy (I.bw a e).2 y.1⟩,I.inj,I.dd,I.de,I.a2,I.cx,I.df,f1 I.bk y.1⟩;.refine kf λf=>jK (I.c7 ns t e) λx l M n h1 i Y au=>?_;haveI m:ii μ l:=.inl ⟨x,h1⟩;exact f ⟨x,l,M,n,h1,i,j _ _ Y (E _ m)<|C _ m λD d=>I.de x l D d h1,au⟩
 .refine kf λf=>hc (I.cp m c e) λa r av=>?_;haveI J:ii μ a:=.inr<|.inl ⟨m,r⟩;exact f<|h_ a r<|av.dc λo e=>j a o e (E _ J)<|C _ J λD d=>I.a2 m a D d r
 .refine kf λf=>mV (I.cX a D d e) λo t h1 c1 A Q=>mD (y.2 a o h1) λs i c2 B T w=>?_;rcases T with⟨_,aF,_,z⟩|z
  .exact f<|ts s _ i (c2.trans c1) (B.trans A) z
  .exact f<|ts s t i (c2.trans c1) (B.trans A)<|z.trans Q
theorem u7:∀{a:List g9} {c} {i:Nat} {x} {v:g7},a.Nodup->a[i]?=U x->c[i]?=U v->(a.zip c).reverse.lookup x=U v:=by
 intro a c i x v k hx h;haveI d:(x,v)∈(a.zip _).reverse:=by rw[L7];refine l8 (i:=i) ?_;rw[D1];exact⟨hx,h⟩
 haveI b:∀u,(x,u)∈(a.zip c).reverse->u=v:=λu f=>by rw[L7]at f;refine hE (L8 f) λj e=>?_;rw[D1]at e;haveI:=u1 k e.1 hx;subst this;rw[h]at e;exact(io e.2).symm
 generalize (a.zip _).reverse=l at d b;induction l with
 |nil=>exists n;cases d
 |cons p r m=>
  obtain⟨y,u⟩:=p;by_cases q:x=y;.clear zz3 q b;rw[b u<|.head _];simp[o8]
  .haveI:(x==y)=false:=by simpa using q
   rw[o8,this];refine m ?_ λu f=>b u<|.tail _ f;rcases h7.mp d with z|z
   .exact absurd (congrArg zw z) q
   .exact z
theorem qc{i:Nat}{a}(h:ia G μ b args):args[i]?=U a->∃v,b[i]?=U v/\RelV G μ v a:=ia.ad (C:=λe c=>∀i,c[i]?=U a->∃v,e[i]?=U v/\RelV G μ v a) (λi=>hH) (λr f d i=>i.casesOn (λh=>⟨_,rfl,io h▸r⟩) d) h i
theorem ia.len(h:ia G μ a args):a.length=args.length:=ia.ad (C:=λc b=>c.length=b.length) O (λd d=>congrArg _) h
end
section
open PySem PySem.W PySem.Calls PyProof.Rows
noncomputable def PS(Φ:Fm)(k:KS)(f:Flow)(s:hr):Prop:=match f with| .next=>∃μ ρ st,k.n ρ st/\Dy Φ μ ρ st s| .ret v=>∃μ ρ a st,k.aX a st/\RelV Φ.a μ v a/\Dy Φ μ ρ st s| .brk=>∃μ ρ st,k.b ρ st/\Dy Φ μ ρ st s| .cont=>False
noncomputable def LR(Φ:Fm)(μ:Mu)(ρ:Loc)(h:jA):Prop:=∃m,h.Ns Φ.a_ m/\∀(i:Nat) x a,Φ.slots[i]?=U x->ρ[i]?=U (U a)->∃v,m x=U v/\RelV Φ.a μ v a
theorem LR.at(x:LR Φ μ ρ h):∃o,h.get? Φ.a_=U o/\∀b,o.data≠ .fields b:=hc x λm a d=>oI a λo f e h1 c d=>h_ o h1 λb q=>by rw[c]at q;cases q
theorem LR.dc(x:LR Φ μ ρ h)(k:∀o,h.get? Φ.a_=U o->(∀f,o.data≠ .fields f)->∃b,h'.get? Φ.a_=U b/\b.data=o.data):LR Φ μ ρ h':=hc x λm a r=>oI a λo j i h1 c l=>hc (k o h1 λf q=>by rw[c]at q;cases q) λb e d=>h_ m ⟨b,j,i,e,d.trans c,l⟩ r
theorem LR.aP(E:ib μ af)(x:LR Φ μ ρ h):LR Φ af ρ h:=hc x λm h1 r=>h_ m h1 λi x a b c=>hc (r i x a b c) λv k1 k2=>h_ v k1<|k2.aP E
noncomputable def PX(Φ:Fm)(ρ:Loc)(X:h5->St->Prop)(v:g7)(s:hr):Prop:=∃e μ st x,v=.ref e/\Px Φ.a Φ.bD Φ.b7 Φ.bi (my Φ.a_) X e μ st x s/\(s.gens=Φ.eR/\s.os=Φ.eS/\s.drawn=Φ.eT)/\¬ii μ Φ.a_/\(∀p∈μ.t,p.1≠Φ.a_)/\LR Φ μ ρ s.heap
noncomputable def nt(Φ:Fm)(X:Loc->h5->St->Prop)(v:g7)(s:hr):Prop:=∃ρ,PX Φ ρ (X ρ) v s
structure xG (G:Gl)(f:Nat)(b:lQ)(a:List g9)(body:List ie):Prop where
 at_:k' G f=U b
 body:b.body=.stmts body
 kind:b.scope.kind=.function
 dL:b.scope.isCoroutine=g
 dM:b.scope.isGenerator=g
 cell:∀x∈b.scope.names,x.2≠ .cell
 j:∀x∈a,b.scope.names.lookup x=U .local
 nodup:a.Nodup
 fI:∃r,a=iF b++r
 b8:b.globals=qE
 b9:b.builtins=wv
 code:uq G.K b.code b.qualname=H
theorem OM(a)(L f:Nat)(x):(sY a L f).kindOf x=a.scope.names.lookup x:=rfl
noncomputable def sb(G:Gl)(A:iH)(b:lQ)(f:Nat)(a:List g9)(s:hr)(μ:Mu)(c:List j8):Fm:={a:=G,C:=A.deeper (sY b s.heap.objs.size f),r:=sY b s.heap.objs.size f,slots:=a,a_:=s.heap.objs.size,bD:=s.heap,b7:=μ,eR:=s.gens,eS:=s.os,eT:=s.drawn,bi:=c}
theorem A8{st}{c}(d:G.z)(F:xG G f b a j)(hA:A.frames=U c)(l:xF G s.heap μ c)(I:Inv G μ st s.heap):
 (sb G A b f a s μ c).z where
 kind:=F.kind
 j:=rfl
 slot:=λi x e=>(OM b _ f x).trans<|F.j x<|l8 e
 nodup:=F.nodup
 b3:=g' _
 bk:=I.bk
 b8:=λh k=>by show h.Ns b.globals G.c5;rw[F.b8];exact d.b8 h k
 b9:=λh k=>by show h.Ns b.builtins G.eh;rw[F.b9];exact d.b9 h k
 dW:=iH.frames_deeper hA
 cT:=rfl
 dh:=l
theorem sc(x:xF G h μ c)(f:b∈j2 c):∃o,h.get? b=U o/\(∀i,o.data≠ .fields i)/\G.b2<=b/\¬ii μ b/\∀p∈μ.t,p.1≠b:=by exists e;obtain⟨ae,he,a⟩:=List.mem_filterMap.mp f;obtain⟨_,L,o,h1,d⟩:=x _ he;rw[h1]at a;cases a;exact e ⟨o,d⟩
theorem A9(aT:Φ.z)(hx:PX Φ ρ X v s)(hs:∀a,a∈j2 Φ.bi->a<Φ.bD.objs.size)(h:∀h' e μ st x,v=.ref e->Px Φ.a Φ.bD Φ.b7 Φ.bi .none X e μ st x {s with heap:=h'}->(s.gens=Φ.eR/\s.os=Φ.eS/\s.drawn=Φ.eT)->Q () {s with heap:=h'}):g8 Φ.q Φ.C (leaving Φ.r v) Q E s:=by
 refine kf λf=>jK hx λe μ st x t P hg aR=>i5 aR λlx lf lr=>?_;clear hx;subst t;refine hc lr.at λaP hL aM=>?_;haveI w:=aT.dh;haveI low:∀b,b∈j2 _->Φ.a.b2<=b/\¬ii μ b/\∀p∈μ.t,p.1≠b:=λb c=>by
  refine kf λf=>mD (sc w c) λo h1 y A aE T=>f ⟨A,λm=>?_,λp B q=>?_⟩
  .exists f;rcases P.a7 b m with z|z
   .exact aE z
   .exact absurd (hs b c)<|j9.mpr z
  .exists f;rcases P.bb p B with z|z
   .exact T p z q
   .exact absurd (hs b c)<|j9.mpr (q▸z)
 haveI M:pr _ (Φ.r::Φ.bi):=λae he=>by
  exists f;rcases h7.mp he with i|he;clear zz3 i f
  .exact f ⟨by rw[aT.kind];decide,_,aP,aT.cT,hL,aM⟩
  .obtain⟨k,L,o,h1,y,A,aE,T,aS⟩:=w _ he;exact mD (P.bx L o y T) λaH G av av I av=>f ⟨k,L,aH,h1,G,λvs q=>A vs (I▸q)⟩
 haveI n1:=aT.bk;refine jK P.cy λd es n ks C aJ aK aL=>?_;have aF:ii μ e:=.inr<|.inr ⟨_,_,C⟩;refine f<|OK aT.dW M aT.cT P.e' (λb c=>⟨f1 (f1 aT.b3<|iN<|it hL) c,λm=>(jP _<|hy (P.Y.bw b m).2 c),λp B q=>(jP _<|hy (it (P.Y.t p B).1) (q▸c))⟩) λh' fl tr=>h h' e μ st x O ⟨P.dY,P.ext,?_,P.cy,P.new,.inr<|.inl tr,?_,P.a7,P.bb⟩ hg
 .refine P.Y.R fl (λb c=>?_) λb c=>?_
  .unfold j2 at c;rw[sZ,aT.cT]at c;rcases h7.mp c with j|c;clear zz3 j
   .exact jZ (f1 n1 aT.b3) lx lf
   .exact low b c
  .rcases c with l|⟨h1,y,A⟩;clear zz3 l
   .exact jZ ((P.Y.bw _ aF).1) (.inr ⟨_,_,C⟩) λp B q=>(P.Y.t p B).2.2 (q▸aF)
   .exact jZ (f1 n1 h1) (.inl y) A
 .intro a o Y nm;have D:=it Y;refine mD (P.bx a o Y nm) λaN G c1 d1 J g1=>mD (fl.2 a aN G) λaO I c2 d2 aI aD=>?_;have aG:¬(a=e\/Φ.bD.objs.size<=a/\¬ii μ a/\∀p∈μ.t,p.1≠a):=λq=>by
   rcases q with r|⟨q,_⟩;clear zz3 r D
   .exact jP _<|hy D P.new
   .exact jP _<|hy D q
  have ns:a∉j2 _->a∉j2 (Φ.r::Φ.bi):=λaQ au=>by
   unfold j2 at au;rw[sZ,aT.cT]at au;exists f;rcases h7.mp au with z|z
   .exact(iI<|hy D aT.b3) z
   .exact aQ z
  refine tn aO I (c2.trans c1) (d2.trans d1) ?_ λq=>(aD (ns q) aG).trans<|g1 q;exists f;by_cases q:a∈j2 Φ.bi
  .refine jB (sc w q) λaH h1 y av=>?_;rw[Y]at h1;cases h1;rcases aI with⟨vs,_,z,_⟩|z
   .exact absurd (J▸z)<|y vs
   .exact f<|z.trans J
  .refine f ?_;rw[aD (ns q) aG];exact J
theorem ON(au:G.z){w}{c}{n}{args}{st}{Q}{X}(F:xG G f w c n)(aL:args.length=(iF w).length)(h:∀Φ μ s,Φ.z->Φ.a=G->Φ.slots=c->oM Φ.C d->(Φ.C.handled=V\/G.quiet f=H)->Φ.r.scope=w.scope->Dy Φ μ (args.map U++rG (c.length - args.length) V) st s->g8 Φ.q Φ.C (o9 n Φ.r) (PS Φ ⟨λm st=>Q .none st,Q,λm m=>False,λm=>X⟩) (nt Φ λm=>X) s):i6 G (d+1) f args st Q X:=by
 intro A s μ L T a aE room hA hh aD I R e B;rw[F.at_]at e;exists M;cases e;refine M<|hc (tG F.at_) λo aG hd=>kf λM=>hE F.fI λal j=>M<|zx (pW (rX room.1) (by decide)) (I.aV _ _ aG) hd (au.eU _ I.aV) (wx I.aV F.code) F.body B F.cell (λx hx=>?_) (λJ E k=>?_) F.dL F.dM F.kind;.refine F.j _ ?_;rw[j];exact s0 _ (wy hx).1
 .have av:=A8 au F hA aD I;haveI dy:Dy (sb G A w f _ s μ T) μ (args.map U++rG (c.length - args.length) V) st {s with heap:=J,toks:=s.toks+((iF w).zip L).length}:=by
   refine⟨ib.refl μ,I.keeps (iN E.lt) k,λb aI e m=>k b aI e,⟨_,E,λi x b e1 t=>?_⟩,I.fresh,λp l=>iI<|it (I.t p l).1,λb=>.inl,λp=>.inl,rfl,rfl,rfl⟩
   .have lt:=by
     cases nG i _ with
     |inl q=>exact q
     |inr q=>
      rw[pX (by rw[ig];exact q)]at t
      have:=l8 t
      rw[D2]at this
      cases this.2
    rw[qF (by rw[ig];exact lt),oa]at t
    haveI e3:args[i]?=U b:=by
     induction z:args[i]? with
     |none=>rw[z]at t;exists M;cases t
     |some y=>rw[z]at t;cases t;rfl
    refine hc (qc R e3) λv aH r=>h_ v (u7 ?_ ?_ aH) r
    .have:=F.nodup
     rw[j]at this
     exact(rQ.mp this).1
    .haveI:c[i]?=U x:=e1
     rw[j,qF (‹args.length=(iF w).length›▸‹i<args.length›)]at this
     exact this
  refine hj (h _ μ _ av O O (room.deeper _) hh O dy) (λfl s' l=>?_) λv s' l=>?_
  .have C:∀v r af aj ac,Q r _->RelV G _ v r->Dy (sb G A w f c s μ T) _ aj _ s'->RC G s μ T Q X (.ok<|.ret v) s':=λv r af aj ac q aJ D=>
    ⟨⟨D.bY,D.bZ,D.b4⟩,af,r,ac,q,D.ext,aJ,D.Y,D.bx,D.a7,D.bb⟩
   induction fl with
   |next=>exact kM l λaf aj ac q=>C _ _ _ _ _ q .none
   |ret v=>exact jj l λaf aj aK=>i0 aK λr ac=>C _ _ _ _ _
   |brk=>refine kM l λm m m q m=>?_
         induction q
   |cont=>induction l
  .exact hE l λaj l=>A9 av l (λb aF=>(hc (sc aD aF) λo h1 m=>it h1)) λh' e af ac x ev P Y=>⟨⟨Y.1,Y.2.1,Y.2.2⟩,e,_,_,x,ev,P⟩
end
section
set_option backward.match.sparseCases true
open PySem PySem.W PySem.Calls PyProof.Rows
section
variable{Φ:Fm}{μ:Mu}{ρ:Loc}{st:St}{s s':hr}{Q:AV->St->Prop}{X:h5->St->Prop}
theorem Dy.gE(D:Dy Φ μ ρ st s):∃o,s.heap.get? Φ.a_=U o/\∀b,o.data≠ .fields b:=hc D.ns λm a d=>oI a λo f e h1 c d=>h_ o h1 λb q=>by rw[c]at q;cases q
theorem Dy.dh(j:Φ.z)(D:Dy Φ μ ρ st s):xF Φ.a s.heap μ (Φ.r::Φ.bi):=λae he=>by
 exists b;rcases h7.mp he with a|he;clear zz3 a b
 .exact hc D.gE λo h1 c=>b ⟨by rw[j.kind];decide,_,o,j.cT,h1,c,f1 j.bk j.b3,D.bl,D.bz⟩
 .obtain⟨k,L,o,h1,c,e,f,d,h⟩:=j.dh _ he;haveI hl:=it c;refine b ⟨k,L,o,h1,D.bx L o c d,e,f,λm=>?_,λp i q=>?_⟩
  .exists b;rcases D.a7 L m with z|z
   .exact d z
   .exact jP _<|hy hl z
  .exists b;rcases D.bb p i with z|z
   .exact h p z q
   .exact jP _<|hy hl (q▸z)
theorem Dy.dZ(a:Φ.z)(D:Dy Φ μ ρ st s):Φ.bD.objs.size<=s.heap.objs.size:=f1 a.b3<|iN D.cH
theorem Dy.f6(D:Dy Φ μ ρ st s)(b:a<Φ.bD.objs.size)(h:¬ii Φ.b7 a):¬ii μ a:=λm=>by
 rcases D.a7 a m with z|z
 .exact h z
 .exact jP _<|hy b z
theorem F6(C:Φ.z)(D:Dy Φ μ ρ st s)(h:RC Φ.a s μ (Φ.r::Φ.bi) Q X (.ok<|.ret v) s'):PE Φ ρ μ Q v s':=by
 exists c;obtain⟨hs,af,a,ac,q,E,r,I,f,k,j⟩:=h;refine c ⟨_,a,_,q,E,r,D.ext.trans E,I,λb o e n=>(f b o (D.bx b o e n)<|D.f6 (it e) n),?_,λm=>?_,λp d=>?_,λb m=>?_,λp d=>?_,hs.bY.trans D.bY,hs.bZ.trans D.bZ,hs.b4.trans D.b4⟩;.exists c;obtain⟨m,⟨o,y,w,h1,A⟩,B⟩:=D.ns;refine c<|h_ m ⟨o,y,w,f _ _ h1 D.bl,A⟩ λi x b l t=>kf λc=>?_;obtain⟨u,k1,k2⟩:=B i x b l t;exact c<|h_ u k1<|k2.aP E
 .exists c;rcases k _ m with z|z
  .exact D.bl z
  .exact jP _<|hy D.cH z
 .exists c;rcases j p d with z|z
  .exact c<|D.bz p z
  .exact c<|iP<|hy D.cH z
 .exists c;rcases k _ m with z|z
  .exact c<|D.a7 b z
  .exact c<|.inr<|f1 (D.dZ C) z
 .exists c;rcases j p d with z|z
  .exact c<|D.bb p z
  .exact c<|.inr<|f1 (D.dZ C) z
theorem F7(y:Φ.z)(D:Dy Φ μ ρ st s)(h:RC Φ.a s μ (Φ.r::Φ.bi) Q X (.error v) s'):PX Φ ρ X v s':=by
 exists c;obtain⟨hs,e,af,ac,x,rfl,P⟩:=h;haveI h0:=D.dZ y;refine c ⟨e,af,ac,x,rfl,⟨P.dY,D.ext.trans P.ext,P.Y,P.cy,f1 h0 P.new,?_,λa o r n=>?_,λb m=>?_,λp i=>?_⟩,⟨hs.bY.trans D.bY,hs.bZ.trans D.bZ,hs.b4.trans D.b4⟩,λm=>?_,λp i=>?_,?_⟩
 .haveI k:∀b,(s.heap.objs.size<=b/\¬ii af b/\∀p∈af.t,p.1≠b)->(Φ.bD.objs.size<=b/\¬ii af b/\∀p∈af.t,p.1≠b):=λb z=>⟨f1 h0 z.1,z.2⟩;exists c;rcases P.e' with z|z|z
  .exact c<|.inl z
  .exact c<|.inr<|.inl<|z.aP k
  .exact c<|.inr<|.inl<|z.aP k
 .haveI l:=it r;exists c;obtain⟨j,d,c1,t,f,g1⟩:=P.bx a o (D.bx a o r n)<|D.f6 l n;refine c<|tn j d c1 t f λq=>g1 λz=>?_;unfold j2 at z;rw[sZ,y.cT]at z;exists c;rcases h7.mp z with z|z
  .exact iI (hy l y.b3) z
  .exact q z
 .exists c;rcases P.a7 _ m with z|z
  .exact c<|D.a7 b z
  .exact c<|.inr<|f1 h0 z
 .exists c;rcases P.bb p i with z|z
  .exact c<|D.bb p z
  .exact c<|.inr<|f1 h0 z
 .exists c;rcases P.a7 _ m with z|z
  .exact D.bl z
  .exact jP _<|hy D.cH z
 .exists c;rcases P.bb p i with z|z
  .exact c<|D.bz p z
  .exact c<|iP<|hy D.cH z
 .refine(LR.aP P.ext D.ns).dc λo h1 w=>kf λc=>?_;obtain⟨j,d,_,_,f,_⟩:=P.bx _ o h1 D.bl;exact c<|h_ j d f
theorem A_(l:Φ.z)(D:Dy Φ μ ρ st s){d f}{b}{args:List AV}{a aa:List g7}{kw:List (g9×g7)}(R:oM Φ.C d)(j:Φ.C.handled=V\/Φ.a.quiet f=H)(i:k' Φ.a f=U b)(k:ia Φ.a μ a args) (c:sV s b ⟨aa,kw⟩<|(iF b).zip a) (h:i6 Φ.a d f args st Q X):l9 Φ.q Φ.C (.call (.ref f) ⟨aa,kw⟩) (λr s'=>match r with| .ok<|.ret v=>PE Φ ρ μ Q v s'| .ok _=>False| .error e=>PX Φ ρ X e s') s:=by refine wz (h _ s μ _ (Φ.r::Φ.bi) _ b R l.dW j (D.dh l) D.Y k i c) λr s' q=>?_;induction r with|error v=>exact F7 l D q|ok f=>induction f with|ret v=>exact F6 l D q|next=>exact q.2.elim|brk=>exact q.2.elim|cont=>exact q.2.elim
theorem F8(k:Φ.z)(D:Dy Φ μ ρ st s)(R:oM Φ.C d)(i:Φ.C.handled=V\/Φ.a.quiet f=H)(e:k' Φ.a f=U b)(j:ia Φ.a μ a args) (c:sV s b ⟨aa,kw⟩<|(iF b).zip a) (h:i6 Φ.a d f args st Q X):g8 Φ.q Φ.C (kZ (.ref f) aa kw) (PE Φ ρ μ Q) (PX Φ ρ X) s:=pV<|A_ k D R i e j c h
end
end
section
open PySem PySem.W PySem.Calls PyProof.Rows
noncomputable def jl:List (g9×Bool)->Nat->List g9->Bool
 |[],n,ks=>match n with|0=>ks.isEmpty|_+1=>g
 |(x,b)::a,n,ks=>match n with|n+1=>jl a n ks|0=>match ks with|k::r=>if k=x then jl a 0 r else b&&jl a 0 (k::r)|[]=>b&&jl a 0 []
noncomputable def fill:List (g9×Option g7)->List g7->List (g9×g7)->List g7|[],_,_=>[]|(x,c)::a,b,kw=>match b with|v::b=>v::fill a b kw|[]=>match kw with|(k,u)::kw=>if k=x then u::fill a [] kw else c.getD .none::fill a [] ((k,u)::kw)|[]=>c.getD .none::fill a [] []
noncomputable def kO(a:List (g9×Option g7)):List (g9×Bool):=a.map λp=>(p.1,p.2.isSome)
noncomputable def qd(a:List (g9×Option g7)):List (g9×g7):=a.filterMap λp=>p.2.map (p.1,·)
theorem A'{a:List (g9×Bool)}:∀{n} {ks:List _},jl a n ks=H->ks.Sublist ((a.map (·.1)).drop n):=by
 induction a with
 |nil=>intro n ks h;cases n with|zero=>exact L9.mp h▸ .slnil|succ n=>exact iG h
 |cons p a b=>intro n ks h;cases n with
  |succ n=>exact b h|zero=>cases ks with
   |nil=>exact List.nil_sublist _|cons k r=>
    haveI h:(if k=p.1 then jl a 0 r else p.2&&jl a 0 _)=true:=h;by_cases q:k=p.1;.rw[if_pos q]at h;exact q▸(b h).cons₂ _
    .rw[if_neg q]at h;exact(b (lT.mp h).2).cons _
theorem OO{n}{ks:List _}(h:jl a n ks=H):∀k∈ks,k∈(a.map (·.1)).drop n:=λb=>(A' h).mem
theorem OP:∀{n} {ks},jl a n ks=H->n<=a.length:=by
 induction a with
 |nil=>intro n ks h;cases n with|zero=>exact g' _|succ n=>exact iG h
 |cons p a b=>intro n ks h;cases n with|zero=>exact jd _|succ n=>exact lC<|b h
theorem F9{α e:Type}{f aC:α->Option e}:∀{l:List α},(∀a∈l,f a=aC a)->l.filterMap f=l.filterMap aC:=by intro l;induction l with|nil=>exactλ_=>rfl|cons a r d=>intro h;rw[sZ,sZ,h a<|.head _,d λb c=>h b<|.tail _ c]
theorem Ba{α:Type}(n)(a b:List (g9×α)):(a++b).lookup n=(a.lookup n).or (b.lookup n):=by induction a with|nil=>rfl|cons p r c=>obtain⟨x,v⟩:=p;rw[zy,o8,o8];induction h:n==x with|true=>rfl|false=>exact c
theorem Bb{α:Type}{n}{l:List (g9×α)}(h:n∉l.map (·.1)):l.lookup n=none:=by
 induction l with|nil=>rfl|cons p r a=>
  obtain⟨x,v⟩:=p;rw[o8];haveI:(n==x)=false:=by simpa using(λq=>h (by rw[q];exact .head _))
  rw[this];exact a λq=>h<|.tail _ q
noncomputable def putD(sl:List (g9×g7))(p:g9×g7):List (g9×g7):=if(sl.lookup p.1).isNone then sl++[p]else sl
theorem OQ(n):∀(a:List _) sl,(a.foldl putD sl).lookup n=(sl.lookup n).or (a.lookup n):=by
 intro a;induction a with
 |nil=>intro sl;induction h:sl.lookup n<;>simp[h]
 |cons c r b=>
  obtain⟨m,d⟩:=c;intro sl;rw[b];unfold putD;by_cases q:n=m;.subst q;induction h:sl.lookup n with|none=>simp[h,Ba,o8]|some v=>simp[h]
  .haveI e:(n==m)=false:=by simpa using q
   split;.rw[Ba,];simp[o8,e]
   .simp[o8,e]
theorem Bc{α:Type}(x)(v)(l:List (g9×α)):((x,v)::l).lookup x=U v:=by show(match x==x with|true=>U v|false=>l.lookup x)=_;rw[beq_self_eq_true]
theorem u8{α:Type}(h:m≠x)(v)(l:List (g9×α)):((x,v)::l).lookup m=l.lookup m:=by show(match m==x with|true=>U v|false=>l.lookup m)=_;rw[beq_false_of_ne h]
theorem OR{α c:Type}{f}{a}{b}{l:List α}{r:List c}(h:f a=U b)(e:l.filterMap f=r):(a::l).filterMap f=b::r:=(List.filterMap_cons_some h).trans<|congrArg _ e
theorem Be{α:Type}{x m}(h:m=x)(v)(l:List (g9×α)):((x,v)::l).lookup m=U v:=h▸Bc m v l
theorem F_(a:List (g9×Option _)):(kO a).map (·.1)=a.map (·.1):=s1 ..
theorem OS{a:List (g9×Option _)}:∀{aa:List g7} {kw:List (g9×g7)},(a.map (·.1)).Nodup->jl (kO a) aa.length (kw.map (·.1))=H->(a.map (·.1)).filterMap (λn=>((((a.map (·.1)).zip aa++kw).lookup n).or ((qd a).lookup n)).map (n,·))=(a.map (·.1)).zip (fill a aa kw):=by
 induction a with|nil=>exactλs s=>rfl|cons p a j=>
  obtain⟨x,c⟩:=p;intro aa kw o h;have b:=qG.mp o;have t:∀m,m≠x->(qd ((x,c)::a)).lookup m=(qd a).lookup m:=λm hm=>by clear o;cases c with|none=>rfl|some d=>exact u8 hm d<|qd a
  have i:∀{sl f:List _} {v},((sl.lookup x).or _)=U v->(∀m,m≠x->sl.lookup m=f.lookup m)->∀{r},(a.map _).filterMap _=(a.map _).zip r->(x::a.map _).filterMap (λn=>((sl.lookup n).or<|(qd ((x,c)::a)).lookup n).map _)=(x::a.map (·.1)).zip (v::r):=λ{sl f v} hx hs {r} e=>by
   refine OR (congrArg _ hx)<|(F9 λm hm=>?_).trans e
   haveI y:m≠x:=λq=>b.1 (q▸hm)
   rw[hs m y,t m y]
  have w:c.isSome=H->none.or ((qd ((x,c)::a)).lookup x)=U (c.getD .none):=λA=>by clear t o;cases c with|none=>exact iG A|some d=>exact Bc x d<|qd a
  haveI zn:∀l,(a.map (·.1)).zip ([]:List g7)++l=l:=λl=>congrArg (· ++l) L';cases aa with|cons v B=>exact i (sl:=(x,v)::((a.map _).zip B++kw)) (congrArg (Option.or · _)<|Bc x v _) (λm hm=>u8 hm v _)<|j b.2 h|nil=>
   cases kw with|nil=>haveI h:=lT.mp (show(c.isSome&&jl (kO a) 0 _)=H from h);exact i (sl:=[]) (w h.1) (λm s=>congrArg _ (zn _).symm)<|j b.2 h.2|cons p kw=>
    obtain⟨k,u⟩:=p;haveI h:(if k=x then jl (kO a) 0 _ else c.isSome&&jl (kO a) 0 (k::kw.map _))=true:=h;show _=(x::a.map _).zip (if k=x then u::fill a _ kw else c.getD _::fill a _ _);by_cases q:k=x;.rw[if_pos q]at h;rw[if_pos q];exact i (congrArg (Option.or · _)<|Be q.symm u kw) (λm hm=>(u8 (q▸hm) u kw).trans<|congrArg _ (zn kw).symm)<|j b.2 h
    .rw[if_neg q]at h;haveI h:=lT.mp h;rw[if_neg q];refine i (sl:=(k,u)::kw) ?_ (λm s=>congrArg _ (zn _).symm)<|j b.2 h.2;rw[Bb λz=>b.1 ?_];.exact w h.1
     .exact F_ a▸OO h.2 x z
end
section
open PySem PySem.W PySem.Calls PyProof.Rows
noncomputable def F'(s:hr)(a:lQ)(D:List g7):Prop:=∀(M:oz) (A:iH) (E:g7->hr->Prop) (Q:Option (Array g7)->hr->Prop),(∀o,(o.getD #[]).toList=D->Q o s)->g8 M A (seqItems? a.defaults) Q E s
noncomputable def lp(a:lQ)(D:List g7):List (g9×Option g7):=((iF a).take ((iF a).length - D.length)).map (·,V)++(((iF a).drop ((iF a).length - D.length)).zip D).map λp=>(p.1,U p.2)
theorem OT{a:List _}{f:(g9×g7)->(List (g9×g7)×List (g9×g7))->Sem (ForInStep (List (g9×g7)×List (g9×g7)))}(i:∀x sl,x.1∈a->sl.lookup x.1=V->f x (sl,[])=pure (.yield (sl++[x],[]))):∀(kw sl:List (g9×g7)),(∀x∈kw,x.1∈a)->(kw.map (·.1)).Nodup->(∀x∈kw,sl.lookup x.1=V)->forIn kw (sl,[]) f=pure (sl++kw,[]):=by
 intro kw;induction kw with|nil=>intro sl _ _ _;simp|cons x kw j=>
  intro sl h1 e d;have b:=qG.mp e;rw[zz,i x sl (h1 x<|.head _)<|d x<|.head _];show forIn kw _ f=_;rw[j _ (λy c=>h1 y<|.tail _ c) b.2 λy c=>?_];.rw[h2];rfl
  .rw[Ba,d y<|.tail _ c];refine Bb λq=>b.1<|kf λh=>?_;rcases h7.mp q with q|q
   .exact h<|q▸wA c
   .cases q
theorem OU{f:(g9×g7)->List (g9×g7)->Sem (ForInStep _)}(b:∀x sl,f x sl=pure (.yield<|putD sl x)):∀(a sl:List (g9×g7)),forIn a sl f=pure (a.foldl putD sl):=by intro a;induction a with|nil=>intro sl;simp|cons x a c=>intro sl;rw[zz,b];exact c _
theorem zn{N:List g9}(l):N.zip ([]:List g7)++l=l:=congrArg (· ++l) L'
theorem OV{a:List (g9×Option _)}:∀{aa:List g7} {kw:List (g9×g7)},(a.map (·.1)).Nodup->jl (kO a) aa.length (kw.map (·.1))=H->∀x,(x,V)∈a->((((a.map (·.1)).zip aa++kw).lookup x).isNone)=false:=by
 induction a with|nil=>exactλm m m h=>(lR h).elim|cons p a f=>
  obtain⟨y,d⟩:=p;intro aa kw n h x hx;have c:=qG.mp n;have i:x≠y->(x,V)∈a:=λe=>(h7.mp hx).resolve_left λz=>e<|congrArg zw z;have j:d.isSome=H->(x,V)∈a:=λe=>(h7.mp hx).resolve_left λz=>iG<|(congrArg (λp=>p.2.isSome) z).trans e;have b:=λ{kw} h hx=>(congrArg (λl=>(o8 x l).isNone) (zn kw).symm).trans<|f c.2 h x hx;cases aa with
  |cons v o=>
   show(o8 x ((y,v)::((a.map _).zip o++kw))).isNone=g;by_cases e:x=y;.rw[Be e];rfl
   .rw[u8 e];exact f c.2 h x<|i e
  |nil=>
   show(o8 x kw).isNone=g;cases kw with|nil=>haveI h:=lT.mp (show(d.isSome&&jl (kO a) 0 _)=H from h);exact b h.2<|j h.1|cons p kw=>
    obtain⟨k,u⟩:=p;haveI h:(if k=y then jl (kO a) 0 _ else d.isSome&&jl (kO a) 0 (k::kw.map _))=true:=h;by_cases q:k=y
    .rw[if_pos q]at h;by_cases e:x=k;.rw[Be e];rfl
     .rw[u8 e];exact b h<|i (q▸e)
    .rw[if_neg q]at h;haveI h:=lT.mp h;exact b h.2<|j h.1
theorem Bf(a){D:List _}(b:D.length<=(iF a).length):(lp a D).map (·.1)=iF a:=by rw[k4,s1,s1];haveI c:((λp:g9×Option g7=>p.1)∘λx:g9=>(x,V))=id:=rfl;haveI d:((λp:g9×Option g7=>p.1)∘λp:g9×g7=>(p.1,U p.2))=(·.1):=rfl;rw[List.map_id,Ma (by rw[oC];exact im<|Nat.sub_sub_self b),Mb]
theorem OW(c)(D):qd (lp c D)=((iF c).drop ((iF c).length - D.length)).zip D:=by
 unfold qd lp;rw[List.filterMap_append];haveI a:∀l:List g9,(l.map λx=>(x,(V:Option g7))).filterMap (λp=>p.2.map (p.1,·))=[]:=λl=>by induction l with|nil=>rfl|cons x r d=>simp
 haveI b:∀l:List _,(l.map λp=>(p.1,U p.2)).filterMap (λp:g9×Option g7=>p.2.map (p.1,·))=l:=λl=>by induction l with|nil=>rfl|cons x r d=>rw[sZ,d];rfl
 rw[a,b,ur]
theorem OX{α a:Type}{Q:List a->Prop}{f}{l:List α}(h:Q<|l.filterMap f):Q<|(l++[]).filterMap f:=(iL l).symm▸h
theorem wn{M}{A}{α}{c}[Decidable c]{a b}{Q:α->hr->Prop}{E}{s}(d:¬c)(h:g8 M A b Q E s):g8 M A (if c then a else b) Q E s:=(if_neg d).symm▸h
theorem OY{p:Arguments}(h1:p.posonlyargs=[])(a:p.kwonlyargs=[])(b:p.vararg=V)(c:p.kwarg=V):p=⟨[],p.args,V,[],p.kw_defaults,V,p.defaults⟩:=by cases p;dsimp only at h1 a b c;rw[h1,a,b,c]
theorem qe{s}{a:lQ}{aa:List g7}{kw:List (g9×g7)}{D:List _}(h1:a.params.posonlyargs=[])(L:a.params.kwonlyargs=[])(T:a.params.vararg=V)(Y:a.params.kwarg=V)(G:D.length<=(iF a).length) (r:F' s a D) (w:(iF a).Nodup) (d:jl (kO<|lp a D) aa.length (kw.map (·.1))=H):sV s a ⟨aa,kw⟩<|(iF a).zip<|fill (lp a D) aa kw:=by
 haveI z:=OY h1 L T Y;intro M A E Q av;haveI c:=Bf a G;haveI k:=c.symm▸w;haveI f:=(F_ _).trans c;haveI sub:=f▸A' d;haveI h:=List.filter_eq_nil_iff.mpr λn y q=>iG<|q.symm.trans (c▸OV k d n (s0 _<|wA y));haveI C:=OS k d;rw[c,OW]at C;haveI j:=((F9 λn aF=>congrArg _<|OQ n _ _).trans C)▸av;rw[<-(by rw[Nat.sub_eq_zero_of_le G];rfl:D.drop (D.length - (iF a).length)=D)]at h j;haveI J:∀x∈kw,((iF a).zip _).lookup _=none:=λx hx=>Bb λq=>by
  haveI aD:x.1∈(iF a).take _:=by refine hc (zA.mp q) λp z e=>hE (L8 z) λi t=>?_;rw[D1]at t;exact l8<|(D3 (i2.mp t.2).1).trans<|t.1.trans (congrArg _ e)
  haveI m:=w;rw[<-Mb aa.length<|iF a]at m;exact(rQ.mp m).2.2 _ aD _ (sub.mem<|wA hx) O
 refine Zx3 (congrArg (λp=>bindArgs {a with params:=p} _) z)<|hw<|ut (OT (λx sl B aE=>?_) kw _ (λx hx=>D4<|sub.mem<|wA hx) ((sub.trans<|L_ _ _).nodup w) J)<|hw (r M A E _ λo au=>?_);.show(if((a.params.args.map _).contains x.1||[].contains x.1)=H then _ else _)=_;haveI B:x.1∈a.params.args.map _:=B;rw[if_pos (by simp[B]),if_neg (by rw[aE];simp)]
 exists I;clear zz3 au I;refine I<|wn (λe=>(j9.mpr (f1 (OP d)<|im<|(ig ..).symm.trans (congrArg _ f))<|of_decide_eq_true (lT.mp e).1))<|wn (λe=>(iG<|e.symm.trans<|congrArg (λl=>!List.isEmpty l) h))<|hw (ut (OU (λx sl=>?_) _ _) (ip (OX (Q:=λb=>Q b _) j)))
 .unfold putD;show(if(sl.lookup _).isNone=H then _ else _)=_;by_cases q:(sl.lookup x.1).isNone=H;.rw[if_pos q,if_pos q]
  .rw[if_neg q,if_neg q]
end
section
open PySem PySem.W PySem.Calls PyProof.Rows
noncomputable def Bg(v:g7)(f:mS->Option (List g7)):Option (List g7):=match v with| .none=>U []| .ref T=>f T|_=>V
theorem OZ(h:Bg v f=U D){P:Prop}(k:v=.none->[]=D->P)(l:∀T,v=.ref T->f T=U D->P):P:=by cases v<;>first|exact hH h|exact k O<|io h|exact l _ O h
noncomputable def Bh(o:i'):Option (List g7):=match o.data with| .seq a _=>U a.toList|_=>V
theorem O0(h:Bh o=U D):∃a n,o.data=.seq a n/\a.toList=D:=by obtain⟨c,d,x,sl⟩:=o;cases x<;>first|exact hH h|exact lU _ _ O<|io h
noncomputable def Bi(G:Gl)(a:lQ):Option (List g7):=Bg a.defaults λT=>(G.K.lookup T).bind Bh
theorem qf(f:G.K.In s.heap)(h:Bi G b=U D):F' s b D:=by
 refineλM A E Q a=>OZ h (λe d=>?_) λT e h=>hc (ul.mp h) λo i h=>jC (O0 h) λj n c d=>?_;.rw[e];exact hw<|ip<|ip (a _ d)
 .rw[e];exact wpAny_seqItems (f _ _ i) c<|a _ d
noncomputable def PL(Φ:Fm)(ρ:Loc)(μ:Mu)(P:List AV->St->Prop)(a:List g7)(s:hr):Prop:=∃af l ac,P l ac/\ib μ af/\ia Φ.a af a l/\Dy Φ af ρ ac s
theorem ia.aD(h:ia G μ a x)(k:ia G μ b y):ia G μ (a++b) (x++y):=ia.ad (C:=λa x=>ia G μ (a++b) (x++y)) k (λr c=>.cons r) h
end
section
open PySem PySem.W PySem.Calls PyProof.Rows
noncomputable def jE(e:ho):Bool:=e.ctorIdx !=22
noncomputable def sd(e:ho):Bool:=e.ctorIdx !=26
noncomputable def Ga(e:ho):Bool:=e.ctorIdx !=20
noncomputable def mH(e:ho):Bool:=!(kK 8 e.ctorIdx&&kK e.ctorIdx 10)
noncomputable def xH(e:ho):Bool:=e.ctorIdx !=25
noncomputable def me(e:ho):Bool:=e.ctorIdx !=7
noncomputable def Gb(e:ho):Bool:=e.ctorIdx !=0&&((match e with| .UnaryOp op _ _=>op.ctorIdx !=1|_=>H)&&(e.ctorIdx !=5&&e.ctorIdx !=15))
noncomputable def O1(e:ho)(ae:j8):Prop:=jE e=H->∀al,mA (e::al) ae=(g,eval e ae)::mA al ae
noncomputable def O2(e:ho):Prop:=sd e=H->∀o i,subscripted e g o i=operate [o,i] (getItem o i)
noncomputable def O3(e:ho)(ae:j8):Prop:=Ga e=H->∀args ah aa,eval (.Call e args ah aa) ae=(do wB aa (<-eval e ae) [] (nb aa (mA args ae)) (nc aa (nH ah ae)))
noncomputable def O4(e:ho)(ae:j8):Prop:=mH e=H->∀a b,swapsWith e a b ae=pure g
noncomputable def O5(e:ho)(ae:j8):Prop:=xH e=H->∀a k p,s2 [.Tuple a k p] e ae=pure V
noncomputable def O6(e:ho)(ae:j8):Prop:=me e=H->∀y,D5 e ae y=pure y
noncomputable def O7(e:ho):Prop:=me e=H->∀op,behindInMarks op e=g
noncomputable def O8(e:ho)(ae:j8):Prop:=Gb e=H->∀a,isTrue e ae a=(do let v <-a;standAt e.pos;holding [v] (truthy v))
set_option tactic.hygienic true in
theorem qX(e)(ae):O1 e ae/\O2 e/\O3 e ae/\O4 e ae/\O5 e ae/\O6 e ae/\O7 e/\O8 e ae:=by cases e<;>exact⟨by first|exactλa a=>rfl|exact ff,by first|exactλa a a=>rfl|exact ff,by first|exactλa a a a=>rfl|exact ff,by first|exactλa a a=>rfl|exact ff,by first|exactλa a a a=>rfl|exact ff,by first|exactλa a=>rfl|exact ff,by first|exactλa a=>rfl|exact ff,by first|exactλa a=>rfl|exact ff|(rename_i op _ _;cases op<;>first|exactλa a=>rfl|exact ff)⟩
theorem om(h:jE e=H):mA (e::al) ae=(g,eval e ae)::mA al ae:=(qX e _).1 h _
theorem qY{ae}{aa}:∀{a:List ho},a.all jE=H->(nb aa<|mA a ae).any (·.1)=false:=by intro a;induction a with|nil=>exactλ_=>rfl|cons e r b=>intro h;rw[iX]at h;rw[om h.1];show(g||(nb _ _).any _)=g;rw[b h.2];rfl
noncomputable def ps(ah:List pS):Bool:=ah.all λk=>k.arg.isSome
noncomputable def nv(ah:List pS):List g9:=ah.filterMap (·.arg)
theorem u9{ae}{aa}:∀{ah:List pS},ps ah=H->(nc aa<|nH ah ae).all (·.1.isSome)=H/\(nc aa<|nH ah ae).any (·.1.isNone)=g/\(nc aa<|nH ah ae).filterMap (·.1)=nv ah
 |[],_=>⟨rfl,rfl,rfl⟩|⟨n,v,p⟩::r,h=>by
  unfold ps at h;rw[iX]at h;refine i5 (u9 (ae:=ae) (aa:=aa) h.2) λh1 a b=>?_;induction n with
  |none=>cases h.1
  |some n=>exact jZ h1 a<|congrArg _ b
section
variable{M:oz}{A:iH}{E:g7->hr->Prop}{s:hr}
theorem qg{ae}{aa}{f}{d:List ho}{ah:List pS}{Q:Args->hr->Prop}(h1:d.all jE=H)(j:ps ah=H)(h:g8 M A (spliced<|nb aa<|mA d ae) (λk b=>g8 M A (evalAll<|(nc aa<|nH ah ae).map (·.2)) (λks c=>Q ⟨k,(nv ah).zip ks⟩ c) E b) E s):g8 M A (evalArgs f H (nb aa<|mA d ae)<|nc aa<|nH ah ae) Q E s:=by refine i5 (u9 (ae:=ae) (aa:=aa) j) λk1 l k3=>?_;induction d with|nil=>refine evalArgs_kw_nil k1 ?_;rw[k3];haveI:=h;exactλi p a=>this i p a i p a|cons e r=>rw[iX]at h1;rw[om h1.1]at h ⊢;refine evalArgs_kw k1 ?_;rw[k3];exact h
end
end
section
open PySem PySem.W PySem.Calls PyProof.Rows
theorem Fm.z.f7{Φ:Fm}(d:Φ.z){b}(a:b∈j2 Φ.bi):b<Φ.bD.objs.size:=hc (sc d.dh a) λo h1 c=>it h1
theorem u_(aM:Φ.z){st}(P:Px Φ.a Φ.bD Φ.b7 Φ.bi fl X e μ st x s)(lx:¬ii μ Φ.a_)(lf:∀p∈μ.t,p.1≠Φ.a_)(lr:LR Φ μ ρ s.heap)(f:Fl (j2 (Φ.r::Φ.bi)) (λb=>b=e\/Φ.bD.objs.size<=b/\¬ii μ b/\∀p∈μ.t,p.1≠b) s.heap h') (tr:sa (λb=>Φ.bD.objs.size<=b/\¬ii μ b/\∀p∈μ.t,p.1≠b) aA h' e):Px Φ.a Φ.bD Φ.b7 Φ.bi aA X e μ st x {s with heap:=h'}/\LR Φ μ ρ h':=by
 haveI t:=aM.dh;haveI M:=aM.bk;haveI low:∀b,b∈j2 _->Φ.a.b2<=b/\¬ii μ b/\∀p∈μ.t,p.1≠b:=λb c=>by
  refine mD (sc t c) λo h1 A C av aD=>⟨C,λm=>?_,λp E q=>?_⟩
  .rcases P.a7 b m with z|z
   .exact av z
   .exact absurd (aM.f7 c)<|j9.mpr z
  .rcases P.bb p E with z|z
   .exact aD p z q
   .exact absurd (aM.f7 c)<|j9.mpr (q▸z)
 refine jK P.cy λd es n ks w aE aF aH=>?_;haveI L:ii μ e:=.inr<|.inr ⟨_,_,w⟩;have l:∀{b},b∈j2 (Φ.r::Φ.bi)->b=Φ.a_\/b∈j2 _:=λc=>by unfold j2 at c;rw[sZ,aM.cT]at c;exact h7.mp c
 refine⟨⟨P.dY,P.ext,?_,P.cy,P.new,tr,?_,P.a7,P.bb⟩,lr.dc λo aG no=>?_⟩
 .refine P.Y.R f (λb c=>?_) λb c=>?_
  .rcases l c with h|c;clear zz3 h
   .exact jZ (f1 M aM.b3) lx lf
   .exact low b c
  .exists k;rcases c with i|⟨h1,A,C⟩;clear zz3 i k
   .exact k<|jZ ((P.Y.bw _ L).1) (.inr ⟨_,_,w⟩) λp E q=>(P.Y.t p E).2.2 (q▸L)
   .exact k<|jZ (f1 M h1) (.inl A) C
 .intro a o D nm;haveI y:=it D;refine kf λk=>mD (P.bx a o D nm) λaI B c1 d1 r g1=>mD (f.2 a aI B) λaJ e2 c2 d2 au J=>?_;have Q:¬(a=e\/Φ.bD.objs.size<=a/\¬ii μ a/\∀p∈μ.t,p.1≠a):=λq=>by
   rcases q with j|⟨q,_⟩;clear zz3 j y
   .exact jP _<|hy y P.new
   .exact jP _<|hy y q
  have T:a∉j2 _->a∉j2 _:=λaK aL=>by
   exists k;rcases l aL with z|z
   .exact(iI<|hy y aM.b3) z
   .exact aK z
  refine k<|tn aJ e2 (c2.trans c1) (d2.trans d1) ?_ λq=>(J (T q) Q).trans<|g1 q;exists k;by_cases q:a∈j2 Φ.bi
  .refine jB (sc t q) λY h1 A I=>?_;rw[D]at h1;cases h1;rcases au with⟨G,_,z,_⟩|z
   .exact absurd (r▸z)<|A G
   .exact k<|z.trans r
  .refine k ?_;rw[J (T q) Q];exact r
 .refine kf λk=>mD (f.2 _ o aG) λY B I I r I=>?_;rcases r with⟨G,_,z,_⟩|z
  .exact absurd z<|no G
  .exact k<|h_ Y B z
theorem Gc{Φ:Fm}(C:Φ.z){st}{s}(P:Px Φ.a Φ.bD Φ.b7 Φ.bi z X e μ st x s){c}(hL:s.heap.get? Φ.a_=U c)(w:∀d,c.data≠ .fields d):pr s.heap (Φ.r::Φ.bi)/\∀b,s.heap.objs.size<=b->Φ.bD.objs.size<=b/\¬ii μ b/\∀p∈μ.t,p.1≠b:=by
 refine⟨λae he=>?_,λb a=>⟨f1 (f1 C.b3<|iN<|it hL) a,λm=>(jP _<|hy (P.Y.bw b m).2 a),λp t q=>(jP _<|hy (it (P.Y.t p t).1) (q▸a))⟩⟩
 .exists f;rcases h7.mp he with rfl|he
  .exact f ⟨by rw[C.kind];decide,_,c,C.cT,hL,w⟩
  .obtain⟨k,L,o,h1,l,n,A,r,B⟩:=C.dh _ he;exact mD (P.bx L o l r) λy i h h j h=>f ⟨k,L,y,h1,i,λd q=>n d (j▸q)⟩
theorem O9(I:Φ.z)(hA:A.frames=U (Φ.r::Φ.bi))(hx:PX Φ ρ X v s):o_ Φ.q A Φ.r (λe s'=>zB Φ.q y Φ.r (PX Φ ρ X) e s') v s:=by refine kf λc=>jK hx λe μ st x a P t j=>i5 j λi d l=>?_;clear hx;subst a;refine hc l.at λC hL w=>hv (Gc I P hL w) λq r=>c<|A7 hA q I.cT P.e' r λh1 o b=>kf λc=>hv (u_ I P i d l o<|.inr<|.inr b) λm f=>jj b λD G j=>lV j λT oT E k1 k2 k3 B=>c<|hw<|sX k1 k2 k3<|xE (Sl:=j2 (Φ.r::Φ.bi)) b λz p k=>?_;rw[I.cT]at k;exact hv (u_ I m i d f p<|.inr<|.inr k) λn h=>⟨e,μ,st,x,rfl,n,t,i,d,h⟩
end
section
open PySem PySem.W PySem.Calls PyProof.Rows
section
variable{Φ:Fm}{μ:Mu}{ρ:Loc}{st:St}{s:hr}{A:iH}
noncomputable def PB(Φ:Fm)(ρ:Loc)(μ:Mu)(P:Bool->St->Prop)(b:Bool)(s:hr):Prop:=∃af ac,P b ac/\ib μ af/\Dy Φ af ρ ac s
theorem PB.up(E:ib μ af)(x:PB Φ ρ af P b s):PB Φ ρ μ P b s:=i0 x λa ac h1 c d=>l' _ _ h1 (E.trans c) d
theorem PB.mk(h:P b st)(D:Dy Φ μ ρ st s):PB Φ ρ μ P b s:=⟨μ,st,h,ib.refl μ,D⟩
theorem Gd{a:Nat}(b:h.get? a=U o):ob M h (typeOf<|.ref a) o.cls:=(D6 b).andThen .now
theorem Bj{K}(X:K.In s.heap){a:Nat}(b:s.heap.get? a=U o)(hs:iO K o.cls "__bool__"=U V)(hl:iO K o.cls "__len__"=U V)(h:Q H s):g8 M A (truthy<|.ref a) Q E s:=by refine hw<|hw<|hw ((Gd b).here ((rF X hs).here (ip ?_)));refine hw<|hw<|(Gd b).here ((rF X hl).here ?_);exact ip h
theorem O_(K):iO K (.type "method") "__bool__"=U V/\iO K (.type "method") "__len__"=U none:=by constructor<;>(show fastLookup _ _=_;decide+kernel)
end
end
section
open PySem PySem.W PySem.Calls PyProof.Rows
section
variable{Φ:Fm}{μ:Mu}{ρ:Loc}{st:St}{s:hr}{Q:AV->St->Prop}{E:g7->hr->Prop}{A:iH}
theorem xI(D:Dy Φ μ ρ st s){x a:Nat}(h1:(x,lh Φ.a.T.a1 a)∈μ.t)(c:s.heap.get? a=U (ji b n)):InstAt s.heap x (lh Φ.a.T.a1 a) Φ.a.T.a1<|U<|ji b n:=⟨(D.Y.t _ h1).1,rfl,rfl,c⟩
theorem Bk(D:Dy Φ μ ρ st s){x b}(c:μ.L=U (x,b)):∃ks d a n,st.L=U (ks,d)/\(x,lh Φ.a.T.a1 b)∈μ.t/\s.heap.get? b=U (ji a n)/\iV Φ.a μ a ks d:=by induction q:st.L with|none=>rw[D.Y.cG q]at c;exact hH c|some p=>exact jK (D.Y.c7 _ _ q) λk f a n h1 h i j=>haveI e:=io<|h1.symm.trans c;⟨_,_,a,n,rfl,Eq.subst (motive:=λp:Nat×Nat=>(p.1,lh _ p.2)∈μ.t) e h,Eq.subst (motive:=λp:Nat×Nat=>s.heap.get? p.2=U _) e i,j⟩
theorem RelV.f8{μ}(r:RelV G μ v<|.mut .L):∃x a,v=.ref x/\μ.L=U (x,a):=r.aO.imp λx h=>h.2.elim (λz=>z.2.imp λa b=>⟨h.1,b⟩) λz=>absurd O z.1
theorem Ge(l:Φ.a.z)(D:Dy Φ μ ρ st s){x C k:Nat}(I:InstAt s.heap x ox C<|U<|ji f n)(a:iV Φ.a μ f ks c)(i:qa Φ.a.K C=H)(j:∀b,kF k ks c=U b->r_ Φ.a.K C (Φ.a.aH k)=H)(h:xk (kF k ks c) (Φ.a.T.be C k) λv=>Q v st):g8 Φ.q A (qD (.ref x) (Φ.a.aH k) ay) (PE Φ ρ μ Q) E s:=kL (tF i) λc1 d c3 d d=>Nt h (λv e=>OF l D I a e c1 c3 (lT.mp<|j v e).1) λv e=>OH l D I a e c1 c3
theorem Bl{o:Option AV}{P:AV->Prop}(h:match o with|some v=>P v|hR=>False):i9 o P:=by induction o<;>exact h
theorem Gf{o c:Option AV}{P:AV->Prop}(h:match o with
 |some v=>P v|hR=>match c with|some v=>P v|hR=>False):xk o c P:=by
 induction o with|none=>exact Bl h|some v=>exact h
theorem O'(h:p8 T (.mut m) k st Q):qR st (.mut m) λks a=>xk (kF k ks a) (T.be T.a1 k) λv=>Q v st:=by
 induction m<;>first|exact h.elim|skip
 unfold p8 at h;unfold qR;dsimp only at h ⊢;induction e:st.L with|none=>rw[e]at h;exact h|some p=>rw[e]at h;exact Gf h
theorem Pa(h:p8 T (.val v) k st Q):E2 v λD=>i9 (T.be D k) λv=>Q v st:=by induction v<;>first|exact Bl h|exact h.elim
theorem Gg(aH:Φ.a.z)(D:Dy Φ μ ρ st s)(Y:k<Φ.a.bP.length)(r:RelV Φ.a μ v a)(h:p8 Φ.a.T a k st Q):g8 Φ.q A (qD v (Φ.a.aH k) ay) (PE Φ ρ μ Q) E s:=by
 exists c;cases a with
 |«mut» m=>refine xj (O' h) λks w M q h0=>jC (M▸r).f8 λx dx e au=>jK (Bk D au) λav aE t n aD j l i=>?_;subst e;cases q.symm.trans aD;exact c<|Ge aH D (xI D j l) i (aH.cls _<|.inl O) (λB B=>aH.eV _ [] k<|.inl ⟨rfl,Y⟩) h0
 |obj C ks w=>refine jK r.aO λx d t n e h1 j p=>hv p λl i=>?_;subst e;exact c<|Ge aH D ⟨(D.Y.t _ h1).1,rfl,rfl,(D.Y.t _ j).1⟩ l (aH.cls C<|.inr (by rw[i];rfl)) (λb z=>aH.eV C ks k<|.inr ⟨i,F0 z⟩)<|Gf h|cO C ks w=>refine jK r.aO λx d t n e h1 j p=>hv p λl i=>mV (D.Y.cX _ _ _ h1) λo aG G I J L=>jU (Bl h) λb z h=>?_;subst e;exact c<|OG aH D ⟨G,I,by obtain⟨_,_,_,_⟩:=o;cases L;rfl,by rw[J];exact(D.Y.t _ j).1⟩ l z i h|val u=>refine c<|Nu (Pa h) λaF T h=>jU h λb y h0=>kf λc=>hv r.aO λf B=>?_;clear zz3 f c;clear zz3 T c;exact c<|OI aH D y h0|_=>exact h.elim
end
end
section
open PySem PySem.W PySem.Calls PyProof.Rows
theorem Gh(p)(i:L)(v):∀l,(qP p i v l).length<=l.length+1:=by intro l;induction l with|nil=>exact g' _|cons a r b=>obtain⟨j,u⟩:=a;dsimp only[An];induction p j with|true=>simp|false=>simp;omega
theorem Pb(p:L->Bool):∀l,(tv p l).length<=l.length:=by intro l;induction l with|nil=>exact g' _|cons a r b=>obtain⟨j,u⟩:=a;dsimp only[ET];induction p j with|true=>simp|false=>simp;omega
theorem Gi{L}{P:L->Prop}(p:L->Bool)(i)(v)(c:P i):∀l,(∀x∈l,P x.1)->∀x∈qP p i v l,P x.1
 |[],_=>λx hx=>by rcases h7.mp hx with rfl|hx;exact c;cases hx
 |(j,u)::r,h=>λx hx=>by
  dsimp only[An]at hx;induction e:p j with
  |true=>
   rw[e]at hx;rcases h7.mp hx with b|hx;clear zz3 b
   .exact h (j,u)<|.head _
   .exact h x<|.tail _ hx
  |false=>
   rw[e]at hx;rcases h7.mp hx with a|hx;clear zz3 a
   .exact h _<|.head _
   .exact Gi p i v c r (λy d=>h y<|.tail _ d) x hx
section
variable{G:Gl}{μ:Mu}{K L:Type}{f:L->K}
theorem j'.len(h:j' G μ f b a):b.length=a.length:=by induction h with|nil=>rfl|cons _ _ c=>exact congrArg _ c
variable[DecidableEq K]
theorem tH(d:∀j,p j=decide (f j=k)){c}{a}(h:j' G μ f c a):((valueAt c k).isSome=rZ p a)/\(∀b,tu p a=U b->∃v,valueAt c k=U v/\RelV G μ v b):=by
 induction h with|nil=>exact⟨rfl,λm h=>hH h⟩|@cons j _ _ _ _ r _ i=>
  unfold valueAt;dsimp only[No,Nn];rw[d];by_cases q:f j=k;.rw[L5 (by exact decide_eq_true q),decide_eq_true q];exact⟨rfl,λl e=>⟨_,rfl,io e▸r⟩⟩
  .rw[L6 (by exactλz=>q<|of_decide_eq_true z),decide_eq_false q];exact i
theorem Gj{p}{i}(m:∀j,p j=decide (f j=f i)){u}{c}(k:RelV G μ u c){d:List (K×g7)}{e:List (L×AV)}(h:j' G μ f d e):(d.map (·.1)).Nodup->j' G μ f (stored d (f i) u) (qP p i c e):=by
 induction h with|nil=>exactλo=>.cons k .nil|@cons j _ _ _ _ r n a=>
  intro l;haveI b:=qG.mp l;dsimp only[An];rw[m];by_cases q:f j=f i;.rw[decide_eq_true q];unfold stored;rw[if_pos (by rw[DR,decide_eq_true q,Bool.true_or]),wC,if_pos q,map_store_of_not_mem _ _ u (q▸b.1)];exact .cons k n
  .haveI a:=a b.2;rw[decide_eq_false q];unfold stored at a ⊢;rw[DR,decide_eq_false q,Bool.false_or];split;.rename_i z;rw[if_pos z]at a;rw[wC,if_neg q];exact .cons r a
   .rename_i z;rw[if_neg z]at a;exact .cons r a
theorem Pc{p}{k}(i:∀j,p j=decide (f j=k)){b:List (K×g7)}{c:List (L×AV)}(h:j' G μ f b c):(b.map (·.1)).Nodup->j' G μ f (without b k) (tv p c):=by
 induction h with|nil=>exactλn=>.nil|@cons j _ _ _ _ r m l=>
  intro d;haveI a:=qG.mp d;unfold without;dsimp only[ET];rw[i];by_cases q:f j=k;.rw[decide_eq_true q,Mc,if_neg (by simp[q])];haveI e:=without_of_not_mem _ k (q▸a.1);unfold without at e;rw[e];exact m
  .rw[decide_eq_false q,Mc,if_pos (by simp[q])];exact .cons r<|l a.2
end
theorem xJ(j i):ha j i=decide (S j=S i):=by
 rw[u3];by_cases h:j=i;.subst h;simp
 .haveI:¬S j=S i:=λq=>h<|FP q;simp[h,this]
theorem u'(j i:Int):decide (j=i)=decide (id j=id i):=rfl
section
variable{Φ:Fm}{μ:Mu}{ρ:Loc}{st:St}{s:hr}{Q:AV->St->Prop}{E:g7->hr->Prop}{A:iH}
theorem Dy.fa(D:Dy Φ μ ρ st s)(h:μ.cell m=U a):Φ.a.b2<=a:=(D.Y.bw a<|.inr<|.inl ⟨m,h⟩).1
theorem vb(c:Φ.a.z)(h:Φ.a.b2<=a):(a==zC)=false:=by
 haveI b:=c.bk;haveI:a≠1:=by exact iP (hy b h)
 exact beq_eq_false_iff_ne.mpr this
theorem se(D:Dy Φ μ ρ st s)(hm:μ.cell m=U a)(d:st.cell m=U c):k_ Φ.a μ s.heap a c:=by refine kf λb=>hc (D.Y.cp m c d) λi e h=>?_;rw[hm]at e;cases e;exact b h
theorem xK{n:Nat}(h:n<=1000000):(n:Int)<2^63:=Me (wD.mpr h) (by decide)
theorem Bm{n:Nat}(h:n<=1000000):¬(n:Int)>=2^63:=Int.not_le.mpr<|xK h
theorem qZ(r:RelV Φ.a μ v<|.mut m)(h:m≠ .L):∃a,v=.ref a/\μ.cell m=U a:=r.aO.imp λb k=>⟨k.1,k.2.elim (λq=>absurd q.1 h) And.right⟩
theorem tr{P:Bool->St->Prop}(e:U x=U b)(h:P b st)(q:y=x):P y st:=q▸io e▸h
theorem Bo{α a:Type}{l:List α}{r:List a}(h:l.length=r.length):(!l.isEmpty)=!r.isEmpty:=by cases l<;>induction r<;>first|rfl|cases h
theorem Gk{K L}[DecidableEq K]{az:KeyKind Φ.a.prog Φ.a.w K}{f}(i:Φ.a.z)(D:Dy Φ μ ρ st s){a}{m}{c}{l:List (L×AV)}{P}{b}(d:μ.cell m=U a)(c1:s.heap.DictOf az a c)(c2:j' Φ.a μ f c l)(c3:l.length<=1000000)(e:U (!l.isEmpty)=U b)(h:P b st):g8 Φ.q A (truthy<|.ref a) (PB Φ ρ μ P) E s:=wpAny_truthy_dict (vb i<|D.fa d) c1 (c2.len▸xK c3)<|.mk (tr e h<|Bo c2.len)<|(D.toks _).toks _
theorem sf(aE:Φ.a.z)(D:Dy Φ μ ρ st s)(r:RelV Φ.a μ v a)(h:kr a st P):g8 Φ.q A (truthy v) (PB Φ ρ μ P) E s:=by
 unfold kr at h;induction e:nS st a with|none=>rw[e]at h;exact h.elim|some b=>
  rw[e]at h;cases a with
  |none=>rw[show v=_ from r.aO];exact truthy_none<|.mk (tr e h O) D|bool b=>rw[show v=_ from r.aO];exact D7<|.mk (tr e h O) D|int i=>refine hE r.aO λt j=>?_;rw[j];exact PySem.P.truthy_int<|.mk (tr e h (by by_cases q:i=0<;>simp[q])) D|str l=>refine hc r.aO λt j hl=>?_;rw[j];exact PySem.P.truthy_str (Bm hl)<|.mk (tr e h (by induction l<;>simp[Ot]<;>lia))<|(D.toks _).toks _|av l=>refine lV r.aO λa I n j hx B hl=>?_;rw[j];exact ktl_truthy (hx.elim (λh=>(D.Y.t _ h).1) λh=>D.Y.aV _ _ h) (by rw[Mf,B.len];exact Bm hl)<|.mk (tr e h (by rw[List.isEmpty_toArray];exact Bo B.len))<|(D.toks _).toks _|obj C ks I=>refine jK r.aO λa d k n j h1 o au=>hv au λT y=>?_;rw[j];exact hv (F3<|aE.cls _<|.inr (by rw[y];rfl)) λc1 c2=>Bj D.Y.aV (D.Y.t _ h1).1 c1 c2<|.mk (tr e h O) D|cO=>exact hH e|au f=>refine oI r.aO λa x J j h1 o=>?_;rw[j];exact hv (O_ _) λc1 c2=>Bj D.Y.aV (D.Y.t _ h1).1 c1 c2<|.mk (tr e h O) D|«mut» m=>
   refine hc r.aO λa' j h'=>?_;rw[j];rcases h' with h'|h'
   .obtain⟨rfl,J,z⟩:=h';induction q:st.L with|none=>exact hH<|(D.Y.cG q).symm.trans z|some p=>exact jK (D.Y.c7 _ _ q) λav M k n h1 o T y=>hv (F3<|aE.cls _<|.inl O) λc1 c2=>Bj D.Y.aV (zD (io<|z.symm.trans h1) |>.1▸(D.Y.t _ o).1) c1 c2<|.mk (tr e h O) D
   .obtain⟨Y,w⟩:=h';have e:w_ (st.cell m)=U b:=by induction m<;>first|exact absurd O Y|exact e
    induction q:st.cell m with|none=>rw[q]at e;exact hH e|some c=>
     rw[q]at e;haveI C:=se D w q;clear q;induction c<;>first|exact hH e|skip
     .exact i0 C λI n c1 c2 c3=>wpAny_truthy_list ⟨_,c1,rfl,n,rfl⟩ (by rw[<-zE,c2.len];exact xK c3)<|.mk (tr e h ((Array.isEmpty_toList)▸Bo c2.len))<|(D.toks _).toks _
     .exact jB C λk c1 c2 c3=>Gk aE D w c1 c2 c3 e h
     .exact ph C λk c1 c2 c3 aD=>Gk aE D w c1 c2 c3 e h
  |val=>exact hH e
end
end
section
open PySem PySem.W PySem.Calls PyProof.Rows
section
variable{Φ:Fm}{μ:Mu}{ρ:Loc}{st:St}{s:hr}{Q:AV->St->Prop}{E:g7->hr->Prop}{A:iH}
theorem xL:(Mg p w).is i (.int i t)=true:=beq_self_eq_true i
theorem xM:(PySem.strKind p w).is i (.str i t)=true:=by first|exact beq_self_eq_true i|exact decide_eq_true _
theorem Gm(r:RelV Φ.a μ v a)(h:xf a=U b):(v==zv)=b:=by
 cases a with
 |none=>first|exact hH h|(rw[show v=_ from r.aO];exact io h)
 |bool=>first|exact hH h|(exact io h)
 |int=>first|exact hH h|(refine hE r.aO λt e=>?_;rw[e];exact io h)
 |str=>first|exact hH h|(refine hc r.aO λt e c=>?_;rw[e];exact io h)
 |val=>first|exact hH h|(exact io h)
 |av=>first|exact hH h|(refine lV r.aO λc c c e c c c=>?_;rw[e];exact io h)
 |obj=>first|exact hH h|(refine jK r.aO λc c c c e c c d=>hv d λc c=>?_;rw[e];exact io h)
 |cO=>first|exact hH h|(exact io h)
 |au=>first|exact hH h|(exact io h)
 |«mut»=>first|exact hH h|(refine hc r.aO λt e c=>?_;rw[e];exact io h)
theorem Bp{K}[DecidableEq K]{az:KeyKind Φ.a.prog Φ.a.w K}{k}{a}{d}{f}(j:az.is k a=H)(i:(d==zC)=g)(hm:s.heap.MapOf az d f){b c}(e:U (f k).isSome=U b)(o)(he:r1 (U b) o=U c)(D:Dy Φ μ ρ st s)(h:Q (.bool c) st):g8 Φ.q A (o7 (md o) a<|.ref d) (PE Φ ρ μ Q) E s:=by
 haveI e:=io e;induction o<;>first|exact hH he|skip
 .exact wpAny_in_of j i hm<|.mk ((e.trans<|io he)▸h) (.bool _)<|D.toks _
 .exact wpAny_notIn_of j i hm<|.mk (by rw[e,show(!b)=c from io he];exact h) (.bool _)<|D.toks _
theorem Gn(h:r1 r o=U c):∃b,r=U b/\r1 (U b) o=U c:=by induction r with|some b=>exact h_ b O h|none=>induction o<;>exact hH h
theorem Pd(w:Φ.a.z)(D:Dy Φ μ ρ st s)(n:RelV Φ.a μ v k)(r:RelV Φ.a μ u<|.mut m)(e:tw st m k=U b)(o)(he:r1 (U b) o=U c)(h:Q (.bool c) st):g8 Φ.q A (o7 (md o) v u) (PE Φ ρ μ Q) E s:=by
 haveI hm:m≠ .L:=by rintro rfl;cases k<;>first|exact hH e|(exact hH e)
 refine kf λd=>hc (qZ r hm) λa p f=>d ?_;rw[p];exists d;cases k<;>first|exact hH e|skip
 .refine hE (u2 n) λt i=>d ?_;rw[i];unfold tw at e;exists d;cases q:st.cell m with|none=>rw[q]at e;exact hH e|some x=>
   rw[q]at e;refine d ?_;induction x<;>first|exact hH e|skip
   exact jB (se D f q) λl c1 c2 c3=>Bp xL (vb w<|D.fa f) c1.mapOf ((congrArg _ (tH (λj=>u' j _) c2).1).trans e) o he D h
 .refine hE (r9 n) λt i=>d ?_;rw[i];unfold tw at e;induction q:st.cell m with|none=>rw[q]at e;exact hH e|some x=>
   rw[q]at e;induction x<;>first|exact hH e|skip
   exact jB (se D f q) λl c1 c2 c3=>Bp xM (vb w<|D.fa f) c1.mapOf ((congrArg _ (tH (λj=>xJ j _) c2).1).trans e) o he D h
theorem Pe(y:Φ.a.z)(D:Dy Φ μ ρ st s)(p:RelV Φ.a μ v k)(e:Ap Φ.a.T d k=U b)(o)(he:r1 (U b) o=U c)(h:Q (.bool c) st):g8 Φ.q A (o7 (md o) v<|.ref d) (PE Φ ρ μ Q) E s:=by
 exists m;cases k<;>first|exact hH e|skip
 refine hE (r9 p) λt l=>m ?_;rw[l];unfold Ap at e;induction q:Φ.a.T.es d with|none=>rw[q]at e;exact hH e|some i=>rw[q]at e;exact hv (y.fw d i q) λf x=>i0 x λn r a c2 w=>Bp xM (beq_eq_false_iff_ne.mpr f) (a _ D.Y.aV).dictOf.mapOf ((congrArg _ (tH (λj=>xJ j _)<|c2 μ).1).trans e) o he D h
theorem Pf(D:Dy Φ μ ρ st s)(r:RelV Φ.a μ v x)(e:Ar x o=U b)(h:Q (.bool b) st):g8 Φ.q A (o7 (md o) v .none) (PE Φ ρ μ Q) E s:=by
 induction o<;>first|exact hH e|skip
 .exact is_none<|.mk (Gm r e▸h) (.bool _) D
 .unfold Ar at e;induction q:xf x with|none=>rw[q]at e;exact hH e|some c=>rw[q]at e;exact isNot_none<|.mk (by rw[Gm r q,show(!c)=b by induction c<;>exact io e];exact h) (.bool _) D
theorem Ph(D:Dy Φ μ ρ st s)(j:RelV Φ.a μ v<|.str a)(k:RelV Φ.a μ u<|.av l)(e:EX a l o=U b)(h:Q (.bool b) st):g8 Φ.q A (o7 (md o) v u) (PE Φ ρ μ Q) E s:=by
 induction o<;>first|exact hH e|skip
 refine hE (r9 j) λt c=>?_;rw[c];refine lV k.aO λm p n d hx i r=>?_;rw[d];.exact hc (Ox i e) λq h1 f=>in_tuple_strs (xz D hx) (by simpa using h1)<|.mk (f▸h) (.bool _) D
set_option tactic.hygienic true in
theorem Pj(k:Φ.a.z)(D:Dy Φ μ ρ st s)(a:RelV Φ.a μ v x)(f:RelV Φ.a μ u y)(e:k7 Φ.a.T st o x y=U b)(h:Q (.bool b) st):g8 Φ.q A (o7 (md o) v u) (PE Φ ρ μ Q) E s:=by
 cases y<;>first|exact hH e|skip
 .rw[AY f];exact Pf D a e h
 .refine hE (u2 f) λt d=>?_;rw[d];cases x<;>first|exact hH e|skip
  .rw[AY a];induction o<;>first|exact hH e|exact EqNone.eq_none_int<|.mk (tq e h) (.bool _) D
  .exact hE (u2 a) λt d=>d▸Oy D e h
 .refine hE (r9 f) λt d=>?_;rw[d];cases x<;>first|exact hH e|skip
  .rw[AY a];induction o<;>first|exact hH e|exact EqNone.eq_none_str<|.mk (tq e h) (.bool _) D
  .exact hE (r9 a) λt d=>d▸Oz D e h
 .rename_i w;induction w<;>first|exact hH e|skip
  rw[show u=_ from f.aO.1];exact hc (Gn e) λc i j=>Pe k D a i o j h
 .cases x<;>first|exact hH e|exact Ph D a f e h
 .exact hc (Gn e) λc i j=>Pd k D a f i o j h
end
end
section
open PySem PySem.W PySem.Calls PyProof.Rows
theorem vc(h:sd a=H):subscripted a g o i=operate [o,i] (getItem o i):=(qX _ default).2.1 h o i
theorem Go{α:Type}(l:List α)(I J):(l.drop<|min I l.length).take (min J l.length - min I l.length)=(l.take J).drop I:=by
 rw[<-D8,List.take_eq_take_iff.mpr (show min _ _=min J _ by rw[Nat.min_assoc,Nat.min_self])];rcases Nat.le_total I _ with h|h
 .rw[zF h]
 .rw[Nat.min_eq_right h,zG (by rw[oD];exact wE _ _),zG (by rw[oD];exact f1 (wE _ _) h)]
noncomputable def mf(d:Nat):Option Int->Nat|V=>d|U j=>j.toNat
noncomputable def xN(d:Nat)(n:Nat):Option Int->Int|V=>d|U i=>max 0 (min (if i<0 then i+n else i) n)
theorem Gp(h:0<=o.getD 0)(a:d<=n):xN d n o=((min (mf d o) n:Nat)):=by induction o with|none=>exact congrArg _ (zF a).symm|some i=>refine hE (Int.eq_ofNat_of_zero_le h) λk e=>?_;subst e;show max 0 (min (if k<0 then(k:Int)+n else k) n)=((min k n:Nat));rw[Int.max_eq_right<|Int.le_min.mpr ⟨mB _,mB _⟩];exact(Lean.Omega.Int.ofNat_min k n).symm
theorem Gq{a b}{n}(h1:0<=a.getD 0)(c:0<=b.getD 0):zH (xN 0 n a) (xN n n b) 1=(List.range (min (mf n b) n - min (mf 0 a) n)).map ((min (mf 0 a) n)+·):=by rw[Gp h1<|jd n,Gp c<|g' n,sliceRange_one]
theorem Pk{a b n}(c:a<=n)(d:b<=n)(h:a - b=n):b=0:=Nat.le_zero.mp<|Nat.le_of_add_le_add_left<|f1 (im (h▸Nat.sub_add_eq_max a b)) (Nat.max_le.mpr ⟨c,d⟩)
theorem Pl(l)(lo a)(h1:0<=lo.getD 0)(b:0<=a.getD 0):Txt.slice (S l) lo a=S ((l.take<|mf l.length a).drop<|mf 0 lo):=by
 haveI p:=Go l (mf 0 lo)<|mf l.length a;show(if((1)==1&&(zH (xN 0 l.length lo) _ 1).length==l.length)=H then S l else S<|(zH _ _ 1).filterMap _)=_;rw[Gq h1 b,(pick_run l.toArray (min (mf 0 lo) l.length) (min (mf l.length a) l.length - min (mf 0 lo) l.length)),p,ig,List.length_range];split;.rename_i z;haveI z:=eq_of_beq (show(_==_)=H from z);rw[<-p,z,Pk (wE _ _) (wE _ _) z];exact congrArg S (List.take_length).symm
 .rfl
theorem Pm(b)(lo a)(h1:0<=lo.getD 0)(c:0<=a.getD 0):slicePick b lo a V=((b.toList.take<|mf b.size a).drop<|mf 0 lo).toArray:=by show((zH _ _ 1).filterMap _).toArray=_;rw[Gq h1 c,pick_run];exact congrArg _<|Go _ _ _
section
variable{Φ:Fm}{μ:Mu}{ρ:Loc}{st:St}{s:hr}{Q:AV->St->Prop}{E:g7->hr->Prop}{A:iH}
theorem Bq(n)(h:ia G μ a args):ia G μ (a.take n)<|args.take n:=ia.ad (C:=λd b=>∀n,ia G μ (d.take n)<|b.take n) (λn=>by rw[List.take_nil,List.take_nil];exact .nil) (λr e c n=>n.casesOn .nil λn=>.cons r<|c n) h n
theorem Br(n)(h:ia G μ a args):ia G μ (a.drop n)<|args.drop n:=ia.ad (C:=λe b=>∀n,ia G μ (e.drop n)<|b.drop n) (λn=>by rw[List.drop_nil,List.drop_nil];exact .nil) (λr d c n=>n.casesOn (.cons r d) c) h n
theorem sg(D:Dy Φ μ ρ st s)(q:st.cell m=U c):m≠ .L:=λz=>by subst z;cases q
theorem jQ(h:placeOf j n=U k):j=k\/(j= -1/\k+1=n):=by
 unfold placeOf at h;exists d;by_cases a:0<=j;.rw[if_pos a]at h;exact d<|.inl<|(zI a).symm.trans<|congrArg _ (io h)
 .rw[if_neg a]at h;by_cases b:j= -1
  .rw[if_pos b]at h;by_cases c:n=0;.rw[if_pos c]at h;exact hH h
   .rw[if_neg c]at h;exact d<|.inr ⟨b,io h▸Nat.succ_pred_eq_of_ne_zero c⟩
  .rw[if_neg b]at h;exact hH h
theorem Gr:((-1:Int)+(n+1:Nat)).toNat=n:=congrArg _<|(Int.add_comm _ _).trans<|Int.add_neg_cancel_right n 1
theorem Bs(h:placeOf j n=U k)(d:k<n)(c:n<=1000000): -(2^63)<=j/\j<2^63/\fitsSsize j=H/\seqIndex? j n=U k:=by
 have b: -n<=j/\j<n:=by
  rcases jQ h with rfl|⟨rfl,rfl⟩
  .exact⟨wF (Int.neg_nonpos_of_nonneg<|mB n)<|mB k,pd.mpr d⟩
  .exact⟨Int.neg_le_neg<|wD.mpr<|lC (jd k),wG (by decide)<|mB _⟩
 have g1:=wF (Int.neg_le_neg<|wD.mpr c) b.1;have a:j<9223372036854775808:=wG b.2<|wF (wD.mpr c) (by decide);refine⟨wF (by decide) g1,a,fitsSsize_of (wG (by decide) g1) a<|wH _,?_⟩;rcases jQ h with e|⟨e,f⟩
 .clear zz3 e b;exact seqIndex_of (mB k) b.2
 .clear zz3 e b;clear zz3 (Eq.symm f) b;rw[seqIndex_neg (by decide) b.1,Gr]
theorem Bt{α:Type}{l:List α}{c}(h:l[n]?=U c):n<l.length:=(i2.mp h).1
theorem Pn(D:Dy Φ μ ρ st s)(hs:sd a=H)(hl:l.length<=1000000)(h1:placeOf j l.length=U n)(e:l[n]?=U c)(h:Q (.str [c]) st):g8 Φ.q A (uu b a (.str (S l) t)<|.int j m) (PE Φ ρ μ Q) E s:=by
 refine p5 (Bs h1 (Bt e) hl) λk k f i=>?_;haveI d:Txt.charAt (S l) j=U c:=by unfold Txt.charAt;rw[i];exact(List.getElem?_toArray).trans e
 exact uv (rH _ _ _) Mh.lookup (SB.getItem f (by rw[d];rfl) (by rw[(by unfold Txt.item;rw[d];rfl:Txt.item _ j=S _)];exact .mk h (.str _ _<|kC O)<|D.toks _))<|vc hs
theorem Po(D:Dy Φ μ ρ st s)(hs:sd e=H){a:Nat}{l}{n}(L:s.heap.IsList a t)(r:ia Φ.a μ t.toList l)(hl:l.length<=1000000)(h1:placeOf j l.length=U n)(p:l[n]?=U b)(h:Q b st):g8 Φ.q A (uu k e (.ref a)<|.int j z) (PE Φ ρ μ Q) E s:=by
 refine uv L.typeIs slot_list_getitem.lookup (hc (qc r p) λw i q=>?_)<|vc hs;haveI f:=r.len;rw[zE]at f;rw[pY]at i;refine p5 (Bs h1 (Bt p) hl) λm o x x=>?_;rcases jQ h1 with c|⟨d,y⟩;clear zz3 c o;rotate_left 1;clear zz3 d m;rotate_right 1
 .exact wpAny_getItem_list L (mB n) o i<|.mk h q D
 .exact wpAny_getItem_list_neg L (by decide) (Int.neg_le_neg (wD.mpr (f1 (Nat.le_add_left 1 n) (im (y.trans f.symm))))) m (by rw[f,<-y,Gr];exact i)<|.mk h q D
theorem Pp(aG:Φ.a.z)(D:Dy Φ μ ρ st s)(hs:sd o=H){x y}(M:RelV Φ.a μ v x)(L:RelV Φ.a μ u y)(h:r5 Φ.a.T x y st Q):g8 Φ.q A (uu p o v u) (PE Φ ρ μ Q) E s:=by
 have dI:∀{a} {r} {f},s.heap.DictOf _ a _->j' Φ.a μ id f r->(pj y λi=>i9 (uS i r) _)->g8 Φ.q A (uu p o (.ref a) u) (PE Φ ρ μ Q) E s:=λc1 c2 h=>r4 h λi B h=>jU h λb e h=>hE (L.db B) λti z=>hc ((tH (k:=i) (λj=>u' j i) c2).2 b e) λw T Y=>z▸uv c1.typeIs slot_dict_getitem.lookup (wpAny_getItem_of xL c1.mapOf T<|.mk h Y<|D.toks _) (vc hs);have dS:∀{a} {r} {f},s.heap.DictOf _ a _->j' Φ.a μ S f r->(qS y λi=>i9 (xc i r) _)->g8 Φ.q A (uu p o (.ref a) u) (PE Φ ρ μ Q) E s:=λc1 c2 h=>uU h λi B h=>jU h λb e h=>hc (L.cS B) λti z G=>hc ((tH (λj=>xJ j i) c2).2 b e) λw T Y=>z▸uv c1.typeIs slot_dict_getitem.lookup (wpAny_getItem_of xM c1.mapOf T<|.mk h Y<|D.toks _) (vc hs);cases x with
 |str l=>exact hc M.aO λt e hl=>Ay h λj n c B h1 J h=>hE (L.db B) λav z=>e▸z▸Pn D hs hl h1 J h|av l=>refine lV M.aO λa vs nn e hx au hl=>Ay h λj n c B h1 J h=>hE (L.db B) λav z=>?_;subst e z;exact p5 (Bs h1 (Bt J) hl) λb1 b2 G b4=>hc (qc au J) λw e3 aE=>item_tupleT (xz D hx) b1 b2 (au.len.symm▸b4) e3 (.mk h aE D)<|vc hs|«mut» m=>refine jU h λc q h=>hc (qZ M<|sg D q) λa e aD=>?_;subst e;haveI C:=se D aD q;clear q;induction c with|m l=>exact i0 C λvs nn c1 c2 c3=>Ay h λj n c B h1 J h=>hE (L.db B) λav z=>z▸Po D hs ⟨_,c1,rfl,nn,rfl⟩ c2 c3 h1 J h|bS r=>exact jB C λf c1 c2 G=>dI c1 c2 h|dU _ l=>exact h.elim|dv _ r=>exact jB C.2 λf c1 c2 G=>dI c1 c2 h|bK r=>exact ph C λf c1 c2 G G=>dS c1 c2 h
 |val aF=>refine hv M.aO λI G=>?_;subst I;induction v with|ref d=>exact jU h λr e h=>hv (aG.fw d r e) λG h'=>i0 h' λf ep c0 c2 G=>dS (c0 _ D.Y.aV).dictOf (c2 μ) h|_=>exact h.elim
 |_=>exact h.elim
end
end
section
open PySem PySem.W PySem.Calls PyProof.Rows
noncomputable def kH:ho->Bool| .Call (.Attribute _ _ _) _ _ _=>H| .Call .. =>g|_=>H
theorem Gs(h:kH o=H):zJ o c ae b=b:=by
 cases o with
 |Call f a k p=>cases f<;>first|rfl|cases h
 |_=>first|rfl|cases h
noncomputable def j6(args:List ho)(ah:List pS)(a aa:lg):Bool:=args.all jE&&ps ah&&decide (args.length+ah.length+(if ah.isEmpty then 0 else 1)<30)&&a.endLine==aa.line
section
variable{M:oz}{A:iH}{E:g7->hr->Prop}{s:hr}{ae:j8}
theorem Pq{aa}:∀{a:List ho},a.all jE=H->(nb aa<|mA a ae).all (!·.1)=true:=by intro a;induction a with|nil=>exactλ_=>rfl|cons e r b=>intro h;rw[iX]at h;rw[om h.1];show(H&&(nb _ _).all _)=H;rw[b h.2];rfl
theorem Ps:∀{ah},(nc aa<|nH ah ae).isEmpty=ah.isEmpty|[]=>rfl|⟨_,_,_⟩::_=>rfl
theorem si(h:j6 args ah b aa=H):methodCallForm (args.length+ah.length) (nb aa<|mA args ae) (nc aa<|nH ah ae)=H/\args.all jE=H/\ps ah=H/\(b.endLine==aa.line)=true:=by unfold j6 at h;simp only[iX]at h;refine kf λf=>hv h λa e=>hv a λa d=>?_;obtain⟨h1,c⟩:=a;refine f<|⟨?_,h1,c,e⟩;unfold methodCallForm;rw[Pq h1,(u9 c).1,Ps,d];rfl
theorem Gu{ae}{a aa}(h:(a.endLine==aa.line)=H):methodCallPos b o ae a aa=pure aa:=by unfold methodCallPos;rw[h,un];exact if_pos O
theorem MethodCall_(hs:kH o=H)(m:j6 args ah c aa=H)(h:g8 M A (eval o ae) (λf a=>∀n,g8 M A (getMethod f name n) (λi b=>g8 M A (wB aa i.1 i.2 (nb aa<|mA args ae)<|nc aa<|nH ah ae) Q E b) E a) E s):g8 M A (eval (.Call (.Attribute o name c) args ah aa) ae) Q E s:=by
 refine p5 (si (ae:=ae) m) λk p q l=>?_;show g8 M A (do
  let f <-zJ o _ _ _
  standAt _
  methodCall o _ _ _ _ f _ _ _) Q E s
 rw[Gs hs];refine hw<|hj h (λf a d=>hw<|pZ ?_) λj j x=>x;unfold methodCall;rw[k];rw[Gu l];exact hw<|n'<|hj (d _) (λi b e=>hw (ip e)) λj j x=>x
theorem Call_(c:Ga f=H)(h:g8 M A (eval f ae) (λb a=>g8 M A (wB aa b [] (nb aa<|mA args ae)<|nc aa<|nH ah ae) Q E a) E s):g8 M A (eval (.Call f args ah aa) ae) Q E s:=by rw[((qX f ae).2.2.1 c args ah aa)];exact hw h
end
theorem Gv(hs:kH a=H)(h:g8 (iu ai w) A (eval a ae) (λo b=>g8 (iu ai w) A (qD o c H) Q E b) E s):g8 (iu ai w) A (eval (.Attribute a c aa) ae) Q E s:=by
 show g8 _ A (do
  let o <-zJ _ _ _ _
  standAt _
  let r <-holding _ _
  letTemporaryGo _ o r
  pure r) Q E s
 rw[Gs hs];refine hw<|hj h (λo b d=>hw<|pZ (hw (n' (hj d (λr i e=>?_) λf f x=>x)))) λf f x=>x;exact hw<|wpAny_letTemporaryGo<|ip e
end
section
open PySem PySem.W PySem.Calls PyProof.Rows
theorem ia.set(n)(h:ia G μ c b)(r:RelV G μ v a):ia G μ (c.set n v)<|b.set n a:=ia.ad (C:=λc b=>∀n,ia G μ (c.set n v)<|b.set n a) (λn=>.nil) (λe f d n=>n.casesOn (.cons r f) λn=>.cons e<|d n) h n
theorem ia.ints{G}{μ}{b:List (Int×g7)}{c:List (Int×AV)}(h:j' G μ id b c):∀{a:List g7},a.length=b.length->(∀(j:Nat) v,a[j]?=U v->∃(k:Int) (x:g7),b[j]?=U (k,x)/\∃t,v=.int k t)->ia G μ a (c.map λp=>.int p.1):=h.rec (motive:=λb c l=>∀{a:List g7},a.length=b.length->(∀(j:Nat) v,a[j]?=U v->∃(k:Int) (x:g7),b[j]?=U (k,x)/\∃t,v=.int k t)->ia G μ a (c.map λp=>.int p.1)) (λh _=>zK h▸ .nil) λ{_ _ _ _ _} _ _ i a=>a.casesOn (λh=>nomatch h) λv a h e=>jC (e 0 v O) λk x f d=>hE d λt d=>d▸(zD<|io f).1▸ .cons (.int _ _) (i (rI h) λj=>e (j+1))
section
variable{Φ:Fm}{μ:Mu}{ρ:Loc}{st:St}{s:hr}{Q:AV->St->Prop}{E:g7->hr->Prop}{A:iH}
theorem mh(h:n<=1000000):n<=rJ:=f1 h (by decide)
theorem Dy.newList(e:Φ.z)(D:Dy Φ μ ρ st s)(r:ia Φ.a μ b l)(hl:l.length<=1000000)(h:Q (.mut<|.j st.f)<|st.new<|.m l):PE Φ ρ μ Q (.ref s.heap.objs.size) {s with heap:=s.heap.push<|listOf b.toArray n,toks:=t}:=PE.new (c:=.m l) e D xx (λa d=>jT _) (λE=>⟨b.toArray,n,n9 _ O,r.aP E,hl⟩) h
theorem Dy.gF(f:Φ.z)(D:Dy Φ μ ρ st s){b:Bool}{t:Nat}(h:Q (.mut<|.j st.f)<|st.new (match b with|true=>.bK []|false=>.bS [])):PE Φ ρ μ Q (.ref s.heap.objs.size) {s with heap:=s.heap.push {cls:=.type "dict",data:=.dict #[]},toks:=t}:=by induction b with|false=>exact PE.new (c:=.bS _) f D xx (λa e=>jT _) (λE=>⟨[],D9 _,.nil,jd _⟩) h|true=>exact PE.new (c:=.bK _) f D xx (λa e=>jT _) (λE=>⟨[],D9 _,.nil,jd _,λp d=>nomatch d⟩) h
theorem vd(D:Dy Φ μ ρ st s)(c:μ.cell m=U a)(q:st.cell m=U (.m l)):∃b n,zL s.heap a b n/\ia Φ.a μ b.toList l/\l.length<=1000000/\b.size=l.length:=i0 (se D c q) λb n c1 c2 c3=>ts b n c1 c2 c3 (c2.len)
theorem Dy.eW(D:Dy Φ μ ρ st s)(f)(c:μ.cell m=U a)(d:zL s.heap a e n)(r:ia Φ.a μ (f e).toList b)(hl:b.length<=1000000):Dy Φ μ ρ (st.ba m<|.m b) {s with heap:=s.heap.update a<|i'.mapSeq f,toks:=t}:=D.ei c (D_ ..) ⟨_,_,zL.update d f,r,hl⟩
theorem pt(h:mF n P):n<=1000000/\P:=by unfold mF at h;induction z:kK n _ with|true=>rw[z]at h;exact⟨kC z,h⟩|false=>rw[z]at h;exact h.elim
theorem Bu(D:Dy Φ μ ρ st s)(r:RelV Φ.a μ v x)(h:r2 st x P){B:Prop}(k:∀m c a,v=.ref a->μ.cell m=U a->st.cell m=U c->k_ Φ.a μ s.heap a c->P m c->B):B:=E1 h λm c e q h=>hc (qZ (e▸r)<|sg D q) λa d b=>k m c a d b q (se D b q) h
theorem Bv{K}[DecidableEq K]{az:KeyKind Φ.a.prog Φ.a.w K}{h:jA}{a:Nat}{b:List (K×g7)}(d:h.DictOf az a b):(b.map (·.1)).Nodup:=d.elim λc d=>d.elim λc d=>d.elim λc d=>d.2.2.2.2.2
structure LA (Φ:Fm)(μ:Mu)(st:St)(s:hr)(v:g7)(m:ja)(l:List AV)(a:Nat)(b:Array g7)(n:Nat):Prop where
 e:v=.ref a
 d:μ.cell m=U a
 bA:st.cell m=U (.m l)
 aO:zL s.heap a b n
 aX:ia Φ.a μ b.toList l
 dw:l.length<=1000000
 w:b.size=l.length
theorem pu(D:Dy Φ μ ρ st s)(r:RelV Φ.a μ v x)(h:lY st x P){B:Prop}(k:∀m l a b n,LA Φ μ st s v m l a b n->P m l->B):B:=r3 h λm l e q h=>hc (qZ (e▸r)<|sg D q) λa f c=>mV (vd D c q) λb n c1 c2 c3 d=>k m l a b n ⟨f,c,q,c1,c2,c3,d⟩ h
theorem Pt(D:Dy Φ μ ρ st s)(b:RelV Φ.a μ v x)(c:RelV Φ.a μ u y)(h:AD x y st Q):g8 Φ.q A (kZ (.builtin "list.append") [v,u]) (PE Φ ρ μ Q) E s:=by refine pu D b h λm l a d n L h=>hv (pt h) λz h=>L.e▸wI Mi ⟨_,L.aO,rfl⟩ PySem.F.entry_list_append (PySem.F.args_list_append_2 _ _) (list_append a d n u<|mh (L.w▸L.dw)) ⟨L.aO,?_⟩;refine PE.mk h .none<|D.eW _ L.d L.aO ?_ (by rw[hz];exact z);rw[Array.toList_push];exact L.aX.aD<|.cons c .nil
theorem Pu(D:Dy Φ μ ρ st s)(f:RelV Φ.a μ v x)(i:RelV Φ.a μ u y)(h:oL x y st Q):g8 Φ.q A (kZ (.builtin "list.extend") [v,u]) (PE Φ ρ μ Q) E s:=by refine pu D f h λm l a j n L h=>pu D i h λm' o b us e c h=>hv (pt h.2) λz h=>L.e▸c.e▸?_;have d:=L.w.symm▸c.w.symm▸z;refine wI Mj ⟨_,L.aO,rfl⟩ PySem.F.entry_list_extend (PySem.F.args_list_extend_2 _ _) (PySem.AutoSeq1.list_extend_list_list_0 a j n b us e (λk=>(absurd (of_decide_eq_true (lT.mp k).2)<|j9.mpr<|mh d)) (mh<|f1 (ih _ _) d)<|jw<|mh d) ⟨L.aO,c.aO,?_⟩;.refine PE.mk h .none<|D.eW _ L.d L.aO ?_ (by rw[hz];exact z);rw[Array.toList_append];exact L.aX.aD c.aX
end
end
section
open PySem PySem.W PySem.Calls PyProof.Rows
section
variable{Φ:Fm}{μ:Mu}{ρ:Loc}{st:St}{s:hr}{Q:AV->St->Prop}{E:g7->hr->Prop}{A:iH}
theorem Gw(a:Array g7)(k)(h:k<a.size):(a.eraseIdxIfInBounds k).toList=a.toList.eraseIdx k:=by unfold Array.eraseIdxIfInBounds;rw[dif_pos h,Array.toList_eraseIdx]
theorem Pw(r:ia G μ c l)(h:l.getLast?=U a):∃v,c[c.length - 1]?=U v/\RelV G μ v a/\ia G μ (c.eraseIdx (c.length - 1)) l.dropLast/\l.length≠0:=by
 haveI hl:l.length≠0:=by simpa using(by rintro rfl;cases h)
 haveI b:=r.len;refine hc (qc r (by rw[<-List.getLast?_eq_getElem?];exact h)) λv d e=>⟨v,by rw[b];exact d,e,?_,hl⟩;haveI:=Bq (l.length - 1) r;rw[List.dropLast_eq_take,List.eraseIdx_eq_take_drop_succ,zG<|Nat.sub_le_iff_le_add.mp<|g' _,iL,b];exact this
theorem Py(D:Dy Φ μ ρ st s)(i:RelV Φ.a μ v x)(h:E8 x st Q):g8 Φ.q A (kZ (.builtin "list.pop") [v]) (PE Φ ρ μ Q) E s:=by refine pu D i h λm l a j n L h=>jU h λb e h=>ph (Pw L.aX e) λu c d f z=>L.e▸?_;rw[pY]at c;refine wI zM ⟨_,L.aO,rfl⟩ Ml (PySem.F.args_list_pop_1 _) (PySem.MeetsSeq.list_pop_last a j n u c<|mh (L.w▸L.dw)) ⟨L.aO,?_⟩;refine PE.mk h d<|D.eW _ L.d L.aO ?_ (by rw[List.length_dropLast];exact f1 (D' _ _) L.dw);rw[Gw _ _<|Nat.sub_lt (L.w▸Mm z) Nat.one_pos];exact f
theorem Pz(D:Dy Φ μ ρ st s)(f:RelV Φ.a μ v x)(h:E9 x st Q):g8 Φ.q A (kZ (.builtin "list.pop") [v,.int 0 t]) (PE Φ ρ μ Q) E s:=by refine pu D f h λm l a d n L h=>L.e▸?_;induction l with|nil=>exact h.elim|cons b l=>haveI hs:0<d.size:=L.w▸wJ _;refine hc (qc (i:=0) L.aX O) λu c e=>?_;rw[pY]at c;refine wI zM ⟨_,L.aO,rfl⟩ Ml (PySem.F.args_list_pop_2 _ _) (PySem.MeetsSeq.list_pop_at a d n 0 t 0 u O (seqIndex_of (wH 0)<|pd.mpr hs) c<|mh (L.w▸L.dw)) ⟨L.aO,?_⟩;refine PE.mk h e<|D.eW _ L.d L.aO ?_<|s9 L.dw;rw[Gw _ _ hs,List.eraseIdx_zero,<-List.drop_one];exact Br 1 L.aX
theorem PD(h1:0<=n){a:Array g7}(b:n.toNat<=a.size):((haveI k:=if n<0 then(n+(a.size:Int)).toNat else min n.toNat a.size;(a.extract 0 k).push u++a.extract k)).toList=a.toList.take n.toNat++u::a.toList.drop n.toNat:=by rw[if_neg<|Int.not_lt.mpr h1,zF b];simp;exact Ea (by simp)
theorem PF(D:Dy Φ μ ρ st s)(f:RelV Φ.a μ v x)(e:RelV Φ.a μ w j)(i:RelV Φ.a μ u y)(h:AE x j y st Q):g8 Φ.q A (kZ (.builtin "list.insert") [v,w,u]) (PE Φ ρ μ Q) E s:=by refine pu D f h λm l a k nn L h=>r4 h λn c h=>hE (e.db c) λt d=>i5 h λh1 b h=>hv (pt h) λz h=>L.e▸d▸?_;haveI r:=PD h1 (L.w▸b)▸(Bq _ L.aX).aD (.cons i<|Br _ L.aX);refine wI Mn ⟨_,L.aO,rfl⟩ PySem.F.entry_list_insert (PySem.F.args_list_insert_3 _ _ _) (PySem.AutoSeq1.list_insert_list_int_val_1 a k nn n t u (by rw[fitsIndex_of h1<|wG ((Eb h1).mp<|lB b (wW L.dw)) (by decide)];decide)<|mh (L.w▸L.dw)) ⟨L.aO,?_⟩;refine PE.mk h .none<|D.eW _ L.d L.aO r ?_;rw[hz,mT,oD,oC,zF b];exact f1 (im<|congrArg Nat.succ<|Nat.add_sub_cancel' b) z
theorem PG(aE:Φ.z)(D:Dy Φ μ ρ st s)(q:RelV Φ.a μ v x)(w:RelV Φ.a μ u y)(h:xl o x y st Q):g8 Φ.q A (rB (ol o) v u) (PE Φ ρ μ Q) E s:=by
 have p:(i9 (rY o x y) λr=>Q r st)->g8 Φ.q A (rB (ol o) v u) (PE Φ ρ μ Q) E s:=λh=>jU h λr e h=>lV (ES e) λi j k C G I J=>hE (q.db C) λt f=>hE (w.db G) λT c=>f▸c▸Ov D I (J▸h);cases x with
 |«mut» m=>induction o with|add=>refine pu D q h λm l a B n L h=>pu D w h λm' av b us aD d h=>hv (pt h) λz h=>L.e▸d.e▸PySem.P.add_list L.aO d.aO ?_ (mh (L.w▸d.w▸z));haveI:=D.newList aE (n:=0) (t:=s.toks) (L.aX.aD d.aX) (by rw[hz];exact z) h;rw[show(B.toList++us.toList).toArray=B++us from(Array.toList_append.symm▸Mo)]at this;exact this|_=>exact h.elim
 |str a=>induction o with|add=>refine uU h λb M h=>hc q.aO λt f au=>hc (w.cS M) λT c au=>hv (pt h) λz h=>f▸c▸PyProof.Rows.add_str (λY tk=>?_) (mh z);rw[Ou];exact .mk h (.str _ _ (by rw[hz];exact z))<|D.toks _|_=>exact h.elim
 |_=>exact p h
theorem PH(D:Dy Φ μ ρ st s){x}(d:RelV Φ.a μ v x)(h:E4 x st Q):g8 Φ.q A (kZ (.builtin "len") [v]) (PE Φ ρ μ Q) E s:=by have b:(lY st x λi l=>Q (.int l.length) st)->g8 Φ.q A (kZ (.builtin "len") [v]) (PE Φ ρ μ Q) E s:=λh=>pu D d h λm l a f n L h=>L.e▸Calls.call_len_list L.aO.isList (L.w▸xK L.dw) (L.w.symm▸ .mk h (.int _ _) ((D.toks _).toks _));exists c;cases x with|str l=>exact c<|hc d.aO λt e hl=>e▸PyProof.Rows.len_str (Bm hl) (.mk h (.int _ _)<|(D.toks _).toks _)|_=>exact c<|b h
end
end
section
open PySem PySem.W PySem.Calls PyProof.Rows
section
variable{Φ:Fm}{μ:Mu}{ρ:Loc}{st:St}{s:hr}{Q:AV->St->Prop}{E:g7->hr->Prop}{A:iH}
theorem PI(Y:Φ.z)(b:Φ.a.z)(D:Dy Φ μ ρ st s)(G:A.handled=V)(L:RelV Φ.a μ v x)(h:E5 x st Q):g8 Φ.q A (kZ (.type "list") [v]) (PE Φ ρ μ Q) E s:=by refine Bu D L h λm c a e B q C h=>?_;clear q;induction c with|bS T=>exact jB C λJ c1 c2 c3=>e▸oI c1 λo n M f i l=>kdl_call (kdl_dict<|vb b<|D.fa B) G ⟨o,_,f,i,l⟩ (c2.len▸mh c3) λh' tk d c I hL hI=>PE.new (c:=.m _) Y D (it hL) I (λE=>⟨_,c,hL,ia.ints (c2.aP E) (hI.1) λj w e=>jC (hI.2 j w (pY▸e)) λk y p r=>(Mp r).elim λt z=>⟨k,y,p,t,z⟩,by rw[ig];exact c3⟩) h|_=>exact h.elim
theorem PJ(av:Φ.z)(T:Φ.a.z)(D:Dy Φ μ ρ st s)(M:RelV Φ.a μ v a)(I:RelV Φ.a μ u j)(G:RelV Φ.a μ w b)(h:AK a j b ρ st P):g8 Φ.q A (setItem v u w) (λau s'=>∃ac,P ρ ac/\Dy Φ μ ρ ac s') E s:=by refine Bu D M h λm c d e r q C h=>e▸?_;induction c with|m l=>refine r4 h λn f h=>hE (I.db f) λt o=>mV (vd D r q) λY nn c1 c2 c3 x=>i5 h λh1 J p=>o▸ki_setAt c1 h1 (wG ((Eb h1).mp<|hy J c3) (by decide)) (x▸(Eb h1).mp J) ⟨_,p,D.eW _ r c1 ?_ (by rw[zp];exact c3)⟩;rw[Array.toList_setIfInBounds];exact c2.set _ G|bS L=>exact r4 h λi f h=>hE (I.db f) λt o=>jB C λB c1 c2 c3=>hv (pt h) λz p=>o▸Mq xL c1 (λh' y hs=>⟨_,p,D.ei r hs ⟨_,y,Gj (λj=>u' j i) G c2<|Bv c1,f1 (Gh _ _ _ _) z⟩⟩) (c2.len▸mh c3)|bK L=>exact uU h λi f h=>hc (I.cS f) λt o hl=>ph C λB c1 c2 c3 x=>hv (pt h) λz p=>o▸Mq xM c1 (λh' y hs=>⟨_,p,D.ei r hs ⟨_,y,Gj (λj=>xJ j i) G c2<|Bv c1,f1 (Gh _ _ _ _) z,Gi (P:=λk:List _=>k.length<=1000000) _ _ _ hl _ x⟩⟩) (c2.len▸mh c3)|_=>exact h.elim
theorem PK(D:Dy Φ μ ρ st s)(w:RelV Φ.a μ v a)(x:RelV Φ.a μ u j)(h:Ff a j ρ st P):g8 Φ.q A (delItem v u) (λy s'=>∃ac,P ρ ac/\Dy Φ μ ρ ac s') E s:=by
 refine Bu D w h λm c d e p q C h=>e▸?_;clear q;induction c with
 |bS l=>refine r4 h λi n h=>hE (x.db n) λt o=>jB C λr c1 c2 c3=>o▸?_;haveI f:=(tH (k:=i) (λj=>u' j i) c2).1;induction e:uR i l with|false=>rw[e]at h;exact h.elim|true=>rw[e]at h;rw[show rZ _ l=H from e]at f;refine n'<|hw<|wpAny_sequenceKey c1.typeIs O ?_;exact hw<|wpAny_callSpecial?_slot c1.typeIs Mr<|call_meetsIn Mr c1.typeIs PySem.F.entry_dict_delitem (PySem.F.args_dict_delitem_2 _ _) (meets_dict_delitem_pairs _ d xL) ⟨_,c1,c2.len▸mh c3,f,λh' b hs=>ip ⟨_,h,D.ei p hs ⟨_,b,Pc (λj=>u' j i) c2 (Bv c1),f1 (Pb _ _) c3⟩⟩⟩
 |_=>exact h.elim
end
end
section
open PySem PySem.W PySem.Calls PyProof.Rows
set_option tactic.hygienic true in
theorem PM{l:List AV}{r:List _}(h:Av l=U r){G}{μ}{d:List _}(k:ia G μ d l):∃b:List<|List _,StrsAre d (b.map S)/\(∀s,Ms s (b.map S)=S r)/\(b.map (·.length)).sum<=r.length/\b.length<=1:=by
 exists c;cases k with|nil=>exact c<|io h▸⟨[],.nil,λf=>rfl,g' _,jd _⟩|cons i j=>
  cases j with
  |nil=>rename_i a;cases a with|str x=>exact c<|hc i.aO λt e f=>io h▸e▸⟨[x],.cons _ _ .nil,λf=>rfl,g' _,g' _⟩|_=>exact hH h
  |cons=>exact hH h
section
variable{Φ:Fm}{μ:Mu}{ρ:Loc}{st:St}{s:hr}{Q:AV->St->Prop}{E:g7->hr->Prop}{A:iH}
theorem PN(D:Dy Φ μ ρ st s)(hs:sp.length<=16)(i:RelV Φ.a μ v x)(h:AF sp x st Q):g8 Φ.q A (kZ (.builtin "str.join") [.str (S sp) t,v]) (PE Φ ρ μ Q) E s:=by
 refine pu D i h λm l a o n L h=>jU h λr b h=>hv (pt h) λz h=>ph (PM b L.aX) λp c d e f=>L.e▸join_list L.aO.isList c ?_ λj k=>?_;.rw[s1,ig];exact f1 (h9 (f1 e z)<|Nat.mul_le_mul f hs) (by decide)
 .show PE Φ ρ μ Q (.str (Ms _ _) j) _;rw[d];exact .mk h (.str _ _ z)<|D.toks _
theorem xO{o:Option (Int×Tok)}{I:Option Nat}(h:o.map (·.1)=I.map tc):0<=(o.map (·.1)).getD 0:=by rw[h];induction I with|none=>exact wH 0|some i=>exact mB i
theorem PO{l:List α}{I}:Au l I=l.drop (mf 0<|I.map tc):=by induction I<;>rfl
theorem PP{l:List α}{I}:As l I=l.take (mf l.length<|I.map tc):=by induction I with|none=>exact List.take_length.symm|some i=>rfl
theorem part_of{G}{μ}{v}{i}{I:Option _}(r:RelV G μ v i)(h:qQ i=U I):∃p:Option (Int×Tok),v=partValue p/\p.map (·.1)=I.map tc/\IsPart v (p.map (·.1)):=by
 exists a;cases i with
 |none=>exact a<|io h▸r.aO▸⟨V,rfl,rfl,.none⟩|int i=>
  refine hE r.aO λt e=>?_;haveI h:(if 0<=i then U _ else V)=U I:=h;by_cases q:0<=i;.rw[if_pos q]at h;exact a<|io h▸e▸⟨U (i,t),rfl,congrArg _ (zI q).symm,.int _ _⟩
  .rw[if_neg q]at h;exact hH h
 |_=>exact hH h
theorem Gy{l r:List α}(h:oj l i j=U r){B:Prop}(k:∀I J,qQ i=U I->qQ j=U J->r=(l.take<|mf l.length<|J.map tc).drop (mf 0<|I.map tc)->B):B:=hc (ul.mp h) λI e h=>hc (wp.mp h) λJ a h=>k I J e a<|h.symm.trans<|PO.trans (congrArg _ PP)
theorem Gz{α:Type}(l:List α)(a b):((l.take a).drop b).length<=l.length:=by rw[oC,oD];exact f1 (D' _ _)<|wE _ _
theorem PQ(D:Dy Φ μ ρ st s)(f:μ.cell m=U a)(q:st.cell m=U c)(e:Aw c=U l):∃b n,zL s.heap a b n/\ia Φ.a μ b.toList l/\l.length<=1000000:=by haveI C:=se D f q;clear q;induction c with|m l=>exact io e▸C|dU o l=>exact io e▸hv C λd C=>i0 C λb n e c2 c3=>⟨b,n,d.trans<|congrArg _ e,c2,c3⟩|_=>exact hH e
theorem PT(aK:Φ.z)(D:Dy Φ μ ρ st s){lo hi}{x i j}(aE:RelV Φ.a μ v x)(av:RelV Φ.a μ u i)(aD:RelV Φ.a μ w j)(h:AB x i j st Q):g8 Φ.q A (uu G (.Slice lo hi V p) v<|.ref s.heap.objs.size) (PE Φ ρ μ Q) E {s with heap:=s.heap.push {cls:=.type "slice",data:=.fields #[u,w,.none]}}:=by
 have M:Dy Φ μ ρ st {s with heap:=s.heap.push {cls:=.type "slice",data:=.fields #[u,w,.none]}}:=D.keeps (by rw[lz];exact iA _) λa aJ=>jT _;exists C;cases x with
 |str l=>
  refine hc aE.aO λt ex hl=>jU h λr e h=>Gy e λI J y z d=>jB (part_of av y) λau e1 f L=>jB (part_of aD z) λpw e2 o L=>?_;subst e1 e2 ex;refine C<|uv (rH _ _ _) Mh.lookup (wpAny_getItem_str_slice (st:=V) ⟨_,n9 _ O,rfl,rfl⟩ rfl ?_) O;have T:Txt.slice (S l) (au.map (·.1)) (pw.map (·.1))=S r:=by rw[Pl l _ _ (xO f)<|xO o,f,o,d]
  haveI Y:=d▸f1 (Gz _ _ _) hl;refine post_val_or_str ⟨?_,λaI k=>?_⟩;.show(Txt.slice _ _ _).length<=rJ;rw[T];exact mh Y
  .show PE Φ ρ μ Q (.str (Txt.slice _ _ _) aI) _;rw[T];exact .mk h (.str _ _ Y)<|M.toks _
 |«mut» m=>refine C<|jU h λc q h=>jU h λl e0 h=>jU h λr e h=>hc (qZ aE<|sg D q) λa ea aF=>i0 (PQ D aF q e0) λvs n c1 c2 c3=>Gy e λI J y z d=>jB (part_of av y) λau L f aG=>jB (part_of aD z) λpw L o aH=>?_;clear C;subst ea;haveI B:=c2.len;rw[zE]at B;haveI b:=c1.isList.push {cls:=.type "slice",data:=.fields #[u,w,.none]};refine uv b.typeIs slot_list_getitem.lookup (wpAny_getItem_list_slice b (jA.IsSliceOf.new ..) aG aH .none (hH) ?_<|mh (B▸c3)) O;rw[Pm vs _ _ (xO f)<|xO o,f,o,B];exact M.newList aK (t:=s.toks) (d▸Br _ (Bq _ c2)) (d▸f1 (Gz _ _ _) c3) h|_=>exact h.elim
theorem PU{K}(e:xC K a D g=H):kin_not K a D=H/\plainGet K a "__class__"=H/\n_ K a=H/\iO K (.ref a) "__class__"=U (U<|.builtin "object.__class__")/\ wt K (.builtin "object.__class__") "__get__"=U (U<|.builtin "getset_descriptor.__get__")/\takesIn K (.builtin "object.__class__")=U H/\oA K a (.type "object")=U true:=by unfold xC at e;rw[if_neg lS]at e;simp only[iX,beq_iff_eq,and_assoc]at e;exact e
theorem PV(j:Φ.a.z)(D:Dy Φ μ ρ st s)(i:RelV Φ.a μ v x)(h:E_ Φ.a.T C x st Q):g8 Φ.q A (kZ (.builtin "isinstance") [v,.ref C]) (PE Φ ρ μ Q) E s:=by
 exists B;cases x with
 |obj b ks L=>refine jK i.aO λa d w n e h1 y G=>hv G λJ z=>?_;clear i;subst e;haveI h:lX _ _ _:=h;refine B ?_;induction c:Φ.a.T.fv C with|false=>rw[c]at h;exact h.elim|true=>rw[c]at h;have I:InstAt s.heap a (lh b d) b<|U<|ji w n:=⟨(D.Y.t _ h1).1,rfl,rfl,(D.Y.t _ y).1⟩;haveI e:=j.f5 b C (by rw[z];rfl) c;have h:Q _ st:=h;induction f:Φ.a.T.sub b C with|true=>rw[f]at e h;exact isi_call D.Y.aV (λM=>I.type) e (by intro q;cases q)<|.mk h (.bool _) D|false=>rw[f]at e h;exact lD (PU e) λk l m o p r t=>kin_callC D.Y.aV I k l m o p r t<|.mk h (.bool _)<|D.toks _
 |_=>exact h.elim
theorem PW(D:Dy Φ μ ρ st s){x}(b:RelV Φ.a μ v x)(h:E' x st Q):g8 Φ.q A (kZ (.builtin "isinstance") [v,.type "str"]) (PE Φ ρ μ Q) E s:=by exists a;cases x with|str l=>exact a<|hc b.aO λt e c=>e▸PySem.IsiPair.str_str (.mk h (.bool _) D)|_=>exact h.elim
theorem PY{K}(h:qW K D f x=H):iO K (.ref D) x=U (U<|.ref f)/\isFn K (.ref f)=H/\fnIn K f=H/\wt K (.ref f) "__get__"=U (U<|.builtin "function.__get__")/\takesIn K (.ref f)=U g/\DT.contains x=false:=by unfold qW at h;simp only[iX,beq_iff_eq,sW,and_assoc]at h;exact h
theorem PZ(C:Φ.z)(D:Dy Φ μ ρ st s)(r:RelV Φ.a μ v a)(hx:tD Φ.a.bP x=H)(hm:qW Φ.a.K Φ.a.T.a1 f x=H)(l:qa Φ.a.K Φ.a.T.a1=H)(h:r6 a<|Q (.au f) st):g8 Φ.q A (qD v x ay) (PE Φ ρ μ Q) E s:=by obtain⟨rfl,h⟩:=AG h;refine hc r.aO λc e z=>z.elim (λz=>hE z.2 λd b=>jK (Bk D b) λks y w n B i j k=>kL (tF l) λc1 c2 c3 p q=>kL (PY hm) λm1 m2 m3 m4 m=>hv m λm5 m6=>e▸?_) λz=>absurd O z.1;refine get_bind D.Y.aV (xI D i j) c1 (findObj_fn c3 m1 m4 m5 m6<|F1 (FT hx) k) c2<|pV<|fn_get D.Y.aV (beq_iff_eq.mp m2) (handed_on O ?_);exact⟨_,_,_,h,ib.bM _ _ _,.au (.head _) (show(μ.bM _ _).L=U (c,d)from b),D.eQ C (o:=wq (.ref f)<|.ref c) O (t:=s.toks+1)⟩
end
end
section
open PySem PySem.W PySem.Calls PyProof.Rows
section
variable{ai:n6}{w:iZ}{A:iH}{E:g7->hr->Prop}{s:hr}{K:jc}
theorem GA(name)(b)(c v):∀a,(oc name b c v a).length<=a.length+1:=by
 intro a;induction a with|nil=>exact g' _|cons e r d=>
  haveI:=d;unfold oc;split;.simp
  .exact lC this
set_option tactic.hygienic true in
theorem GB{name}{a:List _}(hl:(lP name a).isSome=H):(!a.toArray.any (·.key.isStr name)&&a.toArray.any (·.refKey))=false:=by
 rw[<-Mt,<-Mt];unfold lP at hl;induction z:a.find? _ with|some b=>rw[MW.mpr ⟨b,List.mem_of_find?_eq_some z,List.find?_some z⟩];rfl|none=>
  rw[z]at hl;by_cases q:a.any (·.refKey)=H;.exact ff<|(congrArg _<|if_pos q).symm.trans hl
  .rw[ws.mpr q,uw]
theorem P0{x C e:Nat}(X:K.In s.heap)(I:InstAt s.heap x ox C<|U<|ji a n)(f:ox.dict=U e)(m:zt K C=H) (o:rD K C name=U V) (l:n_ K C=H) (hl:(lP name a).isSome=H) (p:a.length<=1000)(h:∀h' tk,mw e s.heap h'->h'.get? e=U (ji (oc name (n8 w.params name) (.str name tk) v a)<|putN name a n)->R (.ok<|.ret .none) {s with heap:=h',toks:=s.toks+1}):l9 (iu ai w) A (.call (.builtin "object.__setattr__") ⟨[.ref x,.str name tk,v],[]⟩) R s:=by refine osa_open X I m o λb=>kf λj=>?_;obtain⟨cd,k,i⟩:=rE l;obtain⟨hx,c,y,d⟩:=I;rw[f]at d;haveI D:=d;obtain⟨z,r,q,t⟩:=ox;dsimp only at c f;subst c f;haveI B:=uo (i'.putName name (n8 w.params name) (.str name s.toks) v) D (by rw[zN];rfl);rw[zN]at B;refine j<|hw<|ip<|hw (hw (wK hx (hw ((wL X k).here ?_))));rw[i];refine ip<|hw<|ip (hw ?_);refine hw<|hw<|wpAny_askSetting (ip (hw (DU (hw (wK D ?_)))));dsimp only;rw[Mv,GB hl];exact wpAny_updatePart D<|hw<|wpAny_lookBehind B (pastItsLine_dict<|l_ (f1 (GA name (n8 w.params name) (.str name s.toks) v a) (f1 (h9 p (g' _)) (by decide))))<|ip<|h _ _ (D_ ..) B
theorem GC{x C b:Nat}(X:K.In s.heap)(I:InstAt s.heap x ox C<|U<|ji a n)(c:ox.dict=U b)(hs:iO K (.ref C) "__setattr__"=U (U<|.builtin "object.__setattr__")) (e:zt K C=H) (f:rD K C name=U V) (d:n_ K C=H) (hl:(lP name a).isSome=H) (i:a.length<=1000)(h:∀h' tk,mw b s.heap h'->h'.get? b=U (ji (oc name (n8 w.params name) (.str name tk) v a)<|putN name a n)->Q () {s with heap:=h',toks:=s.toks+2}):g8 (iu ai w) A (uA (.ref x) name v) Q E s:=set_plain X I hs<|P0 X I c e f d hl i h
end
section
variable{Φ:Fm}{μ:Mu}{ρ:Loc}{st:St}{s:hr}{Q:AV->St->Prop}{E:g7->hr->Prop}{A:iH}
theorem P1(h:xg n P):n<=500/\P:=by unfold xg at h;induction z:kK n _ with|true=>rw[z]at h;exact⟨kC z,h⟩|false=>rw[z]at h;exact h.elim
theorem P2:oc x h (.str x t) v (⟨h',.str x b,u⟩::a)=⟨h',.str x b,v⟩::a:=if_pos<|beq_self_eq_true x
theorem P4(n:y≠x){a}:oc x h (.str x t) v (⟨h',.str y b,u⟩::a)=⟨h',.str y b,u⟩::oc x h (.str x t) v a:=if_neg λq=>n<|beq_iff_eq.mp q
theorem P5{a b}:mE k a (k::ks) (b::c)=(k::ks,a::c):=by dsimp only[EM];rw[DQ];rfl
theorem GD{k x:Nat}(q:iE k x=g){a b}:mE k a (x::ks) (b::c)=(x::(mE k a ks c).1,b::(mE k a ks c).2):=by rw[EM,q];rfl
theorem Bw(n:Φ.a.z){k}{t}{v}{a}(r:RelV Φ.a μ v a){ks}{c}(h:iV Φ.a μ d ks c):iV Φ.a μ (oc (Φ.a.aH k) (n8 Φ.a.w.params<|Φ.a.aH k) (.str (Φ.a.aH k) t) v d) (mE k a ks c).1 (mE k a ks c).2:=
 iV.ad (C:=λd ks c=>iV _ μ (oc _ _ _ v d) (mE k a ks c).1 (mE k a ks c).2) (.cons r .nil) (λ{y m u b d ks l} i j f=>by
  rcases bq k y with e|q
  .subst e;rw[P2,P5];exact .cons r j
  .rw[P4<|A5 n q,GD q];exact .cons i f) h
theorem GF(e:Φ.a.z)(k)(r:iV Φ.a μ a ks c):(lP (Φ.a.aH k) a).isSome=true:=by induction z:kF k ks c with|some b=>refine hc (xD e r z) λv h d=>?_;rw[h];rfl|none=>rw[F2 e r z];rfl
theorem GG(h:iV G μ a ks c):a.length=ks.length:=iV.ad (C:=λa ks b=>a.length=ks.length) O (λb b=>congrArg _) h
theorem Bx(T:Φ.a.z)(D:Dy Φ μ ρ st s)(r:k<Φ.a.bP.length)(B:RelV Φ.a μ u o)(y:RelV Φ.a μ v a)(h:AJ o k a ρ st P):g8 Φ.q A (uA u (Φ.a.aH k) v) (λM s'=>∃ac,P ρ ac/\Dy Φ μ ρ ac s') E s:=by refine xj h λks J l q h=>hv (P1 h) λz h0=>?_;subst l;refine hc B.aO λL e c=>c.elim (λc=>hE c.2 λG f=>jK (Bk D f) λt C I n x d m b=>kL (tF<|T.cls _<|.inl O) λc1 c2 c3 i j=>e▸?_) λz=>absurd O z.1;cases q.symm.trans x;refine GC D.Y.aV (xI D d m) O i j (u6<|T.eV _ [] k<|.inl ⟨rfl,r⟩).2 c3 (GF T k b) (GG b▸f1 z (by decide)) λh' tk hs p=>⟨_,h0,?_⟩;exact D.fG f d hs p<|Bw T y b
end
end
section
open PySem PySem.W PySem.Calls PyProof.Rows
theorem By(h:mH a=H):swapsWith a b c ae=pure false:=(qX _ _).2.2.2.1 h _ _
theorem P6(h:xH y=H):s2 [.Tuple a k p] y ae=pure none:=(qX y _).2.2.2.2.1 h a k p
theorem Bz(h:mH b=H):swapsWithSole a b c ae=pure false:=by cases a with|nil=>rfl|cons t l=>cases l with|nil=>exact By h|cons _ _=>rfl
section
variable{M:oz}{A:iH}{E:g7->hr->Prop}{s:hr}{ae:j8}
theorem ve{t a}{aa}{Q:Flow->hr->Prop}(f:mH a=H)(e:(ng [t] ae).map (·.2)=[rK t ae])(i:s2 [t] a ae=pure V)(h:g8 M A (eval a ae) (λv b=>g8 M A (rK t ae v) (λd=>Q .next) E b) E s):g8 M A (exec (.Assign [t] a aa) ae) Q E s:=by refine Ec (hj h (λv b c=>?_) λd d x=>x) (Bz f) i;rw[e];exact c
theorem xP{v}(h:g8 M A (eval o ae) (λe a=>g8 M A (uA e b v) Q E a) E s):g8 M A (rK (.Attribute o b aa) ae v) Q E s:=hw<|n'<|hj h (λe a c=>hw (pZ (hw (n' (hj c (λd f=>wpAny_release') λd d x=>x))))) λd d x=>x
end
noncomputable def mX(sn:g9)(c b:List g9)(d:List ie):Bool:=d.rec (motive:=λe=>List g9->List g9->Bool) (λc b=>l0 c&&l0 b) (λst e h c b=>lc (λp c=>lc (λf b=>qV (λi x=>j_ (λy=>y==p) x&&(h c b&&l1 (mG λo a e=>a==f&&j_ (λy=>y==sn) o) i)) st) b) c) c b
noncomputable def tI(sn p f:g9)(st:ie):Prop:=∃c a d b,st=.Assign [.Attribute (.Name sn c) f a] (.Name p d) b
theorem GH{G:Gl}{st}(h:mX sn m (c.map G.aH) (st::r)=H){B:Prop}(k:∀p b f d,m=p::b->c=f::d->tI sn p (G.aH f) st->mX sn b (d.map G.aH) r=H->B):B:=by refine lZ (P:=λl=>m=l->B) (f:=λp m=>lc (λf c=>qV (λC x=>j_ _ x&&(mX sn m c r&&l1 _ C)) st) _) h (λp b h e=>?_) O;induction c with|nil=>exact ff h|cons f c=>haveI i:=tC (P:=λst=>tI sn p _ st/\mX sn _ _ r=H) h λl x j h=>haveI h:=f2 h;haveI h':=f2 h.2;ku (P:=λx=>tI sn p _ (.Assign l x j)/\mX sn _ _ r=H) h.1 λy I q=>i4 (P:=λl=>tI sn p _ (.Assign l _ j)/\mX sn _ _ r=H) h'.2 λt h=>mW (P:=λt=>tI sn p _ (.Assign [t] _ j)/\mX sn _ _ r=H) h λo a n h=>haveI h:=f2 h;ku (P:=λo=>tI sn p _ (.Assign [.Attribute o a n] _ j)/\mX sn b (c.map _) r=H) h.2 λz D w=>⟨⟨D,n,I,j,by rw[eq_of_beq q,eq_of_beq h.1,eq_of_beq w]⟩,h'.1⟩;exact k p _ f c e O i.1 i.2
theorem GI{G:Gl}(h:mX sn b (a.map G.aH) []=H):b=[]/\a=[]:=
 haveI h:=f2 h
 ⟨iY (P:=λl=>l=[]) h.1 O,List.map_eq_nil_iff.mp<|iY (P:=λl=>l=[]) h.2 O⟩
theorem P7{ks}:∀{b},ks.length=b.length->k∉ks->mE k a ks b=(ks++[k],b++[a]):=ks.rec (motive:=λks=>∀{b},ks.length=b.length->k∉ks->mE k a ks b=(ks++[k],b++[a])) (λh _=>by cases zK h.symm;rfl) λx ks d b=>b.casesOn (λh=>nomatch h) λv b h c=>by rw[GD<|(bq k x).resolve_left λe=>c (e▸ .head _),d (rI h) λq=>c<|.tail _ q];rfl
section
variable{G:Gl}{μ:Mu}{A:iH}{E:g7->hr->Prop}
noncomputable def P8(G:Gl)(A:iH)(E:g7->hr->Prop)(x b:Nat)(ox:i')(f:Nat):Prop:=∀{s:hr} {a:List o5} {n:Nat} {v:g7} {Q:Unit->hr->Prop},G.K.In s.heap->s.heap.get? x=U ox->s.heap.get? b=U (ji a n)->(lP (G.aH f) a).isSome=H->a.length<=1000->
 (∀h' tk,mw b s.heap h'->h'.get? b=U (ji (oc (G.aH f) (n8 G.w.params (G.aH f)) (.str (G.aH f) tk) v a) (putN (G.aH f) a n))->Q () {s with heap:=h',toks:=s.toks+2})->g8 (iu G.prog G.w) A (uA (.ref x) (G.aH f) v) Q E s
structure xQ (G:Gl)(ae:j8)(m:g9->Option g7)(sn:g9)(x a L:Nat):Prop where
 aY:ae.scope.kind=.function
 aT:ae.locals=L
 cI:ae.kindOf sn=U .local
 di:(sn==("__debug__":g9))=g
 f9:m sn=U (.ref x)
 gG:L≠a
 gH:x≠a
 gI:∀o,G.K.lookup a≠U o
structure BA (G:Gl)(μ:Mu)(ae:j8)(m:g9->Option g7)(x f L:Nat)(ox:i')(d:List g9)(a:List g7)(c:List Nat)(h:jA)(b:List o5)(n:Nat)(ks:List Nat)(e:List AV):Prop where
 aT:d.length=a.length
 v:∀(i:Nat) p v,d[i]?=U p->a[i]?=U v->ae.kindOf p=U .local/\(p==("__debug__":g9))=g/\m p=U v
 b0:(ks++c).Nodup
 dw:(ks++c).length<=500
 f_:ks.length=e.length
 K:G.K.In h
 ns:h.Ns L m
 f':h.get? x=U ox
 gb:h.get? f=U (ji b n)
 fx:iV G μ b ks e
noncomputable def P9(G:Gl)(μ:Mu)(s:hr)(b:Nat)(d:List Nat)(c:List AV)(f:Flow)(s':hr):Prop:=f=.next/\∃h' tk a e,s'={s with heap:=h',toks:=tk}/\mw b s.heap h'/\h'.get? b=U (ji a e)/\iV G μ a d c
theorem GJ(aY:G.z){x C L}{ox}{ae}{m}{sn}(I:xQ G ae m sn x C L):∀d {Y} {z} {c} {args} {s} {Q} {n} {ks} {y},(∀f∈z,P8 G A E x C ox f)->mX sn Y (z.map G.aH) d=H->ia G μ c args->BA G μ ae m x C L ox Y c z s.heap Q n ks y->g8 (iu G.prog G.w) A (o9 d ae) (P9 G μ s C (ks++z) (y++args)) E s:=by
 intro d;induction d with
 |nil=>intro Y z c args s Q n ks y _ T aF J;refine kf λaH=>hv (GI T) λh j=>?_;subst h;clear zz3 j aH;cases zK J.aT.symm;cases aF;exact aH<|s3 ⟨rfl,s.heap,s.toks,Q,n,rfl,mw.refl ..,J.gb,(iL ks).symm▸(iL y).symm▸J.fx⟩
 |cons st r aM=>
  intro Y z c args s Q n ks y aI T aF J;refine GH T λp aE f aK e1 e2 e3 av=>?_;clear T;subst e1 e2;cases aF with
  |nil=>cases J.aT
  |@cons v a c args aR aS=>
   refine jj e3 λaW B aU=>jj aU λaX pp e=>i5 (J.v 0 p v O O) λk1 k2 k3=>?_;clear e3;subst e;haveI ns:=I.aT.symm▸J.ns;refine zO<|ve O O O<|um (rA I.aY k1 ns k3 (xP (um (rA I.aY I.cI ns I.f9 ?_) I.di))) k2;refine aI f (.head _) J.K J.f' J.gb (GF (Φ:=⟨G,A,ae,[],0,s.heap,μ,s.gens,s.os,s.drawn,[]⟩) aY f J.fx) (f1 ((GG J.fx)▸f1 (ih _ _) (hz▸J.dw)) (by decide)) λh1 tk au aD=>?_;haveI D:=Bw (Φ:=⟨G,A,ae,[],0,s.heap,μ,s.gens,s.os,s.drawn,[]⟩) aY (k:=f) (t:=tk) aR J.fx;rw[P7 J.f_ λw=>(rQ.mp J.b0).2.2 _ w _ (.head _) O]at D;haveI B:∀{α} l a (r:List α),(l++[a])++r=l++a::r:=λl a r=>by rw[h2];rfl
   refine hj (aM (λaC hg=>aI aC<|.tail _ hg) av aS (⟨rI J.aT,λi=>J.v (i+1),(B ..).symm▸J.b0,(B ..).symm▸J.dw,by rw[hz,hz,J.f_];rfl,λb o e=>(au.2 b λq=>by clear zz3 q e;exact I.gI o e).trans<|J.K b o e,J.ns.sameBut au I.gG,(au.2 x I.gH).trans J.f',aD,D⟩:BA G μ _ m x C L ox aE c _ h1 _ _ (ks++[f]) (y++[a]))) (λfl s' q=>?_) λaV aV q=>q;refine hv q λaO q=>jK q λaL aT aJ aN e aG aP aQ=>⟨aO,aL,_,_,aN,e,au.trans aG,aP,?_⟩;exact(congr (congrArg _<|B ks f _)<|B y a _).mp aQ
end
end
section
set_option backward.match.sparseCases true
open PySem PySem.W PySem.Calls PyProof.Rows
structure GK (G:Gl)(C f:Nat)(ks:List Nat)(a:lQ)(sn:g9)(c:List g9)(b:List ie):Prop where
 tab:G.T.cm C=U ks
 fJ:makesIn G.K C=H
 init:iO G.K (.ref C) "__init__"=U (U (.ref f))
 fn:oE G.K (.ref f)=U (.type "function")
 at_:k' G f=U a
 bE:a.body=.stmts b
 kind:a.scope.kind=.function
 dL:a.scope.isCoroutine=g
 dM:a.scope.isGenerator=g
 cell:∀x∈a.scope.names,x.2≠ .cell
 L:iF a=sn::c
 nodup:(iF a).Nodup
 j:∀x∈iF a,a.scope.names.lookup x=U .local/\(x==("__debug__":g9))=g
 code:uq G.K a.code a.qualname=H
 co:mX sn c (ks.map G.aH) b=H
 b0:ks.Nodup
 fK:ks.length<=500
set_option tactic.hygienic true in
section
variable{Φ:Fm}{μ:Mu}{ρ:Loc}{st:St}{s:hr}{Q:AV->St->Prop}{E:g7->hr->Prop}{A:iH}
theorem Dy.gc(w:Φ.z)(D:Dy Φ μ ρ st s){od ox}(hs:s.heap.objs.size+1<h'.objs.size)(r:∀a o,s.heap.get? a=U o->h'.get? a=U o)(q:h'.get? s.heap.objs.size=U od)(hx:h'.get? (s.heap.objs.size+1)=U ox):Dy Φ ((μ.bM s.heap.objs.size od).bM (s.heap.objs.size+1) ox) ρ st {s with heap:=h',toks:=t}:=by
 haveI h:Dy Φ μ ρ st {s with heap:=h',toks:=t}:=D.keeps (iN<|Ed hs) r;haveI j:=D.dZ w;haveI k:=D.Y.bk;haveI nm:=λa n m=>jP _<|hy (D.Y.bw a m).2 n;haveI l:=h.Y.bM q k<|nm _<|g' _;haveI i:=D.cH;refine h.e9 ((ib.bM _ _ _).trans<|ib.bM _ _ _) (l.bM hx (jw k) λm=>nm _ (iA _) m) D.bl (λp f=>?_) D.a7 λp f=>?_
 .rcases h7.mp f with b|f;clear zz3 b
  .exact iP<|qH i
  .rcases h7.mp f with c|f;clear zz3 c
   .exact iP i
   .exact D.bz p f
 .rcases h7.mp f with d|f;clear zz3 d
  .exact .inr<|jw j
  .rcases h7.mp f with e|f;clear zz3 e
   .exact .inr j
   .exact D.bb p f
theorem GL(aU:Φ.z)(T:Φ.a.z)(D:Dy Φ μ ρ st s){C f}{ks:List _}{Y}{sn}{M:List _}{w:List ie}(N:GK Φ.a C f ks Y sn M w){aa:List g7}{kw:List (g9×g7)}{j:List g7}{args:List AV}(aQ:ia Φ.a μ j args) (hl:M.length=j.length) (aJ:∀s' x,Φ.a.K.In s'.heap->sV s' Y ⟨x::aa,kw⟩ ((iF Y).zip (x::j))) (room:A.depth<950) (aL:ks.length=args.length) (h:Q (.obj C ks args) st):g8 Φ.q A (kZ (.ref C) aa kw) (PE Φ ρ μ Q) E s:=by
 haveI av:l9 Φ.q A (.call (.ref C) ⟨aa,kw⟩) (λr s'=>match r with| .ok<|.ret v=>PE Φ ρ μ Q v s'| .ok _=>False| .error e=>E e s') s:=by
  haveI aH:=D;obtain⟨l,aC,d,t,os⟩:=s;haveI hK:=D.Y.aV;dsimp only at hK;refine make_core (makes_of hK N.fJ) (rF hK N.init) (λaG=>bind_fn hK _ N.fn) (.inl O) ?_;haveI k2:∀b o,l.get? b=U o->((l.push p0).push<|lh C l.objs.size).get? b=U o:=λb o e=>jT _<|jT _ e;haveI n:=λb o e=>k2 b o<|hK b o e;refine kf λau=>hc (tG N.at_) λof aM y=>au<|zx (lB room (by decide)) (n _ _ aM) y (T.eU _ n) (wx n N.code) N.bE (aJ _ _ n) N.cell (λx hx=>(N.j _ (wy hx).1).1) (λaE G a=>?_) N.dL N.dM N.kind
  .haveI J:=by
    haveI:=n9 (l.push p0) (o:=lh C l.objs.size) O
    rwa [lz]at this
   haveI c:=tF<|T.cls C<|.inr (by rw[N.tab];rfl)
   haveI B:=N.L
   haveI nd:=N.nodup
   rw[B]at nd G
   haveI aD:∀i p v,(sn::M)[i]?=U p->((lA _)::j)[i]?=U v->((sn::M).zip (lA (l.objs.size+1)::j)).reverse.lookup p=U v:=λi p v=>u7 nd
   haveI m:=λp aN=>N.j p (B▸aN)
   haveI I:xQ _ (sY Y _ f) (λx=>((sn::M).zip _).reverse.lookup x) sn _ _ _:=⟨N.kind,rfl,(m sn<|.head _).1,(m sn<|.head _).2,aD 0 sn _ O O,(by rw[lz,lz]:((l.push p0).push<|lh C l.objs.size).objs.size=l.objs.size+2)▸iP (zP (by decide)),zQ _,λo e=>jP _<|it<|hK _ _ e⟩
   refine hj (GJ (E:=λaR aR=>False) (ks:=[]) T I _ (λf aK {_ _ _ _ _} X hx hd hl z k=>GC X ⟨hx,rfl,rfl,hd⟩ rfl c.2.2.2.1 c.2.2.2.2 (u6<|T.eV C ks f<|.inr ⟨N.tab,aK⟩).2 c.2.2.1 hl z k) N.co aQ ⟨hl,λi p v e1 e2=>⟨(m p<|.tail _<|l8 e1).1,(m p<|.tail _<|l8 e1).2,aD (i+1) p v e1 e2⟩,N.b0,N.fK,rfl,λb o e=>a b o<|n b o e,G,a _ _ J,a _ _ (jT _<|n9 l (o:=p0) O),.nil⟩) (λfl s' q=>?_) λe s' q=>q.elim
   .exists au;obtain⟨rfl,aS,tk,aI,aT,rfl,aF,aO,aP⟩:=q
    refine au ⟨rfl,?_⟩
    haveI kk:=λb o e=>(aF.2 b<|iI<|it e).trans<|a _ _<|k2 b o e
    haveI L:=(aF.2 _<|zQ _).trans<|a _ _ J
    exact⟨_,_,_,h,(ib.bM _ _ _).trans<|ib.bM _ _ _,.obj (.head _) (.tail _<|.head _) (aP.aP<|(ib.bM _ _ _).trans<|ib.bM _ _ _) N.tab,(aH.gc aU (t:=tk) (it L) kk aO L)⟩
 exact pV av
end
end
section
noncomputable section
open PySem PySem.W PySem.Calls PyProof.Rows
noncomputable def vA(n:Bool)(b:Bool->Bool)(i:Int->Bool)(s:List Nat->Bool)(v:g7->Bool)(t:List AV->Bool):AV->Bool| .none=>n| .bool x=>b x| .int x=>i x| .str x=>s x| .val x=>v x| .av x=>t x|_=>g
theorem tJ{P:AV->Prop}(h:vA n b i s v t a=H)(k1:n=H->P .none)(k2:∀x,b x=H->P (.bool x))(k3:∀x,i x=H->P (.int x))(d:∀x,s x=H->P (.str x))(k5:∀x,v x=H->P (.val x))(e:∀x,t x=H->P (.av x)):P a:=by cases a<;>first|exact k1 h|exact k2 _ h|exact k3 _ h|exact d _ h|exact k5 _ h|exact e _ h|exact ff h
noncomputable def q0(a:AV):AV->Bool:=a.rec (motive_1:=λb=>AV->Bool) (motive_2:=λb=>List AV->Bool) (vA H hk hk hk hk hk) (λx=>vA g (λy=>x==y) hk hk hk hk) (λx=>vA g hk (λy=>decide (x=y)) hk hk hk) (λx=>vA g hk hk (ha x) hk hk) (λx=>vA g hk hk hk (λy=>x==y) hk) (λb h=>vA g hk hk hk hk h) (λb b b b=>hk) (λb b b b=>hk) (λb=>hk) (λb=>hk) l0 λb b h1 d=>lc λy t=>h1 y&&d t
theorem xR(a):∀b,q0 a b=H->a=b:=a.rec (motive_2:=λl=>∀r,q0 (.av l) (.av r)=H->l=r) (λb h=>tJ h (λd=>rfl) iC iC iC iC iC) (λx b h=>tJ h ff (λy h=>congrArg _<|eq_of_beq h) iC iC iC iC) (λx b h=>tJ h ff iC (λy h=>congrArg _<|of_decide_eq_true h) iC iC iC) (λx b h=>tJ h ff iC iC (λy h=>congrArg _<|of_decide_eq_true<|(u3 x y).symm.trans h) iC iC) (λx b h=>tJ h ff iC iC iC (λy h=>congrArg _<|eq_of_beq h) iC) (λx f b h=>tJ h ff iC iC iC iC λy h=>congrArg _<|f y h) (λd d d d b=>ff) (λd d d d b=>ff) ik ik (λr h=>iY h O) λx l h1 e r h=>lZ h λy t h=>h1 y (f2 h).1▸e t (f2 h).2▸rfl
noncomputable abbrev jp:=List (g9×Option AV)
structure Ck where
 slots:List g9
 fb:g9->Option NameKind
 bA:Bool
 cz:g9->Option AV
 bn:Nat->Option jp
 cl:Nat->Option jp
inductive hY where
 |e (x:ho)
 |aX (d:List ho)
 |aZ (b:jp) (a:List ho) (ah:List pS)
noncomputable def oN(G:Gl)(x:g9)(k:Nat):Bool:=x==G.aH k&&pT k G.bP.length
theorem vf(h:oN G x k=H):x=G.aH k/\k<G.bP.length:=by haveI h:=lT.mp h;exact⟨eq_of_beq h.1,kC h.2⟩
noncomputable def sj(a b:sU):Bool:=decide (b=a)
noncomputable def so(a b:CmpOp):Bool:=decide (b=a)
noncomputable def GN:o4->Bool| .none=>H|_=>g
noncomputable def GO(f:Bool->Bool):o4->Bool| .bool t=>f t|_=>g
theorem P_{P:o4->Prop}{k}(h:GN k=H)(p:P .none):P k:=by induction k<;>first|exact p|exact ff h
theorem P'{P:o4->Prop}(h:GO f k=H)(p:∀b,f b=H->P (.bool b)):P k:=by induction k<;>first|exact p _ h|exact ff h
noncomputable def GP(a:AV)(k:o4):Bool:=match a with| .none=>GN k| .bool a=>GO (λb=>a==b) k| .int a=>uY (λb=>decide (a=b)) k| .str l=>xt (λs=>decide (s=S l)&&kK l.length 1000000) k|_=>g
noncomputable def dA(a:Nat->Bool)(b:AV->Bool)(n:Bool):DE->Bool| .j i=>a i| .aI v=>b v| .ch=>n|_=>g
theorem xS{P:DE->Prop}(h:dA a b n e=H)(k1:∀i,a i=H->P (.j i))(k2:∀v,b v=H->P (.aI v))(k3:n=H->P .ch):P e:=by induction e<;>first|exact ff h|exact k1 _ h|exact k2 _ h|exact k3 h
noncomputable def vg(a:DE)(d:Option AV):Bool:=oB d λy=>dA hk (λx=>q0 x y) g a
section
variable(G:Gl)(c:Ck)
noncomputable def ny(x:g9)(v:g7):Bool:=c.fb x==U .globalImplicit&&x !=("__debug__":g9)&&G.c5 x==U v
noncomputable def l3(x:g9)(v:g7):Bool:=c.fb x==U .globalImplicit&&x !=("__debug__":g9)&&G.c5 x==V&&G.eh x==U v&&qC v
noncomputable def qh(a:List ho)(ah:List pS):Bool:=a.all jE&&ps ah
noncomputable def tE(f:ho->Bool):hY->Bool| .e x=>f x| .aX _=>g| .aZ _ _ _=>g
noncomputable def BB:DE->Bool:=dA hk hk H
noncomputable def Qa:hY->Bool| .e _=>g| .aX d=>l0 d| .aZ b a ah=>l0 b&&l0 a&&l0 ah
end
noncomputable def GQ(c:Ck)(i:Nat)(t:hY):Bool:=tE (j_ λx=>c.slots[i]?==U x&&x !=("__debug__":g9)) t
noncomputable def GR(c:Ck)(a:AV)(t:hY):Bool:=tE (j_ λx=>c.fb x==U .globalImplicit&&x !=("__debug__":g9)&&oB (c.cz x) λb=>q0 b a) t
noncomputable def GS(a:AV)(t:hY):Bool:=tE (λx=>r7 (GP a) x||AL (λo y=>N2 o&&r7 (uY λj=>q0 a (.int (-j))) y) x) t
noncomputable def GU(G:Gl)(e:DE)(k:Nat)(he:hY->Bool)(t:hY):Bool:=tE (mG λo x a=>oN G x k&&kH o&&he (.e o)) t
noncomputable def GV(o:Op)(a:hY->Bool)(b:hY->Bool)(t:hY):Bool:=tE (xq λl op r=>sj (ol o) op&&a (.e l)&&b (.e r)) t
noncomputable def GW(o:Cm)(a:hY->Bool)(b:hY->Bool)(t:hY):Bool:=tE (xr λl os d=>l1 (λop=>l1 (λr=>so (md o) op&&me r&&a (.e l)&&b (.e r)) d) os) t
noncomputable def GX(a:hY->Bool)(b:hY->Bool)(t:hY):Bool:=tE (xr λl os d=>l1 (λop=>N3 op&&l1 (λr=>me r&&a (.e l)&&b (.e r)) d) os) t
noncomputable def GY(o:Cm)(p:Cm)(a:hY->Bool)(b:hY->Bool)(d:hY->Bool)(t:hY):Bool:=tE (xr λl os f=>l2 (λop e=>l2 (λr t=>so (md o) op&&so (md p) e&&me r&&me t&&a (.e l)&&b (.e r)&&d (.e t)) f) os) t
noncomputable def GZ(a:hY->Bool)(b:hY->Bool)(t:hY):Bool:=tE (AM λo d p=>Fo o&&lc (λx=>lc λy r=>a (.e x)&&b (.e (Fp o p y r))) d) t
noncomputable def G0(a:hY->Bool)(b:hY->Bool)(t:hY):Bool:=tE (AM λo d p=>!Fo o&&lc (λx=>lc λy r=>a (.e x)&&b (.e (Fp o p y r))) d) t
noncomputable def G1(a:hY->Bool)(t:hY):Bool:=tE (AL λo x=>N1 o&&a (.e x)) t
noncomputable def G2(d:hY->Bool)(a:hY->Bool)(b:hY->Bool)(u:hY):Bool:=tE (Fi λx y z=>d (.e x)&&a (.e y)&&b (.e z)) u
noncomputable def G3(t:hY):Bool:=Qa t
noncomputable def G4(a:DE)(r:DE)(f:hY->Bool)(d:hY->Bool)(t:hY):Bool:=match t with| .e _=>g| .aX e=>lc (λx e=>jE x&&f (.e x)&&d (.aX e)) e| .aZ b h ah=>lc (λp b=>match h with|x::e=>f (.e x)&&d (.aZ b e ah)|[]=>match ah with|[]=>vg a p.2&&d (.aZ b [] [])|kw::ah=>N4 (λk x i=>if k=p.1 then f (.e x)&&d (.aZ b [] ah)else vg a p.2&&d (.aZ b [] (⟨U k,x,⟨0,0,0,0⟩⟩::ah))) kw) b
noncomputable def G5(a:hY->Bool)(t:hY):Bool:=tE (xs λb=>a (.aX b)) t
noncomputable def G6(a:hY->Bool)(t:hY):Bool:=tE (AN λb=>a (.aX b)) t
noncomputable def G7(t:hY):Bool:=tE AO t
noncomputable def G8(G:Gl)(c:Ck)(f:Nat)(a:hY->Bool)(t:hY):Bool:=tE (k8 λaC b ah e=>j_ (λx=>ny G c x (.ref f)&&qh b ah&&nI G.K (.ref f)&&(!c.bA||G.quiet f)&&oB (c.bn f) λd=>a (.aZ d b ah)) aC) t
noncomputable def G9(G:Gl)(c:Ck)(f:Nat)(e:DE)(he:hY->Bool)(a:hY->Bool)(t:hY):Bool:=tE (k8 λaC d ah aa=>mG (λo x b=>qW G.K G.T.a1 f x&&tD G.bP x&&kH o&&j6 d ah b aa&&nI G.K (.ref f)&&(!c.bA||G.quiet f)&&he (.e o)&&oB (c.bn f) (lc λi h=>a (.aZ h d ah))) aC) t
noncomputable def G_(G:Gl)(c:Ck)(e:DE)(k:Nat)(he:hY->Bool)(t:hY):Bool:=tE (k8 λaC b ah aa=>l0 b&&l0 ah&&mG (λo x a=>!c.bA&&oN G x k&&iO G.K (.ref G.T.a1) x==U V&&kH o&&j6 [] [] a aa&&he (.e o)) aC) t
noncomputable def G'(G:Gl)(f:Nat)(e:DE)(he:hY->Bool)(t:hY):Bool:=tE (mG λo x a=>qW G.K G.T.a1 f x&&tD G.bP x&&kH o&&he (.e o)) t
noncomputable def Ha(G:Gl)(c:Ck)(C:Nat)(a:hY->Bool)(t:hY):Bool:=tE (k8 λaC b ah e=>j_ (λx=>ny G c x (.ref C)&&qh b ah&&nI G.K (.ref C)&&oB (c.cl C) λd=>a (.aZ d b ah)) aC) t
noncomputable def Hb(c:Ck)(i:Nat)(a:hY->Bool)(t:hY):Bool:=tE (k8 λaC b ah d=>l0 ah&&j_ (λx=>c.slots[i]?==U x&&x !=("__debug__":g9)&&a (.aX b)) aC) t
noncomputable def Hc(G:Gl)(c:Ck)(e:DE)(he:hY->Bool)(t:hY):Bool:=tE (k8 λaC a ah b=>l0 ah&&j_ (λx=>l1 (λy=>l3 G c x (.builtin "len")&&jE y&&he (.e y)) a) aC) t
noncomputable def He(G:Gl)(c:Ck)(e:DE)(D:Nat)(he:hY->Bool)(t:hY):Bool:=tE (k8 λaC a ah b=>l0 ah&&j_ (λx=>l2 (λy z=>j_ (λz=>l3 G c x (.builtin "isinstance")&&jE y&&ny G c z (.ref D)&&he (.e y)) z) a) aC) t
noncomputable def Hf(G:Gl)(c:Ck)(e:DE)(he:hY->Bool)(t:hY):Bool:=tE (k8 λaC a ah b=>l0 ah&&j_ (λx=>l2 (λy z=>j_ (λz=>l3 G c x (.builtin "isinstance")&&jE y&&l3 G c z (.type "str")&&he (.e y)) z) a) aC) t
noncomputable def Hg(G:Gl)(c:Ck)(e:DE)(he:hY->Bool)(t:hY):Bool:=tE (k8 λaC a ah b=>l0 ah&&j_ (λx=>l1 (λy=>!c.bA&&l3 G c x (.type "list")&&jE y&&he (.e y)) a) aC) t
noncomputable def Hh(e:DE)(he:hY->Bool)(a:hY->Bool)(t:hY):Bool:=tE (uX λv s=>sd s&&he (.e v)&&a (.e s)) t
noncomputable def Hi(e:DE)(a:DE)(b:DE)(he:hY->Bool)(d:hY->Bool)(f:hY->Bool)(t:hY):Bool:=tE (uX λv s=>Fj (λi h st=>r8 H (λj=>g) st&&he (.e v)&&r8 (BB a) (λx=>d (.e x)) i&&r8 (BB b) (λx=>f (.e x)) h) s) t
noncomputable def Hj(e:DE)(he:hY->Bool)(d:hY->Bool)(t:hY):Bool:=tE (k8 λaC b ah aa=>l0 ah&&mG (λo x a=>l1 (λz=>x==("append":g9)&&kH o&&j6 [z] [] a aa&&he (.e o)&&d (.e z)) b) aC) t
noncomputable def Hk(e:DE)(he:hY->Bool)(d:hY->Bool)(t:hY):Bool:=tE (k8 λaC b ah aa=>l0 ah&&mG (λo x a=>l1 (λz=>x==("extend":g9)&&kH o&&j6 [z] [] a aa&&he (.e o)&&d (.e z)) b) aC) t
noncomputable def Hl(e:DE)(he:hY->Bool)(t:hY):Bool:=tE (k8 λaC b ah aa=>l0 ah&&mG (λo x a=>l0 b&&x==("pop":g9)&&kH o&&j6 [] [] a aa&&he (.e o)) aC) t
noncomputable def Hm(e:DE)(he:hY->Bool)(t:hY):Bool:=tE (k8 λaC b ah aa=>l0 ah&&mG (λo x a=>l1 (λz=>r7 (uY λj=>decide (j=0)) z&&x==("pop":g9)&&kH o&&j6 [z] [] a aa&&he (.e o)) b) aC) t
noncomputable def Hn(e:DE)(he:hY->Bool)(d:hY->Bool)(f:hY->Bool)(t:hY):Bool:=tE (k8 λaC b ah aa=>l0 ah&&mG (λo x a=>l2 (λu z=>x==("insert":g9)&&kH o&&j6 [u,z] [] a aa&&he (.e o)&&d (.e u)&&f (.e z)) b) aC) t
noncomputable def Ho(l:List Nat)(e:DE)(he:hY->Bool)(t:hY):Bool:=tE (k8 λaC b ah aa=>l0 ah&&mG (λo x a=>r7 (xt λt=>l1 (λz=>kH o&&x==("join":g9)&&decide (t=S l)&&kK l.length 16&&j6 [z] [] a aa&&he (.e z)) b) o) aC) t
noncomputable def Hp(l:List Nat)(e:DE)(he:hY->Bool)(t:hY):Bool:=tE (xq λf o r=>Fn o&&r7 (xt λt=>decide (t=S l)&&he (.e r)) f) t
noncomputable def ke(G:Gl)(c:Ck)(s:DE):hY->Bool:=DE.rec (motive:=λd=>hY->Bool)
 (j:=λi=>GQ c i)
 (cW:=λa=>GR c a)
 (aI:=λa=>GS a)
 (cD:=λe k he=>GU G e k he)
 (a0:=λo d d j m=>GV o j m)
 (Q:=λo d d j m=>GW o j m)
 (ew:=λd d j m=>GX j m)
 (cb:=λo p d d d j m t=>GY o p j m t)
 (and:=λd d j m=>GZ j m)
 (or:=λd d j m=>G0 j m)
 (not:=λd j=>G1 j)
 (cc:=λd d d x j m=>G2 x j m)
 (nil:=G3)
 (cons:=λa r j w=>G4 a r j w)
 (av:=λd j=>G5 j)
 (m:=λd j=>G6 j)
 (dict:=λ_=>G7)
 (call:=λf d h=>G8 G c f h)
 (bX:=λf e d he h=>G9 G c f e he h)
 (eL:=λe k he=>G_ G c e k he)
 (a9:=λf e he=>G' G f e he)
 (new:=λC d h=>Ha G c C h)
 (et:=λi d h=>Hb c i h)
 (len:=λe he=>Hc G c e he)
 (cP:=λe D he=>He G c e D he)
 (eM:=λe he=>Hf G c e he)
 (J:=λe he=>Hg G c e he)
 (sub:=λe d he q=>Hh e he q)
 (cd:=λe a b he j m=>Hi e a b he j m)
 (aD:=λe d he n=>Hj e he n)
 (ext:=λe d he n=>Hk e he n)
 (cn:=λe he=>Hl e he)
 (eu:=λe he=>Hm e he)
 (ev:=λe d d he q n=>Hn e he q n)
 (join:=λl e he=>Ho l e he)
 (ci:=λl e he=>Hp l e he)
 (aE:=λd=>g)
 (ch:=λd=>g)
 (ex:=λd d d d=>g)
 (dK:=λd d d d=>g)
 (ey:=λd d d d=>g) s
theorem jr{P:hY->Prop}(h:tE f t=H)(k:∀x,f x=H->P (.e x)):P t:=by induction t with|e x=>exact k x h|aX=>exact iG h|aZ=>exact iG h
end
end
section
open PySem PySem.W PySem.Calls PyProof.Rows
class inductive j3 (G:Gl):List (g9×Option g7)->jp->Prop
 |nil:j3 G [] []
 |none {x:g9} {b:List (g9×Option g7)} {c:jp}:j3 G b c->j3 G ((x,V)::b) ((x,V)::c)
 |some {x:g9} {v:g7} {a:AV} {b:List (g9×Option g7)} {c:jp}:(∀μ,RelV G μ v a)->j3 G b c->j3 G ((x,U v)::b) ((x,U a)::c)
noncomputable def j3.fF(G:Gl)(c:List (g9×Option g7)):jp->Prop|[]=>True|p::b=>∃w a,c=(p.1,w)::a/\(p.2=hR->w=hR)/\j3 G a b
theorem j3.aO(h:j3 G b a):j3.fF G b a:=by induction h with|nil=>trivial|none r=>exact⟨_,_,rfl,λc=>rfl,r⟩|some _ r=>exact⟨_,_,rfl,λe=>hH e.symm,r⟩
theorem j3.cq{b:jp}(h:j3 G c (p::b)){B:Prop}(k:∀w a,c=(p.1,w)::a->(p.2=hR->w=hR)->j3 G a b->B):B:=i0 h.aO k
theorem j3.gJ{c:jp}(h:j3 G e ((x,zs a)::c)){B:Prop}(k:∀v b,e=(x,zs v)::b->(∀μ,RelV G μ v a)->j3 G b c->B):B:=by cases h with|some d r=>exact k _ _ O d r
theorem j3.len(h:j3 G b c):b.length=c.length:=by induction h with|nil=>rfl|none _ a=>exact congrArg _ a|some _ _ a=>exact congrArg _ a
structure qi (G:Gl)(f:Nat)(a:lQ)(D:List g7)(b:jp):Prop where
 at_:k' G f=U a
 d0:a.params.posonlyargs=[]
 d1:a.params.kwonlyargs=[]
 d2:a.params.vararg=V
 d3:a.params.kwarg=V
 d4:Bi G a=U D
 c8:D.length<=(iF a).length
 b0:(iF a).Nodup
 cy:j3 G (lp a D) b
section
variable{M:oz}{A:iH}{E:g7->hr->Prop}{s:hr}{ae:j8}
theorem Hq{a}{R:α->d->hr->Prop}(h:g8 M A (pure a) (λv s=>g8 M A t (R v) E s) E s):g8 M A t (R a) E s:=λc p b=>h c p b c p b
theorem tK{K}{aa}{f}{first}{c}{ah:List _}{Q:g7->hr->Prop}(e:nI K f=H)(h1:c.all jE=H)(d:ps ah=H)(h:g8 M A (spliced<|nb aa<|mA c ae) (λi b=>g8 M A (evalAll<|(nc aa<|nH ah ae).map (·.2)) (λks a=>K.In a.heap/\g8 M A (kZ f (first++i)<|(nv ah).zip ks) Q E a) E b) E s):g8 M A (wB aa f first (nb aa<|mA c ae)<|nc aa<|nH ah ae) Q E s:=i5 (u9 (ae:=ae) (aa:=aa) d) λj k2 j=>o' (by rw[qY h1,k2];rfl) (keeps_K e)<|qg h1 d h
end
section
variable{Φ:Fm}{μ:Mu}{ρ:Loc}{st:St}{s:hr}{Q:AV->St->Prop}{X:h5->St->Prop}{A:iH}
noncomputable def PA(Φ:Fm)(ρ:Loc)(μ:Mu)(c:List (g9×Option g7))(n:Nat)(a:List g9)(P:List AV->St->Prop)(b ks:List g7)(s:hr):Prop:=b.length=n/\ks.length=a.length/\∃af l ac,P l ac/\ib μ af/\ia Φ.a af (fill c b (a.zip ks)) l/\Dy Φ af ρ ac s
noncomputable def TP(P:AV->Bool->St->Prop)(b:Bool)(st:St):Prop:=∃y,nS st y=U b/\P y b st
theorem xT(h:kr a st<|P a):kr a st<|TP P:=by unfold kr at h ⊢;induction e:nS st a with|none=>rw[e]at h;exact h.elim|some b=>rw[e]at h;exact h_ a e h
noncomputable def Good(Φ:Fm)(c:Ck)(d:Nat)(e:DE):hY->Prop
 | .e x=>(∀μ ρ st s Q X,Dy Φ μ ρ st s->WE Φ.a.T (i6 Φ.a d) e ρ st Q X->g8 Φ.q Φ.C (eval x Φ.r) (PE Φ ρ μ Q) (PX Φ ρ X) s)/\
  ∀μ ρ st s P X,Dy Φ μ ρ st s->WE Φ.a.T (i6 Φ.a d) e ρ st (λy st=>kr y st (P y)) X->g8 Φ.q Φ.C (isTrue x Φ.r (eval x Φ.r)) (PB Φ ρ μ (TP P)) (PX Φ ρ X) s
 | .aX i=>i.all jE=H/\∀μ ρ st s P X aa,Dy Φ μ ρ st s->WE Φ.a.T (i6 Φ.a d) e ρ st (λy st=>nk y st P) X->g8 Φ.q Φ.C (spliced (nb aa (mA i Φ.r))) (PL Φ ρ μ P) (PX Φ ρ X) s| .aZ j f ah=>∀h,j3 Φ.a h j->f.all jE=H->ps ah=H->jl (kO h) f.length (nv ah)=H/\∀μ ρ st s P X aa,Dy Φ μ ρ st s->WE Φ.a.T (i6 Φ.a d) e ρ st (λy st=>nk y st P) X->
  g8 Φ.q Φ.C (spliced (nb aa (mA f Φ.r))) (λk a=>g8 Φ.q Φ.C (evalAll ((nc aa (nH ah Φ.r)).map (·.2))) (λks b=>PA Φ ρ μ h f.length (nv ah) P k ks b) (PX Φ ρ X) a) (PX Φ ρ X) s
theorem kg(l:Φ.a.z){d}{e}{x}(m:Gb x=H)(h:∀μ ρ st s Q X,Dy Φ μ ρ st s->WE Φ.a.T (i6 Φ.a d) e ρ st Q X->g8 Φ.q Φ.C (eval x Φ.r) (PE Φ ρ μ Q) (PX Φ ρ X) s):Good Φ c d e<|.e x:=by refine⟨h,λμ ρ st s P X D w=>?_⟩;refine isTrue_plain (hj (h μ ρ st s _ X D w) (λv f q=>?_) λb b q=>q)<|(qX x _).2.2.2.2.2.2.2 m _;.obtain⟨af,a,ac,k,j,n,i⟩:=q;exact hj (sf l i n<|xT k) (λb b q=>q.up j) λb b q=>q
theorem BC{R:g7->Sem _}(h1:g8 Φ.q A (eval x Φ.r) (PE Φ ρ μ P) E s) (f:∀af v a st s',ib μ af->RelV Φ.a af v a->P a st->Dy Φ af ρ st s'->g8 Φ.q A (R v) (PE Φ ρ af Q) E s'):g8 Φ.q A (eval x Φ.r) (λv b=>g8 Φ.q A (R v) (PE Φ ρ μ Q) E b) E s:=by refine hj h1 (λv b q=>?_) λc c q=>q;obtain⟨af,a,ac,k,d,h,e⟩:=q;exact hj (f _ v a _ _ d h k e) (λc c q=>q.up d) λc c q=>q
end
end
section
open PySem PySem.W PySem.Calls PyProof.Rows
noncomputable def sr(G:Gl)(C:Nat)(e:jp):Prop:=∃f ks b sn h a D,GK G C f ks b sn h a/\qi G f b D ((sn,V)::e)/\e.length=ks.length
structure Cx (Φ:Fm)(c:Ck)(d:Nat):Prop where
 go:Φ.a.z
 ok:Φ.z
 c9:Φ.slots=c.slots
 fc:∀x,Φ.r.kindOf x=c.fb x
 room:oM Φ.C d
 gd:Φ.C.handled=V\/c.bA=H
 cz:∀x a,c.cz x=U a->∃v,Φ.a.c5 x=U v/\∀μ,RelV Φ.a μ v a
 bn:∀f b,c.bn f=U b->∃e D,qi Φ.a f e D b
 cl:∀C b,c.cl C=U b->sr Φ.a C b
 eX:∀C,(Φ.a.T.cm C).isSome=H->∃b,sr Φ.a C b/\nI Φ.a.K (.ref C)=H
 bW:∀f h,Φ.a.T.bW f=U h->fnIn Φ.a.K f=H/\∃e D sn b,qi Φ.a f e D ((sn,V)::b)/\b.map (·.2)=h.map U
 dx:c.bA=g->Φ.C.handled=V
 ci:∀A E Q s f l t u,Φ.a.T.dV f l=H->(∀r i k,r.length<=1000000->Q (.str (S r) i) {s with toks:=k})->g8 Φ.q A (rB .Mod (.str (S f) t) (.str (S l) u)) Q E s
theorem Hr:∀{a},b.length=a.length->fill b a []=a:=by
 induction b with
 |nil=>intro a h;induction a with|nil=>rfl|cons=>cases h
 |cons p b e=>
  intro a h;induction a with
  |nil=>cases h
  |cons v a=>exact congrArg _<|e<|rI h
theorem Hs:∀{n},a.length=n->jl a n []=true:=by induction a with|nil=>intro n h;clear zz3 (Eq.symm h);rfl|cons p a b=>intro n h;clear zz3 (Eq.symm h);exact b O
section
variable{Φ:Fm}{c:Ck}{d:Nat}{A:iH}
theorem tL(h:(x !=("__debug__":g9))=H):(x==("__debug__"))=false:=by simpa using h
theorem BD{ρ:Loc}{i:Nat}{F:AV->Prop}(w:match ρ[i]? with
 |some<|U a=>F a|_=>False):∃a,ρ[i]?=U (U a)/\F a:=by
 revert w
 cases ρ[i]? with|none=>exact o6|some o=>induction o with|none=>exact o6|some a=>exactλw=>⟨a,rfl,w⟩
theorem Qb{ρ:Loc}{i:Nat}{F:Nat->Prop}(w:match ρ[i]? with
 |some<|U<|.val (.ref D)=>F D|_=>False):∃D,ρ[i]?=U (U<|.val<|.ref D)/\F D:=by
 revert w
 cases ρ[i]? with|none=>exact o6|some o=>induction o with
  |none=>exact o6|some a=>cases a with
   |val v=>induction v with|ref D=>exactλw=>⟨D,rfl,w⟩|_=>exact o6
   |_=>exact o6
theorem Qc(C:Cx Φ c d)(h:(c.slots[i]?==U x&&x !=("__debug__":g9))=H):Good Φ c d (.j i)<|.e<|.Name x aa:=by rw[iX]at h;exact kg C.go O λμ ρ st s Q X D w=>hc (BD w) λa=>AX C.ok D (by rw[C.c9];exact beq_iff_eq.mp h.1)<|tL h.2
theorem Qd(C:Cx Φ c d){a b}(h1:c.fb x=U .globalImplicit)(f:(x !=("__debug__"))=H)(e:c.cz x=U b)(h:q0 b a=H):Good Φ c d (.cW a)<|.e<|.Name x aa:=by refine hc (C.cz x b e) λv k1 k2=>?_;haveI:=xR _ _ h;subst this;exact kg C.go O λμ ρ st s Q X D=>Oj C.ok D (by rw[C.fc];exact h1) (tL f) k1<|k2 μ
theorem Qe(C:Cx Φ c d)(h:GP a k=H):Good Φ c d (.aI a)<|.e<|.Constant k n aa:=by refine kg C.go O λμ ρ st s Q X D w=>?_;haveI w':Q a st:=w;exists f;clear w;cases a with|none=>exact f<|P_ (P:=λk=>g8 _ _ (eval (.Constant k n _) _) _ _ s) h<|Ol D w'|bool b=>exact f<|P' (P:=λk=>g8 _ _ (eval (.Constant k n _) _) _ _ s) h λj e=>Om D (eq_of_beq e▸w')|int i=>exact f<|xw (P:=λk=>g8 _ _ (eval (.Constant k n _) _) _ _ s) h λj e=>On D (of_decide_eq_true e▸w')|str l=>exact f<|AW (P:=λk=>g8 _ _ (eval (.Constant k n _) _) _ _ s) h λj e=>Oo D (of_decide_eq_true (f2 e).1) (kC (f2 e).2) w'|_=>exact ff h
theorem Qf(C:Cx Φ c d)(h1:(oN Φ.a x k&&kH o)=H)(i:Good Φ c d e<|.e o):Good Φ c d (.cD e k)<|.e<|.Attribute o x aa:=by rw[iX]at h1;refine hv (vf h1.1) λb h=>?_;subst b;exact kg C.go O λμ ρ st s Q X D w=>Gv h1.2<|BC (i.1 μ ρ st s _ X D w) λaf v a ac s' j r k f=>Gg C.go f h r k
theorem BE(h:sj (ol o) op=H):op=ol o:=of_decide_eq_true h
theorem BF(h:so (md o) op=H):op=md o:=of_decide_eq_true h
theorem Qg(C:Cx Φ c d)(h:sj (ol o) op=H)(t:Good Φ c d a<|.e l)(z:Good Φ c d b<|.e r):Good Φ c d (.a0 o a b)<|.e<|.BinOp l op r aa:=by haveI:=BE h;subst this;refine kg C.go O λμ ρ st s Q X D w=>Ee<|xy (P:=λx y st=>xl o x y st Q) ?_ λaf v u x y ac s' E e B k j=>PG C.ok j e B k;.refine hj (t.1 μ ρ st s _ X D w) (λv f q=>?_) λI I q=>q;obtain⟨af,x,ac,k,p,e,m⟩:=q;exact⟨_,x,_,λi G J n=>z.1 _ ρ _ _ _ X n k,p,e,m⟩
theorem tM{st}(f:Φ.a.z)(D:Dy Φ μ ρ st s)(a:RelV Φ.a μ v x)(b:RelV Φ.a μ u y)(h:tA Φ.a.T o Q x y st):g8 Φ.q A (o7 (md o) v u) (PE Φ ρ μ Q) E s:=NH h λe=>Pj f D a b
theorem vh(h:me e=H):behindInMarks op e=false:=(qX e default).2.2.2.2.2.2.1 h op
theorem Qh(C:Cx Φ c d)(h:(so (md o) op&&me r)=H)(J:Good Φ c d a<|.e l)(L:Good Φ c d b<|.e r):Good Φ c d (.Q o a b)<|.e<|.Compare l [op] [r] aa:=by
 rw[iX]at h;haveI:=BF h.1;subst this;haveI j:∀μ ρ st s (P:AV->AV->St->Prop) X (R:g7->g7->Sem _) Q,Dy Φ μ ρ st s->WE _ _ a ρ st _ X->(∀af v u x y st s',ib μ _->RelV _ _ v x->RelV _ _ u y->P x y st->Dy Φ _ ρ st s'->g8 _ Φ.C (R v u) (PE Φ ρ _ Q) (PX Φ ρ X) s')->g8 _ Φ.C (eval l _) (λv f=>g8 _ _ (eval r _) _ _ _) (PX Φ ρ X) s:=by
  refineλμ ρ st s P X R Q D w=>xy<|hj (J.1 μ ρ st s _ X D w) (λv f q=>?_) λe e q=>q
  obtain⟨af,x,ac,k,p,i,n⟩:=q
  exact⟨_,x,_,λG M T I=>L.1 _ ρ _ _ _ X I k,p,i,n⟩
 refine⟨λμ ρ st s Q X D w=>wpAny_Compare1 (j μ ρ st s _ X _ Q D w λaf v u x y ac s' E i t k m=>tM C.go m i t k)<|vh h.2,λμ ρ st s P X D w=>Mw (hj (j μ ρ st s _ X _ (λy st=>kr y st _) D w λaf v u x y ac s' E i t k m=>tM C.go m i t k) (λv f q=>hj q (λu z q=>hj q (λx B q=>?_) λe e q=>q) λe e q=>q) λe e q=>q)<|vh h.2⟩;obtain⟨af,Y,ac,k,p,i,n⟩:=q;exact hj (sf C.go n i<|xT k) (λe e q=>q.up p) λe e q=>q
theorem Ht(a:me t=H):lastMarks [o,p] [r,t]=false:=vh a
theorem oO(h:lX b P R):(b=H/\P)\/(b=g/\R):=by induction b with|true=>exact .inl ⟨rfl,h⟩|false=>exact .inr ⟨rfl,h⟩
theorem Qi(C:Cx Φ c d){l r t}(h:(so (md o) op&&so (md p) aR&&me r&&me t)=H)(i1:Good Φ c d a<|.e l)(aN:Good Φ c d b<|.e r)(aO:Good Φ c d e<|.e t):Good Φ c d (.cb o p a b e)<|.e<|.Compare l [op,aR] [r,t] aa:=by
 haveI h:=f2 h;haveI aC:=f2 h.1;haveI f:=f2 aC.1;clear aC;cases BF f.1;cases BF f.2;refine⟨λμ ρ st s Q X D w=>Compare_chain (hj (i1.1 μ ρ st s _ X D w) (λv I q=>?_) λi i q=>q)<|Ht h.2,λμ ρ st s P X D w=>isTrue_chain (hj (i1.1 μ ρ st s _ X D w) (λv I q=>?_) λi i q=>q)<|Ht h.2⟩
 .obtain⟨aJ,x,aF,k1,n,aD,T⟩:=q;refine chain_link<|hj (aN.1 _ ρ _ _ _ X T k1) (λu J q=>?_) λi i q=>q;obtain⟨aK,y,aG,k2,j,E,Y⟩:=q;refine hj (tM C.go Y (aD.aP j) E k2) (λz L q=>?_) λi i q=>q;obtain⟨aL,aU,aH,k3,k,G,m⟩:=q;refine Fd k3 λb0 e k3=>?_;clear zz3 e G;cases FN G;refine D7 ?_;cases b0 with
  |true=>refine chain_last<|hj (aO.1 _ ρ _ _ _ X m k3) (λv4 M q=>?_) λi i q=>q;obtain⟨aM,aV,aI,av,B,aE,au⟩:=q;exact hj (tM C.go au ((E.aP k).aP B) aE av) (λi i q=>q.up<|(n.trans j).trans<|k.trans B) λi i q=>q
  |false=>exact PE.up ((n.trans j).trans k)<|.mk k3 (.bool _) m
 .obtain⟨aJ,x,aF,k1,n,aD,T⟩:=q;refine test_link<|hj (aN.1 _ ρ _ _ _ X T k1) (λu J q=>?_) λi i q=>q;obtain⟨aK,y,aG,k2,j,E,Y⟩:=q;refine hj (tM C.go Y (aD.aP j) E k2) (λz L q=>?_) λi i q=>q;obtain⟨aL,aU,aH,k3,k,G,m⟩:=q;refine Fd k3 λb0 e k3=>?_;clear zz3 e G;cases FN G;refine D7 ?_;cases b0 with
  |true=>refine test_last<|hj (aO.1 _ ρ _ _ _ X m k3) (λv4 M q=>?_) λi i q=>q;obtain⟨aM,aV,aI,av,B,aE,au⟩:=q;refine hj (tM C.go au ((E.aP k).aP B) aE av) (λx5 aX q=>?_) λi i q=>q;obtain⟨aW,z5,aT,k5,aQ,aS,aP⟩:=q;exact hj (sf C.go aP aS<|xT k5) (λi i q=>q.up<|((n.trans j).trans<|k.trans B).trans aQ) λi i q=>q
  |false=>exact PB.up ((n.trans j).trans k)<|.mk ⟨_,rfl,k3⟩ m
end
end
section
open PySem PySem.W PySem.Calls PyProof.Rows
section
variable{Φ:Fm}{c:Ck}{d:Nat}{A:iH}
theorem Hu{st}(h:kr a st P)(e:nS st a=U b):P b st:=by unfold kr at h;rw[e]at h;exact h
theorem Qj(C:Cx Φ c d){a b}{x y}{r:List _}{aa:lg}(J:Good Φ c d a<|.e x)(o:match r with|[]=>Good Φ c d b<|.e y|_=>Good Φ c d b<|.e<|.BoolOp .And (y::r) aa):Good Φ c d (.and a b)<|.e<|.BoolOp .And (x::y::r) aa:=by
 have m:(∀μ ρ st s Q X,Dy Φ μ ρ st s->WE Φ.a.T (i6 Φ.a d) b ρ st Q X->g8 Φ.q Φ.C (eval (.BoolOp .And (y::r) aa) Φ.r) (PE Φ ρ μ Q) (PX Φ ρ X) s)/\ ∀μ ρ st s P X e,Dy Φ μ ρ st s->WE Φ.a.T (i6 Φ.a d) b ρ st (λy st=>kr y st<|P y) X->g8 Φ.q Φ.C (isTrue (.BoolOp .And (y::r) aa) Φ.r e) (PB Φ ρ μ<|TP P) (PX Φ ρ X) s:=by
  induction r with
  |nil=>refine⟨λμ ρ st s Q X D w=>BoolOp_one<|o.1 μ ρ st s Q X D w,λμ ρ st s P X e D w=>isTrue_and<|hj (o.2 μ ρ st s P X D w) (λT i q=>?_) λf f q=>q⟩;induction T with|true=>exact isTrue_and_nil q|false=>exact q
  |cons z r=>exact⟨o.1,λμ ρ st s P X e=>o.2 μ ρ st s P X⟩
 refine⟨λμ ρ st s Q X D w=>BoolOp_and<|hj (J.1 μ ρ st s _ X D w) (λv i q=>?_) λf f q=>q,λμ ρ st s P X D w=>isTrue_and<|hj (J.2 μ ρ st s _ X D w) (λt i q=>?_) λf f q=>q⟩
 .exists j;obtain⟨E,x1,B,k1,l,L,n⟩:=q;refine j<|hj (sf C.go n L k1) (λt M q=>?_) λf f q=>q;refine kf λj=>i0 q λau Y k2 p G=>?_;rcases oO k2 with⟨rfl,k⟩|⟨rfl,k⟩
  .exact j<|hj (m.1 _ ρ _ _ Q X G k) (λf f q=>q.up<|l.trans p) λf f q=>q
  .exact j<|PE.up (l.trans p)<|.mk k (L.aP p) G
 .refine kf λj=>i0 q λE B h l n=>?_;clear q;refine hc h λx1 I k1=>?_;clear h;rcases oO k1 with⟨rfl,k⟩|⟨rfl,k⟩
  .exact j<|hj (m.2 _ ρ _ _ P X _ n k) (λf f q=>q.up l) λf f q=>q
  .exact j<|PB.up l<|.mk ⟨x1,I,Hu k I⟩ n
theorem Qk(C:Cx Φ c d){a b}{x y}{r:List _}{aa:lg}(J:Good Φ c d a<|.e x)(o:match r with|[]=>Good Φ c d b<|.e y|_=>Good Φ c d b<|.e<|.BoolOp .Or (y::r) aa):Good Φ c d (.or a b)<|.e<|.BoolOp .Or (x::y::r) aa:=by
 have m:(∀μ ρ st s Q X,Dy Φ μ ρ st s->WE Φ.a.T (i6 Φ.a d) b ρ st Q X->g8 Φ.q Φ.C (eval (.BoolOp .Or (y::r) aa) Φ.r) (PE Φ ρ μ Q) (PX Φ ρ X) s)/\ ∀μ ρ st s P X e,Dy Φ μ ρ st s->WE Φ.a.T (i6 Φ.a d) b ρ st (λy st=>kr y st<|P y) X->g8 Φ.q Φ.C (isTrue (.BoolOp .Or (y::r) aa) Φ.r e) (PB Φ ρ μ<|TP P) (PX Φ ρ X) s:=by
  induction r with
  |nil=>refine⟨λμ ρ st s Q X D w=>BoolOp_one<|o.1 μ ρ st s Q X D w,λμ ρ st s P X e D w=>isTrue_or<|hj (o.2 μ ρ st s P X D w) (λT i q=>?_) λf f q=>q⟩;induction T with|true=>exact q|false=>exact isTrue_or_nil q
  |cons z r=>exact⟨o.1,λμ ρ st s P X e=>o.2 μ ρ st s P X⟩
 refine⟨λμ ρ st s Q X D w=>BoolOp_or<|hj (J.1 μ ρ st s _ X D w) (λv i q=>?_) λf f q=>q,λμ ρ st s P X D w=>isTrue_or<|hj (J.2 μ ρ st s _ X D w) (λt i q=>?_) λf f q=>q⟩
 .exists j;obtain⟨E,x1,B,k1,l,L,n⟩:=q;refine j<|hj (sf C.go n L k1) (λt M q=>?_) λf f q=>q;refine kf λj=>i0 q λau Y k2 p G=>?_;rcases oO k2 with⟨rfl,k⟩|⟨rfl,k⟩
  .exact j<|PE.up (l.trans p)<|.mk k (L.aP p) G
  .exact j<|hj (m.1 _ ρ _ _ Q X G k) (λf f q=>q.up<|l.trans p) λf f q=>q
 .refine kf λj=>i0 q λE B h l n=>?_;clear q;refine hc h λx1 I k1=>?_;clear h;rcases oO k1 with⟨rfl,k⟩|⟨rfl,k⟩
  .exact j<|PB.up l<|.mk ⟨x1,I,Hu k I⟩ n
  .exact j<|hj (m.2 _ ρ _ _ P X _ n k) (λf f q=>q.up l) λf f q=>q
theorem Ql(C:Cx Φ c d)(o:Good Φ c d a<|.e x):Good Φ c d (.not a)<|.e<|.UnaryOp .Not x aa:=⟨λμ ρ st s Q X D w=>UnaryOp_<|BC (o.1 μ ρ st s _ X D w) λaf v a ac s' i r k p=>not_of<|hj (sf C.go p r k) (λb h q=>(i0 q λn m k2 l j=>PE.up l<|.mk k2 (.bool _) j)) λi i q=>q,λμ ρ st s P X D w=>isTrue_not<|hj (o.2 μ ρ st s (λx r=>P _ _) X D w) (λb h q=>(kf λt=>i0 q λn m f l j=>hc f λy e k2=>t<|PB.up l<|.mk ⟨_,rfl,k2⟩ j)) λi i q=>q⟩
theorem Qm(C:Cx Φ c d)(I:Good Φ c d t<|.e x)(J:Good Φ c d a<|.e y)(L:Good Φ c d b<|.e z):Good Φ c d (.cc t a b)<|.e<|.IfExp x y z aa:=by
 refine⟨λμ ρ st s Q X D w=>IfExp_<|hj (I.2 μ ρ st s _ X D w) (λr B q=>?_) λe e q=>q,λμ ρ st s P X D w=>isTrue_IfExp<|hj (I.2 μ ρ st s _ X D w) (λr B q=>?_) λe e q=>q⟩
 .refine kf λl=>i0 q λG E m p o=>hc m λe e k1=>?_;rcases oO k1 with⟨i,k⟩|⟨j,k⟩;clear zz3 i l;rotate_left 1;clear zz3 j l;rotate_right 1
  .exact l<|hj (J.1 _ ρ _ _ Q X o k) (λe e q=>q.up p) λe e q=>q
  .exact l<|hj (L.1 _ ρ _ _ Q X o k) (λe e q=>q.up p) λe e q=>q
 .refine kf λl=>i0 q λG E n p o=>hc n λe e k1=>?_;rcases oO k1 with⟨f,k⟩|⟨h,k⟩;clear zz3 f l;rotate_left 1;clear zz3 h l;rotate_right 1
  .exact l<|hj (J.2 _ ρ _ _ P X o k) (λe e q=>q.up p) λe e q=>q
  .exact l<|hj (L.2 _ ρ _ _ P X o k) (λe e q=>q.up p) λe e q=>q
theorem Qn:Good Φ c d .nil<|.aX []:=⟨rfl,λμ ρ st s P X aa D w=>pa ⟨μ,_,st,w,ib.refl μ,.nil,D⟩⟩
theorem Qo(h:jE x=H)(p:Good Φ c d a<|.e x)(i:Good Φ c d r<|.aX C):Good Φ c d (.cons a r)<|.aX (x::C):=by refine⟨by rw[rL,h,i.1];rfl,λμ ρ st s P X aa D w=>pb (hj (p.1 μ ρ st s _ X D w) (λv j q=>?_) λe e q=>q)<|om h⟩;exists b;obtain⟨E,x1,z,k1,o,t,m⟩:=q;refine b<|hj (i.2 _ ρ _ _ (λl=>P _) X _ m k1) (λI k q=>?_) λe e q=>q;exists b;obtain⟨G,l,B,k2,f,y,n⟩:=q;exact b<|pi _ _ _ k2 (o.trans f) (.cons (t.aP f) y) n
theorem Qp(C:Cx Φ c d){a}{aa}(n:Good Φ c d a<|.aX r):Good Φ c d (.av a)<|.e<|.Tuple r k aa:=by refine kg C.go O λμ ρ st s Q X D w=>wpAny_Tuple<|hj (n.2 μ ρ st s _ X _ D w) (λp b q=>?_) λt t q=>q;refine kf λm=>lV q λe l o k1 j h i=>hv (pt k1) λz k1=>m ⟨by rw[h.len];exact mh z,?_⟩;haveI f:=ib.bM e b.heap.objs.size ({cls:=.type "tuple",data:=.seq p.toArray});exact⟨_,_,_,k1,j.trans f,.av (.inl<|.head _) (h.aP f) z,i.eQ C.ok O⟩
theorem Qq(C:Cx Φ c d)(j:Good Φ c d a<|.aX m):Good Φ c d (.m a)<|.e<|.List m aa:=by refine kg C.go O λμ ρ st s Q X D w=>wpAny_List<|hj (j.2 μ ρ st s _ X _ D w) (λp e q=>?_) λn n q=>q;exact kf λi=>lV q λo l k k1 h b f=>hv (pt k1) λz k1=>i ⟨by rw[b.len];exact mh z,PE.up h<|f.newList C.ok b z k1⟩
theorem Qr(C:Cx Φ c d):Good Φ c d (.dict b)<|.e<|.Dict [] [] aa:=kg C.go O λμ ρ st s Q X D w=>wpAny_Dict_empty<|D.gF C.ok w
theorem Qs:Good Φ c d .nil<|.aZ [] [] []:=by intro b a _ _;cases a;exact⟨rfl,λμ ρ st s P X aa D w=>pa<|p1 ⟨rfl,rfl,μ,_,st,w,ib.refl μ,.nil,D⟩⟩
theorem Qt(C:Good Φ c d a<|.e x)(E:Good Φ c d r<|.aZ M av ah):Good Φ c d (.cons a r)<|.aZ (p::M) (x::av) ah:=by intro i z hx y;rw[iX]at hx;refine z.cq λw0 i e b B=>?_;subst e;obtain⟨G,I⟩:=E i B hx.2 y;refine⟨G,λμ ρ st s P X aa D w=>pb (hj (C.1 μ ρ st s _ X D w) (λv j q=>?_) λb b q=>q)<|om hx.1⟩;exists f;obtain⟨aD,x1,Y,k1,t,Q,n⟩:=q;refine f<|hj (I _ ρ _ _ (λl=>P _) X _ n k1) (λvs k q=>hj q (λks m q=>?_) λb b q=>q) λb b q=>q;exists f;obtain⟨J,L,aE,l,au,k2,h,T,o⟩:=q;exact f ⟨congrArg _ J,L,_,_,_,k2,t.trans h,.cons (Q.aP h) T,o⟩
theorem Qu(E:Good Φ c d a<|.e x)(G:Good Φ c d r<|.aZ M [] ah):Good Φ c d (.cons a r)<|.aZ ((k,dv)::M) [] (⟨U k,x,kp⟩::ah):=by
 intro b B hx i;haveI j:ps ah=true:=by unfold ps at i;rw[iX]at i;exact i.2
 refine B.cq λz b e f C=>?_;subst e;obtain⟨I,J⟩:=G b C O j;refine⟨?_,λμ ρ st s P X aa D w=>pa ?_⟩;.show jl _ 0 _=H;exact(if_pos O).trans I
 .show g8 _ _ (evalAll ((do let v <-eval x _;standAt _;pure v)::(nc _ _).map _)) _ _ _;refine wpAny_evalAll_cons<|hw<|hj (E.1 μ ρ st s _ X D w) (λv n q=>hw (pZ (ip ?_))) λf f q=>q;exists h;obtain⟨av,x1,Y,k1,y,Q,p⟩:=q;refine h<|hj (Hq<|J _ ρ _ _ (λl=>P _) X _ p k1) (λks o q=>?_) λf f q=>q;exists h;obtain⟨n1,L,aD,l,au,k2,m,T,t⟩:=q;refine h ⟨rfl,congrArg _ L,_,_,_,k2,y.trans m,?_,t⟩;rw[show fill ((k,z)::b) [] ((k,v)::(nv _).zip ks)=v::fill b _ _ from if_pos O];exact .cons (Q.aP m) T
theorem Qv(h:vg a b=H):∃x,a=.aI x/\b=U x:=(j1 h λy e h=>xS (P:=λa=>∃x,a=.aI x/\b=U x) h iC (λv h=>⟨y,congrArg _<|xR _ _ h,e⟩) ff)
theorem Hv(C:vg a Y=H)(h:∀k x i m,ah=⟨U k,x,i⟩::m->k≠p)(aE:Good Φ c d r<|.aZ aG [] ah):Good Φ c d (.cons a r)<|.aZ ((p,Y)::aG) [] ah:=by
 refineλj av hx o=>hc (Qv C) λx b f=>?_;clear C;subst b;subst f;refine j3.gJ av λv j e E aD=>?_;subst e
 .refine hv (aE j aD O o) λt I=>?_;haveI L:jl (kO ((p,U v)::j)) 0 (nv ah)=true:=by
   induction ah with|nil=>exact t|cons k0 m=>
    obtain⟨n,y,i⟩:=k0;induction n with
    |none=>cases o
    |some n=>exact(if_neg<|h n y i m O).trans t
  refine⟨L,λμ ρ st s P X aa D w=>?_⟩;refine pa<|hj (Hq<|I μ ρ st s _ X _ D w) (λks M q=>?_) λaI aI q=>q;obtain⟨n1,J,aJ,l,aH,k2,T,B,Q⟩:=q;refine⟨rfl,J,_,_,_,k2,T,?_,Q⟩;haveI G:∀k u z,(nv ah).zip ks=(k,u)::z->k≠p:=by
   intro k u z e;clear J L I t;cases ah with
   |nil=>cases e
   |cons k0 m=>
    obtain⟨n,y,i⟩:=k0;induction n with
    |none=>cases o
    |some n=>
     exists au;cases ks with
     |nil=>cases e
     |cons k1 ks=>cases e;exact au<|h _ y i m O
  generalize (nv _).zip ks=aF at B G ⊢;induction aF with|nil=>exact .cons (E _) B|cons q z=>obtain⟨k,u⟩:=q;rw[show fill ((p,U v)::j) [] ((k,u)::z)=v::fill j _ _ from if_neg<|G k u z O];exact .cons (E _) B
end
end
section
open PySem PySem.W PySem.Calls PyProof.Rows
section
variable{Φ:Fm}{c:Ck}{d:Nat}{A:iH}
theorem xU:∀{a:List g9} {ks:List g7},ks.length=a.length->(a.zip ks).map (·.1)=a:=by intro a ks h;rw[Ma ((im h.symm))]
theorem tN(C:Cx Φ c d){st}(h:ny Φ.a c x v=H)(D:Dy Φ μ ρ st s)(q:Q v s):g8 Φ.q A (eval (.Name x aa) Φ.r) Q E s:=by unfold ny at h;simp only[iX,beq_iff_eq]at h;exact kf λf=>hv h λa e=>hv a λh1 b=>f<|zq C.ok.kind (by rw[C.fc];exact h1) (loadGlobal_global (C.ok.b8 _ D.Y.aV) e q)<|tL b
theorem xV(C:Cx Φ c d){st}(h:l3 Φ.a c x v=H)(D:Dy Φ μ ρ st s)(q:Q v s):g8 Φ.q A (eval (.Name x aa) Φ.r) Q E s:=by unfold l3 at h;simp only[iX,beq_iff_eq]at h;exact kf λe=>hv h λa f=>hv a λa b=>e<|zq C.ok.kind (by rw[C.fc];exact(a.1.1)) (DO (C.ok.b8 _ D.Y.aV) (a.2) (C.ok.b9 _ D.Y.aV) b q)<|tL (a.1.2)
theorem xW(C:Cx Φ c d)(h:(!c.bA||Φ.a.quiet f)=H):Φ.C.handled=V\/Φ.a.quiet f=true:=by
 rcases C.gd with h1|h1
 .exact .inl h1
 .rw[h1]at h;exact .inr (by simpa using h)
theorem Qw(C:Cx Φ c d){f:Nat}(h1:ny Φ.a c x (.ref f)=H)(b:qh i ah=H)(o:nI Φ.a.K (.ref f)=H)(p:(!c.bA||Φ.a.quiet f)=H)(r:c.bn f=U j)(t:Good Φ c d args<|.aZ j i ah):Good Φ c d (.call f args)<|.e<|.Call (.Name x T) i ah aa:=by rw[iX]at b;exists h;obtain⟨M,L,au⟩:=C.bn f j r;obtain⟨y,z⟩:=t _ au.cy b.1 b.2;refine h<|kg C.go O λμ ρ st s Q X D w=>Call_ O<|tN C h1 D<|tK o b.1 b.2 (hj (z μ ρ st s _ X _ D w) (λY k q=>hj q (λks m q=>?_) λa a q=>q) λa a q=>q);exists h;obtain⟨B,E,J,l,I,k2,n,G,e⟩:=q;refine h ⟨e.Y.aV,?_⟩;exact hj (F8 C.ok e C.room (xW C p) au.at_ G (qe au.d0 au.d1 au.d2 au.d3 au.c8 (qf e.Y.aV au.d4) au.b0 (by rw[B,xU E];exact y)) k2) (λa a q=>q.up n) λa a q=>q
theorem BG{st}(D:Dy Φ μ ρ st s)(r:RelV Φ.a μ v<|.mut .L):∃x b ks a e n,v=.ref x/\μ.L=U (x,b)/\st.L=U (ks,a)/\iV Φ.a μ e ks a/\InstAt s.heap x (lh Φ.a.T.a1 b) Φ.a.T.a1 (U<|ji e n):=by
 refine Nf λt o=>jC r.f8 λx b i f=>?_
 .obtain⟨ks,a,q⟩:∃ks a,st.L=U (ks,a):=by
   induction q:st.L with
   |none=>rw[D.Y.cG q]at f;cases f
   |some p=>exact rV p.1 p.2 O
  refine kf λm=>jK (D.Y.c7 ks a q) λw h e n h1 j k l=>?_
  rw[f]at h1
  cases h1
  exact m<|o x b ks a e n i f q l<|xI D j k
theorem Qx(C:Cx Φ c d){f}{L:jp}(hm:qW Φ.a.K Φ.a.T.a1 f x=H)(hx:tD Φ.a.bP x=H)(aG:kH o=H)(J:j6 E ah h aa=H)(aD:nI Φ.a.K (.ref f)=H) (aE:(!c.bA||Φ.a.quiet f)=H) (aF:c.bn f=U (aW::L)) (aJ:Good Φ c d e<|.e o) (aK:Good Φ c d args<|.aZ L E ah):Good Φ c d (.bX f e args)<|.e<|.Call (.Attribute o x h) E ah aa:=by
 haveI ff:=si (ae:=Φ.r) J;refine jj (C.bn f _ aF) λG y aY=>aY.cy.cq λw0 p j b aH=>kf λi=>hv (aK p aH ff.2.1 ff.2.2.1) λaL aM=>?_;unfold qW at hm;simp only[iX,beq_iff_eq,sW]at hm;obtain⟨c1,c2,c3,c4,c5⟩:=tF<|C.go.cls _<|.inl O;refine i<|kg C.go O λμ ρ st s Q X D w=>MethodCall_ aG J<|hj (aJ.1 μ ρ st s _ X D w) (λv T q=>?_) λb b q=>q;exists i;obtain⟨aT,a,aR,k1,av,M,k⟩:=q;obtain⟨rfl,k1⟩:=AG k1;obtain⟨t,dx,pk,aP,aO,aX,rfl,aV,aI,n,I⟩:=BG k M;refine i λpl=>method_fn k.Y.aV I c1 c2 (hm.1.1.1.1.1) (beq_iff_eq.mp (hm.1.1.1.1.2)) ?_ ?_;.show(lookIn x _).map _=U _;rw[lookIn_dict,F1 (FT hx) n];rfl
 .refine tK aD ff.2.1 ff.2.2.1<|hj (aM _ ρ _ _ _ X _ k k1) (λr Y q=>hj q (λks au q=>?_) λb b q=>q) λb b q=>q;exists i;obtain⟨n1,aN,aU,l,aS,k2,z,aQ,m⟩:=q;refine i ⟨m.Y.aV,?_⟩;haveI ok:jl (kO<|lp G y) (lA t::r).length (((nv _).zip ks).map _)=true:=by rw[j,xU aN];show jl (kO p) _ _=H;rw[n1];exact aL
  haveI B:=qe aY.d0 aY.d1 aY.d2 aY.d3 aY.c8 (qf m.Y.aV aY.d4) aY.b0 ok;rw[(by rw[j];rfl:fill (lp G y) (lA t::r) _=lA t::fill p r ((nv ah).zip ks))]at B;exact hj (F8 C.ok m C.room (xW C aE) aY.at_ (.cons (M.aP z) aQ) B k2) (λb b q=>q.up<|av.trans z) λb b q=>q
theorem Qy(C:Cx Φ c d){f}{e}{o}{x}{aa}(hm:qW Φ.a.K Φ.a.T.a1 f x=H)(hx:tD Φ.a.bP x=H)(h:kH o=H)(i:Good Φ c d e<|.e o):Good Φ c d (.a9 f e)<|.e<|.Attribute o x aa:=kg C.go O λμ ρ st s Q X D w=>Gv h<|BC (i.1 μ ρ st s _ X D w) λaf v a ac s' j r k b=>PZ C.ok b r hx hm (C.go.cls _<|.inl O) k
theorem Qz{G}{μ}{e:List (g9×Option _)}{f}{b:List AV}(r:j3 G e f)(h:f.map (·.2)=b.map U):jl (kO e) 0 []=H/\ia G μ (fill e [] []) b:=by
 induction r generalizing b with
 |nil=>induction b with|nil=>exact⟨rfl,.nil⟩|cons=>cases h
 |none r=>
  induction b with
  |nil=>cases h
  |cons a b=>cases h
 |some j r k=>
  cases b with
  |nil=>cases h
  |cons a b=>
   injection h with h1 i
   cases h1;exact hv (k i) λk1 k2=>⟨k1,.cons (j μ) k2⟩
theorem QA{b:jp}(h:j3 G f ((x,V)::b)){B:Prop}(k:∀q a,f=q::a->j3 G a b->B):B:=(h.cq λw a e i=>k _ _ e)
theorem QB(C:Cx Φ c d)(aI:(!c.bA)=H)(hx:oN Φ.a x k=H)(aF:iO Φ.a.K (.ref Φ.a.T.a1) x=U V)(aG:kH o=H)(aD:j6 [] [] i aa=H)(aK:Good Φ c d e<|.e o):Good Φ c d (.eL e k)<|.e<|.Call (.Attribute o x i) [] [] aa:=by
 exists f;obtain⟨rfl,aE⟩:=vf hx;obtain⟨c1,c2,c3,c4,c5⟩:=tF<|C.go.cls _<|.inl O;refine f<|kg C.go O λμ ρ st s Q X D w=>MethodCall_ aG aD<|hj (aK.1 μ ρ st s _ X D w) (λv b q=>?_) λG G q=>q;exists f;obtain⟨aQ,a,aP,k1,L,E,h⟩:=q;refine xj k1 λks vs Y p k1=>jU k1 λr hl k1=>Ny k1 λfm er k1=>jU k1 λM hm k5=>?_;subst Y er;obtain⟨xa,dx,pk,aO,aN,aR,rfl,aH,m,n,I⟩:=BG h E;cases p.symm.trans m;refine f λpl=>kf λf=>hv (u6<|C.go.eV Φ.a.T.a1 [] k<|.inl ⟨rfl,aE⟩) λau G=>hc au λt fa fn=>hc (xD C.go n hl) λu g1 y=>f<|method_usual h.Y.aV I c1 c2 aF O<|get_value h.Y.aV I c1 (DV c3 fa fn g1) (A6 y)<|kf λf=>oI y.aO λaV aW T eu h1 av=>?_;subst eu;cases aH.symm.trans av;obtain⟨m1,fd,J,sn,aS,aX,m2⟩:=C.bW fm M hm;refine f<|QA aX.cy λaU aT j aJ=>kf λf=>?_;obtain⟨aL,aM⟩:=Qz aJ m2;haveI l:=(h.Y.t _ h1).1;refine f<|o' O (keeps_M m1)<|evalArgs_nil3 ⟨⟨l,h.Y.aV⟩,?_⟩;haveI ok:jl (kO<|lp fd J) [lA xa].length (([]:List (g9×g7)).map (·.1))=true:=by rw[j];exact aL
 haveI B:=qe (s:={b with toks:=b.toks+1}) aX.d0 aX.d1 aX.d2 aX.d3 aX.c8 (qf h.Y.aV aX.d4) aX.b0 ok;rw[j]at B;exact pV<|method_call l<|wz (A_ C.ok (h.toks (b.toks+1)) C.room (.inl (C.dx (by simpa using aI))) aX.at_ (.cons (E) aM) B k5) λr s' z=>by induction r with|error e=>exact z|ok fl=>induction fl with|ret v=>exact PE.up L z|_=>exact z.elim
end
end
section
open PySem PySem.W PySem.Calls PyProof.Rows
section
variable{Φ:Fm}{c:Ck}{d:Nat}{A:iH}
theorem BH{a:jp}(j:qi G f h D ((sn,V)::a)):∃b,lp h D=(sn,V)::b/\j3 G b a:=(j.cy.cq λw i e z r=>⟨_,by rw[e,z O],r⟩)
theorem BI(h:D.length<=(iF a).length):(lp a D).length=(iF a).length:=by rw[<-Bf a h,ig]
theorem BJ:∀{e} {kw},(fill a e kw).length=a.length:=by
 induction a with|nil=>intros;rfl|cons p a b=>intro e kw;cases e with
  |cons v e=>exact congrArg (· +1) b|nil=>cases kw with
   |nil=>exact congrArg (· +1) b|cons q kw=>
    show(if q.1=p.1 then q.2::fill a _ kw else p.2.getD _::fill a _ (q::kw)).length=_;by_cases z:q.1=p.1;.rw[if_pos z];exact congrArg (· +1) b
    .rw[if_neg z];exact congrArg (· +1) b
theorem QC(C:Cx Φ c d){st}(N:sr Φ.a m M)(D:Dy Φ μ ρ st s)(w:ks.length=a.length)(j:∀e,j3 Φ.a e M->jl (kO e) i.length a=H/\ia Φ.a μ (fill e i<|a.zip ks) l) (h:tx Φ.a.T m l st Q):g8 Φ.q Φ.C (kZ (.ref m) i<|a.zip ks) (PE Φ ρ μ Q) E s:=by
 refine kf λt=>nh N λf T q k=>jj k λsn L k=>i0 k λn p N Y o=>hc (BH Y) λe b y=>hv (j e y) λz G=>?_;unfold tx at h;rw[N.tab]at h;refine hv h λh1 r=>?_;haveI J:L.length=(fill e i<|a.zip ks).length:=by rw[BJ];haveI:=BI Y.c8;rw[b,N.L]at this;simpa using this.symm
 refine t<|GL C.ok C.go D N G J (λs' x hK=>?_) (pW (rX C.room.1) (by decide)) h1 r;haveI I:jl (kO<|lp q p) (x::i).length ((a.zip ks).map _)=true:=by rw[b,xU w];exact z
 haveI B:=qe Y.d0 Y.d1 Y.d2 Y.d3 Y.c8 (qf hK Y.d4) Y.b0 I;rw[b]at B;exact B
theorem QD(C:Cx Φ c d){i:Nat}(h1:ny Φ.a c x (.ref i)=H)(a:qh t ah=H)(au:nI Φ.a.K (.ref i)=H)(av:c.cl i=U G)(E:Good Φ c d args<|.aZ G t ah):Good Φ c d (.new i args)<|.e<|.Call (.Name x np) t ah aa:=by
 rw[iX]at a;exists j;obtain⟨f,kk,Y,sn,aF,r,M,k,aK,y⟩:=(C.cl i G av);obtain⟨aG,b,z⟩:=BH aK;obtain⟨_,aD⟩:=E _ z a.1 a.2;refine j<|kg C.go O λμ ρ st s Q X D w=>Call_ O<|tN C h1 D<|tK au a.1 a.2 (hj (aD μ ρ st s _ X _ D w) (λL I q=>hj q (λks J q=>?_) λh h q=>q) λh h q=>q);exists j;obtain⟨n1,aE,aJ,l,aI,k2,T,aH,p⟩:=q;refine j ⟨p.Y.aV,?_⟩;haveI B:=(E _ z a.1 a.2).1;rw[<-n1]at B;refine hj (?_:g8 _ _ _ (PE Φ ρ _ Q) (PX Φ ρ X) _) (λh h q=>q.up T) λh h q=>q;haveI e:=k2;unfold tx at e;rw[k.tab]at e;exists j;obtain⟨m,n⟩:=e;haveI pl:aF.length=(fill _ L<|(nv ah).zip ks).length:=by rw[BJ];haveI:=BI aK.c8;rw[b,k.L]at this;simpa using this.symm
 refine j<|GL C.ok C.go p k aH pl (λs' x hK=>?_) (pW (rX C.room.1) (by decide)) m n;haveI ok:jl (kO<|lp Y M) (x::L).length (((nv _).zip ks).map _)=true:=by rw[b,xU aE];exact B
 haveI o:=qe aK.d0 aK.d1 aK.d2 aK.d3 aK.c8 (qf hK aK.d4) aK.b0 ok;rw[b]at o;exact o
theorem QE(C:Cx Φ c d)(h:(c.slots[i]?==U x&&x !=("__debug__":g9))=H)(z:Good Φ c d args<|.aX T):Good Φ c d (.et i args)<|.e<|.Call (.Name x np) T [] aa:=by
 rw[iX]at h;refine kg C.go O λμ ρ st s Q X D w=>hc (Qb w) λo e w=>?_
 .refine Call_ O<|hj (AX (Q:=λa ac=>a=.val (.ref o)/\ac=st) C.ok D (by rw[C.c9];exact beq_iff_eq.mp h.1) (tL h.2) e ⟨rfl,rfl⟩) (λv E q=>?_) λj j q=>q;exists y;obtain⟨aG,a0,aE,⟨rfl,rfl⟩,J,aD,I⟩:=q;clear zz3 aD.aO.1 y
  .rcases oO w with⟨au,w⟩|⟨_,w⟩
   .refine hc (C.eX o au) λaK N m=>y<|tK m z.1 O<|hj (z.2 _ ρ _ _ _ X _ I w) (λvs G q=>?_) λj j q=>q;refine lV q λaH l aF k1 L B p=>p1 ⟨p.Y.aV,?_⟩;refine hj (QC C N p O (λav Y=>?_) k1) (λj j q=>q.up<|J.trans L) λj j q=>q;refine nh N λf kk fd n=>jj n λsn aJ n=>i0 n λr aI M aL k=>?_;haveI b:=k1;unfold tx at b;rw[M.tab]at b;haveI t:av.length=vs.length:=by rw[Y.len,B.len,<-b.1,k]
    exact⟨Hs (by rw[ig];exact t),by rw[Hr t];exact B⟩
   .exact w.elim
end
end
section
open PySem PySem.W PySem.Calls PyProof.Rows
section
variable{Φ:Fm}{c:Ck}{d:Nat}{A:iH}
theorem BK(ae:j8)(h:j6 b [] a aa=H):b.all jE=true:=(si (ae:=ae) h).2.1
theorem Hw(C:Cx Φ c d){l}{b}{P:AV->St->(AV->St->Prop)->Prop}(t:l3 Φ.a c l b=H)(j:jE y=H)(a:∃k,(k=zR\/k=zS\/k=zT)/\∀h,ob Φ.q h (zU b) k) (B:Good Φ c d e<|.e y) (i:∀ρ st Q X,WE Φ.a.T (i6 Φ.a d) p ρ st Q X->WE Φ.a.T (i6 Φ.a d) e ρ st (λx st=>P x st Q) X)(h:∀μ ρ st s v x Q X,Dy Φ μ ρ st s->RelV Φ.a μ v x->P x st Q->g8 Φ.q Φ.C (kZ b [v]) (PE Φ ρ μ Q) (PX Φ ρ X) s):Good Φ c d p<|.e<|.Call (.Name l J) [y] [] aa:=by exists r;obtain⟨k,z,L⟩:=a;refine r<|kg C.go O λμ ρ st s Q X D w=>Call_ O<|xV C t D<|o' (P:=λf=>True) (by rw[qY (by rw[rL,j];rfl)];rfl) (λh f=>⟨k,z,L h⟩) (qg (by rw[rL,j];rfl) O (pb (hj (B.1 μ ρ st s _ X D (i ρ st Q X w)) (λv m q=>?_) λf f q=>q) (om j)));obtain⟨I,x,G,k1,o,E,n⟩:=q;refine pa<|p1 ⟨trivial,?_⟩;exact hj (h _ ρ _ _ v x Q X n E k1) (λf f q=>q.up o) λf f q=>q
theorem Hx:∃k,(k=zR\/k=zS\/k=zT)/\∀h,ob M h (zU<|.builtin i) k:=⟨.machine,.inr<|.inl O,λa=>.now⟩
theorem BL:∃k,(k=zR\/k=zS\/k=zT)/\∀h,ob M h (zU<|.type i) k:=⟨.machine,.inr<|.inl O,λa=>.now⟩
theorem QF(C:Cx Φ c d){e}{b}(f:l3 Φ.a c b (.builtin "len")=H)(h:jE y=H)(i:Good Φ c d e<|.e y):Good Φ c d (.len e)<|.e<|.Call (.Name b j) [y] [] aa:=Hw C f h Hx i (λa a a a w=>w) λμ ρ st s v x Q X D r k=>PH D r k
theorem QG(C:Cx Φ c d){e}{b}{y}{k aa}(i:(!c.bA)=H)(f:l3 Φ.a c b (.type "list")=H)(h:jE y=H)(j:Good Φ c d e<|.e y):Good Φ c d (.J e)<|.e<|.Call (.Name b k) [y] [] aa:=Hw C f h BL j (λa a a a w=>w) λμ ρ st s v x Q X D=>PI C.ok C.go D<|C.dx (by simpa using i)
theorem Hy(C:Cx Φ c d){m z}{J f aa}{P:AV->St->(AV->St->Prop)->Prop}(r:l3 Φ.a c m (.builtin "isinstance")=H)(l:jE y=H)(I:Good Φ c d e<|.e y)(b:∀ρ st Q X,WE Φ.a.T (i6 Φ.a d) p ρ st Q X->WE Φ.a.T (i6 Φ.a d) e ρ st (λx st=>P x st Q) X)(G:∀μ ρ st s Q E,Dy Φ μ ρ st s->Q t s->g8 Φ.q Φ.C (eval (.Name z f) Φ.r) Q E s)(h:∀μ ρ st s v x Q X,Dy Φ μ ρ st s->RelV Φ.a μ v x->P x st Q->g8 Φ.q Φ.C (kZ (.builtin "isinstance") [v,t]) (PE Φ ρ μ Q) (PX Φ ρ X) s):Good Φ c d p<|.e<|.Call (.Name m J) [y,.Name z f] [] aa:=by
 obtain⟨k,B,L⟩:=Hx;haveI j:[y,ho.Name z f].all jE=true:=by rw[rL,l];rfl
 refine kg C.go O λμ ρ st s Q X D w=>Call_ O<|xV C r D<|o' (P:=λa=>True) (by rw[qY j];rfl) (λh a=>⟨k,B,L h⟩) (qg j O (pb (hj (I.1 μ ρ st s _ X D (b ρ st Q X w)) (λv n q=>?_) λa a q=>q) (om l)));obtain⟨Y,x,T,k1,o,M,i⟩:=q;refine pb (G _ ρ _ _ _ _ i<|pa<|p1 ⟨trivial,?_⟩) O;exact hj (h _ ρ _ _ v x Q X i M k1) (λa a q=>q.up o) λa a q=>q
theorem QH(C:Cx Φ c d){b:Nat}{f z}(h:l3 Φ.a c f (.builtin "isinstance")=H)(i:jE y=H)(j:ny Φ.a c z (.ref b)=H)(k:Good Φ c d e<|.e y):Good Φ c d (.cP e b)<|.e<|.Call (.Name f l) [y,.Name z m] [] aa:=Hy C h i k (λa a a a w=>w) (λμ ρ st s Q E=>tN C j) λμ ρ st s v x Q X=>PV C.go
theorem QI(C:Cx Φ c d){b z}{y}{l m aa}(f:l3 Φ.a c b (.builtin "isinstance")=H)(h:jE y=H)(i:l3 Φ.a c z (.type "str")=H)(j:Good Φ c d e<|.e y):Good Φ c d (.eM e)<|.e<|.Call (.Name b l) [y,.Name z m] [] aa:=Hy C f h j (λa a a a w=>w) (λμ ρ st s Q E=>xV C i) λμ ρ st s v x Q X D r k=>PW D r k
theorem QJ(C:Cx Φ c d)(hs:sd s'=H)(n:Good Φ c d e<|.e v)(o:Good Φ c d i<|.e s'):Good Φ c d (.sub e i)<|.e<|.Subscript v s' aa:=by refine kg C.go O λμ ρ st s Q X D w=>Subscript_<|xy ?_ λaf v u x y ac s' E a p k h=>Pp C.go h hs a p k;refine hj (n.1 μ ρ st s _ X D w) (λv b q=>?_) λt t q=>q;obtain⟨af,x,ac,k,m,a,j⟩:=q;exact⟨_,x,_,λf r z l=>o.1 _ ρ _ _ _ X l k,m,a,j⟩
noncomputable def vi(Φ:Fm)(c:Ck)(d:Nat)(a:DE)(b:Option ho):Prop:=match b with|U x=>Good Φ c d a (.e x)|V=>a=.ch
theorem Hz{b}(h:vi Φ c d a b){st}(D:Dy Φ μ ρ st s)(w:WE Φ.a.T (i6 Φ.a d) a ρ st Q X):g8 Φ.q Φ.C (evalPart b Φ.r) (PE Φ ρ μ Q) (PX Φ ρ X) s:=by induction b with|some x=>exact h.1 μ ρ st s Q X D w|none=>have:=h;exists e;subst this;exact e<|Mx<|.mk w .none D
theorem QK(C:Cx Φ c d){m l}(E:Good Φ c d e<|.e v)(G:vi Φ c d a m)(I:vi Φ c d b l):Good Φ c d (.cd e a b)<|.e<|.Subscript v (.Slice m l V sp) aa:=by refine kg C.go O λμ ρ st s Q X D w=>Subscript_<|hj (E.1 μ ρ st s _ X D w) (λo n q=>?_) λf f q=>q;obtain⟨av,x,T,k1,B,J,t⟩:=q;refine wpAny_Slice<|hj (Hz G t k1) (λu p q=>?_) λf f q=>q;obtain⟨aD,i,Y,k2,k,L,y⟩:=q;refine hj (Hz I y k2) (λw' r q=>?_) λf f q=>q;obtain⟨aE,j,au,k3,h,M,z⟩:=q;exact Mx<|hj (PT C.ok z ((J.aP k).aP h) (L.aP h) M k3) (λf f q=>q.up<|(B.trans k).trans h) λf f q=>q
theorem xX{st}{s}{j}(f:Slot "list" name j)(i:typeOf (.builtin j)=pure (.type "method_descriptor"))(D:Dy Φ μ ρ st s)(r:RelV Φ.a μ v<|.mut m)(k:st.cell m=U (.m l))(h:Q (.builtin j,[v]) s):g8 Φ.q Φ.C (getMethod v name p) Q E s:=by refine hc (qZ r<|sg D k) λa b hm=>?_;subst b;exact mV (vd D hm k) λq n c1 c2 c3 o=>getMethod_builtin ⟨_,c1,rfl⟩ PySem.F.plainAttrs_list f i (λa e=>by cases e;exact h_ _ c1 O) h
theorem HA(C:Cx Φ c d){r}(j:Slot "list" name r)(p:typeOf (.builtin r)=pure (.type "method_descriptor")){W:AV->AV->St->(AV->St->Prop)->Prop}(au:kH o=H)(E:j6 [z] [] i aa=H)(i1:Good Φ c d e<|.e o)(av:Good Φ c d y<|.e z)(n:∀ρ st Q X,WE Φ.a.T (i6 Φ.a d) T ρ st Q X->WE Φ.a.T (i6 Φ.a d) e ρ st (λa st=>tz a st<|WE Φ.a.T (i6 Φ.a d) y ρ st (λb st=>W a b st Q) X) X)(h:∀μ ρ st s v u x b Q X,Dy Φ μ ρ st s->RelV Φ.a μ v x->RelV Φ.a μ u b->W x b st Q->g8 Φ.q Φ.C (kZ (.builtin r) [v,u]) (PE Φ ρ μ Q) (PX Φ ρ X) s):Good Φ c d T<|.e<|.Call (.Attribute o name i) [z] [] aa:=by haveI k:=BK Φ.r E;refine kg C.go O λμ ρ st s Q X D w=>MethodCall_ au E<|hj (i1.1 μ ρ st s _ X D<|n ρ st Q X w) (λv I q=>?_) λf f q=>q;obtain⟨aG,x,aE,k1,M,G,t⟩:=q;refine r3 k1 λm l e Y k1=>?_;subst e;refineλpl=>xX j p t G Y<|o' (P:=λf=>True) (by rw[qY k];rfl) (λh f=>⟨_,.inr<|.inl O,.now⟩)<|qg k O<|pb (hj (av.1 _ ρ _ _ _ X t k1) (λu J q=>?_) λf f q=>q) (om (by rw[iX]at k;exact k.1));obtain⟨aH,b,aF,k2,B,aD,L⟩:=q;refine pa<|p1 ⟨trivial,?_⟩;exact hj (h _ ρ _ _ v u _ b Q X L (G.aP B) aD k2) (λf f q=>q.up<|M.trans B) λf f q=>q
theorem QL(C:Cx Φ c d){e y}(i:kH o=H)(h:j6 [z] [] a aa=H)(j:Good Φ c d e<|.e o)(k:Good Φ c d y<|.e z):Good Φ c d (.aD e y)<|.e<|.Call (.Attribute o "append" a) [z] [] aa:=HA C Mi PySem.F.type_list_append i h j k (λf f f f w=>w) λμ ρ st s v u x b Q X=>Pt
theorem QM(C:Cx Φ c d){e y}(i:kH o=H)(h:j6 [z] [] a aa=H)(j:Good Φ c d e<|.e o)(k:Good Φ c d y<|.e z):Good Φ c d (.ext e y)<|.e<|.Call (.Attribute o "extend" a) [z] [] aa:=HA C Mj PySem.F.type_list_extend i h j k (λf f f f w=>w) λμ ρ st s v u x b Q X=>Pu
end
end
section
open PySem PySem.W PySem.Calls PyProof.Rows PyProof.V PySem.Spec
mutual
noncomputable def oP:AV->PyData| .none=>.none| .bool b=>.bool b| .int i=>.int i| .str l=>.str (S l)| .av l=>.tuple (mI l)|_=>.none
noncomputable def mI:List AV->List PyData|[]=>[]|a::r=>oP a::mI r
end
noncomputable def QN:AV->Bool| .none=>H| .bool _=>H| .int _=>H| .str _=>H| .av _=>H|_=>g
theorem vj{P:Prop}{a}(h:kG n a=H)(e:QN a=g):P:=by cases a<;>first|exact iG e|(cases n<;>exact ff h)
theorem AV.fL{P:Nat->AV->Prop}{R:Nat->List AV->Prop}(h0:∀n,P n .none)(h1:∀n b,P n<|.bool b)(f:∀n i,P n<|.int i)(k:∀n l,l.all (pT · 1114112)=H->P n (.str l))(p:∀n l,R n l->P (n+1) (.av l))(o:∀n,R n [])(m:∀n a l,P n a->R n l->R n (a::l))(a):∀n,kG n a=H->P n a:=
 AV.rec (motive_2:=λl=>∀n,l.all (kG n)=H->R n l) (λn e=>h0 n) (λb n e=>h1 n b) (λi n e=>f n i) (λl n h=>k n l (by cases n<;>exact h)) (λe e h=>vj h O) (λl q n h=>by
  cases n with|zero=>exact ff h|succ n=>exact p n l<|q n h) (λe e e e e h=>vj h O) (λe e e e e h=>vj h O) (λe e h=>vj h O) (λe e h=>vj h O) (λn e=>o n) (λa l i j n h=>haveI h:=f2 h
  m n a l (i n h.1)<|j n h.2) a
section
variable{Φ:Fm}{μ:Mu}{ρ:Loc}{st:St}{s:hr}
theorem BM(D:Dy Φ μ ρ st s){a}(n)(r:RelV Φ.a μ v a)(h:kG n a=H):∃k,Reads s.heap v (oP a) k:=AV.fL (P:=λf a=>∀v,RelV _ μ v a->∃k,Reads _ v (oP a) k) (R:=λf l=>∀w,ia _ μ w l->∃k,ReadsAll _ w _ k) (λf f r=>r.aO▸⟨_,Reads.none⟩) (λf b f r=>r.aO▸⟨_,Reads.bool b⟩) (λf i f r=>hE r.aO λt e=>e▸⟨_,Reads.int i t⟩) (λf l f f r=>hc r.aO λt e f=>e▸⟨_,Reads.str _ t⟩) (λf l A f r=>lV r.aO λa w n e hx x f=>hE (A w x) λk q=>jB (xz D hx) λo h1 y h=>hE h λm z=>e▸⟨k,reads_tuple_at h1 y z q⟩) (λf f r=>by cases r;exact⟨_,My⟩) (λf a l i j f r=>by cases r with|cons r x=>exact hE (i _ r) λk q=>hE (j _ x) λbs p=>⟨_,Mz q p⟩) a n h v r
theorem HB(D:Dy Φ μ ρ st s){l}(n)(r:ia Φ.a μ e l):(∀a∈l,kG n a=H)->∃b,ReadsAll s.heap e (mI l) b:=ia.ad (C:=λe l=>(∀a∈l,kG n a=H)->∃b,ReadsAll _ e (mI l) b) (λh=>⟨_,My⟩) (λr h j k=>hE (BM D n r<|k _<|.head _) λb q=>hE (j λa f=>k a<|.tail _ f) λbs p=>⟨_,Mz q p⟩) r
end
theorem HC(p:(oP a).canLay0=H/\(oP a).depth<=n)(q:wM (mI r)=H/\wN (mI r)<=n):wM (mI (a::r))=H/\wN (mI (a::r))<=n:=⟨lT.mpr ⟨p.1,q.1⟩,Nat.max_le.mpr ⟨p.2,q.2⟩⟩
theorem HD:∀a n,kG n a=H->(oP a).canLay0=H/\(oP a).depth<=n:=AV.fL (R:=λn l=>wM _=H/\wN _<=n) (λb=>⟨rfl,jd _⟩) (λb b=>⟨rfl,jd _⟩) (λb b=>⟨rfl,jd _⟩) (λb l h=>⟨by show(S l).cps.all _=H;rw[<-Array.all_toList];exact mC.mpr λx hx=>decide_eq_true<|kC<|mC.mp h x hx,jd _⟩) (λb b h=>⟨h.1,lC h.2⟩) (λb=>⟨rfl,jd _⟩) λb b b=>HC
theorem QO:∀l n,(∀a∈l,kG n a=H)->wM (mI l)=H/\wN (mI l)<=n:=by intro l;induction l with|nil=>exactλ_ _=>⟨rfl,jd _⟩|cons a r e=>exactλn h=>HC (HD a n<|h _<|.head _)<|e n λa b=>h a<|.tail _ b
theorem HE(p:Ef (oP a) (oP a)=H)(q:zV (mI r) (mI r)=H):zV (mI (a::r)) (mI (a::r))=true:=lT.mpr ⟨p,q⟩
theorem HF:∀a n,kG n a=H->Ef (oP a) (oP a)=true:=AV.fL (R:=λe l=>zV _ _=H) (λe=>rfl) (λe=>beq_self_eq_true) (λe=>beq_self_eq_true) (λe b e=>beq_self_eq_true _) (λe e h=>h) (λe=>rfl) λe e e=>HE
theorem QP:∀l n,(∀a∈l,kG n a=H)->zV (mI l) (mI l)=true:=by intro l;induction l with|nil=>exactλ_ _=>rfl|cons a r e=>exactλn h=>HE (HF a n<|h _<|.head _)<|e n λa b=>h a<|.tail _ b
section
variable{Φ:Fm}{c:Ck}{d:Nat}{μ:Mu}{ρ:Loc}{st:St}{s:hr}{Q:AV->St->Prop}{E:g7->hr->Prop}
theorem HG(D:Dy Φ μ ρ st s)(R:oM Φ.C d)(A:RelV Φ.a μ v x)(B:RelV Φ.a μ u y)(h:xn x y st Q):g8 Φ.q Φ.C (o7 .Eq v u) (PE Φ ρ μ Q) E s:=by
 have G:Φ.C.units+64<cLine:=(pW (Nat.add_lt_add_right (rX R.2) _) (by decide));refine kf λC=>EJ h (λh=>?_) λh=>?_
 .refine lV h λm m' l T Y q aD=>i5 aD λI h1 r=>?_;rw[T]at A;rw[Y]at B
  .refine hc (qZ A<|sg D q) λa e au=>?_;subst e;refine hc (qZ B<|sg D I) λb f t=>?_;subst f;refine mV (vd D au q) λvs n c1 c3 c4 c5=>mV (vd D t I) λav aE o p L M=>?_;have k:=mC.mp h1;refine hE (HB D 6 c3 k) λJ w=>hE (HB D 6 p k) λbs z=>hv (QO l 6 k) λl1 l2=>?_;haveI j:=by show(wM _&&decide (wN _+1<=64))=H;rw[l1,decide_eq_true<|up l2 (by decide)];rfl
   refine C<|eq_dataH (reads_list_at c1 O O (by simpa [W.listOf]using w)) (reads_list_at o O O (by simpa [W.listOf]using z)) j j G ?_;rw[show Ef (.list _) (.list _)=H from QP l 6 k];exact .mk r (.bool _) D
 .refine i5 h λi h1 r=>?_;clear h;subst i;refine hE (BM D 6 A h1) λJ w=>hE (BM D 6 B h1) λbs z=>hv (HD x 6 h1) λl1 l2=>?_;haveI j:SeqAt.shaped _=true:=by unfold SeqAt.shaped;rw[l1,decide_eq_true<|f1 l2 (by decide)];rfl
  refine C<|eq_dataH w z j j G ?_;rw[HF x 6 h1];exact .mk r (.bool _) D
theorem QQ(C:Cx Φ c d)(h:me r=H)(G:Good Φ c d a<|.e l)(I:Good Φ c d b<|.e r):Good Φ c d (.ew a b)<|.e<|.Compare l [.Eq] [r] aa:=by
 haveI j:∀μ ρ st s (P:AV->AV->St->Prop) X (R:g7->g7->Sem _) Q,Dy Φ μ ρ st s->WE _ _ a ρ st _ X->(∀af v u x y st s',ib μ _->RelV _ _ v x->RelV _ _ u y->P x y st->Dy Φ _ ρ st s'->g8 _ Φ.C (R v u) (PE Φ ρ _ Q) (PX Φ ρ X) s')->g8 _ Φ.C (eval l _) (λv f=>g8 _ _ (eval r _) _ _ _) (PX Φ ρ X) s:=by
  refineλμ ρ st s P X R Q D w=>xy<|hj (G.1 μ ρ st s _ X D w) (λv f q=>?_) λe e q=>q
  obtain⟨af,x,ac,k,o,i,n⟩:=q
  exact⟨_,x,_,λA J L B=>I.1 _ ρ _ _ _ X B k,o,i,n⟩
 refine⟨λμ ρ st s Q X D w=>wpAny_Compare1 (j μ ρ st s _ X _ Q D w λaf v u x y ac s' E i p k m=>HG m C.room i p k)<|vh h,λμ ρ st s P X D w=>?_⟩;.refine Mw ?_<|vh h;haveI:=j μ ρ st s _ X (o7 _) (λy st=>kr y st _) D w λaf v u x y ac s' E i p k m=>HG m C.room i p k;refine hj this (λv f q=>hj q (λu t q=>hj q (λx z q=>?_) λe e q=>q) λe e q=>q) λe e q=>q;obtain⟨af,M,ac,k,o,i,n⟩:=q;exact hj (sf C.go n i<|xT k) (λe e q=>q.up o) λe e q=>q
end
end
section
open PySem PySem.W PySem.Calls PyProof.Rows
section
variable{Φ:Fm}{c:Ck}{d:Nat}{A:iH}
theorem QR(C:Cx Φ c d)(r:kH o=H)(p:j6 [] [] b aa=H)(t:Good Φ c d e<|.e o):Good Φ c d (.cn e)<|.e<|.Call (.Attribute o "pop" b) [] [] aa:=by refine kg C.go O λμ ρ st s Q X D w=>MethodCall_ r p<|hj (t.1 μ ρ st s _ X D w) (λv j q=>?_) λa a q=>q;obtain⟨z,x,y,k1,k,i,f⟩:=q;refine r3 k1 λm l e n a=>?_;subst e;refineλB=>xX zM MA f i n<|o' (P:=λa=>True) O (λh a=>⟨.machine,.inr<|.inl O,.now⟩)<|evalArgs_nil3 ⟨trivial,?_⟩;exact hj (Py f i k1) (λa a q=>q.up k) λa a q=>q
theorem QS(C:Cx Φ c d)(y:kH o=H)(t:j6 [.Constant (.int 0) k p] [] b aa=H)(z:Good Φ c d e<|.e o):Good Φ c d (.eu e)<|.e<|.Call (.Attribute o "pop" b) [.Constant (.int 0) k p] [] aa:=by refine kg C.go O λμ ρ st s Q X D w=>MethodCall_ y t<|hj (z.1 μ ρ st s _ X D w) (λv j q=>?_) λa a q=>q;obtain⟨E,x,B,k1,n,i,f⟩:=q;refine r3 k1 λm l e r a=>?_;subst e;refineλG=>xX zM MA f i r<|o' (P:=λa=>True) O (λh a=>⟨.machine,.inr<|.inl O,.now⟩)<|qg O O<|pb (zr (pa (p1 ⟨trivial,?_⟩))) O;exact hj (Pz (f.toks _) i k1) (λa a q=>q.up n) λa a q=>q
theorem QT(C:Cx Φ c d)(Y:kH o=H)(t:j6 [u,z] [] f aa=H)(i1:Good Φ c d e<|.e o)(au:Good Φ c d i<|.e u)(av:Good Φ c d y<|.e z):Good Φ c d (.ev e i y)<|.e<|.Call (.Attribute o "insert" f) [u,z] [] aa:=by
 haveI j:=BK Φ.r t;have B:jE u=H/\jE z=true:=by simp only[rL,List.all_nil,iX]at j;exact⟨j.1,j.2.1⟩
 refine kg C.go O λμ ρ st s Q X D w=>MethodCall_ Y t<|hj (i1.1 μ ρ st s _ X D w) (λv E q=>?_) λa a q=>q;obtain⟨aI,x,aF,k1,M,n,p⟩:=q;refine r3 k1 λm l e T k1=>?_;clear zz3 e n k1;refineλpl=>xX Mn PySem.F.type_list_insert p n T<|o' (P:=λa=>True) (by rw[qY j];rfl) (λh a=>⟨_,.inr<|.inl O,.now⟩)<|qg j O<|pb (hj (au.1 _ ρ _ _ _ X p k1) (λaL G q=>?_) λa a q=>q) (om B.1);obtain⟨aJ,b,aG,k2,r,aD,J⟩:=q;refine pb (hj (av.1 _ ρ _ _ _ X J k2) (λaM I q=>?_) λa a q=>q)<|om B.2;obtain⟨aK,b3,aH,k3,k,aE,L⟩:=q;refine pa<|p1 ⟨trivial,?_⟩;exact hj (PF L ((n.aP r).aP k) (aD.aP k) aE k3) (λa a q=>q.up<|(M.trans r).trans k) λa a q=>q
theorem QU(C:Cx Φ c d){l:List _}{e}{t}{k}{p a aa}{z}(x:t=S l)(hl:l.length<=16)(m:j6 [z] [] a aa=H)(y:Good Φ c d e<|.e z):Good Φ c d (.join l e)<|.e<|.Call (.Attribute (.Constant (.str t) k p) "join" a) [z] [] aa:=by
 subst x;haveI i:=BK Φ.r m;haveI j:jE z=true:=by rw[rL,iX]at i;exact i.1
 refine kg C.go O λμ ρ st s Q X D w=>MethodCall_ O m<|DP ?_;intro I;refine getMethod_builtin (rH _ _ _) PySem.F.plainAttrs_str PySem.F.slot_str_join PySem.F.type_str_join (λf e=>nomatch e) ?_;refine o' (P:=λf=>True) (by rw[qY i];rfl) (λh f=>⟨_,.inr<|.inl O,.now⟩)<|qg i O<|pb (hj (y.1 μ ρ st _ _ X (D.toks (s.toks+1)) w) (λu n q=>?_) λf f q=>q) (om j);obtain⟨G,b,E,k2,r,B,o⟩:=q;refine pa<|p1 ⟨trivial,?_⟩;exact hj (PN o hl B k2) (λf f q=>q.up r) λf f q=>q
theorem QV(C:Cx Φ c d){l}(y:t=S l)(B:Good Φ c d e<|.e z):Good Φ c d (.ci l e)<|.e<|.BinOp (.Constant (.str t) k p) .Mod z aa:=by exists a;clear zz3 y a;refine a<|kg C.go O λμ ρ st s Q X D w=>Ee<|DP<|hj (B.1 μ ρ st _ _ X (D.toks _) w) (λu j q=>?_) λm m q=>q;exists a;obtain⟨I,b,E,k2,x,i,o⟩:=q;refine uU k2 λm e k=>?_;clear zz3 e i;obtain⟨J,rfl⟩:=r9 i;exact a<|(oO k).elim (λh=>C.ci _ _ _ _ _ _ _ _ h.1 λr G n f=>⟨_,_,_,h.2 r f,x,.str _ _ f,o.toks _⟩) λh=>h.2.elim
theorem QW(C:Cx Φ c d){j}{p aa}(h:q0 a (.int (-j))=H):Good Φ c d (.aI a)<|.e<|.UnaryOp .USub (.Constant (.int j) k p) aa:=by haveI:=xR _ _ h;clear zz3 this;exact kg C.go O λμ ρ st s Q X D w=>UnaryOp_<|zr<|PySem.P.neg_int (.mk w (.int _ _) ((D.toks _).toks _))
theorem HH{e:hY->Bool}(f:∀t,e t=H->Good Φ c d a t){b}(h:r8 (BB a) (λx=>e<|.e x) b=H):vi Φ c d a b:=by induction b with|some x=>exact f _ h|none=>exact xS (P:=λa=>vi Φ c d a _) h iC iC λi=>rfl
theorem QX(C:Cx Φ c d):∀t,GQ c i t=H->Good Φ c d (.j i) t:=λt h=>jr h λx h=>ku (P:=λx=>Good Φ c d _ _) h λx p=>Qc C
theorem QY(C:Cx Φ c d):∀t,GR c a t=H->Good Φ c d (.cW a) t:=λt h=>jr h λx h=>ku (P:=λx=>Good Φ c d _ _) h λx p h=>haveI h:=f2 h;haveI h1:=f2 h.1;j1 h.2 λb=>Qd C (beq_iff_eq.mp h1.1) h1.2
theorem QZ(C:Cx Φ c d){a}:∀t,GS a t=H->Good Φ c d (.aI a) t:=λt h=>jr h λx h=>(s_.mp h).elim (λh=>tB (P:=λx=>Good Φ c d _ _) h λk n p=>Qe C) λh=>FD (P:=λx=>Good Φ c d _ _) h λo y p h=>haveI h:=f2 h;tB (P:=λy=>Good Φ c d _<|.e<|.UnaryOp o y p) h.2 λk n q h'=>xw (P:=λk=>Good Φ c d _<|.e<|.UnaryOp o (.Constant k n q) p) h' λj h'=>by induction o<;>first|exact absurd h.1 (by decide)|exact QW C h'
theorem Q0(C:Cx Φ c d)(a:∀t,he t=H->Good Φ c d e t):∀t,GU Φ.a e k he t=H->Good Φ c d (.cD e k) t:=λt h=>jr h λx h=>mW (P:=λx=>Good Φ c d _ _) h λo y p h=>haveI h:=f2 h;Qf C h.1<|a _ h.2
theorem Q1(C:Cx Φ c d){e f}(i:∀t,e t=H->Good Φ c d a t)(j:∀t,f t=H->Good Φ c d b t):∀t,GV o e f t=H->Good Φ c d (.a0 o a b) t:=λt h=>jr h λx h=>AS (P:=λx=>Good Φ c d _ _) h λl op r p h=>haveI h:=f2 h;haveI h1:=f2 h.1;Qg C h1.1 (i _ h1.2)<|j _ h.2
theorem Q2(C:Cx Φ c d){f i}(j:∀t,f t=H->Good Φ c d a t)(k:∀t,i t=H->Good Φ c d b t):∀t,GW o f i t=H->Good Φ c d (.Q o a b) t:=λt h=>jr h λx h=>AT (P:=λx=>Good Φ c d _ _) h λl os e p h=>i4 (P:=λos=>Good Φ c d _<|.e<|.Compare l os e p) h λop h=>i4 (P:=λe=>Good Φ c d _<|.e<|.Compare l _ e p) h λr h=>haveI h:=f2 h;haveI h1:=f2 h.1;Qh C h1.1 (j _ h1.2)<|k _ h.2
theorem Q3(C:Cx Φ c d){j k}(m:∀t,j t=H->Good Φ c d a t)(n:∀t,k t=H->Good Φ c d b t):∀t,GX j k t=H->Good Φ c d (.ew a b) t:=λt h=>jr h λx h=>AT (P:=λx=>Good Φ c d _ _) h λl os e p h=>i4 (P:=λos=>Good Φ c d _<|.e<|.Compare l os e p) h λop h=>haveI h0:=f2 h;i4 (P:=λe=>Good Φ c d _<|.e<|.Compare l _ e p) h0.2 λr h=>haveI f:=f2 h;haveI i:=f2 f.1;by induction op<;>first|exact absurd h0.1 (by decide)|exact QQ C i.1 (m _ i.2)<|n _ f.2
theorem Q4(C:Cx Φ c d){o}{p}{j k m}(n:∀t,j t=H->Good Φ c d a t)(s:∀t,k t=H->Good Φ c d b t)(w:∀t,m t=H->Good Φ c d e t):∀t,GY o p j k m t=H->Good Φ c d (.cb o p a b e) t:=λt h=>jr h λx h=>AT (P:=λx=>Good Φ c d _ _) h λl os f q h=>uZ (P:=λos=>Good Φ c d _<|.e<|.Compare l os f q) h λy z h=>uZ (P:=λf=>Good Φ c d _<|.e<|.Compare l _ f q) h λr t h=>haveI h:=f2 h;haveI h1:=f2 h.1;haveI i:=f2 h1.1;Qi C i.1 (n _ i.2) (s _ h1.2)<|w _ h.2
theorem Q5(C:Cx Φ c d){e f}(j:∀t,e t=H->Good Φ c d a t)(k:∀t,f t=H->Good Φ c d b t):∀t,GZ e f t=H->Good Φ c d (.and a b) t:=
 λt h=>jr h λx h=>FE (P:=λx=>Good Φ c d _ _) h λo i p h=>haveI h0:=f2 h;lZ (P:=λi=>Good Φ c d _<|.e<|.BoolOp o i p) h0.2 λx r h=>lZ (P:=λr=>Good Φ c d _<|.e<|.BoolOp o _ p) h λy r h=>haveI h:=f2 h;by
  induction o with
  |And=>induction r<;>exact Qj C (j _ h.1)<|k _ h.2
  |Or=>cases h0.1
theorem Q6(C:Cx Φ c d){e f}(j:∀t,e t=H->Good Φ c d a t)(k:∀t,f t=H->Good Φ c d b t):∀t,G0 e f t=H->Good Φ c d (.or a b) t:=
 λt h=>jr h λx h=>FE (P:=λx=>Good Φ c d _ _) h λo i p h=>haveI h0:=f2 h;lZ (P:=λi=>Good Φ c d _<|.e<|.BoolOp o i p) h0.2 λx r h=>lZ (P:=λr=>Good Φ c d _<|.e<|.BoolOp o _ p) h λy r h=>haveI h:=f2 h;by
  induction o with
  |Or=>induction r<;>exact Qk C (j _ h.1)<|k _ h.2
  |And=>cases h0.1
theorem Q7(C:Cx Φ c d)(e:∀t,b t=H->Good Φ c d a t):∀t,G1 b t=H->Good Φ c d (.not a) t:=λt h=>jr h λx h=>FD (P:=λx=>Good Φ c d _ _) h λo y p h=>haveI h:=f2 h;by induction o<;>first|exact absurd h.1 (by decide)|exact Ql C<|e _ h.2
theorem Q8(C:Cx Φ c d){i e f}(l:∀t,i t=H->Good Φ c d u t)(j:∀t,e t=H->Good Φ c d a t)(k:∀t,f t=H->Good Φ c d b t):∀t,G2 i e f t=H->Good Φ c d (.cc u a b) t:=λt h=>jr h λx h=>N5 (P:=λx=>Good Φ c d _ _) h λx y z p h=>haveI h:=f2 h;haveI h1:=f2 h.1;Qm C (l _ h1.1) (j _ h1.2)<|k _ h.2
theorem Q9(C:Cx Φ c d):∀t,G3 t=H->Good Φ c d (.nil) t:=
 λt h=>by
  induction t with
  |e=>exists f;cases h
  |aX e=>exact iY (P:=λe=>Good Φ c d _ _) h Qn|aZ b a ah=>exact haveI h:=f2 h;haveI h1:=f2 h.1;iY (P:=λb=>Good Φ c d _<|.aZ b a _) h1.1<|iY (P:=λa=>Good Φ c d _<|.aZ _ a _) h1.2<|iY (P:=λah=>Good Φ c d _ _) h.2 Qs
theorem Q_(C:Cx Φ c d){a}{j i}(l:∀t,j t=H->Good Φ c d a t)(b:∀t,i t=H->Good Φ c d r t):∀t,G4 a r j i t=H->Good Φ c d (.cons a r) t:=
 λt h=>by
  induction t with
  |e=>exists B;cases h
  |aX n=>exact lZ (P:=λn=>Good Φ c d _ _) h λx n h=>haveI h:=f2 h;haveI h1:=f2 h.1;Qo h1.1 (l _ h1.2)<|b _ h.2|aZ m o ah=>
   exact lZ (P:=λm=>Good Φ c d _<|.aZ m o _) h λp m h=>by
    induction o with|cons x n=>exact haveI h:=f2 h;Qt (l _ h.1)<|b _ h.2|nil=>
     obtain⟨p,s⟩:=p;cases ah with|nil=>exact haveI h:=f2 h;Hv h.1 (λk x y z e=>by cases e)<|b _ h.2|cons kw ah=>
      obtain⟨k,x,q⟩:=kw;induction k with|none=>exact iG h|some k=>
       haveI f:(if k=p then j _&&i _ else vg a s&&i _)=true:=h;by_cases e:k=p;.rw[if_pos e]at f;clear zz3 e;exact haveI h:=f2 f;Qu (l _ h.1)<|b _ h.2
       .rw[if_neg e]at f;haveI h:=f2 f;haveI aC:=Hv h.1 (λk x y z w=>by cases w;exact e)<|b _ h.2;exact aC
theorem Q'(C:Cx Φ c d)(e:∀t,b t=H->Good Φ c d a t):∀t,G5 b t=H->Good Φ c d (.av a) t:=λt h=>jr h λx h=>AU (P:=λx=>Good Φ c d _ _) h λl n p h=>Qp C<|e _ h
theorem Ra(C:Cx Φ c d)(e:∀t,b t=H->Good Φ c d a t):∀t,G6 b t=H->Good Φ c d (.m a) t:=λt h=>jr h λx h=>FF (P:=λx=>Good Φ c d _ _) h λl p h=>Qq C<|e _ h
theorem Rb(C:Cx Φ c d){b}:∀t,G7 t=H->Good Φ c d (.dict b) t:=λt h=>jr h λx h=>FG (P:=λx=>Good Φ c d _ _) h λp=>Qr C
theorem Rc(C:Cx Φ c d)(l:∀t,a t=H->Good Φ c d args t):∀t,G8 Φ.a c f a t=H->Good Φ c d (.call f args) t:=λt h=>jr h λx h=>k9 (P:=λx=>Good Φ c d _ _) h λaC j ah aa h=>ku (P:=λaC=>Good Φ c d _<|.e<|.Call aC j _ _) h λx p h=>haveI h:=f2 h;haveI h1:=f2 h.1;haveI b:=f2 h1.1;haveI i:=f2 b.1;j1 h.2 λm e k=>Qw C i.1 i.2 b.2 h1.2 e<|l _ k
theorem Rf(C:Cx Φ c d){he a}(s:∀t,he t=H->Good Φ c d e t)(w:∀t,a t=H->Good Φ c d args t):∀t,G9 Φ.a c f e he a t=H->Good Φ c d (.bX f e args) t:=λt h=>jr h λx h=>k9 (P:=λx=>Good Φ c d _ _) h λaC r ah aa h=>mW (P:=λaC=>Good Φ c d _<|.e<|.Call aC r _ _) h λo x p h=>haveI h:=f2 h;haveI h1:=f2 h.1;haveI j:=f2 h1.1;haveI l:=f2 j.1;haveI m:=f2 l.1;haveI n:=f2 m.1;haveI q:=f2 n.1;j1 h.2 λb i k=>lZ (P:=λb=>c.bn f=U b->Good Φ c d _ _) k (λy z k i=>Qx C q.1 q.2 n.2 m.2 l.2 j.2 i (s _ h1.2)<|w _ k) i
theorem Rg(C:Cx Φ c d)(l:∀t,he t=H->Good Φ c d e t):∀t,G_ Φ.a c e k he t=H->Good Φ c d (.eL e k) t:=λt h=>jr h λx h=>k9 (P:=λx=>Good Φ c d _ _) h λaC a ah aa h=>haveI h0:=f2 h;haveI j:=f2 h0.1;iY (P:=λa=>Good Φ c d _<|.e<|.Call aC a _ _) j.1<|iY (P:=λah=>Good Φ c d _<|.e (.Call aC _ ah _)) j.2<|mW (P:=λaC=>Good Φ c d _ (.e (.Call aC _ _ _))) h0.2 λo x p h=>haveI h:=f2 h;haveI h1:=f2 h.1;haveI b:=f2 h1.1;haveI f:=f2 b.1;haveI i:=f2 f.1;QB C i.1 i.2 (beq_iff_eq.mp f.2) b.2 h1.2 (l _ h.2)
theorem Rh(C:Cx Φ c d)(b:∀t,he t=H->Good Φ c d e t):∀t,G' Φ.a f e he t=H->Good Φ c d (.a9 f e) t:=λt h=>jr h λx h=>mW (P:=λx=>Good Φ c d _ _) h λo x p h=>haveI h:=f2 h;haveI h1:=f2 h.1;haveI a:=f2 h1.1;Qy C a.1 a.2 h1.2<|b _ h.2
theorem Ri(C:Cx Φ c d)(i:∀t,a t=H->Good Φ c d args t):∀t,Ha Φ.a c D a t=H->Good Φ c d (.new D args) t:=λt h=>jr h λx h=>k9 (P:=λx=>Good Φ c d _ _) h λaC f ah aa h=>ku (P:=λaC=>Good Φ c d _<|.e<|.Call aC f _ _) h λx p h=>haveI h:=f2 h;haveI h1:=f2 h.1;haveI b:=f2 h1.1;j1 h.2 λj e k=>QD C b.1 b.2 h1.2 e<|i _ k
theorem Rj(C:Cx Φ c d)(e:∀t,a t=H->Good Φ c d args t):∀t,Hb c i a t=H->Good Φ c d (.et i args) t:=λt h=>jr h λx h=>k9 (P:=λx=>Good Φ c d _ _) h λaC b ah aa h=>haveI h0:=f2 h;iY (P:=λah=>Good Φ c d _<|.e<|.Call aC b ah _) h0.1<|ku (P:=λaC=>Good Φ c d _<|.e (.Call aC b _ _)) h0.2 λx p h=>haveI h:=f2 h;QE C h.1<|e _ h.2
theorem Rk(C:Cx Φ c d)(b:∀t,he t=H->Good Φ c d e t):∀t,Hc Φ.a c e he t=H->Good Φ c d (.len e) t:=λt h=>jr h λx h=>k9 (P:=λx=>Good Φ c d _ _) h λaC a ah aa h=>haveI h0:=f2 h;iY (P:=λah=>Good Φ c d _<|.e<|.Call aC a ah _) h0.1<|ku (P:=λaC=>Good Φ c d _<|.e (.Call aC a _ _)) h0.2 λx p h=>i4 (P:=λa=>Good Φ c d _<|.e (.Call _ a _ _)) h λy h=>haveI h:=f2 h;haveI h1:=f2 h.1;QF C h1.1 h1.2<|b _ h.2
theorem Rl(C:Cx Φ c d)(f:∀t,he t=H->Good Φ c d e t):∀t,He Φ.a c e D he t=H->Good Φ c d (.cP e D) t:=λt h=>jr h λx h=>k9 (P:=λx=>Good Φ c d _ _) h λaC a ah aa h=>haveI h0:=f2 h;iY (P:=λah=>Good Φ c d _<|.e<|.Call aC a ah _) h0.1<|ku (P:=λaC=>Good Φ c d _<|.e (.Call aC a _ _)) h0.2 λx p h=>uZ (P:=λa=>Good Φ c d _<|.e (.Call _ a _ _)) h λy z h=>ku (P:=λz=>Good Φ c d _<|.e (.Call _ [y,z] _ _)) h λz q h=>haveI h:=f2 h;haveI h1:=f2 h.1;haveI b:=f2 h1.1;QH C b.1 b.2 h1.2<|f _ h.2
theorem Rm(C:Cx Φ c d)(f:∀t,he t=H->Good Φ c d e t):∀t,Hf Φ.a c e he t=H->Good Φ c d (.eM e) t:=λt h=>jr h λx h=>k9 (P:=λx=>Good Φ c d _ _) h λaC a ah aa h=>haveI h0:=f2 h;iY (P:=λah=>Good Φ c d _<|.e<|.Call aC a ah _) h0.1<|ku (P:=λaC=>Good Φ c d _<|.e (.Call aC a _ _)) h0.2 λx p h=>uZ (P:=λa=>Good Φ c d _<|.e (.Call _ a _ _)) h λy z h=>ku (P:=λz=>Good Φ c d _<|.e (.Call _ [y,z] _ _)) h λz q h=>haveI h:=f2 h;haveI h1:=f2 h.1;haveI b:=f2 h1.1;QI C b.1 b.2 h1.2<|f _ h.2
theorem Rn(C:Cx Φ c d)(f:∀t,he t=H->Good Φ c d e t):∀t,Hg Φ.a c e he t=H->Good Φ c d (.J e) t:=λt h=>jr h λx h=>k9 (P:=λx=>Good Φ c d _ _) h λaC a ah aa h=>haveI h0:=f2 h;iY (P:=λah=>Good Φ c d _<|.e<|.Call aC a ah _) h0.1<|ku (P:=λaC=>Good Φ c d _<|.e (.Call aC a _ _)) h0.2 λx p h=>i4 (P:=λa=>Good Φ c d _<|.e (.Call _ a _ _)) h λy h=>haveI h:=f2 h;haveI h1:=f2 h.1;haveI b:=f2 h1.1;QG C b.1 b.2 h1.2<|f _ h.2
theorem Ro(C:Cx Φ c d){he a}(b:∀t,he t=H->Good Φ c d e t)(f:∀t,a t=H->Good Φ c d i t):∀t,Hh e he a t=H->Good Φ c d (.sub e i) t:=λt h=>jr h λx h=>xv (P:=λx=>Good Φ c d _ _) h λv s p h=>haveI h:=f2 h;haveI h1:=f2 h.1;QJ C h1.1 (b _ h1.2)<|f _ h.2
theorem Rp(C:Cx Φ c d){he i j}(m:∀t,he t=H->Good Φ c d e t)(k:∀t,i t=H->Good Φ c d a t)(l:∀t,j t=H->Good Φ c d b t):∀t,Hi e a b he i j t=H->Good Φ c d (.cd e a b) t:=
 λt h=>jr h λx h=>xv (P:=λx=>Good Φ c d _ _) h λv s p h=>N6 (P:=λs=>Good Φ c d _<|.e<|.Subscript v s p) h λr o st q h=>haveI h:=f2 h;haveI h1:=f2 h.1;haveI f:=f2 h1.1;by
  induction st with
  |some=>exists n;cases f.1
  |none=>exact QK C (m _ f.2) (HH k h1.2)<|HH l h.2
theorem Rq(C:Cx Φ c d){he i}(j:∀t,he t=H->Good Φ c d e t)(k:∀t,i t=H->Good Φ c d y t):∀t,Hj e he i t=H->Good Φ c d (.aD e y) t:=λt h=>jr h λx h=>k9 (P:=λx=>Good Φ c d _ _) h λaC a ah aa h=>haveI h0:=f2 h;iY (P:=λah=>Good Φ c d _<|.e<|.Call aC a ah _) h0.1<|mW (P:=λaC=>Good Φ c d _<|.e (.Call aC a _ _)) h0.2 λo x p h=>i4 (P:=λa=>Good Φ c d _<|.e (.Call _ a _ _)) h λz h=>by haveI h:=f2 h;haveI h1:=f2 h.1;haveI b:=f2 h1.1;haveI f:=f2 b.1;cases eq_of_beq f.1;exact QL C f.2 b.2 (j _ h1.2)<|k _ h.2
theorem Rr(C:Cx Φ c d){he i}(j:∀t,he t=H->Good Φ c d e t)(k:∀t,i t=H->Good Φ c d y t):∀t,Hk e he i t=H->Good Φ c d (.ext e y) t:=λt h=>jr h λx h=>k9 (P:=λx=>Good Φ c d _ _) h λaC a ah aa h=>haveI h0:=f2 h;iY (P:=λah=>Good Φ c d _<|.e<|.Call aC a ah _) h0.1<|mW (P:=λaC=>Good Φ c d _<|.e (.Call aC a _ _)) h0.2 λo x p h=>i4 (P:=λa=>Good Φ c d _<|.e (.Call _ a _ _)) h λz h=>by haveI h:=f2 h;haveI h1:=f2 h.1;haveI b:=f2 h1.1;haveI f:=f2 b.1;cases eq_of_beq f.1;exact QM C f.2 b.2 (j _ h1.2)<|k _ h.2
theorem Rs(C:Cx Φ c d)(i:∀t,he t=H->Good Φ c d e t):∀t,Hl e he t=H->Good Φ c d (.cn e) t:=λt h=>jr h λx h=>k9 (P:=λx=>Good Φ c d _ _) h λaC a ah aa h=>haveI h0:=f2 h;iY (P:=λah=>Good Φ c d _<|.e<|.Call aC a ah _) h0.1<|mW (P:=λaC=>Good Φ c d _<|.e (.Call aC a _ _)) h0.2 λo x p h=>haveI h:=f2 h;haveI h1:=f2 h.1;haveI b:=f2 h1.1;haveI f:=f2 b.1;iY (P:=λa=>Good Φ c d _<|.e (.Call _ a _ _)) f.1 (by cases eq_of_beq f.2;exact QR C b.2 h1.2<|i _ h.2)
theorem Rt(C:Cx Φ c d){e}(l:∀t,he t=H->Good Φ c d e t):∀t,Hm e he t=H->Good Φ c d (.eu e) t:=λt h=>jr h λx h=>k9 (P:=λx=>Good Φ c d _ _) h λaC a ah aa h=>haveI h0:=f2 h;iY (P:=λah=>Good Φ c d _<|.e<|.Call aC a ah _) h0.1<|mW (P:=λaC=>Good Φ c d _<|.e (.Call aC a _ _)) h0.2 λo x p h=>i4 (P:=λa=>Good Φ c d _<|.e (.Call _ a _ _)) h λz h=>by haveI h:=f2 h;haveI h1:=f2 h.1;haveI b:=f2 h1.1;haveI f:=f2 b.1;cases eq_of_beq f.2;exact tB (P:=λz=>j6 [z] _ p _=H->Good Φ c d _ (.e<|.Call _ [z] _ _)) f.1 (λk n q h'=>xw (P:=λk=>j6 _ [] p aa=H->Good Φ c d _ (.e<|.Call _ [.Constant k n q] _ _)) h' λj h'=>by cases of_decide_eq_true h';exactλi=>QS C b.2 i<|l _ h.2) h1.2
theorem Ru(C:Cx Φ c d){he k l}(m:∀t,he t=H->Good Φ c d e t)(n:∀t,k t=H->Good Φ c d i t)(q:∀t,l t=H->Good Φ c d y t):∀t,Hn e he k l t=H->Good Φ c d (.ev e i y) t:=λt h=>jr h λx h=>k9 (P:=λx=>Good Φ c d _ _) h λaC a ah aa h=>haveI h0:=f2 h;iY (P:=λah=>Good Φ c d _<|.e<|.Call aC a ah _) h0.1<|mW (P:=λaC=>Good Φ c d _<|.e (.Call aC a _ _)) h0.2 λo x p h=>uZ (P:=λa=>Good Φ c d _<|.e (.Call _ a _ _)) h λu z h=>by haveI h:=f2 h;haveI h1:=f2 h.1;haveI b:=f2 h1.1;haveI f:=f2 b.1;haveI j:=f2 f.1;cases eq_of_beq j.1;exact QT C j.2 f.2 (m _ b.2) (n _ h1.2)<|q _ h.2
theorem Rv(C:Cx Φ c d)(i:∀t,he t=H->Good Φ c d e t):∀t,Ho l e he t=H->Good Φ c d (.join l e) t:=λt h=>jr h λx h=>k9 (P:=λx=>Good Φ c d _ _) h λaC a ah aa h=>haveI h0:=f2 h;iY (P:=λah=>Good Φ c d _<|.e<|.Call aC a ah _) h0.1<|mW (P:=λaC=>Good Φ c d _<|.e (.Call aC a _ _)) h0.2 λo x p h=>tB (P:=λo=>Good Φ c d _<|.e (.Call (.Attribute o x p) a _ _)) h λk n q h=>AW (P:=λk=>Good Φ c d _<|.e (.Call (.Attribute (.Constant k n q) x p) a _ _)) h λt h=>i4 (P:=λa=>Good Φ c d _<|.e (.Call _ a _ _)) h λz h=>by haveI h:=f2 h;haveI h1:=f2 h.1;haveI b:=f2 h1.1;haveI f:=f2 b.1;cases eq_of_beq (f2 f.1).2;exact QU C (of_decide_eq_true f.2) (kC b.2) h1.2<|i _ h.2
theorem Rw(C:Cx Φ c d)(b:∀t,he t=H->Good Φ c d e t):∀t,Hp l e he t=H->Good Φ c d (.ci l e) t:=λt h=>jr h λx h=>AS (P:=λx=>Good Φ c d _ _) h λf o r p h=>haveI h0:=f2 h;tB (P:=λf=>Good Φ c d _<|.e<|.BinOp f o r p) h0.2 λk n q h=>AW (P:=λk=>Good Φ c d _<|.e<|.BinOp (.Constant k n q) o r p) h λt h=>haveI a:=f2 h;by induction o<;>first|exact absurd h0.1 (by decide)|exact QV C (of_decide_eq_true a.1)<|b _ a.2
theorem kh(C:Cx Φ c d)(i):∀t,ke Φ.a c i t=H->Good Φ c d i t:=by induction i with|j _=>exact QX C|cW _=>exact QY C|aI _=>exact QZ C|cD _ _ f=>exact Q0 C f|a0 _ _ _ b e=>exact Q1 C b e|Q _ _ _ b e=>exact Q2 C b e|ew _ _ b e=>exact Q3 C b e|cb _ _ _ _ _ b e a=>exact Q4 C b e a|and _ _ b e=>exact Q5 C b e|or _ _ b e=>exact Q6 C b e|not _ b=>exact Q7 C b|cc _ _ _ l b e=>exact Q8 C l b e|nil=>exact Q9 C|cons _ _ b k=>exact Q_ C b k|av _ b=>exact Q' C b|m _ b=>exact Ra C b|dict _=>exact Rb C|call _ _ f=>exact Rc C f|bX _ _ _ a f=>exact Rf C a f|eL _ _ a=>exact Rg C a|a9 _ _ a=>exact Rh C a|new _ _ f=>exact Ri C f|et _ _ f=>exact Rj C f|len _ a=>exact Rk C a|cP _ _ a=>exact Rl C a|eM _ a=>exact Rm C a|J _ a=>exact Rn C a|sub _ _ a j=>exact Ro C a j|cd _ _ _ a b e=>exact Rp C a b e|aD _ _ a h=>exact Rq C a h|ext _ _ a h=>exact Rr C a h|cn _ a=>exact Rs C a|eu _ a=>exact Rt C a|ev _ _ _ a j h=>exact Ru C a j h|join _ _ a=>exact Rv C a|ci _ _ a=>exact Rw C a|aE=>exactλt=>iG|ch=>exactλt=>iG|ex=>exactλt=>iG|dK=>exactλt=>iG|ey=>exactλt=>iG
end
end
section
open PySem PySem.W PySem.Calls PyProof.Rows
theorem Inv.fM{st}(I:Inv G μ st h)(m:ii μ a):∃o,h.get? a=U o:=by
 refine wY λJ f=>kf λb=>?_;rcases m with⟨x,e⟩|⟨m,e⟩|⟨C,d,e⟩
 .refine b ?_;induction q:st.L with
  |none=>rw[I.cG q]at e;cases e
  |some p=>refine kf λb=>jK (I.c7 p.1 p.2 (by rw[q])) λT z y n h1 r D Q=>?_;rw[e]at h1;cases h1;exact b<|f _ D
 .refine b ?_;induction q:st.cell m with
  |none=>rw[I.ck m q]at e;cases e
  |some c=>refine kf λb=>hc (I.cp m c q) λL w i=>?_;rw[e]at w;cases w;refine b ?_;induction c with|m l=>exact kf λb=>jC i λt n h1 j=>b<|f _ h1|bS l=>exact kf λb=>hc i λt h1 j=>kM h1 λo y B r j=>b<|f _ r|bK l=>exact kf λb=>hc i λt h1 j=>kM h1 λo y B r j=>b<|f _ r|dv o l=>exact f _ i.1|dU o l=>exact f _ i.1
 .exact jC (I.cX _ _ _ e) λo t h1 j=>b<|f o h1
theorem Inv.fy{st}(I:Inv G μ st h)(B:G.b2<=h'.objs.size)(b:∀a o,h.get? a=U o->h'.get? a=U o):Inv G μ st h':=⟨λa o e=>b a o<|I.aV a o e,I.cw,λp i=>⟨b _ _ (I.t p i).1,(I.t p i).2⟩,λC f e=>(jK (I.c7 C f e) λx j l n h1 q t w=>qL x j l n h1 q (b _ _ t) w),I.cG,λm c e=>(hc (I.cp m c e) λa y z=>h_ a y<|z.dc λo e=>b a o e),I.ck,λa D d e=>(jC (I.cX a D d e) λo f h1 r=>lU o f (b _ _ h1) r),λa e=>(hE (I.fM e) λo h1=>⟨(I.bw a e).1,it<|b _ _ h1⟩),I.inj,I.dd,I.de,I.a2,I.cx,I.df,B⟩
theorem Dy.fy(j:Φ.z){st}(D:Dy Φ μ ρ st s)(f:∀a o,s.heap.get? a=U o->h'.get? a=U o):Dy Φ μ ρ st {s with heap:=h',toks:=t}:=by refine hc D.ns λm h i=>?_;haveI b:=h.keeps f;exact⟨D.ext,D.Y.fy (f1 j.bk<|f1 j.b3<|iN b.lt) f,λa o e q=>f a o<|D.bx a o e q,⟨m,b,i⟩,D.bl,D.bz,D.a7,D.bb,D.bY,D.bZ,D.b4⟩
noncomputable def hq(Φ:Fm)(d:Nat)(a:DS)(l:List ie):Prop:=∀μ ρ st s k,Dy Φ μ ρ st s->WS Φ.a.T (i6 Φ.a d) a ρ st k->g8 Φ.q Φ.C (o9 l Φ.r) (PS Φ k) (nt Φ k.aK) s
section
variable{M:oz}{A:iH}{E:g7->hr->Prop}{s:hr}{ae:j8}
theorem Rx(h:g8 M A (o9 [x] ae) Q E s):g8 M A (exec x ae) Q E s:=λe p a=>by haveI h:=h e p a;rw[Sem.wp_bind']at h;refine Sem.wp_mono M e _ (λf p' s' h'=>?_) (λb b b h'=>h') _ _ h;induction f<;>exact h'
theorem ki(h:g8 M A (exec x ae) Q E s):g8 M A (o9 [x] ae) Q E s:=by refine zO<|hj h (λf s' q=>?_) λa a q=>q;induction f with|next=>exact s3 q|_=>exact q
end
section
variable{Φ:Fm}{c:Ck}{d:Nat}{A:iH}{μ:Mu}{ρ:Loc}{st:St}{s:hr}{k:KS}
theorem jV(h:PX Φ ρ (X ρ) v s):nt Φ X v s:=⟨ρ,h⟩
theorem HI(a:Φ.z):interactive Φ.r=false:=by unfold interactive;rw[a.kind];rfl
theorem pk(a:Φ.z):(Φ.r.scope.kind== .class||(Φ.r.scope.kind== .module&&Φ.r.locals !=Φ.r.globals))=false:=by rw[a.kind];rfl
theorem BN(n:Φ.z)(D:Dy Φ μ ρ st s)(e:Φ.slots[i]?=U x)(r:RelV Φ.a μ v a)(h:∀s',Dy Φ μ (ρ.set i<|U a) st s'->Q () s'):g8 Φ.q A (storeName Φ.r x v) Q E s:=by refine hc D.ns λl f j=>MB (n.slot i x e) (n.j▸f) (λh' hm hs=>h _<|D.gD n e r (λm b=>?_) (n.j▸hs))<|pk n;clear zz3 (b.eq_nsMap.trans f.eq_nsMap.symm);exact n.j▸hm
noncomputable def mJ(a:List g9):List Nat->List ho->Bool|[],b=>l0 b|i::e,b=>lc (λy r=>j_ (λx=>a[i]?==U x) y&&mJ a e r) b
theorem vk{P:List _->Prop}(h:mJ a (i::b) f=H)(k:∀x p r,a[i]?=U x->mJ a b r=H->P (.Name x p::r)):P f:=lZ h λy r h=>haveI h:=f2 h;ku (P:=λy=>P (y::r)) h.1 λx p e=>k x p r (beq_iff_eq.mp e) h.2
theorem HJ(h:mJ b e a=H):s2 a x ae=pure none:=by induction e with|nil=>exact iY (P:=λa=>s2 a x _=pure _) h O|cons i e=>exact vk (P:=λa=>s2 a x _=pure _) h λx p r f f=>by induction r<;>rfl
theorem Ry{b:List g9}{ae}{e:List _}{a:List _}(h:mJ b e a=H):(ng a ae).length=e.length/\(ng a ae).findIdx? (·.1)=none:=by induction e generalizing a with|nil=>exact iY (P:=λa=>(ng a _).length=0/\(ng a _).findIdx? _=V) h ⟨rfl,rfl⟩|cons i e f=>exact vk (P:=λa=>(ng a _).length=e.length+1/\(ng a _).findIdx? _=V) h λx p r j h=>⟨congrArg (· +1) (f h).1,List.findIdx?_cons.trans (by rw[(f h).2];rfl)⟩
theorem Rz(e:qU b l ρ=U aj):b.length=l.length:=by
 induction b generalizing l ρ with
 |nil=>induction l with|nil=>rfl|cons=>exact hH e
 |cons i b f=>induction l with|nil=>exact hH e|cons a l=>exact congrArg _<|f e
theorem xY(e:Φ.z)(D:Dy Φ μ ρ st s)(b:Φ.slots[i]?=U x)(r:RelV Φ.a μ v a)(h:∀s',Dy Φ μ (ρ.set i<|U a) st s'->Q () s'):g8 Φ.q A (rK (.Name x aa) Φ.r v) Q E s:=wpAny_assign_Name<|BN e D b r h
theorem HK(w:Φ.z){v}{a}{Q:Unit->hr->Prop}{E:g7->hr->Prop}(l:List _)(b:List _)(ρ)(s)(f:mJ Φ.slots l b=H)(D:Dy Φ μ ρ st s)(r:RelV Φ.a μ v a)(h:∀s',Dy Φ μ (qT a l ρ) st s'->Q () s'):g8 Φ.q A (wO v<|(ng b Φ.r).map (·.2)) Q E s:=by induction l generalizing b ρ s with|nil=>exact iY (P:=λb=>g8 _ A (wO v<|(ng b _).map _) Q E s) f<|ip<|h s D|cons i l n=>refine vk (P:=λb=>g8 _ A (wO v<|(ng b _).map _) Q E s) f λx p b e f=>?_;induction l with|nil=>exact iY (P:=λb=>g8 _ A (wO v<|(ng _ _).map _) Q E s) f<|xY w D e r h|cons j l=>exact vk (P:=λb=>mJ _ _ b=H->g8 _ A (wO v<|(ng _ _).map _) Q E s) f (λy q t o o f=>hw<|n'<|xY w D e r λs' m=>n _ _ s' f m h) f
set_option tactic.hygienic true in
theorem RA(y:Φ.z){Q:Unit->hr->Prop}{E:g7->hr->Prop}(m:List _)(b:List _)(f:List _)(j:List AV)(ρ aj)(s)(l:mJ Φ.slots m b=H)(D:Dy Φ μ ρ st s)(r:ia Φ.a μ f j)(e:qU m j ρ=U aj)(h:∀s',Dy Φ μ aj st s'->Q () s'):g8 Φ.q A (Eg ((ng b Φ.r).map (·.2)) f) Q E s:=by
 induction m generalizing b f j ρ s with
 |nil=>refine iY (P:=λb=>g8 _ A (Eg ((ng b _).map _) f) Q E s) l ?_;cases r with|nil=>exact ip<|h s (io e▸D)|cons=>exact hH e
 |cons i m q=>cases r with|nil=>exact hH e|cons t w=>rename_i v a f j;exact vk (P:=λb=>g8 _ A (Eg ((ng b _).map _) (v::f)) Q E s) l λx p b o l=>hw<|n'<|xY y D o t λs' n=>q b _ _ _ s' l n w e
theorem HL(y:Φ.z)(D:Dy Φ μ ρ st s)(p:A.handled=V)(b:mJ Φ.slots f j=H)(r:RelV Φ.a μ v<|.av l)(e:qU f l ρ=U aj)(h:∀s',Dy Φ μ aj st s'->Q () s'):g8 Φ.q A (rK (.Tuple j t aa) Φ.r v) Q E s:=by refine lV r.aO λq x w m hx i hl=>?_;rw[m];.haveI n:=Ry (ae:=Φ.r) b;exact assign_Tuple_tuple p (xz D hx) (by rw[n.1,Mf,i.len,Rz e]) n.2 λh' he=>RA y f j _ l ρ _ _ b (D.fy y λa o e=>he a o (iI<|it e) e) i e h
end
end
section
open PySem PySem.W PySem.Calls PyProof.Rows
section
variable{ai:n6}{w:iZ}{A:iH}{E:g7->hr->Prop}{R:Result->hr->Prop}{s:hr}
theorem RB{k}{l j:List ie}{ae}
 (h:g8 (iu ai w) A (isTrue k ae<|eval k ae) (λb m=>
  if b then g8 (iu ai w) A (o9 l ae) (λf a=>match f with
   | .next| .cont=>l9 (iu ai w) A (.whileLoop k l j ae) R a
   | .brk=>R (.ok .next) a
   | .ret v=>R (.ok<|.ret v) a) (o_ (iu ai w) A ae λe s'=>R (.error e) s') m
  else g8 (iu ai w) A (o9 j ae) (λf a=>R (.ok f) a) (o_ (iu ai w) A ae λe s'=>R (.error e) s') m)
  (o_ (iu ai w) A ae λe s'=>R (.error e) s') s):l9 (iu ai w) A (.whileLoop k l j ae) R s:=by
 refine Eh ?_
 show g8 _ A _ _ _ s
 refine wpAny_noted<|hw<|hj h (λb m n=>?_) λo o h'=>h'
 induction b with
 |false=>
  exact hw<|hj n (λf a i=>ip i) λo o h'=>h'
 |true=>
  refine hw<|hj n (λf a i=>?_) λo o h'=>h'
  induction f with
  |next=>exact ip ⟨rfl,i⟩
  |cont=>exact ip ⟨rfl,i⟩
  |brk=>exact ip i
  |ret v=>exact ip i
theorem HM{a}{p}{l:List ie}{ae}(h:g8 (iu ai w) A (pyNext p) (λr b=>match r with|none=>R (.ok .next) b|some v=>g8 (iu ai w) A (zW a p v) (λm b=>g8 (iu ai w) A (rK a ae v) (λm n=>g8 (iu ai w) A (o9 l ae) (λf k=>match f with| .next| .cont=>l9 (iu ai w) A (.forLoop a p l [] ae) R k| .brk=>R (.ok .next) k| .ret v=>R (.ok<|.ret v) k) (o_ (iu ai w) A ae λe s'=>R (.error e) s') n) (o_ (iu ai w) A ae λe s'=>R (.error e) s') b) (o_ (iu ai w) A ae λe s'=>R (.error e) s') b) (o_ (iu ai w) A ae λe s'=>R (.error e) s') s):l9 (iu ai w) A (.forLoop a p l [] ae) R s:=by refine Eh<|wpAny_noted<|hw<|pZ<|hw (wpAny_onRaise (hj h (λr b i=>?_) λm m h'=>pZ h'));induction r with|none=>exact ip ⟨rfl,codeAny_block<|s3 i⟩|some v=>refine hw<|hj i (λm b i=>?_) λm m h'=>h';refine hw<|hj i (λm n o=>hw<|hj o (λf k j=>?_) λm m h'=>h') λm m h'=>h';induction f with|next=>exact ip ⟨rfl,j⟩|cont=>exact ip ⟨rfl,j⟩|brk=>exact ip j|ret v=>exact ip j
end
section
variable{Φ:Fm}{c:Ck}{d:Nat}
theorem BO(b:Φ.z)(hx:PX Φ ρ (X ρ) v s):o_ Φ.q Φ.C Φ.r (λe s'=>zB Φ.q Φ.C Φ.r (nt Φ X) e s') v s:=hj (O9 b b.dW hx) (λa a q=>hj q (λa a q=>⟨ρ,q⟩) λa a q=>⟨ρ,q⟩) λa a q=>hj q (λa a q=>⟨ρ,q⟩) λa a q=>⟨ρ,q⟩
theorem RE:hq Φ d .da []:=λμ ρ st s k D w=>s3 ⟨μ,ρ,st,w,D⟩
theorem RG:hq Φ d .da [.Pass aa]:=λμ ρ st s k D w=>ki<|wpAny_Pass ⟨μ,ρ,st,w,D⟩
theorem RH(h:hq Φ d a [x])(i:hq Φ d b r):hq Φ d (.seq a b) (x::r):=by refineλμ ρ st s k D w=>zO<|hj (Rx<|h μ ρ st s _ D w) (λf s' q=>?_) λl l q=>q;induction f with|next=>exact kM q λaf aj ac j e=>i _ _ _ s' k e j|ret v=>exact q|brk=>exact q|cont=>exact q.elim
theorem RI(C:Cx Φ c d)(h:mH x=H)(i:Good Φ c d e<|.e x):hq Φ d (.y e) [.Expr x aa]:=by refineλμ ρ st s k D w=>ki<|wpAny_Expr_any (hj (i.1 μ ρ st s _ _ D w) (λv b q=>?_) λl l=>jV) (HI C.ok)<|By h;obtain⟨m,a,j,k1,n,o,f⟩:=q;exact rW _ ρ _ k1 f
theorem RJ(C:Cx Φ c d)(m:mH x=H)(b:mJ c.slots f i=H)(n:Good Φ c d e<|.e x):hq Φ d (.bT f e) [.Assign i x aa]:=by intro μ ρ st s k D w;rw[<-C.c9]at b;refine ki<|Ec (hj (n.1 μ ρ st s _ _ D w) (λv h q=>?_) λr r=>jV) (Bz m)<|HJ b;obtain⟨t,a,p,k1,y,o,l⟩:=q;exact HK C.ok f i ρ _ b l o λs' j=>⟨_,_,_,k1,j⟩
theorem RK(C:Cx Φ c d)(o:(!c.bA)=H)(n:mH x=H)(p:xH x=H)(b:mJ c.slots t B=H)(r:Good Φ c d e<|.e x):hq Φ d (.cQ t e) [.Assign [.Tuple B L M] x aa]:=by intro μ ρ st s k D w;rw[<-C.c9]at b;refine ki<|ve n O (P6 p)<|hj (r.1 μ ρ st s _ _ D w) (λv f q=>?_) λG G=>jV;obtain⟨I,a,z,k1,J,y,i⟩:=q;exact NZ k1 λl m k1=>jU k1 λaj j k1=>HL C.ok i (C.dx (by simpa using o)) b (m▸y) j λs' h=>⟨_,_,_,k1,h⟩
theorem RL(C:Cx Φ c d)(B:oN Φ.a n k=H)(t:mH y=H)(G:Good Φ c d x<|.e y)(I:Good Φ c d e<|.e o):hq Φ d (.ez e k x) [.Assign [.Attribute o n tp] y aa]:=by intro μ ρ st s kk D w;obtain⟨rfl,z⟩:=vf B;refine ki<|ve t O O<|hj (G.1 μ ρ st s _ _ D w) (λv h q=>xP ?_) λf f=>jV;obtain⟨Y,a,M,k1,av,J,l⟩:=q;refine hj (I.1 _ ρ _ _ _ _ l k1) (λu i q=>?_) λf f=>jV;obtain⟨au,b,Q,k2,r,L,m⟩:=q;exact hj (Bx C.go m z L (J.aP r) k2) (λf j q=>by obtain⟨T,k3,p⟩:=q;exact rW _ ρ _ k3 p) λf f q=>q
theorem RM(C:Cx Φ c d)(I:mH y=H)(J:Good Φ c d x<|.e y)(L:Good Φ c d e<|.e o)(M:Good Φ c d i<|.e j):hq Φ d (.cE e i x) [.Assign [.Subscript o j tp] y aa]:=by refineλμ ρ st s kk D w=>ki<|wpAny_Assign_Subscript (hj (J.1 μ ρ st s _ _ D w) (λv k q=>?_) λf f=>jV)<|By I;obtain⟨aG,a,av,k1,aJ,T,p⟩:=q;refine hj (L.1 _ ρ _ _ _ _ p k1) (λu l q=>?_) λf f=>jV;obtain⟨aH,b,aD,k2,G,Y,r⟩:=q;refine hj (M.1 _ ρ _ _ _ _ r k2) (λt m q=>?_) λf f=>jV;obtain⟨aI,b3,aE,k3,h,au,z⟩:=q;exact hj (PJ C.ok C.go z (Y.aP h) au ((T.aP G).aP h) k3) (λf n q=>by obtain⟨aF,Q,B⟩:=q;exact rW _ ρ _ Q B) λf f q=>q
theorem RN(C:Cx Φ c d)(r:Good Φ c d e<|.e o)(x:Good Φ c d i<|.e j):hq Φ d (.eg e i) [.Delete [.Subscript o j tp] aa]:=by refineλμ ρ st s Y D w=>ki<|wpAny_Delete<|wpAny_deleteEach_cons (wpAny_delete_Subscript (hj (r.1 μ ρ st s _ _ D w) (λu f q=>?_) λa a=>jV));obtain⟨L,b,G,k2,Q,z,l⟩:=q;refine hj (x.1 _ ρ _ _ _ _ l k2) (λt h q=>?_) λa a=>jV;obtain⟨M,T,I,k3,p,B,m⟩:=q;exact hj (PK m (z.aP p) B k3) (λa k q=>by obtain⟨J,y,n⟩:=q;exact wpAny_deleteEach_nil ⟨_,ρ,_,y,n⟩) λa a q=>q
theorem HN{μ}{ρ}{st}{s}{Q}(D:Dy Φ μ ρ st s)(z:o=.add\/o=.sub)(B:RelV Φ.a μ v x)(C:RelV Φ.a μ u y)(e:rY o x y=U r)(h:Q r st):g8 Φ.q A (inplaceOp (ol o) v u) (PE Φ ρ μ Q) E s:=by
 refine lV (ES e) λi j k l m f p=>hE (B.db l) λt q=>hE (C.db m) λG a=>q▸a▸?_;haveI h':∀b,zs b=U k->∀t n,PE Φ ρ μ Q (.int b t) {s with toks:=n}:=λb e t n=>io e▸ .mk (p▸h) (.int _ _) (D.toks _);clear e;rcases z with rfl|rfl
 .exact PySem.P.iadd_int<|h' _ f _ _
 .exact PySem.P.isub_int<|h' _ f _ _
noncomputable def vl:Op->Bool| .add| .sub=>H|_=>g
theorem HO(h:vl o=H):o=.add\/o=.sub:=by induction o<;>first|exact .inl O|exact .inr O|cases h
theorem RO(C:Cx Φ c d){aF aa}(h:(c.slots[i]?==U x)=H)(k:(vl o&&sj (ol o) op)=H)(au:Good Φ c d e<|.e y):hq Φ d (.cR i o e) [.AugAssign (.Name x aF) op y aa]:=by
 intro μ ρ st s kk D w;rw[iX]at k;haveI:=BE k.2;subst this;refine hc (BD w) λa J w=>?_
 .have j:Φ.slots[i]?=U x:=by rw[C.c9];exact beq_iff_eq.mp h
  refine kf λf=>hc D.ns λaJ T Y=>hc (Y i x a j J) λv h1 M=>f<|ki<|wpAny_AugAssign_Name<|rA C.ok.kind (C.ok.slot i x j) (C.ok.j▸T) h1 (hj (au.1 μ ρ st s _ _ D w) (λu n q=>?_) λm m=>jV);exists f;obtain⟨aG,b,l,k2,I,av,B⟩:=q;refine jU k2 λr L k2=>?_;.refine f<|hj (HN (Q:=λz ac=>z=r/\ac=l) B (HO k.1) (M.aP I) av L ⟨rfl,rfl⟩) (λz p q=>?_) λm m q=>q;exists f;obtain⟨aH,aK,aE,⟨rfl,rfl⟩,aI,aD,G⟩:=q;exact f<|BN C.ok G j aD λs' t=>⟨_,_,_,k2,t⟩
theorem RP(C:Cx Φ c d){k}(aG:oN Φ.a n k=H)(i:(vl o&&sj (ol o) op)=H)(i1:Good Φ c d e<|.e q)(aH:Good Φ c d x<|.e y):hq Φ d (.cF e k o x) [.AugAssign (.Attribute q n tp) op y aa]:=by intro μ ρ st s kk D w;rw[iX]at i;haveI:=BE i.2;subst this;obtain⟨rfl,m⟩:=vf aG;refine ki<|wpAny_AugAssign_AttributeAny<|hj (i1.1 μ ρ st s _ _ D w) (λv B z=>?_) λf f=>jV;obtain⟨aP,a,aL,k1,aT,p,T⟩:=z;refine hj (Gg C.go T m p k1) (λu G z=>?_) λf f z=>z;exists h;obtain⟨aQ,b,aM,k2,aE,aI,Y⟩:=z;refine h<|hj (aH.1 _ ρ _ _ _ _ Y k2) (λt I z=>?_) λf f=>jV;exists h;obtain⟨aR,b3,j,k3,l,aJ,au⟩:=z;refine jU k3 λr er k3=>?_;.refine h<|hj (HN (Q:=λz ac=>z=r/\ac=j) au (HO i.1) (aI.aP l) aJ er ⟨rfl,rfl⟩) (λz J M=>?_) λf f z=>z;exists h;obtain⟨aS,M,aN,⟨rfl,rfl⟩,aF,aK,av⟩:=M;exact h<|hj (Bx C.go av m (((p.aP aE).aP l).aP aF) aK k3) (λf L z=>by obtain⟨aO,k5,aD⟩:=z;exact rW _ ρ _ k5 aD) λf f z=>z
theorem RQ(C:Cx Φ c d)(p:Good Φ c d t<|.e x)(y:hq Φ d a l)(z:hq Φ d b r):hq Φ d (.ite t a b) [.If x l r aa]:=by
 refineλμ ρ st s k D w=>ki<|wpAny_If<|hj (p.2 μ ρ st s _ _ D w) (λr o q=>?_) λm m=>jV;refine kf λi=>i0 q λG B h I n=>hc h λm m k1=>?_;rcases oO k1 with⟨e,j⟩|⟨f,j⟩;clear zz3 e i;rotate_left 1;clear zz3 f i;rotate_right 1
 .exact i<|y _ ρ _ _ k n j
 .exact i<|z _ ρ _ _ k n j
theorem RS(C:Cx Φ c d){e}{aa}(h:Good Φ c d e<|.e x):hq Φ d (.ret e) [.Return (U x) aa]:=by refineλμ ρ st s k D w=>ki<|wpAny_Return_some<|hj (h.1 μ ρ st s _ _ D w) (λv b q=>?_) λl l=>jV;obtain⟨m,a,j,k1,n,i,f⟩:=q;exact⟨_,ρ,a,_,k1,i,f⟩
theorem RU:hq Φ d (.ret<|.aI .none) [.Return V aa]:=λμ ρ st s k D w=>ki<|wpAny_Return_none ⟨μ,ρ,_,st,w,.none,D⟩
theorem RV:hq Φ d .brk [.Break aa]:=λμ ρ st s k D w=>ki<|wpAny_Break ⟨μ,ρ,st,w,D⟩
theorem RW(C:Cx Φ c d)(n:Good Φ c d e<|.e x):hq Φ d (.eO e) [.Assert x m aa]:=by
 refineλμ ρ st s k D w=>ki<|wpAny_Assert_holds<|hj (n.2 μ ρ st s _ _ D w) (λr j q=>?_) λh h=>jV;refine kf λi=>i0 q λp o b t l=>hc b λh h k1=>?_;rcases oO k1 with⟨a,f⟩|⟨_,f⟩;clear zz3 a i
 .exact i ⟨rfl,_,ρ,_,f,l⟩
 .exact f.elim
set_option tactic.hygienic true in
theorem RX(C:Cx Φ c d)(Q:Good Φ c d t<|.e x)(T:hq Φ d b l):hq Φ d (.bs t b) [.While x l [] aa]:=by
 refineλμ ρ st s k D w=>ki<|wpAny_While ?_;haveI y:∀ρ st,j0 _ _ k ρ st->∀μ s,Dy Φ μ ρ st s->l9 Φ.q _ (.whileLoop x l _ _) (λr s'=>match r with| .ok f=>PS Φ k f s'| .error e=>zB _ _ _ _ e s') s:=by
  intro ρ st L
  induction L with|turn R aE h Y=>
   rename_i ρ st;refineλμ s D=>RB<|hj (Q.2 μ ρ st s _ _ D h) (λr J q=>?_) λn n=>BO C.ok;refine kf λj=>i0 q λav au m aD I=>hc m λn n k1=>?_;rcases oO k1 with⟨a,p⟩|⟨i,p⟩;clear zz3 a j;rotate_left 1;clear zz3 i j;rotate_right 1
   .refine j<|hj (T _ ρ _ _ _ I p) (λf M q=>?_) λn n q=>(kf λj=>hE q λaj q=>j<|BO C.ok q);.induction f with|next=>refine kf λj=>kM q λB G z k2 o=>j ?_;exact Y _ _ k2 _ _ o|cont=>exact q.elim|brk=>exact kf λj=>kM q λB G z k2 o=>j<|rW _ _ _ k2 o|ret v=>exact q
   .exact j<|s3 ⟨_,ρ,_,p,I⟩
 exact y ρ st w μ s D
end
end
section
open PySem PySem.W PySem.Calls PyProof.Rows
noncomputable def Fm.at(Φ:Fm)(μ:Mu):Fm:={Φ with b7:=μ}
theorem ib.mut(E:ib μ af)(m:ii μ a):ii af a:=by
 rcases m with⟨x,e⟩|⟨m,e⟩|⟨C,d,e⟩
 .exact .inl ⟨x,E.L _ e⟩
 .exact .inr<|.inl ⟨m,E.cell _ _ e⟩
 .exact .inr<|.inr ⟨C,d,E.bQ _ e⟩
section
variable{Φ:Fm}{c:Ck}{d:Nat}{A:iH}{μ af:Mu}{ρ aj:Loc}{st ac:St}{s s':hr}{k:KS}
theorem RY(n:Φ.z)(D:Dy Φ μ ρ st s):(Φ.at μ).z where
 kind:=n.kind
 j:=n.j
 slot:=n.slot
 nodup:=n.nodup
 b3:=n.b3
 bk:=n.bk
 b8:=n.b8
 b9:=n.b9
 dW:=n.dW
 cT:=n.cT
 dh:=λae he=>by exists j;obtain⟨k,L,o,h1,a,e,f,h,i⟩:=n.dh _ he;haveI b:=it a;exact j ⟨k,L,o,h1,a,e,f,λm=>(D.a7 L m).elim h λq=>absurd b<|j9.mpr q,λp l q=>(D.bb p l).elim (λz=>i p z q) λz=>absurd b<|j9.mpr (q▸z)⟩
theorem Cx.at(C:Cx Φ c d)(D:Dy Φ μ ρ st s):Cx (Φ.at μ) c d:=⟨C.go,RY C.ok D,C.c9,C.fc,C.room,C.gd,C.cz,C.bn,C.cl,C.eX,C.bW,C.dx,C.ci⟩
theorem Dy.gK(D:Dy Φ μ ρ st s):Dy (Φ.at μ) μ ρ st s:=⟨ib.refl μ,D.Y,λa o e n=>D.bx a o e λm=>n<|D.ext.mut m,D.ns,D.bl,D.bz,λa=>.inl,λp=>.inl,D.bY,D.bZ,D.b4⟩
theorem Dy.fN(D:Dy Φ μ ρ st s)(b:Dy (Φ.at μ) af aj ac s'):Dy Φ af aj ac s':=⟨D.ext.trans b.ext,b.Y,λa o e n=>b.bx a o e λm=>(D.a7 a m).elim n λq=>j9.mpr q<|it e,b.ns,b.bl,b.bz,λa m=>(b.a7 a m).elim (D.a7 a) .inr,λp f=>(b.bb p f).elim (D.bb p) .inr,b.bY,b.bZ,b.b4⟩
theorem RZ(D:Dy Φ μ ρ st s)(x:PX (Φ.at μ) aj X v s'):PX Φ aj X v s':=by exists b;obtain⟨e,af,ac,x,rfl,P,f,l,i,j⟩:=x;refine b ⟨e,_,ac,x,rfl,⟨P.dY,D.ext.trans P.ext,P.Y,P.cy,P.new,P.e',λa o e n=>P.bx a o e λm=>(D.a7 a m).elim n λq=>j9.mpr q<|it e,λa m=>(P.a7 a m).elim (D.a7 a) .inr,λp h=>(P.bb p h).elim (D.bb p) .inr⟩,f,l,i,?_⟩;exact j
noncomputable def R1(Φ:Fm)(μ:Mu)(k:KS)(f:Flow)(s:hr):Prop:=match f with| .next=>∃af ρ st,k.n ρ st/\ib μ af/\Dy Φ af ρ st s| .ret v=>∃af ρ a st,k.aX a st/\RelV Φ.a af v a/\Dy Φ af ρ st s| .brk=>∃af ρ st,k.b ρ st/\ib μ af/\Dy Φ af ρ st s| .cont=>False
noncomputable def q1(Φ a:Fm):Prop:=a.a=Φ.a/\a.bi=Φ.bi/\a.r=Φ.r/\a.slots=Φ.slots/\a.C=Φ.C
theorem R2(C:Cx Φ c d)(j:∀i,Cx i c d->q1 Φ i->hq i d b l)(D:Dy Φ μ ρ st s)(w:WS Φ.a.T (i6 Φ.a d) b ρ st k):g8 Φ.q Φ.C (o9 l Φ.r) (R1 Φ μ k) (nt Φ k.aK) s:=by refine hj (j _ (C.at D) ⟨rfl,rfl,rfl,rfl,rfl⟩ μ ρ st s k D.gK w) (λf s' q=>?_) λv s' q=>(hE q λaj q=>⟨aj,RZ D q⟩);.induction f with|next=>exact kM q λaf aj ac h e=>Aj af _ _ h e.ext<|D.fN e|ret v=>exact jj q λaf aj n=>i0 n λa ac h m e=>⟨_,aj,a,_,h,m,D.fN e⟩|brk=>exact kM q λaf aj ac h e=>Aj af _ _ h e.ext<|D.fN e|cont=>exact q.elim
end
section
variable{Φ:Fm}{μ:Mu}{ρ:Loc}{st:St}{s:hr}
noncomputable def Mu.swap(μ:Mu)(J:List Nat)(js:List (Nat×i')):Mu:={μ with t:=js++μ.t.filter λp=>!J.contains p.1}
theorem BP(h:p∈(μ.swap J js).t):p∈js\/(p∈μ.t/\p.1∉J):=by
 rcases li.mp h with h|h
 .exact .inl h
 .exact hv (rM.mp h) λa b=>.inr ⟨a,by simpa using b⟩
theorem HP(h:p∈μ.t)(n:p.1∉J):p∈(μ.swap J js).t:=ME _<|rM.mpr ⟨h,by simpa using n⟩
theorem Dy.swap(aG:Φ.z)(D:Dy Φ μ ρ st s)(T:∀b∈J,∃o,(b,o)∈μ.t/\nU o)(h0:∀b∈J,∀p∈Φ.b7.t,p.1≠b)(z:∀(a:Nat) o,a∉J->s.heap.get? a=U o->h'.get? a=U o) (j:∀p∈js,h'.get? p.1=U p.2/\(p.1∈J\/s.heap.objs.size<=p.1)):p9 μ (μ.swap J js)/\Dy Φ (μ.swap J js) ρ st {s with heap:=h',toks:=t}:=by
 have I:=D.Y;refine hc D.ns λaF aD aE=>?_;have l:∀b∈J,Φ.a.b2<=b/\¬ii μ b/\Φ.bD.objs.size<=b/\b≠Φ.a_:=λb Q=>hc (T b Q) λo h1 E=>⟨((I.t _ h1).2.1),((I.t _ h1).2.2),((D.bb _ h1).elim (λq=>absurd O<|h0 b Q _ q) id),D.bz _ h1⟩;have mk:=λa o m=>z a o λq=>(l a q).2.1 m;haveI fk:∀p∈μ.t,¬nU _->p.1∉J:=λp f L q=>by refine hc (T _ q) λo h1 w=>?_;haveI G:=(I.t _ h1).1;have e3:U o=U _:=G.symm.trans ((I.t _ f).1);cases e3;exact L w
 have y:p9 μ<|μ.swap J js:=⟨λE h=>h,λE E h=>h,λp f L=>HP f<|fk p f L,λE h=>h⟩;haveI B:=aD.at' λo=>z _ o λq=>(l _ q).2.2.2 O;refine⟨y,⟨⟨D.ext.L,D.ext.cell,λp f=>HP (D.ext.t p f) λq=>h0 _ q p f O,D.ext.bQ⟩,?_,λa o e n=>z a o (λq=>absurd (it e)<|j9.mpr (l a q).2.2.1)<|D.bx a o e n,⟨aF,B,λi x a G e2=>(hc (aE i x a G e2) λv h1 w=>h_ v h1<|w.ce y)⟩,D.bl,λp f=>?_,D.a7,λp f=>?_,D.bY,D.bZ,D.b4⟩⟩
 .refine⟨λa o e=>z a o (λq=>absurd (I.cw a o e)<|j9.mpr (l a q).1)<|I.aV a o e,I.cw,λp f=>?_,λks M e=>(jK (I.c7 ks M e) λx Y es n h1 w au av=>qL x Y es n h1 (y.t _ w FK) (mk _ _ (.inl ⟨x,h1⟩) au)<|av.ce y),I.cG,λm c e=>(hc (I.cp m c e) λa h1 w=>h_ a h1<|(w.ce y).dc λo=>mk _ _<|.inr (.inl ⟨m,h1⟩)),I.ck,λa C d e=>(jC (I.cX a C d e) λo M h1 r=>lU o M (mk _ _ (.inr<|.inr ⟨C,d,e⟩) h1) r),λa m=>⟨(I.bw a m).1,(hE (I.fM m) λo h1=>it<|mk _ _ m h1)⟩,I.inj,I.dd,I.de,I.a2,I.cx,I.df,(f1 aG.bk<|f1 aG.b3<|iN B.lt)⟩
  .rcases BP f with h|⟨h,n⟩
   .refine⟨(j p h).1,?_⟩;rcases(j p h).2 with q|q
    .exact⟨(l _ q).1,(l _ q).2.1⟩
    .exact⟨f1 I.bk q,λm=>absurd (I.bw _ m).2<|j9.mpr q⟩
   .exact⟨z _ _ n (I.t p h).1,(I.t p h).2⟩
 .rcases BP f with h|⟨h,n⟩
  .rcases(j p h).2 with q|q
   .exact(l _ q).2.2.2
   .exact iP<|hy D.cH q
  .exact D.bz p h
 .rcases BP f with h|⟨h,n⟩
  .rcases(j p h).2 with q|q
   .exact .inr (l _ q).2.2.1
   .exact .inr<|f1 (D.dZ aG) q
  .exact D.bb p h
end
end
section
open PySem PySem.W PySem.Calls PyProof.Rows
noncomputable def q2(a:List g9)(b:List Nat):ho->Bool:=xA (λx f=>l1 (λi=>a[i]?==U x) b) hk h4 hu hu hu hu hu (λe=>mJ a b e&&kK 2 b.length) hk h4 h4 hu iD iD
section
variable{Φ:Fm}{c:Ck}{d:Nat}{A:iH}{μ af:Mu}{ρ aj:Loc}{st ac:St}{s s':hr}{k:KS}
theorem R3(h:2<=b.length)(e:xo b a ρ=U aj):∃l,a=.av l/\qU b l ρ=U aj:=by cases b with|nil=>exact absurd h (by decide)|cons i b=>cases b with|nil=>exact absurd (show 2<=1 from h) (by decide)|cons j b=>cases a<;>first|exact hH e|exact h_ _ O e
theorem R4(w:Φ.z)(D:Dy Φ μ ρ st s)(m:A.handled=V)(n:q2 Φ.slots f b=H)(r:RelV Φ.a μ v a)(e:xo f a ρ=U aj)(h:∀s',Dy Φ μ aj st s'->Q () s'):g8 Φ.q A (rK b Φ.r v) Q E s:=(ma (P:=λt=>g8 _ A (rK t _ v) Q E s) n (λx p h0=>i4 (P:=λf=>xo f a ρ=U _->g8 _ A _ Q E s) h0 (λi h0 e=>xY w D (beq_iff_eq.mp h0) r (io e▸h)) e) hn hn hn ht ht hn ht (λq o p h0=>haveI h0:=f2 h0;hc (R3 (kC h0.2) e) λl j e=>HL w D m h0.1 (j▸r) e h) ik hn hn ht ht ht)
noncomputable def BQ:List String:=["enumerate","zip","dict_itemiterator","dict_reverseitemiterator","odict_iterator","itertools.zip_longest","itertools.pairwise"]
theorem R5{I:Nat}{o}{n}{Q}{E}{M}(b:s.heap.get? I=U o)(a:o.cls=.type n)(e:BQ.contains n=g)(h:Q () s):g8 M A (zW (.Tuple [] 0 p) (.ref I) v) Q E s:=by
 induction v<;>first|exact ip h|skip
 refine hw<|wpAny_load b ?_;clear b;induction o with|mk c x dd sl=>
 clear zz3 a;clear a;induction dd<;>first|exact ip h|skip
 show g8 M A (if(BQ.contains n&&_)=H then _ else pure _) Q E s;rw[e];exact ip h
theorem BR{I:Nat}(f:s.heap.get? I=U o)(b:o.cls=.type n)(e:BQ.contains n=g)(h:Q () s):g8 M A (zW a (.ref I) v) Q E s:=by cases a<;>first|exact ip h|exact R5 (p:=default) f b e h
noncomputable def Step(Φ:Fm)(e:ho)(i:g7)(f:St->Prop)(P:Mu->List AV->Prop):Prop:=∀l μ ρ st s E,P μ l->f st->Dy Φ μ ρ st s->match l with|[]=>g8 Φ.q Φ.C (pyNext i) (λr b=>r=V/\∃af,Dy Φ af ρ st b) E s|a::j=>g8 Φ.q Φ.C (pyNext i) (λr b=>∃v,r=U v/\g8 Φ.q Φ.C (zW e i v) (λm h=>∃af,P af j/\RelV Φ.a af v a/\Dy Φ af ρ st h) E b) E s
theorem vm(C:Cx Φ c d)(aF:(!c.bA)=H){T}{h}{Y}{b}{j}{m}{P}{R}(Q:q2 c.slots T h=H)(aG:∀I,Cx I c d->q1 Φ I->hq I d b j) (p:∀μ af l,ib μ af->P μ l->P af l) (n:Step Φ h Y m P)(E:∀f s',PS Φ k f s'->R (.ok f) s') (aE:∀v s',nt Φ k.aK v s'->o_ Φ.q Φ.C Φ.r (λe s'=>R (.error e) s') v s'):∀l μ ρ st s,P μ l->Dy Φ μ ρ st s->ll (WS Φ.a.T (i6 Φ.a d) b) T m k l ρ st->l9 Φ.q Φ.C (.forLoop h Y j [] Φ.r) R s:=by
 rw[<-C.c9]at Q;intro l;induction l with
 |nil=>refineλμ ρ st s hP D w=>kf λi=>hv w λw1 w2=>i<|HM<|hj (n _ μ ρ st s _ hP w1 D) (λr t q=>?_) λo o q=>q;exists i;obtain⟨rfl,af,y⟩:=q;exact i<|E _ _ ⟨_,ρ,st,w2,y⟩
 |cons a l aH=>refineλμ ρ st s hP D w=>kf λi=>hv w λw1 w2=>i<|HM<|hj (n _ μ ρ st s _ hP w1 D) (λr t q=>?_) λo o q=>q;exists i;obtain⟨v,rfl,q⟩:=q;refine i<|hj q (λo au q=>?_) λo o q=>q;refine kf λi=>jB q λaf B aI y=>jU w2 λaj e w2=>?_;.refine i<|R4 C.ok y (C.dx (by simpa using aF)) Q aI e λav aD=>hj (R2 C aG aD w2) (λf x q=>?_) λv x=>aE v _;induction f with|next=>exact kf λi=>oI q λJ L G w4 M z=>i<|aH _ _ _ _ (p _ _ _ M B) z w4|ret v=>exact E _ _ q|brk=>exact kf λi=>oI q λJ L G w4 M z=>i<|E _ _ ⟨_,_,_,w4,z⟩|cont=>exact q.elim
end
end
section
open PySem PySem.W PySem.Calls PyProof.Rows
section
variable{Φ:Fm}{c:Ck}{d:Nat}{A:iH}{μ af:Mu}{ρ aj:Loc}{st ac:St}{s s':hr}{k:KS}
structure One (Φ:Fm)(μ:Mu)(I:Nat)(o:i'):Prop where
 mem:(I,o)∈μ.t
 fd:nU o
 ej:∀p∈Φ.b7.t,p.1≠I
theorem One.aP(E:ib μ af)(x:One Φ μ I o):One Φ af I o:=⟨E.t _ x.mem,x.fd,x.ej⟩
theorem One.get(D:Dy Φ μ ρ st s)(x:One Φ μ I o):s.heap.get? I=U o:=(D.Y.t _ x.mem).1
theorem BS(r:Φ.z)(D:Dy Φ μ ρ st s)(x:One Φ μ I o)(j:nU e)(l:∀a o,a≠I->s.heap.get? a=U o->h'.get? a=U o)(i:h'.get? I=U e):p9 μ (μ.swap [I] [(I,e)])/\One Φ (μ.swap [I] [(I,e)]) I e/\Dy Φ (μ.swap [I] [(I,e)]) ρ st {s with heap:=h',toks:=t}:=by
 obtain⟨E,h⟩:=D.swap r (J:=[I]) (js:=[(I,e)]) (λb f=>by rw[iv.mp f];exact h_ o x.mem x.fd) (λb f=>by rw[iv.mp f];exact x.ej) (λa o n=>l a o λq=>n (q▸iv.mpr O)) λp m=>by rw[iv.mp m];exact⟨i,.inl<|iv.mpr O⟩
 exact jZ E ⟨s0 _<|.head _,j,x.ej⟩ h
theorem BU(i:Φ.z)(D:Dy Φ μ ρ st s)(x:One Φ μ I o)(f:∀a o,a≠I->s.heap.get? a=U o->h'.get? a=U o):Dy Φ (μ.swap [I] []) ρ st {s with heap:=h',toks:=t}:=(D.swap i (λb e=>by rw[iv.mp e];exact h_ o x.mem x.fd) (λb e=>by rw[iv.mp e];exact x.ej) (λa o n=>f a o λq=>n (q▸iv.mpr O)) λp h=>by cases h).2
theorem xZ(f:Φ.z)(D:Dy Φ μ ρ st s)(b:o.isFreed=g)(a:nU o):One Φ (μ.bM s.heap.objs.size o) s.heap.objs.size o/\Dy Φ (μ.bM s.heap.objs.size o) ρ st {s with heap:=s.heap.push o,toks:=t}:=⟨⟨.head _,a,λp e q=>by haveI:=it (D.Y.t p<|D.ext.t p e).1;exact jP _ (q▸this)⟩,D.eQ f b⟩
theorem BV{α:Type}{l:List α}{a}{r}(h:a::r=l.drop i):l[i]?=U a/\r=l.drop (i+1):=by
 haveI:l.drop i≠[]:=by rw[<-h];simp
 have b:=by cases nG i _ with|inl q=>exact q|inr q=>exact absurd (zG q) this
 rw[s4 b]at h;cases h;exact⟨oe b,rfl⟩
theorem HQ{α:Type}{l:List α}(h:[]=l.drop i):l.length<=i:=by haveI:=congrArg uB h;rw[oC]at this;exact Ei this.symm
noncomputable def BW(Φ:Fm)(m:ja)(a:List AV)(I b:Nat)(μ:Mu)(l:List AV):Prop:=∃i o,One Φ μ I o/\o.cls=.type "list_iterator"/\o.data=.fields #[.ref b,.int (i:Nat) 0]/\l=a.drop i/\μ.cell m=U b
theorem R6(av:Φ.z)(Q:Φ.C.handled=V){I q:Nat}(hm:m≠ .L):Step Φ p (.ref I) (λst=>st.cell m=U (.m h))<|BW Φ m h I q:=by refineλl μ ρ st s E hP hs D=>kf λb=>mV hP λi o h1 L M au=>hv au λz B=>?_;clear hP;obtain⟨a',j,Y,n,c1,c2,c3⟩:=D.Y.cp m _ hs;rw[B]at j;cases j;have e:s.heap.IsListIter I q i:=⟨o,h1.get D,L,M⟩;have hl:s.heap.IsList q Y:=⟨_,c1,rfl,n,rfl⟩;refine b ?_;induction l with|nil=>haveI:=HQ z;exact wpAny_pyNext_list_end Q e hl (MF<|f1 (im c2.len) this) λh' he=>⟨rfl,_,BU av D h1 he⟩|cons a l=>refine kf λb=>hv (BV z) λj G=>hc (qc c2 j) λv v1 v2=>?_;rw[pY]at v1;refine b<|wpAny_pyNext_list_item e hl v1 λh' f x=>⟨v,rfl,?_⟩;exact kf λb=>jB f λT g1 r J=>i5 (BS av D (t:=s.toks) h1 ⟨_,r,by decide,by decide,by decide⟩ (λa o n=>(x.2 a n).trans) g1) λy w C=>b<|BR g1 r O ⟨_,⟨_,T,w,r,J,G,y.cell _ _ B⟩,v2.ce y,C⟩
theorem R7:∀μ af l,ib μ af->BW Φ m a I e μ l->BW Φ m a I e af l:=λb b b E h=>mV h λi o h1 f j q=>hv q λn p=>⟨i,o,h1.aP E,f,j,n,E.cell _ _ p⟩
noncomputable def BX(Φ:Fm)(n:Nat)(I:Nat)(μ:Mu)(l:List AV):Prop:=∃(i:Nat),i<=n/\One Φ μ I {cls:=.type "range_iterator",dict:=V,data:=.fields #[my i,my ((n:Int) - i),my 1],slots:=#[]}/\l=p7 i (n - i)
theorem R8(C:Φ.z)(x:Φ.C.handled=V){n I:Nat}:Step Φ j (.ref I) (λB=>True)<|BX Φ n I:=by
 refineλl μ ρ st s E hP hs D=>jB hP λi h0 h1 e=>?_;clear hP;haveI f:=h1.get D;cases l with
 |nil=>
  haveI:n - i=0:=by induction q:n - i with|zero=>rfl|succ k=>rw[q]at e;cases e
  exact wpAny_pyNext_range_end x f (by rw[tt h0,this];exact wH _) λh' he=>⟨rfl,_,BU C D h1 he⟩
 |cons a l=>
  obtain⟨k,q⟩:∃k,n - i=k+1:=by
   induction q:n - i with
   |zero=>rw[q]at e;cases e
   |succ k=>exact⟨k,rfl⟩
  rw[q]at e;clear zz3 e;refine wpAny_pyNext_range_item f (by rw[tt h0,q];exact pd.mpr<|wJ k) λh' h p=>⟨_,rfl,?_⟩;haveI w:(i+1)=((i+1:Nat):Int):=rfl;haveI b:=by haveI z:=h;rw[(Int.sub_sub n i 1)]at z;exact z
  refine i5 (BS C D (t:=s.toks+1) h1 ⟨_,rfl,by decide,by decide,by decide⟩ (λa o n=>(p.2 a n).trans) b) λy m r=>BR b O O ⟨_,⟨i+1,zX q,m,?_⟩,.int _ _,r⟩;rw[show n - (i+1)=k from(zY n i 1).symm.trans<|congrArg (· - 1) q,w]
theorem R9:∀μ af l,ib μ af->BX Φ n I μ l->BX Φ n I af l:=λa a a E h=>jB h λi h0 h1 b=>Ai i h0 (h1.aP E) b
noncomputable def BY(Φ:Fm)(a:List AV)(n I b e:Nat)(f:Mu->Prop)(μ:Mu)(l:List AV):Prop:=∃i o,One Φ μ I o/\o.cls=.type "dict_keyiterator"/\o.data=.fields #[.ref b,.int (i:Nat) 0,.int n 0,.int e 0]/\l=a.drop i/\f μ
theorem HR{K}[DecidableEq K]{az:KeyKind Φ.a.prog Φ.a.w K}(aK:Φ.z)(hh:Φ.C.handled=V){b}{e}{I w y:Nat}{f}{h}{r}(J:∀μ af,p9 μ af->r μ->r af)(G:∀μ ρ st s,h st->r μ->Dy Φ μ ρ st s->s.heap.DictAt az w b y) (hl:e.length=b.length) (aH:∀(i:Nat) a k x v μ,e[i]?=U a->b[i]?=U (k,x)->az.is k v=H->RelV Φ.a μ v a):Step Φ f (.ref I) h<|BY Φ e b.length I w y r:=by refineλl μ ρ st s E hP hs D=>mV hP λi o h1 aE aF aJ=>hv aJ λT Y=>?_;clear hP;have j:s.heap.IsKeyIter I w i _ y:=⟨o,h1.get D,aE,aF⟩;haveI hm:=G μ ρ st s hs Y D;induction l with|nil=>haveI:=HQ T;exact wpAny_pyNext_dict_end hh j hm (zo (hl▸this)) λh' he=>⟨rfl,_,BU aK D h1 he⟩|cons a l=>refine kf λC=>hv (BV T) λM e2=>?_;obtain⟨⟨q,x⟩,Q⟩:∃p,b[i]?=U p:=⟨b[i]'(hl▸(i2.mp M).1),oe _⟩;refine C<|wpAny_pyNext_dict_item j hm Q λv h' aG m L=>⟨v,rfl,?_⟩;exact kf λC=>jB m λaI g1 z aD=>i5 (BS aK D (t:=s.toks) h1 ⟨_,z,by decide,by decide,by decide⟩ (λa o n=>(L.2 a n).trans) g1) λav B au=>C<|BR g1 z O ⟨_,⟨_,aI,B,z,aD,e2,J _ _ av Y⟩,aH i a q x v _ M Q aG,au⟩
theorem HS{b}(e:∀μ af,p9 μ af->b μ->b af):∀μ af l,ib μ af->BY Φ a n I j m b μ l->BY Φ a n I j m b af l:=λf f f E h=>mV h λi o h1 p q w=>hv w λr t=>⟨i,o,h1.aP E,p,q,r,e _ _ E.eP t⟩
end
end
section
open PySem PySem.W PySem.Calls PyProof.Rows
section
variable{Φ:Fm}{c:Ck}{d:Nat}{A:iH}{μ af:Mu}{ρ aj:Loc}{st ac:St}{s s':hr}{k:KS}
theorem R_(b:A.handled=V)(a)(x)(t):Draws ai w A a [a] x.cps.size (λi v=>∃c u,x.cps[i]?=U c/\v=.str ⟨#[c]⟩ u) λi h=>h.IsStrIter a (rN x) x t i:=by induction q:x.cps.all _ with|true=>rw[show rN x="str_ascii_iterator" by unfold rN;rw[if_pos q]];exact Draws.strAscii b a x t|false=>rw[show rN x="str_iterator" by unfold rN;rw[if_neg (by rw[q];decide)]];exact Draws.strWide b a x t
theorem HT(x)(h:o.cls=.type (rN x)):nU o:=by refine h_ _ h ?_;unfold rN;split<;>exact⟨by decide,by decide,by decide⟩
noncomputable abbrev BZ(b:Nat)(i:Int)(a:g7):i':={cls:=.type "enumerate",dict:=V,data:=.fields #[.none,.bool g,.ref b,my i,.none,a],slots:=#[]}
theorem HU:nU<|BZ b i a:=⟨_,rfl,by decide,by decide,by decide⟩
noncomputable def B0(Φ:Fm)(b:List Nat)(t:Tok)(e h:Nat)(μ:Mu)(l:List AV):Prop:=∃(i:Nat) (a:i') (f:g7),One Φ μ e (BZ h i f)/\One Φ μ h a/\a.cls=.type (rN (S b))/\a.data=.fields #[.str (S b) t,.int (i:Nat) 0]/\i<=b.length/\l=xi i (b.drop i)
theorem Sa(a1:Φ.z)(hh:Φ.C.handled=V){e B:Nat}(Q:e≠B):Step Φ (.Tuple aI aZ aa) (.ref e) (λa0=>True)<|B0 Φ C t e B:=by
 refineλl μ ρ st s E hP hs D=>lV hP λi aU aV h1 av aQ aW=>i5 aW λaK aY Y=>?_;clear hP;have he:=h1.get D;have aF:s.heap.IsStrIter B _ _ t i:=⟨_,av.get D,aQ,aK⟩;haveI aH:=R_ (ai:=Φ.a.prog) (w:=Φ.a.w) (A:=Φ.C.in1) hh B (S C) t;have sz:(S C).cps.size=C.length:=by show C.toArray.size=_;simp
 have aE:∀b∈[e,B],∃o,(b,o)∈μ.t/\nU o:=λb L=>by
  exists aD;rcases h7.mp L with h|L;clear zz3 h aD
  .exact aD<|h_ _ h1.mem h1.fd
  .refine aD ?_;rw[iv.mp L];exact h_ _ av.mem av.fd
 have G:∀b∈[e,B],∀p∈Φ.b7.t,p.1≠b:=λb L=>by
  rcases h7.mp L with j|L;clear zz3 j
  .exact h1.ej
  .rw[iv.mp L];exact av.ej
 cases l with
 |nil=>
  haveI hi:=by induction q:C.drop i with|nil=>haveI:=congrArg uB q;rw[oC]at this;exact k6 (by assumption)<|Ei this|cons a r=>rw[q]at Y;cases Y
  clear aK;subst hi;exact wpAny_pyNext_enum_endD aH he (aF) λh' hx=>⟨rfl,_,(D.swap a1 (js:=[]) aE G (λa o n=>hx a o λz=>n (z▸ .tail _ (.head _))) λp T=>by cases T).2⟩
 |cons a l=>
  obtain⟨ch,r,q⟩:∃ch r,C.drop i=ch::r:=by
   induction q:C.drop i with
   |nil=>rw[q]at Y;cases Y
   |cons ch r=>exact rV ch r O
  rw[q]at Y;clear zz3 Y;refine hv (BV q.symm) λe1 e2=>?_;haveI lt:=(i2.mp e1).1;refine wpAny_pyNext_enum_itemD aH he aF (lt) Q (λq=>Q<|iv.mp q) λx h' tk hx aS aG hT aT aR=>⟨_,rfl,?_⟩;refine kf λaD=>jC hx λaO u c1 I=>?_;clear hx;subst I;haveI au:=by haveI:C.toArray[i]?=U _:=c1;simpa using this
  rw[e1]at au;cases au;refine aD<|wpAny_letOwnedTupleGo_enum aS λaL M f=>?_;replace f:=f;refine jB aG λaM g1 aJ aP=>?_;haveI J:=(f.2 _<|iP<|it he).trans hT;obtain⟨aX,aN⟩:=D.swap a1 (js:=[(e,BZ B _ _),(B,aM),(s.heap.objs.size,{cls:=.type _,data:=.seq _})]) aE G (λa o n q=>(f.2 a λz=>n (z▸ .head _)).trans<|aR a o (λz=>n (z▸ .head _)) (λz=>n (z▸ .tail _ (.head _))) q) λp T=>by
   rcases h7.mp T with m|T;clear zz3 m
   .exact⟨M,.inl<|.head _⟩
   .rcases h7.mp T with y|T;clear zz3 y
    .exact⟨((f.2 B<|Ne.symm Q).trans g1),.inl<|.tail _ (.head _)⟩
    .rw[iv.mp T];exact⟨J,.inr<|g' _⟩
  refine Ai _ ⟨_,aM,_,⟨.head _,HU,h1.ej⟩,⟨.tail _<|.head _,HT _ aJ,av.ej⟩,aJ,aP,lt,?_⟩ ?_ aN;.rw[<-e2,<-(by rfl:(i+1)=((i+1:Nat):Int))]
  .refine .av (.inl<|.tail _<|.tail _ (.head _)) (.cons (.int _ _)<|.cons ?_ .nil) (by show 2<=1000000;decide);exact RelV.str _ u (by show 1<=1000000;decide)
theorem Sb:∀μ af l,ib μ af->B0 Φ f t e m μ l->B0 Φ f t e m af l:=λb b b E h=>oI h λi o a h1 j h=>Aj i o a (h1.aP E) (j.aP E) h
end
end
section
open PySem PySem.W PySem.Calls PyProof.Rows
section
variable{Φ:Fm}{c:Ck}{d:Nat}{A:iH}{μ af:Mu}{ρ aj:Loc}{st ac:St}{s s':hr}{k:KS}
theorem vn(h:me x=H)(y):D5 x ae y=pure y:=(qX x _).2.2.2.2.2.1 h y
theorem HV(C:Cx Φ c d){l}(o:l3 Φ.a c l b=H)(i:jE y=H)(a:∃k,(k=zR\/k=zS\/k=zT)/\∀h,ob Φ.q h (zU b) k) (r:Good Φ c d e<|.e y) (D:Dy Φ μ ρ st s) (w:WE Φ.a.T (i6 Φ.a d) e ρ st P X)(h:∀af x ac v s',P x ac->RelV Φ.a af v x->Dy Φ af ρ ac s'->g8 Φ.q Φ.C (kZ b [v]) Q (PX Φ ρ X) s'):g8 Φ.q Φ.C (eval (.Call (.Name l G) [y] [] aa) Φ.r) Q (PX Φ ρ X) s:=by exists f;obtain⟨k,p,L⟩:=a;refine f<|Call_ O<|xV C o D<|o' (P:=λj=>True) (by rw[qY (by rw[rL,i];rfl)];rfl) (λh j=>⟨k,p,L h⟩) (qg (by rw[rL,i];rfl) O (pb (hj (r.1 μ ρ st s P X D w) (λv m q=>?_) λj j q=>q) (om i)));exists f;obtain⟨B,x,z,k1,E,t,n⟩:=q;exact f<|pa<|p1 ⟨trivial,h _ x _ v _ k1 t n⟩
noncomputable def RF(Φ:Fm)(k:KS)(r:Result)(s':hr):Prop:=match r with| .ok f=>PS Φ k f s'| .error e=>zB Φ.q Φ.C Φ.r (nt Φ k.aK) e s'
theorem x0(a:Φ.z)(h:nt Φ k.aK v s):o_ Φ.q Φ.C Φ.r (λe s'=>RF Φ k (.error e) s') v s:=hE h λρ=>BO a
theorem Sc(C:Cx Φ c d)(B:(!c.bA)=H){h i}(L:q2 c.slots T h=H)(hs:me i=H)(M:Good Φ c d e<|.e i)(Q:∀y,Cx y c d->q1 Φ y->hq y d b j):hq Φ d (.b6 .m T e b) [.For h i j [] aa]:=by
 refineλμ ρ st s k D w=>ki<|zZ (hj (M.1 μ ρ st s _ _ D w) (λv p q=>?_) λau au=>jV)<|vn hs;exists r;obtain⟨av,x,Y,k1,aD,E,z⟩:=q;refine r3 k1 λm l G J k1=>?_;rw[G]at E
 ··revert r;refine RelV.fH E z.Y J ?_;intro a I hm q r
   obtain⟨vs,n,c1,c2,c3⟩:=q
   exact hv (xZ C.ok z (o:={cls:=.type "list_iterator",data:=.fields #[.ref a,.int 0 0]}) O ⟨_,rfl,by decide,by decide,by decide⟩ (t:=p.toks)) λx1 x2=>r<|wpAny_pyIter_list ⟨_,c1,rfl,n,rfl⟩<|vm C B L Q R7 (R6 C.ok (C.dx (by simpa using B)) hm) (λf s' q=>q) (λv s'=>x0 C.ok) l _ ρ _ _ ⟨0,_,x1,rfl,rfl,rfl,I⟩ x2 k1
theorem Sd(C:Cx Φ c d)(G:(!c.bA)=H){I}(aD:q2 c.slots is j=H)(Y:l3 Φ.a c I (.type "range")=H)(av:jE y=H)(aE:Good Φ c d e<|.e y)(aF:∀E,Cx E c d->q1 Φ E->hq E d b m):hq Φ d (.b6 .ef is e b) [.For j (.Call (.Name I np) [y] [] cp) m [] aa]:=by
 refineλμ ρ st s k D w=>ki<|zZ (hj (HV C Y av BL aE (Q:=λv i=>g8 _ _ _ (λaJ L=>l9 _ _ _ (RF Φ k) _) _ _) D w ?_) (λv i q=>q) λaH aH=>jV)<|vn O;refineλaI x aG v i k1 J M=>kf λB=>r4 k1 λn T k1=>?_;rw[T]at J
 .refine i5 k1 λp au k2=>hE (u2 J) λt l=>?_;subst l;haveI h1:∀h:jA,∀r,(h.push r).objs.size=h.objs.size+1:=λh o=>lz ..;refine B<|call_range_1<|wpAny_pyIter_range (IsRange.new ..) (small_one (by decide) (by decide) (wF (by decide) p)<|Me au (by decide)) ?_;haveI sz:Builtin.Range.rangeSize 0 n 1=((n.toNat:Nat)) - ((0:Nat)):=by
   rw[rangeSize_one];split;.exact congrArg (· - (0)) (zI p).symm
   .rename_i z;rw[Int.toNat_of_nonpos<|Int.not_lt.mp z];rfl
  rw[sz];exact kf λB=>hv (xZ C.ok (M.keeps (by rw[h1];exact iA _) λa o=>jT _) (o:={cls:=.type "range_iterator",dict:=V,data:=.fields #[my ((0:Nat)),my (((n.toNat:Nat)) - ((0:Nat))),my 1],slots:=#[]}) O ⟨_,rfl,by decide,by decide,by decide⟩ (t:=i.toks+1+1)) λx1 x2=>B<|vm C G aD aF R9 (R8 C.ok<|C.dx (by simpa using G)) (λf s' q=>q) (λv s'=>x0 C.ok) _ _ ρ _ _ ⟨0,jd _,x1,rfl⟩ x2 k2
theorem Se(C:Cx Φ c d)(G:(!c.bA)=H){J}(aE:q2 c.slots is (.Tuple i aJ tp)=H)(av:l3 Φ.a c J (.type "enumerate")=H)(r:jE y=H)(aF:Good Φ c d e<|.e y)(aG:∀B,Cx B c d->q1 Φ B->hq B d b h):hq Φ d (.b6 .e7 is e b) [.For (.Tuple i aJ tp) (.Call (.Name J np) [y] [] cp) h [] aa]:=by refineλμ ρ st s k D w=>ki<|zZ (hj (HV C av r BL aF (Q:=λv a=>g8 _ _ _ (λaM M=>l9 _ _ _ (RF Φ k) _) _ _) D w ?_) (λv a q=>q) λaK aK=>jV)<|vn O;refineλaL x aI v a k1 L n=>kf λm=>uU k1 λl Y k1=>?_;rw[Y]at L;.refine hc L.aO λt T hl=>?_;clear zz3 T m;.refine m<|call_enumerate_str λh' he o z aD=>wpAny_pyIter_enum he<|kf λm=>jB o λaH g1 E au=>?_;haveI j:∀I,a.heap.objs.size<=I->∀p∈Φ.b7.t,p.1≠I:=λI hI p r q=>absurd (it (n.Y.t p<|n.ext.t p r).1)<|j9.mpr (q▸hI);exact m<|vm C G aE aG Sb (Sa C.ok (C.dx (by simpa using G))<|zQ _) (λf s' q=>q) (λv s'=>x0 C.ok) _ _ ρ _ _ ⟨0,aH,_,⟨.head _,HU,j _<|iA _⟩,⟨.tail _<|.head _,HT _ E,j _<|g' _⟩,E,au,jd _,rfl⟩ (n.gc C.ok (t:=a.toks) (by rw[z];exact kY _) aD g1 he) k1
theorem HW(a:Nat)(h):mw a h h:=⟨rfl,λb b=>rfl⟩
theorem HX{K L}{f}{e:List (K×g7)}{b:List (L×AV)}(h:j' G μ f e b):b.length=e.length/\∀(i:Nat) a k v,b[i]?=U a->e[i]?=U (k,v)->k=f a.1:=by
 induction h with|nil=>exact⟨rfl,λi a k v h=>hH h⟩|cons r _ m=>exact⟨congrArg _ m.1,λi a k v j l=>by
  induction i with
  |zero=>cases j;cases l;rfl
  |succ i=>exact m.2 i a k v j l⟩
theorem Sf(C:Cx Φ c d)(aD:(!c.bA)=H)(aM:q2 c.slots is r=H)(hs:me iter=H)(aP:Good Φ c d e<|.e iter)(aN:∀Ψ,Cx Ψ c d->q1 Φ Ψ->hq Ψ d b I):hq Φ d (.b6 .eK is e b) [.For r iter I [] aa]:=by
 refineλμ ρ st s k D w=>ki<|zZ (hj (aP.1 μ ρ st s _ _ D w) (λv L q=>?_) λj j=>jV)<|vn hs;exists h;obtain⟨aI,x,aH,k1,aS,aG,G⟩:=q;have hh:=C.dx (by simpa using aD);refine Nv k1 (λm J ex au k1=>?_) λaO J ex au k1=>?_<;>rw[ex]at aG
 ··revert h;refine RelV.fH aG G.Y au ?_;intro a M hm q h
   obtain⟨aE,c1,c2,c3⟩:=q
   refine hE (G.Y.fM<|.inr<|.inl ⟨m,M⟩) λo g1=>hE c1.dictAt λep hd=>?_
   have aK:Dy Φ _ ρ (aH.ba m<|.dv o J) L:=G.ei M (HW _ _) ⟨g1,_,c1,c2,c3⟩
   refine h<|wpAny_pyIter_dict (vb C.go<|aK.fa M) hd<|kf λh=>?_;obtain⟨x1,x2⟩:=xZ C.ok aK (o:={cls:=.type "dict_keyiterator",data:=.fields _}) O ⟨_,rfl,by decide,by decide,by decide⟩
   refine hv (HX c2) λln aF=>h<|vm C aD aM aN (HS λμ af E=>E.cell _ _)
    (HR (az:=Mg _ _) C.ok hh (λμ af E=>E.cell _ _) (λμ ρ st s hs av D=>?_) (by rw[ig];exact ln) λi b q x v af l e2 Q=>?_) (λf s' q=>?_) (λv s' q=>?_) _ _ ρ _ _ ⟨0,_,x1,rfl,rfl,rfl,M⟩ x2<|k1 o
   .exists h;obtain⟨a2,T,Y, -⟩:=D.Y.cp m _ hs
    rw[av]at T
    cases T
    refine h<|hd.at' λaT e=>by
     rw[g1]at e
     exists h;clear zz3 e Y
     exact h Y
   .rw[oa]at l
    exists h;induction z:J[i]? with
    |none=>rw[z]at l;exists h;cases l
    |some p=>
     rw[z]at l
     cases l
     haveI:=aF i p q x z e2
     subst this
     refine hE (Mp Q) λt y=>?_
     clear zz3 y h
     exact h<|.int _ _
   .exists h;induction f with
    |next=>
     exact kM q λaJ aR aQ B aL=>hv B λw1 w2=>hc (aL.Y.cp m _ w1) λa3 T Y=>h<|rW aJ _ _ w2<|aL.ei T (HW _ _) Y.2
    |ret v=>obtain⟨-,_,_,_,q,_⟩:=q;exact q.elim
    |brk=>exact kM q λj j j q j=>q.elim
    |cont=>exact q.elim
   .exists h;obtain⟨_,_,_,_,_,_,P,_⟩:=q
    exact P.dY.elim
 ··obtain⟨d1,aE,ep,c1,c2,c3⟩:=C.go.fw aO J au
   clear zz3 aG.aO.1 h
   .refine h<|wpAny_pyIter_dict (beq_eq_false_iff_ne.mpr d1) (c1 _ G.Y.aV)<|kf λh=>?_;obtain⟨x1,x2⟩:=xZ C.ok G (o:={cls:=.type "dict_keyiterator",data:=.fields _}) O ⟨_,rfl,by decide,by decide,by decide⟩
    refine hv (HX<|c2 aI) λln aF=>h<|vm C aD aM aN (HS λj j j j=>trivial)
     (HR C.ok hh (λj j j j=>trivial) (λμ ρ st s j j D=>c1 _ D.Y.aV) (by rw[ig];exact ln) λi b q x v af l e2 Q=>?_) (λf s' q=>q) (λv s'=>x0 C.ok) _ _ ρ _ _ ⟨0,_,x1,rfl,rfl,rfl,trivial⟩ x2 k1
    rw[oa]at l
    exists h;induction z:J[i]? with
    |none=>rw[z]at l;exists h;cases l
    |some p=>
     rw[z]at l
     cases l
     haveI:=aF i p q x z e2
     clear zz3 this Q
     refine hE (g7.isStrOf_shape Q) λt n=>?_
     clear zz3 n h
     exact h<|.str _ _<|c3 p<|l8 z
end
end
section
open PySem PySem.W PySem.Calls PyProof.Rows
section
variable{Φ:Fm}{c:Ck}{d:Nat}{A:iH}{μ af:Mu}{ρ aj:Loc}{st ac:St}{s s':hr}{k:KS}
noncomputable def B1(m:ja)(y:ho):Bool:=match m with| .cN=>AO y|_=>AN l0 y
theorem Sh{c}(h:xp m=U c):m≠ .L/\∀n,m≠ .j n:=by
 refine⟨λq=>?_,λn q=>?_⟩;.clear zz3 q h;exact hH h
 .clear zz3 q h;exact hH h
theorem Si{c}{y}(h:xp m=U c)(a:B1 m y=H):(c=.bS []/\∃p,y=.Dict [] [] p)\/(c=.m []/\∃p,y=.List [] p):=by induction m<;>first|exact hH h|exact .inr ⟨(io h).symm,(λh=>FF (P:=λy=>∃p,y=.List _ p) h λl p h=>iY (P:=λl=>∃q,ho.List l p=.List [] q) h ⟨p,rfl⟩) a⟩|exact .inl ⟨(io h).symm,FG (P:=λy=>∃p,y=.Dict _ _ p) a λp=>⟨p,rfl⟩⟩
theorem Sj(x:Φ.z)(D:Dy Φ μ ρ st s)(hm:st.cell m=V)(f:xp m=U b)(w:(b=.bS []/\∃p,y=.Dict [] [] p)\/(b=.m []/\∃p,y=.List [] p))(h:∀a s',RelV Φ.a (μ.bC m a) (.ref a) (.mut m)->ib μ (μ.bC m a)->Dy Φ (μ.bC m a) ρ (st.ba m b) s'->Q (.ref a) s'):g8 Φ.q Φ.C (eval y Φ.r) Q E s:=by
 haveI i:=Sh f;haveI l:∀o,k_ _ _ _ _ b->∀t,Q _ {s with heap:=s.heap.push o,toks:=t}:=λo f t=>h _ _ (.mut (p_ _ _ _) i.1) (ib.bC (a:=s.heap.objs.size)<|D.Y.ck _ hm)<|D.gC x hm i.1 f (wZ ..) (uQ i.1) λn r=>⟨(EP st m b).symm▸r,λq=>i.2 n q.symm⟩;clear f h;rcases w with⟨e,p,j⟩|⟨e,p,j⟩
 .subst e j;exact wpAny_Dict_empty<|l _ ⟨[],D9 _,.nil,jd _⟩ _
 .subst e j;exact wpAny_List<|p1 ⟨by decide,l _ ⟨#[],0,n9 _ O,.nil,jd _⟩ _⟩
theorem Sm(C:Cx Φ c d){i k}(hi:(c.slots[i]?==U x&&x !=("__debug__":g9))=H)(av:oN Φ.a n k=H)(aD:B1 m y=H):hq Φ d (.co (.j i) k m) [.Assign [.Attribute (.Name x aI) n tp] y aa]:=by
 refineλμ ρ st s kk D w=>hv (vf av) λen au=>hv (f2 hi) λt z=>?_;subst en;refine kf λr=>hc (BD (F:=λa=>Fe a k m ρ st _) w) λa e w=>xj w λks vs ea j w=>Fb w λf w=>jU w λmc h w0=>?_;subst ea;haveI l:=Si h aD;haveI E:mH y=H/\s2 [.Attribute (.Name x aI) (Φ.a.aH k) tp] y Φ.r=pure none:=by rcases l with⟨_,p,B⟩|⟨_,p,B⟩<;>(subst B;exact⟨rfl,rfl⟩)
 refine r<|ki<|ve E.1 O E.2<|Sj C.ok D f h l λb G aE aK L=>?_;refine xP<|hj (AX (Q:=λv ac=>v=.mut .L/\ac=st.ba m mc) C.ok L (by rw[C.c9];exact beq_iff_eq.mp t) (tL z) e ⟨rfl,rfl⟩) (λu I q=>?_) λo o q=>q;exists r;obtain⟨aJ,v,aG,⟨rfl,rfl⟩,Y,aF,M⟩:=q;refine r<|hj (Bx C.go M au aF (aE.aP Y) ?_) (λo J q=>hc q λaH k3 T=>⟨_,ρ,_,k3,T⟩) λo o q=>q;show qR _ _ _;unfold qR;dsimp only;rw[wZ,j];exact w0
theorem Sn(j:hq Φ d b e):hq Φ d (.e8 b) [.Try e (i::hs) [] [] aa]:=by refineλμ ρ st s k D w=>ki<|wpAny_Try_except<|hj (j μ ρ st s _ D w) (λf h q=>?_) λv h q=>(kf λm=>nh q λa a a l=>i0 l λa a a P a=>P.dY.elim);.induction f with|next=>exact s3 q|_=>exact q
end
end
section
open PySem PySem.W PySem.Calls PyProof.Rows Builtin Builtin.ObjectAttr
theorem So(a)(l)(h:qb l=H):refuseLoop a "__setattr__" l=pure ():=FW (P:=λl=>refuseLoop _ _ l=pure _) (PySem.F.store_Exception.passes _) (λc r h=>by rw[refuseLoop_ref];exact h) l h
section
variable{ai:n6}{w:iZ}{A:iH}{E:g7->hr->Prop}{s:hr}{K:jc}{x C:mS}{R:Result->hr->Prop}
theorem HY{ox:i'}{od:Option _}{name}{tk}{v}(X:K.In s.heap)(I:InstAt s.heap x ox C od)(p:r' K C=H)(t:rD K C name=U V)(h:∀b,g8 (iu ai w) A.in1 (storeInOwnDict (.ref x) (.ref C) (.str name tk) name v b) (λj s'=>match j with| .done f=>R (.ok f) s'| .again k=>k.quiet=H/\l9 (iu ai w) A k R s') (λe=>R<|.error e) s):l9 (iu ai w) A (.call (.builtin "object.__setattr__") ⟨[.ref x,.str name tk,v],[]⟩) R s:=by
 haveI d:=PySem.F.store_object;refine hc (rE p) λcd m i=>?_;haveI y:cd.mro.isEmpty=false:=by induction q:cd.mro with|nil=>rw[q]at i;cases i|cons _ _=>rfl
 refine L4 d.slot.plain d.entry<|@check_slot _ _ _ s _ "object" "__setattr__" _ _ _ _ d.kind d.split (I.type.andThen<|wu X (by unfold oA;rw[m,L3,if_neg (by rw[y];decide),(u5 _ i).1])) (d.args _ _ v)<|hc (ul.mp t) λc o r=>?_;haveI hm:ob (iu ai w) _ (mroOf<|.ref C) cd.mro:=(wL X m).andThen .now;haveI n:ob (iu ai w) _ (storeTaker? c) _:=by
  induction c with|none=>exact .now|some a=>
   refine hc (wp.mp r) λb l q=>(looks_takesIn X l).andThen ?_;clear l;induction b;.exact .now
   .exists z;cases q
 rw[osa_eq,refuse_eq];refine hw<|hw<|I.type.here (hw (hm.here ?_));rw[So _ _ i];refine ip<|hw<|I.type.here (hw ((rF X o).here (hw (n.here ?_))));exact h _
set_option tactic.hygienic true in
theorem HZ{b:Nat}(D:s.heap.get? b=U (ji a n))(hl:(lP name a).isSome=H)(c:a.length<=1000)(h:∀h' tk,mw b s.heap h'->h'.get? b=U (ji (oc name (n8 w.params name) (.str name tk) v a)<|putN name a n)->Q (.done<|.ret .none) {s with heap:=h',toks:=s.toks+1}):g8 (iu ai w) A (storeInDict b (.str name tk) name v) Q E s:=by haveI d:=uo (i'.putName name (n8 w.params name) (.str name s.toks) v) D (by rw[zN];rfl);rw[zN]at d;refine hw<|ip<|hw ?_;refine hw<|hw<|wpAny_askSetting (ip (hw (DU (hw (wK D ?_)))));dsimp only;rw[Mv,GB hl];exact wpAny_updatePart D<|hw<|wpAny_lookBehind d (pastItsLine_dict<|l_ (f1 (GA name (n8 w.params name) (.str name s.toks) v a) (f1 (h9 c (g' _)) (by decide))))<|ip<|h _ _ (D_ ..) d
theorem Sp(X:K.In s.heap)(hx:s.heap.get? x=U {cls:=.ref C,dict:=V,data:=.fields t,slots:=sl})(hs:iO K (.ref C) "__setattr__"=U (U<|.builtin "object.__setattr__")) (q:r' K C=H) (r:rD K C name=U V) (p:n_ K C=H) (k:∀o,K.lookup x≠U o)(h:∀h' tk,h'.objs.size=s.heap.objs.size+1->(∀b o,b≠x->s.heap.get? b=U o->h'.get? b=U o)->h'.get? x=U {cls:=.ref C,dict:=U s.heap.objs.size,data:=.fields t,slots:=sl}->h'.get? s.heap.objs.size=U (ji (oc name (n8 w.params name) (.str name tk) v [])<|putN name [] 0)->Q () {s with heap:=h',toks:=s.toks+2}):g8 (iu ai w) A (uA (.ref x) name v) Q E s:=by
 haveI I:InstAt _ x _ C none:=⟨hx,rfl,rfl,trivial⟩;refine set_plain X I hs<|HY X I q r λb=>hc (rE p) λcd m f=>?_;haveI j:ob (iu ai w) ({s with toks:=s.toks+1}).heap _ cd:=wL X m;refine hw<|ip<|hw (hw (wK hx (hw (j.here ?_))));rw[f];haveI a:(s.heap.push p0).get? x=U _:=jT _ hx;haveI i:=iI<|it hx;show g8 _ _ (do
  let d <-alloc _
  update x _
  dictMade (.ref C) x d) _ _ _
 refine hw<|wpAny_alloc<|hw (wpAny_update a ?_);refine ip<|HZ (s:={s with heap:=(s.heap.push p0).update x _,toks:=s.toks+1}) ((MG _ _ _ _<|Ne.symm i).trans<|n9 _ O) O (jd _) λh' tk c n=>?_;replace c:mw s.heap.objs.size ((s.heap.push _).update x λo=>{cls:=o.cls,dict:=U s.heap.objs.size,data:=o.data,slots:=o.slots}) h':=c;refine h h' tk ?_ (λb o l e=>((c.2 b<|iI<|it e).trans<|(MG _ _ _ _ l).trans<|jT _ e)) ((c.2 x i).trans<|uo (λo=>{cls:=o.cls,dict:=U s.heap.objs.size,data:=o.data,slots:=o.slots}) a O) n;.rw[c.1,DX,lz]
theorem Sq{a:Nat}(X:K.In s.heap)(hx:s.heap.get? x=U {cls:=.ref C,dict:=U a,data:=.fields o,slots:=sl}) (e:s.heap.get? a=U (ji c n))(hs:iO K (.ref C) "__setattr__"=U (U<|.builtin "object.__setattr__")) (k:r' K C=H) (l:rD K C name=U V) (j:n_ K C=H) (hl:(lP name c).isSome=H) (m:c.length<=1000)(h:∀h' tk,mw a s.heap h'->h'.get? a=U (ji (oc name (n8 w.params name) (.str name tk) v c)<|putN name c n)->Q () {s with heap:=h',toks:=s.toks+2}):g8 (iu ai w) A (uA (.ref x) name v) Q E s:=by haveI I:InstAt _ x _ C<|U _:=⟨hx,rfl,rfl,e⟩;refine set_plain X I hs<|HY X I k l λb=>hc (rE j) λcd i d=>?_;haveI f:ob (iu ai w) ({s with toks:=s.toks+1}).heap _ cd:=wL X i;refine hw<|ip<|hw (hw (wK hx (hw (f.here ?_))));rw[d];exact ip<|HZ e hl m h
end
end
section
open PySem PySem.W PySem.Calls PyProof.Rows
section
variable{ai:n6}{w:iZ}{A:iH}{E:g7->hr->Prop}{h:jA}{aC:Array GenState}{d:Drawn}{t:Nat}{os:qA}{K:jc}
variable{nm q:g9}{C N:mS}{bs bm:List g7}{ax:Bool}{sn:List g9}{sub:List g7}{ab:Bool}{as:Option Bool}{dd:Option mS}{k0 k1 k2 k3 k5:Option g7}
theorem Sr(k:qb (.ref C::bm)=H)(b:h.get? C=U (uC nm q C N bs bm ax sn sub ab as dd k0 k1 k2 k3 k5 "Exception.__new__"))(l:R (.ok<|.ret<|.ref (h.objs.size+1)) ⟨(h.push {cls:=.type "tuple",data:=.seq al.toArray}).push {cls:=.ref C,data:=.fields #[.ref h.objs.size,.none,.none,.none,.bool g,.none]},aC,d,t,os⟩) (j:al.length<=rJ):l9 (iu ai w) A (.builtin "Exception.__new__" ⟨.ref C::al,[]⟩) R ⟨h,aC,d,t,os⟩:=by
 haveI F:=F.excBase_Exception;haveI i:=F.ends;refine kL (u5 _ k) λm e m c f=>codeAny_builtinAt F.entry<|Ej<|Ej<|PySem.wpAt_stack λp a=>z0 ?_;wp_walk;refine z0 ?_;rw(occs:=.all) [F.owner];repeat(first|with_reducible refine wpAny_madeHere_exc F.canon b ?_|with_reducible refine s5 b ?_|(with_reducible refine Ek b ?_;first|rw(occs:=.all) [e]|rw(occs:=.all) [c]|rw(occs:=.all) [f])|wp_step)
 show R _ _;rw(occs:=.all) [lz];exact l
theorem Ss(X:K.In h)(k:qb (.ref C::bm)=H)(c:h.get? C=U (uC nm q C N bs bm ax sn sub ab as dd k0 k1 k2 k3 k5 "Exception.__new__"))(s:iO K (.ref C) "__init__"=U (U<|.ref i)) (p:oE K (.ref i)=U (.type "function"))(y:g8 (iu ai w) (A.under<|.builtin "type.__call__" ⟨.ref C::al,[]⟩) (kZ (.ref i) (.ref (h.objs.size+1)::al)) (λr s'=>r=.none/\Q (.ref (h.objs.size+1)) s') E ⟨(h.push {cls:=.type "tuple",data:=.seq al.toArray}).push {cls:=.ref C,data:=.fields #[.ref h.objs.size,.none,.none,.none,.bool g,.none]},aC,d,t,os⟩) (f:al.length<=rJ):g8 (iu ai w) A (kZ (.ref C) al) Q E ⟨h,aC,d,t,os⟩:=by
 haveI D:=tc_lookup;haveI G:=tc_bind<|.ref C;haveI hT:(⟨h,aC,d,t,os⟩:hr).TypeIs (.ref C) "type":=⟨_,c,rfl⟩;refine pV<|Eh ?_;show g8 _ _ _ _ _ _;repeat(any_goals (first|assumption|with_reducible refine s5 c ?_|wp_step))
 refine⟨rfl,?_⟩;refine codeAny_call_builtin_at (MH _ (by decide+kernel)) entry_typeCall<|wpAny_check_type_call_sub c ?_;repeat(first|with_reducible refine s5 c ?_|with_reducible refine wpAny_madeBy_exc c ?_|wp_step)
 refine codeAny_call_builtin_code (MH _ F.excBase_Exception.quiet)<|wpAny_check_new_subU F.excBase_Exception (bmB:=bm) (show(lA C::bm).contains _=H from(u5 _ k).2.1) .base c<|Sr k c ?_ f;haveI a:K.In<|(h.push {cls:=.type "tuple",data:=.seq al.toArray}).push {cls:=.ref C,data:=.fields #[.ref h.objs.size,.none,.none,.none,.bool g,.none]}:=λb o e=>jT _<|jT _<|X b o e;haveI j:=by heap_get
 haveI l:=rF (M:=iu ai w) a s;haveI m:=bind_fn (M:=iu ai w) a (.ref (h.objs.size+1)) p;unfold isInstance;repeat(first|with_reducible refine s5 _ ?_|(with_reducible rw(occs:=.all) [(by simp)])|wp_step)
 refine Ek (jT {cls:=.ref C,data:=.fields #[.ref h.objs.size,.none,.none,.none,.bool g,.none]}<|jT {cls:=.type "tuple",data:=.seq al.toArray} c) ?_;repeat(first|with_reducible refine s5 _ ?_|wp_step)
 refine l.at<|n'<|hw<|m.at ?_;refine hw<|hj y (λr s' z=>?_) λB B x=>x;obtain⟨rfl,n⟩:=z;wp_walk;exact n
end
end
section
open PySem PySem.W PySem.Calls PyProof.Rows
section
variable{G:Gl}{μ:Mu}{A:iH}{E:g7->hr->Prop}
theorem Su(aZ:G.z){C L x:Nat}{s}(I:xQ G ae m sn x s.heap.objs.size L)(hs:iO G.K (.ref C) "__setattr__"=U (U<|.builtin "object.__setattr__")) (aG:r' G.K C=H) (hh:n_ G.K C=H) (au:L≠x) (w:∀o,G.K.lookup x≠U o)(h) (T) (l) (c) (args) (Q:mX sn T (l.map G.aH) h=H) (aR:ia G μ c args) (hl:T.length=c.length) (D:T≠[])(aI:∀(i:Nat) p v,T[i]?=U p->c[i]?=U v->ae.kindOf p=U .local/\(p==("__debug__"))=g/\m p=U v) (aH:∀f∈l,rD G.K C (G.aH f)=U V) (aD:l.Nodup) (B:l.length<=500)(hK:G.K.In s.heap) (M:s.heap.Ns L m) (y:s.heap.get? x=U ({cls:=.ref C,dict:=V,data:=.fields aU,slots:=aS})):g8 (iu G.prog G.w) A (o9 h ae) (λf s'=>f=.next/\(∃h' tk d es n,s'={s with heap:=h',toks:=tk}/\d=s.heap.objs.size/\(∀b o,b≠x->s.heap.get? b=U o->h'.get? b=U o)/\ h'.get? x=U ({cls:=.ref C,dict:=U d,data:=.fields aU,slots:=aS})/\h'.get? d=U (ji es n)/\iV G μ es l args)) E s:=by
 cases h with|nil=>exact absurd (GI Q).1 D|cons st r=>
  refine GH Q λp aE f Y e1 e2 e3 av=>kf λaK=>?_;clear D;subst e1 e2;cases aR with
  |nil=>cases hl
  |@cons v a c args aP aQ=>refine jj e3 λaX ap aV=>jj aV λaY pp e=>i5 (aI 0 p v O O) λk1 k2 k3=>?_;clear e3;subst e;haveI ns:=I.aT.symm▸M;refine aK<|zO<|ve O O O<|um (rA I.aY k1 ns k3 (xP (um (rA I.aY I.cI ns I.f9 ?_) I.di))) k2;refine Sp hK y hs aG (aH f<|.head _) hh w λh1 tk sz kp gx gd=>?_;haveI J:BA G μ ae m x _ L _ aE c Y h1 _ _ [f] [a]:=⟨rI hl,λi=>aI (i+1),aD,B,rfl,λb o e=>kp b o (λq=>w o (q▸e))<|hK b o e,M.at' λo=>kp _ _ au,gx,gd,(Bw (Φ:=⟨G,A,ae,[],0,s.heap,μ,s.gens,s.os,s.drawn,[]⟩) aZ (k:=f) (t:=tk) aP<|.nil (G:=G))⟩;refine hj (GJ aZ I r (λaC hg {_ _ _ _ _} X hx hd hl z k=>Sq X hx hd hs aG (aH aC<|.tail _ hg) hh hl z k) av aQ J) (λfl s' q=>?_) λaW aW q=>q;exact hv q λaM q=>jK q λaF aT aJ aL e j aN aO=>haveI j:mw _ h1 aF:=j;⟨aM,aF,_,_,_,aL,e,rfl,λb o Q e=>(j.2 b<|iI<|it e).trans<|kp b o Q e,(j.2 x<|iI<|it y).trans gx,aN,aO⟩
end
end
section
open PySem PySem.W PySem.Calls PyProof.Rows
structure H0 (G:Gl)(C f:Nat)(ks:List Nat)(a:lQ)(sn:g9)(c:List g9)(b:List ie):Prop where
 tab:G.T.cv C=U ks
 obj:∀{e:Prop},(∀nm q N bs bm ax d sub ab as dd k0 k1 k2 k3 k5,G.K.lookup C=U (uC nm q C N bs bm ax d sub ab as dd k0 k1 k2 k3 k5 "Exception.__new__")->qb (.ref C::bm)=H->e)->e
 init:iO G.K (.ref C) "__init__"=U (U (.ref f))
 fn:oE G.K (.ref f)=U (.type "function")
 at_:k' G f=U a
 bE:a.body=.stmts b
 kind:a.scope.kind=.function
 dL:a.scope.isCoroutine=g
 dM:a.scope.isGenerator=g
 cell:∀x∈a.scope.names,x.2≠ .cell
 L:iF a=sn::c
 b':c≠[]
 nodup:(iF a).Nodup
 j:∀x∈iF a,a.scope.names.lookup x=U .local/\(x==("__debug__":g9))=g
 code:uq G.K a.code a.qualname=H
 co:mX sn c (ks.map G.aH) b=H
 b0:ks.Nodup
 fK:ks.length<=500
noncomputable def Mu.cY(μ:Mu)(e C d:Nat)(o:i'):Mu:={μ with bQ:=(e,C,d)::μ.bQ,t:=(d,o)::μ.t}
theorem ib.cY(μ)(e C d)(o):ib μ<|μ.cY e C d o:=⟨λa h=>h,λa a h=>h,λa=>.tail _,λa=>.tail _⟩
theorem ii.cY(x:ii (μ.cY e C d o) a):a=e\/ii μ a:=by
 exists b;rcases x with x|x|⟨c,f,x⟩
 .exact b<|.inr<|.inl x
 .exact b<|.inr<|.inr<|.inl x
 .rcases h7.mp x with q|q
  .clear x;cases q;exact b<|.inl O
  .exact b<|.inr<|.inr<|.inr ⟨_,_,q⟩
section
variable{Φ:Fm}{μ:Mu}{ρ:Loc}{st:St}{s:hr}{Q:AV->St->Prop}{E:g7->hr->Prop}{A:iH}
theorem Dy.gL(aE:Φ.z)(D:Dy Φ μ ρ st s){t e C d:Nat}{y od:i'}{G}(aD:∀a o,s.heap.get? a=U o->h'.get? a=U o)(he:s.heap.objs.size<=e)(B:s.heap.objs.size<=d)(ne:d≠e)(M:h'.get? e=U y) (c1:y.cls=.ref C) (c2:y.dict=U d) (c3:y.data=.fields G) (gd:h'.get? d=U od):Dy Φ (μ.cY e C d od) ρ st {s with heap:=h',toks:=t}:=by
 haveI Y:=it M;have L:Dy Φ μ ρ st {s with heap:=h',toks:=t}:=D.keeps (f1 he<|iN Y) aD;have I:=L.Y;have J:=ib.cY μ e C d od;haveI low:=λa m=>(D.Y.bw a m).2;haveI n1:=D.Y.bk;haveI T:=D.dZ aE;refine L.e9 J ⟨I.aV,I.cw,λp k=>?_,λks G e=>(jK (I.c7 ks G e) λx dx es n h1 l au av=>qL x dx es n h1 (.tail _ l) au<|av.aP J),I.cG,λm c e=>(hc (I.cp m c e) λa h1 l=>h_ a h1<|l.aP J),I.ck,λa r w hm=>?_,λa m=>?_,I.inj,I.dd,λx a r w h1 l=>?_,λm a r w h1 l=>?_,I.cx,I.df,I.bk⟩ (λq=>?_) (λp k=>?_) (λa q=>?_) λp k=>?_
 .rcases h7.mp k with b|k;clear zz3 b
  .exact jZ gd (f1 n1 B) λm=>m.cY.elim ne λq=>absurd (low _ q)<|j9.mpr B
  .haveI z:=I.t p k;refine jZ z.1 z.2.1 λm=>m.cY.elim (λq=>?_) z.2.2;haveI:=it (D.Y.t p k).1;exact absurd this<|j9.mpr (q▸he)
 .rcases h7.mp hm with q|q
  .clear hm;cases q;exact ts y G M c1 c2 c3
  .exact I.cX a r w q
 .rcases m.cY with f|m;clear zz3 f
  .exact⟨f1 n1 he,Y⟩
  .exact I.bw a m
 .rcases h7.mp l with q|q
  .cases q;exact absurd (low _<|.inl ⟨x,h1⟩)<|j9.mpr he
  .exact I.de x a r w h1 q
 .rcases h7.mp l with q|q
  .cases q;exact absurd (low _<|.inr<|.inl ⟨m,h1⟩)<|j9.mpr he
  .exact I.a2 m a r w h1 q
 .rcases q.cY with q|q
  .exact absurd D.cH<|j9.mpr (q▸he)
  .exact D.bl q
 .rcases h7.mp k with h|k;clear zz3 h
  .exact iP<|hy D.cH B
  .exact D.bz p k
 .rcases q.cY with i|q;clear zz3 i
  .exact .inr<|f1 T he
  .exact D.a7 a q
 .rcases h7.mp k with j|k;clear zz3 j
  .exact .inr<|f1 T B
  .exact D.bb p k
noncomputable def Made(Φ:Fm)(μ:Mu)(ρ:Loc)(st:St)(C:Nat)(ks:List Nat)(args:List AV)(v:g7)(s':hr):Prop:=∃(e d t:Nat) (a:List o5) (n:Nat),v=.ref e/\Φ.bD.objs.size<=e/\s'.heap.get? e=U ({cls:=.ref C,dict:=U d,data:=.fields #[.ref t,.none,.none,.none,.bool g,.none]}:i')/\ iV Φ.a (μ.cY e C d (ji a n)) a ks args/\Dy Φ (μ.cY e C d (ji a n)) ρ st s'
theorem Sv(aU:Φ.z)(M:Φ.a.z)(D:Dy Φ μ ρ st s)(N:H0 Φ.a C f ks fd sn L aG)(aO:ia Φ.a μ h args) (hl:L.length=h.length) (T:aa.length<=rJ) (aK:∀s' x,Φ.a.K.In s'.heap->sV s' fd ⟨x::aa,[]⟩ ((iF fd).zip (x::h))) (room:A.depth<950):g8 Φ.q A (kZ (.ref C) aa) (Made Φ μ ρ st C ks args) E s:=by
 haveI aI:=D;exists aD;obtain⟨k,aC,d,t,os⟩:=s;have hK:=D.Y.aV;dsimp only at hK;refine N.obj λnm q aR bs bm ax aP sub ab as dd k0 k1 k2 k3 k5 aJ aM=>hc (tG N.at_) λof aF I=>?_;haveI B:=(M.e_ C ks N.tab).1;haveI Y:=(M.e_ C ks N.tab).2;refine kL (A2 B) λc1 c2 c3 c4 c5=>aD<|Ss hK aM (hK _ _ aJ) N.init N.fn ?_ T;generalize av:(k.push _).push _=aT;have k2:∀b o,k.get? b=U o->aT.get? b=U o:=λb o e=>by rw[<-av];exact jT _<|jT _ e
 haveI gx:aT.get? _=U _:=by rw[<-av];haveI:=n9 (k.push {cls:=.type "tuple",data:=.seq aa.toArray}) (o:={cls:=.ref C,data:=.fields #[.ref k.objs.size,.none,.none,.none,.bool g,.none]}) O;rwa [lz]at this
 have r:aT.objs.size=k.objs.size+2:=by rw[<-av,lz,lz]
 haveI w:=λb o e=>k2 b o<|hK b o e;refine pV<|zx (lB (by assumption) (by decide)) (w _ _ aF) I (M.eU _ w) (wx w N.code) N.bE (aK _ _ w) N.cell (λx hx=>(N.j _ (wy hx).1).1) (λaH j c=>?_) N.dL N.dM N.kind
 .have J:=N.L;haveI nd:=N.nodup;rw[J]at nd j;haveI T:∀i p v,(sn::L)[i]?=U p->((lA (k.objs.size+1))::h)[i]?=U v->((sn::L).zip (lA _::h)).reverse.lookup p=U v:=λi p v=>u7 nd;haveI l:=λp aN=>N.j p (J▸aN);refine hj (Su (E:=λaQ aQ=>False) M (⟨N.kind,rfl,(l sn<|.head _).1,(l sn<|.head _).2,T 0 sn _ O O,iI j.lt,iI<|pW (r▸kY _) j.lt,λo e=>jP _<|it<|c _ _ (w _ _ e)⟩:xQ Φ.a (sY fd _ f) (λx=>((sn::L).zip _).reverse.lookup x) sn (k.objs.size+1) _ aT.objs.size) c5 c1 c2 (by rw[r];exact iP<|kY _) (λo e=>absurd (it<|hK _ _ e)<|j9.mpr<|iA _) _ L ks _ _ N.co aO hl N.b' (λi p v B Y=>⟨(l p<|.tail _<|l8 B).1,(l p<|.tail _<|l8 B).2,T (i+1) p v B Y⟩) (λf aL=>(u6<|Y f aL).2) N.b0 N.fK (λb o e=>c b o<|w b o e) j<|c _ _ gx) (λfl s' q=>?_) λe s' q=>q.elim;exists aD;obtain⟨rfl,aS,tk,dx,es,n,rfl,aE,kp,G,au,re⟩:=q;haveI m:=aE;haveI y:=by haveI z:=j.lt;rwa [r]at z
  exact aD ⟨rfl,k.objs.size+1,dx,k.objs.size,es,n,rfl,(jw<|D.dZ aU),G,re.aP<|ib.cY ..,(aI.gL aU (λa o e=>kp a o (iI<|qH<|it e)<|c _ _<|k2 a o e) (iA _) (f1 (l_<|ih _ _)<|f1 (jD y)<|im m.symm) ((iP<|iy<|jL (f1 (iq (hJ (by decide) _) _) (f1 (jD y) (im m.symm))))) G O O O au)⟩
end
end
section
open PySem PySem.W PySem.Calls PyProof.Rows
section
variable{M:oz}{A:iH}{E:g7->hr->Prop}{ae:j8}
variable{nm q:g9}{C N:mS}{bs bm:List g7}{ax:Bool}{sn:List g9}{sub:List g7}{ab:Bool}{as:Option Bool}{dd:Option mS}{k0 k1 k2 k3 k5:Option g7}{aB:String}
theorem Sw(f:(lA C::bm).contains (.type "BaseException")=H)(l:A.handled=V)(h:g8 M A x (λv a=>∃e t d,v=.ref e/\a.heap.get? C=U (uC nm q C N bs bm ax sn sub ab as dd k0 k1 k2 k3 k5 aB)/\ a.heap.get? e=U {cls:=.ref C,dict:=U d,data:=.fields #[.ref t,.none,.none,.none,.bool g,.none]}/\E (.ref e) a) E s):g8 M A (raiseStmt ae (U x) V) Q E s:=by
 refine hw<|hj h (λv a b=>?_) λm m x=>x;exists k;obtain⟨e,t,n,rfl,i,he,j⟩:=b;refine k ?_;repeat(first|with_reducible refine s5 he ?_|with_reducible refine s5 i ?_|(with_reducible refine Ek i ?_;rw[f])|wp_step)
 exact wpAny_raiseNew_none l j
theorem Sx(b:(lA C::bm).contains (.type "BaseException")=H)(f:A.handled=V)(h:g8 M A (eval x ae) (λv a=>∃e t d,v=.ref e/\a.heap.get? C=U (uC nm q C N bs bm ax sn sub ab as dd k0 k1 k2 k3 k5 aB)/\ a.heap.get? e=U {cls:=.ref C,dict:=U d,data:=.fields #[.ref t,.none,.none,.none,.bool g,.none]}/\E (.ref e) a) E s):g8 M A (exec (.Raise (U x) V aa) ae) Q E s:=hw<|pZ<|Sw b f
 (hw (hj h (λv a q=>hw (pZ (ip q))) λi i q=>q))
end
noncomputable def x9(G:Gl)(C:Nat)(e:jp):Prop:=∃f ks b sn h a D,H0 G C f ks b sn h a/\qi G f b D ((sn,V)::e)/\e.length=ks.length
section
variable{Φ:Fm}{c:Ck}{d:Nat}{μ:Mu}{ρ:Loc}{st:St}{s:hr}
theorem Sy(j:X ⟨C,args⟩ st)(k:Φ.a.T.cv C=U ks)(m:Made Φ μ ρ st C ks args v s):PX Φ ρ X v s:=by refine jj m λe d f=>lV f λt h n b h0 i f=>hv f λl D=>?_;clear m;subst b;exact⟨e,_,st,_,rfl,⟨j,D.ext,D.Y,⟨d,h,n,ks,.head _,.head _,k,l⟩,h0,.inl ⟨_,_,i,rfl,rfl⟩,λa o e n=>⟨o,D.bx a o e n,rfl,rfl,rfl,λp=>rfl⟩,D.a7,D.bb⟩,⟨D.bY,D.bZ,D.b4⟩,D.bl,D.bz,D.ns⟩
theorem Sz(C:Cx Φ c d)(aH:(!c.bA)=H){j:Nat}(h1:ny Φ.a c x (.ref j)=H)(a:(qh o []&&kK o.length 500)=H)(aE:nI Φ.a.K (.ref j)=H)(N:x9 Φ.a j aM)(aJ:Good Φ c d args<|.aZ aM o []):hq Φ d (.eN j args) [.Raise (U<|.Call (.Name x np) o [] cp) V aa]:=by
 unfold qh at a;rw[iX,iX]at a;exists h;obtain⟨f,kk,fd,sn,aL,G,au,n,aU,I⟩:=N;obtain⟨aN,b,aI⟩:=BH aU;obtain⟨hB,aK⟩:=aJ _ aI a.1.1 a.1.2;refine n.obj λnm q av bs bm ax r sub ab as dd k0 k1 k2 k3 k5 aF aG=>h λμ ρ st s k D w=>ki<|Sx (nm:=nm) (q:=q) (N:=av) (bs:=bs) (ax:=ax) (sn:=r) (sub:=sub) (ab:=ab) (as:=as) (dd:=dd) (k0:=k0) (k1:=k1) (k2:=k2) (k3:=k3) (k5:=k5) (aB:="Exception.__new__") (u5 _ aG).2.2.1 (C.dx (by simpa using aH))<|Call_ O<|tN C h1 D<|tK aE a.1.1 a.1.2 (hj (aK μ ρ st s _ _ cp D w) (λy L q=>hj q (λah Q q=>?_) λi i=>jV) λi i=>jV);exists h;obtain⟨J,aT,aQ,l,aP,p,aR,aO,z⟩:=q;refine h ⟨z.Y.aV,?_⟩;haveI pl:aL.length=(fill _ y []).length:=by rw[BJ];haveI:=BI aU.c8;rw[b,n.L]at this;simpa using this.symm
 refine hj (Sv C.ok C.go z n aO pl (by rw[J];exact f1 (kC a.2) (by decide)) (λs' x hK=>?_)<|pW (rX C.room.1) (by decide)) (λv T m=>?_) λi i q=>q
 .haveI ok:jl (kO<|lp fd au) (x::y).length _=true:=by
   rw[b]
   show jl _ y.length _=H
   rw[J]
   exact hB
  haveI B:=qe (kw:=[]) aU.d0 aU.d1 aU.d2 aU.d3 aU.c8 (qf hK aU.d4) aU.b0 ok
  rw[b]at B
  exact B
 .haveI m':=m;exists h;obtain⟨e,d',t,aD,aS,rfl,h0,ge,re,Y⟩:=m';exact h<|pi e t d' O (Y.Y.aV _ _ aF) ge<|jV<|Sy p n.tab m
end
end
section
open PySem PySem.W PySem.Calls PyProof.Rows
section
variable{M:oz}{A:iH}{E:g7->hr->Prop}{K:jc}{h:jA}{aC:Array GenState}{d:Drawn}{t:Nat}{os:qA}
theorem SA{e C D:Nat}(X:K.In h)(he:h.get? e=U r)(o:r.cls=.ref C)(n:oE K (.ref D)=U (.type "type"))(a:pU K D=U cd)(hB:oA K D (.type "BaseException")=U H) (i:oA K C (.ref D)=U b) (q:Q b ⟨h,aC,d,t,os⟩):g8 M A (excMatches (.ref e)<|.ref D) Q E ⟨h,aC,d,t,os⟩:=by haveI LT:=looks_typeIn (M:=M) X n;haveI f:=wu (M:=M) X i;haveI m:ob M h (typeOf<|.ref e)<|.ref C:=o▸(D6 he).andThen .now;haveI j:ob M h (isInstance _<|.type _) _:=LT.andThen<|ob.of_pure tc_notTuple;haveI k:ob M h (isType<|.ref D) true:=(nh (FX a) λc dd sl p=>(D6<|X _ _ p).andThen .now);haveI l:ob M h (isExcClass _) _:=k.andThen<|wu (M:=M) X hB;refine hw<|j.at<|hw<|ip ?_;dsimp only;rw[zz];refine hw<|hw<|hw (l.at ?_);refine ip<|ip<|hw (m.at ?_);rw[zz];refine hw<|hw<|hw (f.at ?_);clear f i;induction b with|true=>exact ip<|ip<|ip q|false=>exact ip<|ip<|ip q
end
end
section
open PySem PySem.W PySem.Calls PyProof.Rows
noncomputable def Fm.cJ(Φ:Fm)(v:g7):Fm:={Φ with C:=Φ.C.mark (U v)}
section
variable{Φ:Fm}{c:Ck}{d:Nat}{μ:Mu}{ρ:Loc}{st:St}{s:hr}{k:KS}
theorem SD(a:Φ.z):(Φ.cJ v).z:=⟨a.kind,a.j,a.slot,a.nodup,a.b3,a.bk,a.b8,a.b9,a.dW,a.cT,a.dh⟩
theorem Cx.cJ(C:Cx Φ c d):Cx (Φ.cJ v) {c with bA:=H} d:=⟨C.go,SD C.ok,C.c9,C.fc,C.room,.inr O,C.cz,C.bn,C.cl,C.eX,C.bW,(iG),C.ci⟩
theorem Dy.cJ(D:Dy Φ μ ρ st s):Dy (Φ.cJ v) μ ρ st s:=⟨D.ext,D.Y,D.bx,D.ns,D.bl,D.bz,D.a7,D.bb,D.bY,D.bZ,D.b4⟩
theorem Dy.gM(D:Dy (Φ.cJ v) μ ρ st s):Dy Φ μ ρ st s:=⟨D.ext,D.Y,D.bx,D.ns,D.bl,D.bz,D.a7,D.bb,D.bY,D.bZ,D.b4⟩
theorem H1(b:Φ.bi=[])(P:Px Φ.a Φ.bD Φ.b7 Φ.bi r X e μ st x s)(f:s.gens=Φ.eR/\s.os=Φ.eS/\s.drawn=Φ.eT)(m:¬ii μ Φ.a_)(j:∀p∈μ.t,p.1≠Φ.a_)(l:LR Φ μ ρ s.heap):Dy Φ μ ρ st s:=by refine⟨P.ext,P.Y,λa o e n=>?_,l,m,j,P.a7,P.bb,f.1,f.2.1,f.2.2⟩;refine mD (P.bx a o e n) λt h i i i q=>?_;rw[q (by rw[b];intro z;cases z)]at h;exact h
theorem SE(G:Φ.z)(D:Dy Φ μ ρ st s){i}{n}{aa}{Q:Unit->hr->Prop}{A}{E:g7->hr->Prop}(r:Φ.slots[i]?=U n)(h:∀s',Dy Φ μ (ρ.set i V) st s'->Q () s'):g8 Φ.q A (do bindName Φ.r n .none;unbindBehindTheSuite Φ.r n aa) Q E s:=by
 refine hc D.ns λC x B=>wpAny_nameGoes_keeps (G.slot i n r) (G.j▸x) (pk G) λh' v l hs=>h _ ?_;rw[G.j]at l hs;refine⟨D.ext,D.Y.sameBut hs (f1 G.bk G.b3) D.bl D.bz,λb o e q=>(hs.2 b<|iI<|hy (it e) G.b3).trans<|D.bx b o e q,⟨_,l,λj y a m f=>?_⟩,D.bl,D.bz,D.a7,D.bb,D.bY,D.bZ,D.b4⟩;exists w;by_cases q:j=i
 .subst q;have p:=by cases nG j _ with|inl h=>exact h|inr h=>rw[zo (by rw[zp];exact h)]at f;cases f
  rw[DM p]at f;cases f
 .rw[DN<|Ne.symm q]at f;refine hc (B j y a m f) λu h1 t=>w<|h_ u ?_ t;rw[if_neg];.exact h1
  .intro z;clear zz3 z m;exact q<|u1 G.nodup m r
structure B2 (Φ:Fm)(X:h5->St->Prop)(e:Nat)(μ:Mu)(st:St)(x:h5)(ρ:Loc)(s:hr):Prop where
 P:Px Φ.a Φ.bD Φ.b7 Φ.bi .none X e μ st x s
 gN:nV (λb=>Φ.bD.objs.size<=b/\¬ii μ b/\∀p∈μ.t,p.1≠b) .none s.heap e
 gf:s.gens=Φ.eR/\s.os=Φ.eS/\s.drawn=Φ.eT
 bl:¬ii μ Φ.a_
 bz:∀p∈μ.t,p.1≠Φ.a_
 gg:LR Φ μ ρ s.heap
theorem SF(C:Cx Φ c d)(r:Φ.bi=[]){D:Nat}{e:Nat}(hx:ny Φ.a c x (.ref D)=H) (aE:oE Φ.a.K (.ref D)=U (.type "type")) (A:pU Φ.a.K D=U cd) (Q:(Φ.a.T.cv D).isSome=H) (hi:c.slots[i]?=U n) (aF:hq (Φ.cJ<|.ref e) d h (o::m))(L:B2 Φ X e μ st p ρ s)(h1:Φ.a.T.sub p.cf D=H->∀ks,Φ.a.T.cv p.cf=U ks->WS Φ.a.T (i6 Φ.a d) h (ρ.set i<|U<|.cO p.cf ks p.er) st ⟨λρ st=>k.n (ρ.set i V) st,λa a=>False,λa a=>False,λa a a=>False⟩)(aD:Φ.a.T.sub p.cf D=g->g8 Φ.q Φ.C (s6 (.ref e) Φ.r al) (PS Φ k) (nt Φ k.aK) s):g8 Φ.q Φ.C (s6 (.ref e) Φ.r (.ExceptHandler (U<|.Name x aQ) (U n) (o::m) aN::al)) (PS Φ k) (nt Φ k.aK) s:=by
 haveI aR:=C.ok;haveI w:Φ.slots[i]?=U n:=by rw[C.c9];exact hi
 haveI I:=H1 r L.P L.gf L.bl L.bz L.gg;refine kf λb=>jK L.P.cy λdd es nn ks y B l E=>mV (L.P.Y.cX _ _ _ y) λaM aP ge c1 c2 c3=>b<|wpAny_handleBy_cons (codeAny_handlers_test<|tN C hx I ?_) (by intro q;cases q);haveI M:∃T aC J t os,s=⟨T,aC,J,t,os⟩:=⟨_,_,_,_,_,rfl⟩;refine kf λb=>nh M λT aC J z=>jj z λt os j=>?_;clear M;subst j;refine b<|SA I.Y.aV ge c1 aE A (FY (A2 (C.go.e_ D _<|Option.get_mem Q).1).1) (C.go.bQ _ D (by rw[l];rfl) Q) ?_;induction hs:Φ.a.T.sub _ D with|false=>exact aD hs|true=>refine codeAny_handlers_suite_as<|kf λb=>b<|xE (Sl:=j2 (Φ.r::Φ.bi)) L.gN λaL f3 e3=>kf λb=>hv (u_ aR L.P L.bl L.bz L.gg f3 (aA:=.none)<|.inr<|.inl e3) λP3 G=>b<|BN aR (H1 r P3 L.gf L.bl L.bz G) w (.cO y B E l) λaG Y=>hj (aF μ _ st aG _ Y.cJ<|h1 hs ks l) (λf aH q=>?_) λv aH q=>(kf λb=>nh q λa a a z=>i0 z λa a a P a=>P.dY.elim);.induction f with|next=>exact kf λb=>kM q λaJ aK aI k5 au=>b<|SE aR au.gM w λaO av=>⟨_,_,_,k5,av⟩|ret v=>exact jj q λa a z=>jC z λa a q a=>q.elim|brk=>exact kM q λa a a q a=>q.elim|cont=>exact q.elim
noncomputable def tO(G:Gl)(c:Ck)(i D:Nat):ExceptHandler->Bool| .ExceptHandler t n b _=>oB t (j_ λx=>oB n λn=>!b.isEmpty&&ny G c x (.ref D)&&oE G.K (.ref D)==U (.type "type")&&(pU G.K D).isSome&&(G.T.cv D).isSome&&c.slots[i]?==U n)
noncomputable def tP:ExceptHandler->List ie| .ExceptHandler _ _ b _=>b
theorem H2(C:Cx Φ c d)(l:Φ.bi=[]){e:Nat}(hx:tO Φ.a c i D a=H) (w:hq (Φ.cJ<|.ref e) d h<|tP a)(L:B2 Φ X e μ st j ρ s)(h1:Φ.a.T.sub j.cf D=H->∀ks,Φ.a.T.cv j.cf=U ks->WS Φ.a.T (i6 Φ.a d) h (ρ.set i<|U<|.cO j.cf ks j.er) st ⟨λρ st=>k.n (ρ.set i V) st,λf f=>False,λf f=>False,λf f f=>False⟩)(r:Φ.a.T.sub j.cf D=g->g8 Φ.q Φ.C (s6 (.ref e) Φ.r al) (PS Φ k) (nt Φ k.aK) s):g8 Φ.q Φ.C (s6 (.ref e) Φ.r (a::al)) (PS Φ k) (nt Φ k.aK) s:=by cases a with|ExceptHandler t n b p=>refine j1 hx λt q hx=>?_;clear zz3 q;refine ku (P:=λt=>g8 _ _ (s6 _ _ (.ExceptHandler _ n b p::al)) _ _ s) hx λx z hx=>j1 hx λn o hx=>?_;clear zz3 o;haveI x1:=f2 hx;haveI x2:=f2 x1.1;haveI x3:=f2 x2.1;haveI x4:=f2 x3.1;haveI x5:=f2 x4.1;clear hx;cases b with|nil=>exact ff x5.1|cons y m=>exact hE (z1.mp x3.2) λcd a3=>SF C l x5.2 (eq_of_beq x4.2) a3 x2.2 (eq_of_beq x1.2) w L h1 r
theorem SG(T:Φ.z)(q:PX Φ ρ X v s)(h:∀e μ st w s',v=.ref e->B2 Φ X e μ st w ρ s'->g8 Φ.q Φ.C (s6 v Φ.r hs) Q E s'):g8 Φ.q Φ.C (noteFrame v Φ.r) (λJ b=>g8 Φ.q Φ.C (setFlight v V) (λJ f=>g8 Φ.q Φ.C (s6 v Φ.r hs) Q E f) E b) E s:=by refine kf λC=>jK q λe μ st x a P D I=>i5 I λm i p=>?_;clear q;subst a;exact hc p.at λM hL G=>hv (Gc T P hL G) λA B=>C<|A7 T.dW A T.cT P.e' B λh1 y n=>hv (u_ T P m i p y<|.inr<|.inr n) λr j=>xE (Sl:=j2 (Φ.r::Φ.bi)) n λL z o=>hv (u_ T r m i j z (aA:=.none)<|.inr<|.inl o) λt l=>h e μ st x _ O ⟨t,o,D,m,i,l⟩
theorem SH(C:Cx Φ c d)(p:Φ.bi=[])(M:hq Φ d b n)(hx:tO Φ.a c i D l=H) (Q:∀v,hq (Φ.cJ v) d h<|tP l)(G:(hs=[]/\z=D)\/∃a,hs=[a]/\tO Φ.a c i z a=H/\∀v,hq (Φ.cJ v) d h'<|tP a):hq Φ d (.eA b i D h z h') [.Try n (l::hs) [] [] aa]:=by
 refineλμ ρ st s k A w=>ki<|wpAny_Try_except<|hj (M μ ρ st s _ A w) (λf r q=>?_) λv r q=>?_;.induction f with|next=>exact s3 q|_=>exact q
 .refine hE q λau q=>SG C.ok q λe Y T ex av B L=>?_;clear q;subst B;have w2:=L.P.dY;refine jK L.P.cy λdd es nn ks J E m I=>?_;dsimp only at w2;rw[m]at w2;refine H2 C p hx (Q _) L (λhs y j=>?_) λhs=>?_;.rw[m]at j;exists o;cases j;rw[hs]at w2;exact o w2
  .rw[hs]at w2;exists o;rcases G with⟨_,rfl⟩|⟨a,rfl,t,x⟩
   .rw[hs]at w2;exact w2.elim
   .refine o<|H2 C p t (x _) L (λhs y j=>?_) λhs=>?_;.rw[m]at j;exists o;cases j;rw[hs]at w2;exact o w2
    .rw[hs]at w2;exact w2.elim
end
end
section
open PySem PySem.W PySem.Calls PyProof.Rows
section
variable{ai:n6}{w:iZ}{A:iH}{E:g7->hr->Prop}{ae:j8}
theorem SI{aN}(W:Walks ai w A I fp wr n P aN) (aR:n<=rJ) (p) (F) {RR:g7->j8->Result->hr->Prop}(G:∀y∈c.names,y.2≠ .cell) (q:c.kind=.function) (hx:c.names.lookup x=U .local) (aL:aN 0 a.heap) (Q:∀b∈fp,b<a.heap.objs.size)(aP:QuietOn ai w A ae c x aD M wr P p F a)(aI:∀D C h' tk m' aG (vs:List _),D=a.heap.objs.size->C=a.heap.objs.size+1->D≠C->h'.Ns C m'->h'.IsList D aG->h'.PlainList D aG->vs.length=n->(∀j v,vs[j]?=U v->P j v)->Paired F (vs.filter p) aG.toList->(∀b o,b∉wr->a.heap.get? b=U o->h'.get? b=U o)->RR (.ref D) (wP c C ae) (.ok .next) {a with heap:=h',toks:=tk}):g8 (iu ai w) A (newList []) (λL f=>g8 (iu ai w) A (newFunctionEnv c ae.globals [] [] ae.qual V .none<|U ae) (λs aF=>l9 (iu ai w) A (.compStart (.ListComp M [⟨.Name x px,iter,aD,0⟩] c aa) 0 (.ref I) L {s with scope:=c}) (RR L {s with scope:=c}) aF) E f) E a:=by
 refine wpAny_newObj_type<|wpAny_newFunctionEnv G (by intro y aS;simp at aS) (λav k h=>?_) q;generalize B:a.heap.push _=J at k h ⊢;have aH:J.objs.size=a.heap.objs.size+1:=by rw[<-B,lz]
 have z:a.heap.objs.size≠J.objs.size:=by rw[aH];exact iI<|kY _
 have d:∀b,b<a.heap.objs.size->b≠J.objs.size/\b≠a.heap.objs.size:=λb aO=>⟨by rw[aH];exact iI<|qH aO,iI aO⟩;have r:=λb o e=>h.extBut b o (d b<|it e).1<|jT _ (B▸jT _ e);have l:=W.frame _ _ _ aL λb aT=>r b;have t:∀f,f={a with heap:=av,toks:=a.toks+([]:List (g9×g7)).length}->l9 (iu ai w) A (.compLoop (.ListComp M [⟨.Name x px,iter,aD,0⟩] c aa) 0 (.ref I) (.ref a.heap.objs.size)<|wP c J.objs.size ae) (RR (.ref a.heap.objs.size)<|wP c J.objs.size ae) f:=by
  rintro f rfl
  exact codeAny_compLoop_walk W p F hx (by simp[wP,q]) z (λhm=>jP _<|Q _ hm) (λhm=>by have:=Q _ hm;rw[aH]at this;exact jP _<|Ed this) l ⟨_,h.extBut _ _ z<|jT _ (B▸n9 _ O)⟩ k (λi v f aE aM au hm T=>aP.tests _ i v _ _ _ aM au hm λb o m e=>T b o (d b<|it e).1 m (d b<|it e).2<|r b o e) (λi v f aE aM aK au hm T=>aP.elt _ i v _ _ _ aM aK au hm λb o m e=>T b o (d b<|it e).1 m (d b<|it e).2<|r b o e) λh' tk m' aG vs au aQ aJ Y hP hF T=>aI _ _ h' tk m' aG vs O aH z au aQ aJ Y hP hF λb o m e=>
   T b o (d b<|it e).1 m (d b<|it e).2<|r b o e
 exact codeAny_compStart_list (t _ O)<|W.self 0 _ _ _ l<|t _ O
theorem SJ(p)(F)(aU:swapsWith (.ListComp Y [⟨.Name x px,iter,aH,0⟩] a aa) (U<|.Name y a_) aI.line ae=pure H)(J:∀z∈a.names,z.2≠ .free) (B:∀z∈a.names,z.2≠ .cell) (k:a.kind=.function)(l:∀z∈a.names,z.2=.local->a.names.lookup z.1=U .local) (hx:a.names.lookup x=U .local)(a7:ae.kindOf y=U .local) (a5:(ae.scope.kind== .class||(ae.scope.kind== .module&&ae.locals !=ae.globals))=g)(h:g8 (iu ai w) A (eval iter ae) (λa1 t=>g8 (iu ai w) A (pyIter a1) (λa0 c=>∀G,(∀I fp wr n P aK m,a0=.ref I->Walks ai w A I fp wr n P aK->n<=rJ->aK 0 c.heap->(∀b∈fp,b<c.heap.objs.size)->ae.locals∉wr->c.heap.Ns ae.locals m->QuietOn ai w A ae a x aH Y wr P p F c->(∀D h' tk aJ (vs:List _),D=c.heap.objs.size->h'.IsList D aJ->h'.PlainList D aJ->vs.length=n->(∀j v,vs[j]?=U v->P j v)->Paired F (vs.filter p) aJ.toList->h'.Ns ae.locals (λz=>if z=y then U<|.ref D else m z)->(∀b o,b≠ae.locals->b∉wr->c.heap.get? b=U o->h'.get? b=U o)->Q .next {c with heap:=h',toks:=tk})->G)->G) E t) E s)(hs:∀x,D5 iter ae x=pure x:=by rfl):g8 (iu ai w) A (exec (.Assign [.Name y a_] (.ListComp Y [⟨.Name x px,iter,aH,0⟩] a aa) aI) ae) Q E s:=by
 rw[exec_Assign_Name_used _ _ _ _ aU];refine hw<|pZ<|hw ?_;refine hw<|hj (wpAny_comprehension_use O hs J k l<|hj h (λa1 t aG=>hj aG (λa0 c q=>?_) λT T e=>e) λT T e=>e) (λT s' aS=>ip<|ip aS) λT T e=>e;refine q _ λI fp wr n P aK m e W aV aT aO aL aQ aS a4=>?_;rw[e];refine SI (RR:=λa2 i r s'=>match r with| .ok _=>g8 _ A _ (λT M=>∃m,M.heap.Ns i.locals m/\∀h',mw i.locals M.heap h'->Q _ {M with heap:=h'}) E s'| .error x=>∃m,s'.heap.Ns i.locals m/\∀h',mw i.locals s'.heap h'->g8 _ A (passOn _ x i) _ E {s' with heap:=h'}) W aV p F B k hx aT aO aS ?_;intro D C h' tk m' aJ vs aX aW au aR aP aF aE hP hF aY;have av:ae.locals≠C:=by rw[aW];exact iI<|qH aQ.lt
 have aD:ae.locals≠D:=by rw[aX];exact iI aQ.lt
 refine wpAny_assign_Name<|MB a7 (aQ.at' λo=>aY _ o aL) (λq L d=>?_) a5;refine⟨m',aR.sameBut d<|Ne.symm av,λaZ f=>?_⟩;exact a4 D _ _ aJ vs aX ((aP.extBut d.extBut<|Ne.symm aD).extBut f.extBut au) ((aF.extBut d.extBut<|Ne.symm aD).extBut f.extBut au) aE hP hF (L.sameBut f av) λb o aM aN e=>f.extBut b o (by rw[aW];exact iI<|qH<|it e)<|d.extBut b o aM<|aY b o aN e
end
end
section
open PySem PySem.W PySem.Calls PyProof.Rows
noncomputable def B3(c:Ck)(i:Nat)(N:Int)(x y:g9)(f e:lg)(b:ho)(a:Scope):Bool:=c.slots[i]?==U y&&f.line==e.line&&!(a.names.any λ(n,k)=>n==y&&(k== .local||k== .cell))&&a.names.all (λz=>z.2 != .free&&z.2 != .cell&&(z.2 != .local||a.names.lookup z.1==U .local))&&a.kind== .function&&a.names.lookup x==U .local&&decide (0<N)&&me b&&x !=("__debug__":g9)
section
variable{Φ:Fm}{c:Ck}{d:Nat}
theorem SM(r:ia G μ (v::h) (a::b)):RelV G μ v a/\ia G μ h b:=by cases r with|cons e f=>exact⟨e,f⟩
theorem SN{a:List Int}(r:ia G μ m<|a.map .int)(p:Paired (λv y=>∃i t u,v=z2 i t/\y=z2 (kW i N) u) m n):ia G μ n<|a.map λi=>.int<|kW i N:=by
 induction p generalizing a with
 |nil=>cases a with|nil=>exact .nil|cons=>cases r
 |cons h _ l=>cases a with
  |nil=>cases r
  |cons j a=>haveI b:=SM r;refine kM h λi t u e f=>hE b.1.aO λo k=>?_;rw[f,(z2.inj<|e.symm.trans k).1];exact .cons (.int _ _)<|l b.2
set_option tactic.hygienic true in
theorem SO(C:Cx Φ c d)(bg:(!c.bA)=H)(h:B3 c i N x y a_ cp iter Q=H)(bi:Good Φ c d e<|.e iter):hq Φ d (.bT [i]<|.ex N e) [.Assign [.Name y a_] (.ListComp (.BinOp (.Name x bu) .Mod (.Constant (.int N) kk bv) bw) [⟨.Name x px,iter,[],0⟩] Q cp) sp]:=by
 unfold B3 at h;simp only[iX,beq_iff_eq,decide_eq_true_eq,sW]at h;refine hv h λM a9=>?_;clear h;refine hv M λaG a8=>?_;clear M;obtain⟨⟨⟨⟨⟨⟨a1,a2⟩,a3⟩,a4⟩,a5⟩,a6⟩,a7⟩:=aG;haveI Y:Φ.slots[i]?=U y:=by rw[C.c9];exact a1
 haveI a0:=C.ok.slot i y Y;haveI av:=λz J=>by haveI:=mC.mp a4 z J;simp only[iX,bne_iff_ne,wQ,beq_iff_eq]at this;exact jZ this.1.1 this.1.2 λq=>this.2.resolve_left λw=>w q
 refineλμ ρ st s k D w=>ki<|SJ (λau=>H) (λv y=>∃i t u,v=z2 i t/\y=z2 (kW i N) u) ?_ (λz J=>(av z J).1) (λz J=>(av z J).2.1) a5 (λz J=>(av z J).2.2) a6 a0 (pk C.ok) (hj (bi.1 μ ρ st s _ _ D w) (λv B q=>?_) λau au=>jV)<|vn a8
 .show(pure (Φ.r.blockKind== .function&&Φ.r.kindOf y==U _&&a_.line==cp.line&&!(Q.names.any _)))=pure _;rw[a3,a2,a0];haveI:Φ.r.blockKind=.function:=by unfold j8.blockKind;rw[C.ok.kind];rfl
  rw[this];simp
 .exists T;obtain⟨bo,a,aW,k1,bp,a',f⟩:=q;refine r3 k1 λm l ex be k1=>?_;rw[ex]at a'
  ··refine hc k1 λis aD k2=>?_
    clear k1
    subst aD
    revert T;refine RelV.fH a' f.Y be ?_;intro b br hm q T
    obtain⟨vs,n,c1,c2,c3⟩:=q
    haveI aF:=c2.len
    rw[zE,ig]at aF
    rw[ig]at c3
    refine T<|wpAny_pyIter_list ⟨_,c1,rfl,n,rfl⟩<|hc f.ns λbk aR bh=>?_
    haveI bl:=it c1
    have A:=C.ok.j
    refineλG k=>k _ _ _ _ _ _ bk O (Walks.list (C.dx (by simpa using bg)) _ b (iI bl) vs) (by rw[aF];apply f1<;>right) ⟨⟨_,n9 _ O,rfl,rfl⟩,_,jT _ c1,rfl,n,rfl⟩ (λz J=>?_) ?_ (A▸(aR.push {cls:=.type "list_iterator",data:=.fields #[.ref b,.int 0 0]})) ⟨(λaY j v E aK ba aV aJ aE aP aU=>ip ⟨rfl,E.heap,E.toks,rfl,λau au e=>e⟩),?_⟩ ?_
    .rw[show({B with heap:=B.heap.push _}:hr).heap.objs.size=B.heap.objs.size+1 from lz ..]
     exists T;rcases h7.mp J with rfl|J
     .exact T<|kY _
     .refine T ?_;rw[iv.mp J];exact qH bl
    .intro q
     rw[A]at q
     exact absurd f.cH (by rw[iv.mp q];exact jP _)
    .intro aY j v E aK ba aV _ aJ aE aP aU
     have bj:=by
      haveI:=(ww.mp aV).1
      exact iy<|jM<|jM (f1 (jD this) (im aF))
     refine kf λT=>hc (qc c2 (by rw[oa,oe bj];rfl)) λbx e1 e2=>?_
     rw[pY,aV]at e1
     clear zz3 (Eq.symm<|io e1) e2
     refine hE (u2 e2) λt ev=>?_
     clear zz3 ev T aE
     refine T<|Ee<|um (rA (show(wP _ aY _).scope.kind=.function from a5) a6 aJ aE<|zr ?_) (by simpa using a9)
     exact L1 (by lia) ⟨⟨_,_,_,rfl,rfl⟩,E.heap,_,rfl,λau au e=>e⟩
    .intro aM h' tk bn aL aO hl aT aH hP hF aS aZ
     rw[(List.filter_eq_self.mpr λau au=>rfl)]at hF
     haveI aX:aL=vs.toList:=by
      refine List.ext_getElem? λj=>?_
      induction z:aL[j]? with
      |some v=>rw[pY];exact(hP j v z).symm
      |none=>
       rw[M0]at z
       rw[pY,MF]
       exact f1 (im aH.symm) z
     subst aX
     refine hE aT λnn hg=>?_
     rw[(lz ..)]at aO
     have L:=λa o hL e=>aZ a o (by rw[A];exact hL) (λq=>by
      haveI:=it e
      rw[iv.mp q]at this
      exact jP _ this)<|jT _ e
     haveI bb:=f.Y.same (by
      haveI z:=it hg
      rw[aO]at z
      exact f1 (iA _)<|iN z) λa o e w=>L a o (λq=>by
       clear zz3 q w
       rcases w with w|w|⟨bt,w⟩
       .exact absurd w<|j9.mpr<|f1 C.ok.bk C.ok.b3
       .exact f.bl w
       .exact f.bz _ w O) e
     haveI I:B.heap.objs.size<aM:=by rw[aO];exact kY _
     haveI aI:=f.Y.cx _<|g' _
     haveI aN:=ib.bC (a:=aM)<|f.Y.ck _ aI
     haveI bc:=bb.f0 (c:=.m _) (ac:=aW.new _) aI (λq=>by cases q) ⟨f1 f.Y.bk<|iN I,it hg⟩ (λm=>absurd (f.Y.bw _ m).2<|j9.mpr<|iN I) (λp bf q=>absurd (it (f.Y.t p bf).1)<|j9.mpr (q▸iN I))
      ⟨bn,nn,hg,(SN c2 hF).aP aN,by rw[ig];exact c3⟩ rfl (EQ _ _) λk aZ=>⟨by apply iN<;>right,λq=>by haveI:=uT q;apply iP<;>right⟩
     refine⟨_,_,_,k2,f.ext.trans aN,bc,λa o e n=>L a o (iI<|hy (it e) C.ok.b3)<|f.bx a o e n,⟨_,A▸aS,λj z a e1 e2=>?_⟩,λq=>?_,f.bz,λa q=>?_,f.bb,f.bY,f.bZ,f.b4⟩
     .by_cases q:z=y
      .clear zz3 q e1
       have:=u1 C.ok.nodup e1 Y
       clear zz3 (Eq.symm this) e2
       have aQ:=by
        cases nG j _ with
        |inl h=>exact h
        |inr h=>
         have r:=e2
         rw[zo (by rw[zp];exact h)]at r;cases r
       have r:=e2
       rw[DM aQ]at r
       cases r
       exact h_ (.ref aM) (if_pos O)<|.mut (p_ _ _ _) λq=>by cases q
      .haveI r:=e2
       rw[DN λw=>by clear zz3 w Y;rw[Y]at e1;exact q (io e1).symm]at r
       exact hc (bh j z a e1 r) λu h1 bd=>h_ u ((if_neg q).trans h1)<|bd.aP aN
     .exists T;rcases q.bC with q|q
      .exact absurd f.cH<|j9.mpr (q▸iN I)
      .exact f.bl q
     .rcases q.bC with q|q
      .exact .inr (q▸f1 (f.dZ C.ok) (iN I))
      .exact f.a7 a q
end
end
section
open PySem PySem.W PySem.Calls PyProof.Rows
noncomputable def Mu.cK(μ:Mu)(x a C:Nat):Mu:={μ with L:=U (x,a),t:=(x,lh C a)::μ.t}
theorem ib.cK(h:μ.L=V):ib μ<|μ.cK x b C:=⟨(λp e=>by rw[h]at e;cases e),λa a e=>e,λa=>.tail _,λa e=>e⟩
theorem ii.cK(h:ii (μ.cK x e C) a):a=e\/ii μ a:=by
 exists b;rcases h with⟨y,h⟩|h|h
 .cases h;exact b<|.inl O
 .exact b<|.inr<|.inr<|.inl h
 .exact b<|.inr<|.inr<|.inr h
section
variable{G:Gl}{μ:Mu}{st:St}{h h':jA}
theorem Inv.fO(I:Inv G μ st h)(L:st.L=V)(i:∀b o,h.get? b=U o->h'.get? b=U o)(z:h'.get? h.objs.size=U (ji [] 0))(t:h'.get? (h.objs.size+1)=U (lh G.T.a1 h.objs.size)):Inv G (μ.cK (h.objs.size+1) h.objs.size G.T.a1) {st with L:=U ([],[])} h':=by
 haveI E:ib μ<|μ.cK (h.objs.size+1) h.objs.size G.T.a1:=ib.cK<|I.cG L;haveI j:=Ed<|it t;haveI k:=I.bk;refine⟨λa o e=>i a o<|I.aV a o e,I.cw,λp f=>?_,λks x e=>?_,(λe=>by cases e),λm c e=>(hc (I.cp m c e) λa C J=>h_ a C<|(J.aP E).dc λo e=>i a o e),I.ck,λa D d e=>(jC (I.cX a D d e) λo x h1 r=>lU o x (i _ _ h1) r),λa e=>?_,I.inj,λy a m l n=>(absurd (zD<|io l).2.symm<|iI (I.bw a<|.inr (.inl ⟨m,n⟩)).2),λy a D d l n=>(absurd (zD<|io l).2.symm<|iI (I.bw a<|.inr (.inr ⟨D,d,n⟩)).2),I.a2,I.cx,I.df,f1 k<|iN j⟩
 .rcases h7.mp f with rfl|f
  .refine jZ t (jw k) λq=>?_;rcases q.cK with q|q
   .exact zQ _ q
   .exact Nat.not_succ_lt_self (I.bw _ q).2
  .refine i5 (I.t p f) λw A B=>jZ (i _ _ w) A λq=>?_;rcases q.cK with q|q
   .exact iI (it w) q
   .exact B q
 .cases e;exact qL _ _ _ 0 O (.head _) z .nil
 .rcases e.cK with q|q
  .exact q▸⟨k,j⟩
  .exact⟨(I.bw a q).1,pW (I.bw a q).2 j⟩
end
section
variable{Φ:Fm}{c:Ck}{d:Nat}{μ:Mu}{ρ:Loc}{st:St}{s:hr}{Q:AV->St->Prop}{X:h5->St->Prop}
theorem Dy.fO(n:Φ.z)(D:Dy Φ μ ρ st s)(j:st.L=V):Dy Φ (μ.cK (s.heap.objs.size+1) s.heap.objs.size Φ.a.T.a1) ρ {st with L:=U ([],[])} {s with heap:=(s.heap.push p0).push<|lh Φ.a.T.a1 s.heap.objs.size}:=by
 haveI k2:∀b o,s.heap.get? b=U o->((s.heap.push p0).push<|lh Φ.a.T.a1 s.heap.objs.size).get? b=U o:=λb o e=>jT _<|jT _ e;haveI l:=by haveI:=n9 (s.heap.push p0) (o:=lh Φ.a.T.a1 s.heap.objs.size) O;rwa [lz]at this
 haveI m:=D.keeps (t:=s.toks) (by rw[lz,lz];exact ih _ 2) k2;haveI k:=D.cH;haveI h0:=D.dZ n;refine m.e9 (ib.cK<|D.Y.cG j) (D.Y.fO j k2 (jT _<|n9 _ (o:=p0) O) l) (λq=>?_) (λp j=>?_) (λa q=>?_) λp j=>?_
 .rcases q.cK with q|q
  .exact iI k q
  .exact D.bl q
 .rcases h7.mp j with f|j;clear zz3 f
  .exact iP<|qH k
  .exact D.bz p j
 .rcases q.cK with q|q
  .exact .inr (q▸h0)
  .exact D.a7 a q
 .rcases h7.mp j with i|j;clear zz3 i
  .exact .inr<|jw h0
  .exact D.bb p j
structure H3 (G:Gl)(f:Nat):Prop where
 fJ:makesIn G.K G.T.a1=H
 init:iO G.K (.ref G.T.a1) "__init__"=U (U (.ref f))
 fn:oE G.K (.ref f)=U (.type "function")
theorem SP(C:Cx Φ c d)(au:Φ.C.depth+1+d<900/\Φ.C.units+8+8*d<9000)(aL:(!c.bA||Φ.a.quiet f)=H)(P:H3 Φ.a f){av:jp}(h1:ny Φ.a c x (.ref Φ.a.T.a1)=H)(m:qh es []=H)(aJ:nI Φ.a.K (.ref Φ.a.T.a1)=H)(aK:c.bn f=U (aV::av)) (aM:Good Φ c d args<|.aZ av es []) (D:Dy Φ μ ρ st s) (w:WE Φ.a.T (i6 Φ.a d) (.ey f args) ρ st Q X):g8 Φ.q Φ.C (eval (.Call (.Name x np) es [] aa) Φ.r) (PE Φ ρ μ Q) (PX Φ ρ X) s:=by
 haveI aW:=C.ok;rw[iX]at m;obtain⟨aI,M,aX⟩:=C.bn f _ aK;refine aX.cy.cq λw0 aD n E J=>?_;obtain⟨aN,aO⟩:=aM aD J m.1 m.2;refine Call_ O<|tN C h1 D<|tK aJ m.1 m.2 (hj (aO μ ρ st s _ X _ D w) (λA aF q=>hj q (λks o q=>?_) λE E q=>q) λE E q=>q);exists j;obtain⟨n1,aU,p,l,aR,k2,aH,aP,I⟩:=q;refine j ⟨I.Y.aV,?_⟩;haveI z:(nv []).zip ks=[]:=rfl;refine kf λj=>Fb k2 λb k2=>?_
 .haveI hK:=I.Y.aV;haveI k:=I;obtain⟨y,aC,dr,t,os⟩:=o;refine j<|pV<|make_core (makes_of hK P.fJ) (rF hK P.init) (λaE=>bind_fn hK _ P.fn) (.inl O) ?_;haveI i:=k.fO aW b;dsimp only at i;haveI T:ib p<|p.cK (y.objs.size+1) y.objs.size Φ.a.T.a1:=ib.cK<|k.Y.cG b;haveI ok:jl (kO<|lp _ M) (lA (y.objs.size+1)::A).length _=true:=by rw[n];show jl _ A.length _=H;rw[n1];exact aN
  haveI B:=qe (kw:=[]) aX.d0 aX.d1 aX.d2 aX.d3 aX.c8 (qf i.Y.aV aX.d4) aX.b0 ok;rw[(by rw[n];rfl:fill (lp _ M) (lA (y.objs.size+1)::A) []=lA _::fill aD A [])]at B;refine wz (k2 _ _ _ _ _ _ _ ⟨(au.1),?_⟩ aW.dW (xW C aL) (i.dh aW) i.Y (.cons (.L O)<|aP.aP T) aX.at_ B) λr s' q=>?_;.refine lB (iq (show Φ.C.units+_<=Φ.C.units+8 from hJ ?_ _) _) au.2;exact kC O
  .induction r with|error e=>exact F7 aW i q|ok fl=>
    induction fl with
    |ret v=>exists j;obtain⟨aT,a,aS,L,Y,aQ,aG⟩:=F6 aW i q;obtain⟨rfl,L⟩:=NA L;clear zz3 aQ.aO j;exact j ⟨rfl,_,_,_,L,(aH.trans T).trans Y,.L<|Y.L _ O,aG⟩
    |next=>exact q.2.elim|brk=>exact q.2.elim|cont=>exact q.2.elim
end
end
section
open PySem PySem.W PySem.Calls PyProof.Rows
noncomputable section
structure Sk where
 dj:Nat->Option jp
 ek:Bool
noncomputable def H4(c:Ck):Ck:={c with bA:=H}
noncomputable def SQ(f:ho->ho->Bool):DI->Bool|⟨t,e,b,a⟩=>l0 b&&a==0&&f t e
noncomputable def H5(G:Gl)(c:Ck)(m:List Nat)(N:Int)(e:DE)(s:List ho):ho->Bool:=Fq λh j p f=>l1 (λy=>Fs (λy n=>xq (λl o r=>Fn o&&j_ (λx=>r7 (uY λb=>decide (N=b)&&l1 (SQ λt a=>j_ (λq=>decide (x=q)&&l1 (λi=>B3 c i N x y n f a p&&!c.bA&&ke G c e (.e a)) m) t) j) r) l) h) y) s
noncomputable def B4(G:Gl)(f:Nat):Bool:=makesIn G.K G.T.a1&&iO G.K (.ref G.T.a1) "__init__"==U (U (.ref f))&&oE G.K (.ref f)==U (.type "function")
theorem SR(h:B4 G f=H):H3 G f:=by unfold B4 at h;simp only[iX,beq_iff_eq]at h;exact⟨h.1.1,h.1.2,h.2⟩
noncomputable def H6(G:Gl)(k:Sk)(c:Ck)(b:List Nat)(f:Nat)(args:DE)(h:List ho):ho->Bool:=k8 λaC a ah i=>l0 ah&&j_ (λx=>k.ek&&B4 G f&&ny G c x (.ref G.T.a1)&&qh a []&&nI G.K (.ref G.T.a1)&&(!c.bA||G.quiet f)&&mJ c.slots b h&&oB (c.bn f) (lc λi e=>ke G c args (.aZ e a []))) aC
noncomputable def SS:DE->Option (Int×DE)| .ex N e=>U (N,e)|_=>V
noncomputable def SU:DE->Option (Nat×DE)| .ey f a=>U (f,a)|_=>V
noncomputable def H7(G:Gl)(k:Sk)(c:Ck)(a:List Nat)(e:DE)(b:List ho)(x:ho):Bool:=match SS e with|U p=>H5 G c a p.1 p.2 b x|V=>match SU e with|U p=>H6 G k c a p.1 p.2 b x|V=>mH x&&mJ c.slots a b&&ke G c e (.e x)
noncomputable abbrev B5:=Ck->List ie->Bool
noncomputable def SV(f:Nat->Bool):DE->Bool:=dA f hk g
noncomputable def SW:AV->Bool| .none=>H|_=>g
noncomputable def SX:DE->Bool:=dA hk SW g
noncomputable def H8(G:Gl)(c:Ck)(e:DE):List ie->Bool:=l1 (AP λx=>mH x&&ke G c e (.e x))
noncomputable def H9(G:Gl)(c:Ck)(a:List Nat)(e:DE):List ie->Bool:=l1 (qV λb x=>l1 (xs λf=>!c.bA&&mH x&&xH x&&mJ c.slots a f&&ke G c e (.e x)) b)
noncomputable def H_(G:Gl)(c:Ck)(e:DE)(f:Nat)(x:DE):List ie->Bool:=l1 (qV λa y=>l1 (mG λo n b=>oN G n f&&mH y&&ke G c x (.e y)&&ke G c e (.e o)) a)
noncomputable def H'(G:Gl)(c:Ck)(e:DE)(f:Nat)(m:ja):List ie->Bool:=l1 (qV λa y=>l1 (mG λo n b=>j_ (λx=>SV (λi=>(c.slots[i]?==U x&&x !=("__debug__":g9))&&oN G n f&&B1 m y) e) o) a)
noncomputable def Ia(G:Gl)(c:Ck)(e i x:DE):List ie->Bool:=l1 (qV λa y=>l1 (uX λo j=>mH y&&ke G c x (.e y)&&ke G c e (.e o)&&ke G c i (.e j)) a)
noncomputable def Ib(G:Gl)(c:Ck)(e i:DE):List ie->Bool:=l1 (Fz (l1 (uX λo j=>ke G c e (.e o)&&ke G c i (.e j))))
noncomputable def Ic(G:Gl)(c:Ck)(i:Nat)(o:Op)(e:DE):List ie->Bool:=l1 (AR λt op y=>j_ (λx=>c.slots[i]?==U x&&(vl o&&sj (ol o) op)&&ke G c e (.e y)) t)
noncomputable def Ie(G:Gl)(c:Ck)(e:DE)(f:Nat)(o:Op)(x:DE):List ie->Bool:=l1 (AR λt op y=>mG (λq n a=>oN G n f&&(vl o&&sj (ol o) op)&&ke G c e (.e q)&&ke G c x (.e y)) t)
noncomputable def Ig(G:Gl)(c:Ck)(f:List Nat)(e:DE)(a b:ho):Bool:=!c.bA&&q2 c.slots f a&&me b&&ke G c e (.e b)
noncomputable def B6(G:Gl)(c:Ck)(h:List Nat)(e:DE)(nm:g9)(v:g7)(a:ho):ho->Bool:=k8 λaC b ah i=>l0 ah&&j_ (λf=>l1 (λy=>!c.bA&&q2 c.slots h a&&l3 G c f v&&jE y&&ke G c e (.e y)) b) aC
noncomputable def Ih(G:Gl)(c:Ck)(f:It)(a:List Nat)(e:DE)(b:List ie->Bool):List ie->Bool:=l1 (Fv λt x l r=>l0 r&&b l&&match f with| .m=>Ig G c a e t x| .eK=>Ig G c a e t x| .ef=>B6 G c a e "range" (.type "range") t x| .e7=>xs (λh=>H) t&&B6 G c a e "enumerate" (.type "enumerate") t x)
noncomputable def Ii(G:Gl)(c:Ck)(e:DE):List ie->Bool:=l1 (Fw (r8 (SX e) λx=>ke G c e (.e x)))
noncomputable def Ij(G:Gl)(k:Sk)(c:Ck)(D:Nat)(args:DE):List ie->Bool:=l1 (Fx λo q=>r8 H (λe=>g) q&&r8 g (k8 λaC a ah e=>l0 ah&&j_ (λx=>!c.bA&&ny G c x (.ref D)&&(qh a []&&kK a.length 500)&&nI G.K (.ref D)&&oB (k.dj D) λb=>ke G c args (.aZ b a [])) aC) o)
noncomputable def Ik(G:Gl)(k:Sk)(c:Ck)(i D e:Nat)(h j a:B5):List ie->Bool:=l1 (AQ λb hs o f=>l0 o&&l0 f&&lc (λh0 hs=>k.ek&&h c b&&tO G c i D h0&&j (H4 c) (tP h0)&&match hs with|[]=>e==D|h1::r=>l0 r&&tO G c i e h1&&a (H4 c) (tP h1)) hs)
noncomputable def vo(G:Gl)(k:Sk)(c:Ck)(w:DS):List ie->Bool:=DS.rec (motive:=λa=>B5)
 (aE:=λa a=>H)
 (da:=λa l=>l0 l||l1 FA l)
 (seq:=λa a n h c=>lc λs r=>n c [s]&&h c r)
 (y:=λe c=>H8 G c e)
 (bT:=λj e c=>l1 (qV (H7 G k c j e)))
 (cQ:=λj e c=>H9 G c j e)
 (ez:=λe f x c=>H_ G c e f x)
 (co:=λe f m c=>H' G c e f m)
 (cE:=λe i x c=>Ia G c e i x)
 (eg:=λe i c=>Ib G c e i)
 (cR:=λi o e c=>Ic G c i o e)
 (cF:=λe f o x c=>Ie G c e f o x)
 (ite:=λt a a n h c=>l1 (Ft λx l r=>ke G c t (.e x)&&n c l&&h c r))
 (bs:=λt a h c=>l1 (Fu λx l o=>l0 o&&ke G c t (.e x)&&h c l))
 (b6:=λz j e a h c=>Ih G c z j e (h c))
 (ret:=λe c=>Ii G c e)
 (brk:=λa=>l1 FC)
 (eN:=λD args c=>Ij G k c D args)
 (eO:=λe c=>l1 (Fy λx=>ke G c e (.e x)))
 (e8:=λa h c=>l1 (AQ λb hs o f=>l0 o&&l0 f&&lc (λa a=>H) hs&&h c b))
 (eA:=λa i D a q a h y p c=>Ik G k c i D q h y p) w c
theorem SY:hq Φ d .aE l:=λμ ρ st s k D w=>by haveI w':=w;exact w'.elim
structure Kx (Φ:Fm)(k:Sk)(d:Nat):Prop where
 dk:∀C a,k.dj C=U a->x9 Φ.a C a
 cA:k.ek=H->Φ.bi=[]
 aM:k.ek=H->Φ.C.depth+1+d<900/\Φ.C.units+8+8*d<9000
theorem Kx.gO(K:Kx Φ k d)(s:q1 Φ b):Kx b k d:=⟨λC a h=>s.1▸K.dk C a h,λh=>s.2.1.trans<|K.cA h,λh=>by rw[s.2.2.2.2];exact K.aM h⟩
theorem S0(C:Cx Φ c d){s}{N}{e}(h:H5 Φ.a c s N e w x=H):hq Φ d (.bT s<|.ex N e) [.Assign w x aa]:=Oe (P:=λx=>hq Φ d _ [.Assign w x _]) h λA j f b h=>i4 (P:=λw=>hq Φ d _ [.Assign w _ _]) h λy h=>Of (P:=λy=>hq Φ d _ [.Assign [y] _ _]) h λy Q h=>AS (P:=λA=>hq Φ d _ [.Assign _ (.ListComp A j f b) _]) h λl o r z h=>haveI h0:=f2 h;ku (P:=λl=>hq Φ d _ [.Assign _ (.ListComp (.BinOp l o r z) j f b) _]) h0.2 λx Y h=>tB (P:=λr=>hq Φ d _ [.Assign _ (.ListComp (.BinOp _ o r z) j f b) _]) h λG I J h=>xw (P:=λG=>hq Φ d _ [.Assign _ (.ListComp (.BinOp _ o (.Constant G I J) z) j f b) _]) h λM h=>haveI h1:=f2 h;i4 (P:=λj=>hq Φ d _ [.Assign _ (.ListComp _ j f b) _]) h1.2 λaC m=>by obtain⟨t,E,n,a⟩:=aC;haveI m:=f2 m;haveI B:=f2 m.1;exact iY (P:=λn=>hq Φ d _ [.Assign _ (.ListComp _ [⟨t,E,n,a⟩] f b) _]) B.1<|ku (P:=λt=>hq Φ d _ [.Assign _ (.ListComp _ [⟨t,E,_,a⟩] f b) _]) m.2 λT L p=>by haveI p:=f2 p;clear m h;induction of_decide_eq_true p.1;clear m h;induction of_decide_eq_true h1.1;clear h;cases eq_of_beq B.2;refine i4 (P:=λs=>hq Φ d (.bT s _) _) p.2 λi q=>?_;haveI q:=f2 q;haveI D:=f2 q.1;clear h;induction o<;>first|exact absurd h0.1 (by decide)|exact SO C D.2 D.1<|kh C _ _ q.2
theorem S1(C:Cx Φ c d)(K:Kx Φ k d)(h:H6 Φ.a k c A f args e x=H):hq Φ d (.bT A<|.ey f args) [.Assign e x aa]:=k9 (P:=λx=>hq Φ d _ [.Assign e x _]) h λaC o ah n h=>haveI h0:=f2 h;iY (P:=λah=>hq Φ d _ [.Assign e (.Call aC o ah n) _]) h0.1<|ku (P:=λaC=>hq Φ d _ [.Assign e (.Call aC o _ n) _]) h0.2 λx av h=>haveI h:=f2 h;haveI h1:=f2 h.1;haveI p:=f2 h1.1;haveI r:=f2 p.1;haveI t:=f2 r.1;haveI y:=f2 t.1;haveI z:=f2 y.1;j1 h.2 λb i j=>lZ (P:=λb=>c.bn f=U b->hq Φ d _ _) j (λY au j i=>by intro μ ρ st s T D w;haveI m:=h1.2;rw[<-C.c9]at m;refine ki<|Ec (hj (SP C (K.aM z.1) p.2 (SR z.2) y.2 t.2 r.2 i (kh C _ _ j) D w) (λv B q=>?_) λL L=>jV) (Bz O) (HJ m);obtain⟨M,a,J,k1,Q,I,G⟩:=q;exact HK C.ok A e ρ _ m G I λs' E=>⟨_,_,_,k1,E⟩) i
theorem S2(C:Cx Φ c d)(K:Kx Φ k d)(h:H7 Φ.a k c a e f x=H):hq Φ d (.bT a e) [.Assign f x aa]:=by haveI b:(mH x&&mJ c.slots a f&&ke Φ.a c e (.e x))=H->hq Φ d (.bT a e) [.Assign f x aa]:=λh=>haveI h:=f2 h;haveI h1:=f2 h.1;RJ C h1.1 h1.2<|kh C _ _ h.2;induction e<;>first|exact S0 C h|exact S1 C K h|exact b h
noncomputable def vp(k:Sk)(d:Nat)(G:Gl)(a:B5)(b:DS):Prop:=∀{Φ:Fm} {c:Ck},Φ.a=G->Cx Φ c d->Kx Φ k d->∀l,a c l=H->hq Φ d b l
section
variable{Φ:Fm}{c:Ck}{d:Nat}(C:Cx Φ c d){k:Sk}(K:Kx Φ k d){l:List ie}
include C
theorem S3(h:H8 Φ.a c e l=H):hq Φ d (.y e) l:=i4 h λs h=>FH (P:=λs=>hq Φ d _ [s]) h λx p h=>haveI h:=f2 h;RI C h.1<|kh C _ _ h.2
theorem S4(h:H9 Φ.a c i e l=H):hq Φ d (.cQ i e) l:=i4 h λs h=>tC (P:=λs=>hq Φ d _ [s]) h λf x p h=>i4 (P:=λf=>hq Φ d _ [.Assign f x p]) h λt h=>AU (P:=λt=>hq Φ d _ [.Assign [t] x p]) h λj n q h=>haveI h:=f2 h;haveI h1:=f2 h.1;haveI a:=f2 h1.1;haveI b:=f2 a.1;RK C b.1 b.2 a.2 h1.2<|kh C _ _ h.2
theorem S5(h:H_ Φ.a c e f x l=H):hq Φ d (.ez e f x) l:=i4 h λs h=>tC (P:=λs=>hq Φ d _ [s]) h λb y p h=>i4 (P:=λb=>hq Φ d _ [.Assign b y p]) h λt h=>mW (P:=λt=>hq Φ d _ [.Assign [t] y p]) h λo n q h=>haveI h:=f2 h;haveI h1:=f2 h.1;haveI a:=f2 h1.1;RL C a.1 a.2 (kh C _ _ h1.2)<|kh C _ _ h.2
theorem S6(h:H' Φ.a c e f m l=H):hq Φ d (.co e f m) l:=i4 h λs h=>tC (P:=λs=>hq Φ d _ [s]) h λa y p h=>i4 (P:=λa=>hq Φ d _ [.Assign a y p]) h λt h=>mW (P:=λt=>hq Φ d _ [.Assign [t] y p]) h λo n q h=>ku (P:=λo=>hq Φ d _ [.Assign [.Attribute o n q] y p]) h λx r h=>xS (P:=λe=>hq Φ d (.co e f m) _) h (λi h=>haveI h:=f2 h;haveI h1:=f2 h.1;Sm C h1.1 h1.2 h.2) iC ff
theorem S7(h:Ia Φ.a c e i x l=H):hq Φ d (.cE e i x) l:=i4 h λs h=>tC (P:=λs=>hq Φ d _ [s]) h λb y p h=>i4 (P:=λb=>hq Φ d _ [.Assign b y p]) h λt h=>xv (P:=λt=>hq Φ d _ [.Assign [t] y p]) h λo j q h=>haveI h:=f2 h;haveI h1:=f2 h.1;haveI a:=f2 h1.1;RM C a.1 (kh C _ _ a.2) (kh C _ _ h1.2)<|kh C _ _ h.2
theorem S8(h:Ib Φ.a c e i l=H):hq Φ d (.eg e i) l:=i4 h λs h=>Ob (P:=λs=>hq Φ d _ [s]) h λa p h=>i4 (P:=λa=>hq Φ d _ [.Delete a p]) h λt h=>xv (P:=λt=>hq Φ d _ [.Delete [t] p]) h λo j q h=>haveI h:=f2 h;RN C (kh C _ _ h.1)<|kh C _ _ h.2
theorem S9(h:Ic Φ.a c i o e l=H):hq Φ d (.cR i o e) l:=i4 h λs h=>FJ (P:=λs=>hq Φ d _ [s]) h λt op y p h=>ku (P:=λt=>hq Φ d _ [.AugAssign t op y p]) h λx q h=>haveI h:=f2 h;haveI h1:=f2 h.1;RO C h1.1 h1.2<|kh C _ _ h.2
theorem S_(h:Ie Φ.a c e f o x l=H):hq Φ d (.cF e f o x) l:=i4 h λs h=>FJ (P:=λs=>hq Φ d _ [s]) h λt op y p h=>mW (P:=λt=>hq Φ d _ [.AugAssign t op y p]) h λq n r h=>haveI h:=f2 h;haveI h1:=f2 h.1;haveI a:=f2 h1.1;RP C a.1 a.2 (kh C _ _ h1.2)<|kh C _ _ h.2
theorem S'(h:Ii Φ.a c e l=H):hq Φ d (.ret e) l:=i4 h λs f=>N_ (P:=λs=>hq Φ d _ [s]) f λo p b=>by induction o with|some x=>exact RS C<|kh C _ _ b|none=>exact xS (P:=λe=>hq Φ d _ _) b iC (λa h=>by cases a<;>first|exact RU|exact ff h) ff
include K
theorem Ta(h:Ij Φ.a k c D args l=H):hq Φ d (.eN D args) l:=
 i4 h λs h=>N' (P:=λs=>hq Φ d _ [s]) h λo q p h=>haveI h0:=f2 h;by
  induction q with
  |some=>exists m;cases h0.1
  |none=>
   induction o with
   |none=>cases h0.2
   |some x=>exact k9 (P:=λx=>hq Φ d _ [.Raise _ _ p]) h0.2 λaC b ah a h=>haveI h0:=f2 h;iY (P:=λah=>hq Φ d _ [.Raise (U<|.Call aC b ah a) _ p]) h0.1<|ku (P:=λaC=>hq Φ d _ [.Raise (U<|.Call aC b _ a) _ p]) h0.2 λx r h=>haveI h:=f2 h;haveI h1:=f2 h.1;haveI f:=f2 h1.1;haveI i:=f2 f.1;j1 h.2 λn e j=>Sz C i.1 i.2 f.2 h1.2 (K.dk _ _ e)<|kh C _ _ j
theorem Tc(E:vp k d Φ.a D b)(h:Ih Φ.a c B A e (D c) l=H):hq Φ d (.b6 B A e b) l:=i4 h λs h=>N9 (P:=λs=>hq Φ d _ [s]) h λt x l r p h=>haveI h:=f2 h;haveI h1:=f2 h.1;iY (P:=λr=>hq Φ d _ [.For t x l r p]) h1.1 (by haveI f:∀o,Cx o c d->q1 Φ o->hq o d b l:=λo w s=>E s.1 w (K.gO s) l h1.2;haveI a:=h.2;clear h;induction B with|m=>exact haveI h:=f2 a;haveI h1:=f2 h.1;haveI a:=f2 h1.1;Sc C a.1 a.2 h1.2 (kh C _ _ h.2) f|eK=>exact haveI h:=f2 a;haveI h1:=f2 h.1;haveI a:=f2 h1.1;Sf C a.1 a.2 h1.2 (kh C _ _ h.2) f|ef=>exact k9 (P:=λx=>hq Φ d _ [.For t x l _ p]) a λaC i ah j h=>haveI h0:=f2 h;iY (P:=λah=>hq Φ d _ [.For t (.Call aC i ah j) l _ p]) h0.1<|ku (P:=λaC=>hq Φ d _ [.For t (.Call aC i _ j) l _ p]) h0.2 λG I h=>i4 (P:=λi=>hq Φ d _ [.For t (.Call _ i _ j) l _ p]) h λy h=>haveI h:=f2 h;haveI h1:=f2 h.1;haveI a:=f2 h1.1;haveI m:=f2 a.1;Sd C m.1 m.2 a.2 h1.2 (kh C _ _ h.2) f|e7=>exact haveI z:=f2 a;AU (P:=λt=>B6 _ c A e _ _ t x=H->hq Φ d _ [.For t x l _ p]) z.1 (λJ n q L a=>k9 (P:=λx=>hq Φ d _ [.For _ x l _ p]) a λaC i ah j h=>haveI h0:=f2 h;iY (P:=λah=>hq Φ d _ [.For _ (.Call aC i ah j) l _ p]) h0.1<|ku (P:=λaC=>hq Φ d _ [.For _ (.Call aC i _ j) l _ p]) h0.2 λG I h=>i4 (P:=λi=>hq Φ d _ [.For _ (.Call _ i _ j) l _ p]) h λy h=>haveI h:=f2 h;haveI h1:=f2 h.1;haveI a:=f2 h1.1;haveI m:=f2 a.1;Se C m.1 m.2 a.2 h1.2 (kh C _ _ h.2) f) z.2)
theorem Td(E:vp k d Φ.a z b)(G:vp k d Φ.a B A)(t:vp k d Φ.a q n)(h:Ik Φ.a k c i D j z B q l=H):hq Φ d (.eA b i D A j n) l:=i4 h λs h=>FI (P:=λs=>hq Φ d _ [s]) h λm hs o f p h=>haveI h:=f2 h;haveI h1:=f2 h.1;iY (P:=λo=>hq Φ d _ [.Try m hs o f p]) h1.1<|iY (P:=λf=>hq Φ d _ [.Try m hs _ f p]) h1.2<|lZ (P:=λhs=>hq Φ d _ [.Try m hs _ _ p]) h.2 λh0 hs h=>by haveI h:=f2 h;haveI h1:=f2 h.1;haveI w:=f2 h1.1;haveI x:=f2 w.1;refine SH C (K.cA x.1) (E O C K _ x.2) w.2 (λv=>G (Φ:=Φ.cJ v) O C.cJ ⟨K.dk,K.cA,K.aM⟩ _ h1.2) ?_;haveI e:=h.2;clear h;induction hs with|nil=>exact .inl ⟨rfl,eq_of_beq e⟩|cons h1 r=>haveI e:=f2 e;haveI y:=f2 e.1;exact iY (P:=λr=>(h1::r=[]/\j=D)\/∃a,h1::r=[a]/\tO _ c i j a=H/\∀v,hq (Φ.cJ v) d _ (tP a)) y.1 (.inr ⟨h1,rfl,y.2,λv=>t (Φ:=Φ.cJ v) O C.cJ ⟨K.dk,K.cA,K.aM⟩ _ e.2⟩)
end
theorem Te(k)(d)(G)(z):vp k d G (λc=>vo G k c z) z:=by induction z with|aE=>exactλn n n n n=>SY|da=>exactλn n n l h=>(s_.mp h).elim (λh=>iY h RE) λh=>i4 h λs h=>Oc (P:=λs=>hq _ _ _ [s]) h λp=>RG|seq a b w j=>exactλe C K l h=>lZ h λs r h=>haveI h:=f2 h;RH (w e C K _ h.1)<|j e C K _ h.2|y=>exactλe C K l h=>by clear zz3 (Eq.symm e) h;exact S3 C h|bT I e=>exactλe C K l h=>by clear zz3 (Eq.symm e) h;exact i4 h λs h=>tC (P:=λs=>hq _ _ _ [s]) h λQ x p=>S2 C K|cQ=>exactλe C K l h=>by clear zz3 (Eq.symm e) h;exact S4 C h|ez=>exactλe C K l h=>by clear zz3 (Eq.symm e) h;exact S5 C h|co=>exactλe C K l h=>by clear zz3 (Eq.symm e) h;exact S6 C h|cE=>exactλe C K l h=>by clear zz3 (Eq.symm e) h;exact S7 C h|eg=>exactλe C K l h=>by clear zz3 (Eq.symm e) h;exact S8 C h|cR=>exactλe C K l h=>by clear zz3 (Eq.symm e) h;exact S9 C h|cF=>exactλe C K l h=>by clear zz3 (Eq.symm e) h;exact S_ C h|ite t a b w j=>exactλe C K l h=>by clear zz3 (Eq.symm e) j w h;exact i4 h λs h=>N7 (P:=λs=>hq _ _ _ [s]) h λx l r p h=>haveI h:=f2 h;haveI h1:=f2 h.1;RQ C (kh C _ _ h1.1) (w O C K _ h1.2)<|j O C K _ h.2|bs t b j=>exactλe C K l h=>by clear zz3 (Eq.symm e) j h;exact i4 h λs h=>N8 (P:=λs=>hq _ _ _ [s]) h λx l r p h=>haveI h:=f2 h;haveI h1:=f2 h.1;iY (P:=λr=>hq _ _ _ [.While x l r p]) h1.1<|RX C (kh C _ _ h1.2)<|j O C K _ h.2|b6 M I e b j=>exactλe C K l h=>by clear zz3 (Eq.symm e) j h;exact Tc C K j h|ret=>exactλe C K l h=>by clear zz3 (Eq.symm e) h;exact S' C h|brk=>exactλe C K l h=>i4 h λs h=>Od (P:=λs=>hq _ _ _ [s]) h λp=>RV|eN=>exactλe C K l h=>by clear zz3 (Eq.symm e) h;exact Ta C K h|eO=>exactλe C K l h=>by clear zz3 (Eq.symm e) h;exact i4 h λs h=>Oa (P:=λs=>hq _ _ _ [s]) h λx m p h=>RW C<|kh C _ _ h|e8 b j=>exactλe C K l h=>i4 h λs h=>FI (P:=λs=>hq _ _ _ [s]) h λy hs o f p h=>haveI h:=f2 h;haveI h1:=f2 h.1;haveI A:=f2 h1.1;iY (P:=λo=>hq _ _ _ [.Try y hs o f p]) A.1<|iY (P:=λf=>hq _ _ _ [.Try y hs _ f p]) A.2<|lZ (P:=λhs=>hq _ _ _ [.Try y hs _ _ p]) h1.2 λh0 hs n=>Sn (j e C K _ h.2)|eA b i D L J E j B q=>exactλe C K l h=>by clear zz3 (Eq.symm e) q B j h;exact Td C K j B q h
theorem B7(C:Cx Φ c d)(K:Kx Φ k d)(a)(l)(h:vo Φ.a k c a l=H):hq Φ d a l:=Te k d _ a O C K l h
end
end
section
open PySem PySem.W PySem.Calls PyProof.Rows
structure Tb where
 cz:g9->Option AV
 bn:Nat->Option jp
 cl:Nat->Option jp
 dj:Nat->Option jp
structure Gx (G:Gl)(t:Tb):Prop where
 go:G.z
 cz:∀x a,t.cz x=U a->∃v,G.c5 x=U v/\∀μ,RelV G μ v a
 bn:∀f b,t.bn f=U b->∃c D,qi G f c D b
 cl:∀C b,t.cl C=U b->sr G C b
 eX:∀C,(G.T.cm C).isSome=H->∃b,sr G C b/\nI G.K (.ref C)=H
 bW:∀f d,G.T.bW f=U d->fnIn G.K f=H/\∃c D sn b,qi G f c D ((sn,V)::b)/\b.map (·.2)=d.map U
 ci:∀A E Q s f l t u,G.T.dV f l=H->(∀r e k,r.length<=1000000->Q (.str (S r) e) {s with toks:=k})->g8 (iu G.prog G.w) A (rB .Mod (.str (S f) t) (.str (S l) u)) Q E s
 dk:∀C b,t.dj C=U b->x9 G C b
noncomputable def vq(G:Gl)(t:Tb)(f:Nat)(b:lQ)(a:List g9):Ck:=⟨a,λx=>b.scope.names.lookup x,G.quiet f,t.cz,t.bn,t.cl⟩
noncomputable def vr(G:Gl)(b:lQ)(a:List g9):Bool:=b.scope.kind== .function&&!b.scope.isCoroutine&&!b.scope.isGenerator&&b.scope.names.all (λx=>x.2 != .cell)&&a.all (λx=>b.scope.names.lookup x==U .local)&&decide a.Nodup&&(iF b).isPrefixOf a&&b.globals==qE&&b.builtins==wv&&uq G.K b.code b.qualname
noncomputable def x_(b:FuncBody)(f:List ie->Bool):Bool:=match b with| .stmts a=>f a|_=>g
theorem B8{P:Prop}(h:x_ b f=H)(k:∀a,b=.stmts a->f a=H->P):P:=by cases b with|stmts a=>exact k _ O h|expr e=>exact ff h
noncomputable def Il(G:Gl)(t:Tb)(f:Nat)(a:List g9)(d:DS):Bool:=oB (k' G f) λc=>x_ c.body λb=>vr G c a&&vo G ⟨t.dj,g⟩ (vq G t f c a) d b
theorem B9(h1:k' G f=U e)(i:e.body=.stmts c)(h:vr G e b=H):xG G f e b c:=by unfold vr at h;simp only[iX,beq_iff_eq,decide_eq_true_eq,sW]at h;exact kf λj=>hv h λa d=>hv a λa a9=>hE (List.isPrefixOf_iff_prefix.mp (a.1.2)) λr k=>j ⟨h1,i,(a.1.1.1.1.1.1.1),(a.1.1.1.1.1.1.2),(a.1.1.1.1.1.2),λx hx=>by haveI:=mC.mp (a.1.1.1.1.2) x hx;simpa using this,λx hx=>by haveI:=mC.mp (a.1.1.1.2) x hx;simpa using this,(a.1.1.2),⟨r,k.symm⟩,(a.2),a9,d⟩
theorem Gx.a2(X:Gx G t)(j:Φ.z)(hG:Φ.a=G)(hs:Φ.slots=a)(i:oM Φ.C d)(c:Φ.C.handled=V\/G.quiet f=H)(he:Φ.r.scope=b.scope):Cx Φ (vq G t f b a) d:=by
 subst hG;refine⟨X.go,j,hs,λx=>?_,i,c,X.cz,X.bn,X.cl,X.eX,X.bW,λq=>?_,X.ci⟩;.show Φ.r.scope.names.lookup x=b.scope.names.lookup x;rw[he]
 .rcases c with h|h
  .exact h
  .haveI e:Φ.a.quiet f=false:=q;rw[h]at e;cases e
noncomputable def x'(a:List g9)(args:List AV):Loc:=args.map U++rG (a.length - args.length) V
theorem Tf(X:Gx G t){st}(h:Il G t f a k=H)(m:(k' G f).any λl=>(iF l).length==args.length=H)(w:WS G.T (i6 G d) k (x' a args) st ⟨λj st=>Q .none st,Q,λj j=>False,λj=>Xc⟩):i6 G (d+1) f args st Q Xc:=by
 refine kf λn=>j1 h λl c h=>B8 h λb o h=>?_
 ··haveI h:=f2 h
   rw[c]at m
   refine n<|ON X.go (B9 c o h.1) (beq_iff_eq.mp m).symm λΦ μ s x hG hs q p he D=>?_
   haveI C:=X.a2 x hG hs q p he
   haveI i:=B7 C ⟨λC r e=>hG▸X.dk C r e,(iG),iG⟩ k b (by rw[hG];exact h.2)
   rw[<-hG]at w
   exact i μ _ st s _ D w
end
section
open PySem PySem.W PySem.Calls PyProof.Rows
theorem Th(au:G.z){c}{k}{st}(F:xG G f w c k)(aG:args.length=(iF w).length)(h:∀Φ μ s,Φ.z->Φ.a=G->Φ.slots=c->oM Φ.C d->(Φ.C.handled=V\/G.quiet f=H)->Φ.r=sY w Φ.a_ f->Φ.a.b2<=Φ.a_->Dy Φ μ (args.map U++rG (c.length - args.length) V) st s->z3 Φ.q Φ.C (.func k Φ.r) (o9 k Φ.r) (PS Φ ⟨λn st=>Q .none st,Q,λn n=>False,λn=>X⟩) (nt Φ λn=>X) s):i6 G (d+1) f args st Q X:=by
 intro A s μ L T a aE room hA hh aD I R e B;rw[F.at_]at e;exists M;cases e;refine M<|hc (tG F.at_) λo aH hd=>kf λM=>hE F.fI λal j=>M<|ks_codeAny_call_defAt (show A.depth<1000 by have:=room.1;exact iy<|f1 (iq (ih _ _) _)<|f1 (jD this) (by decide)) (I.aV _ _ aH) hd (au.eU _ I.aV) (wx I.aV F.code) F.body B F.cell (λx hx=>?_) (λJ E l=>?_) F.dL F.dM F.kind;.refine F.j _ ?_;rw[j];exact s0 _ (wy hx).1
 .have av:=A8 au F hA aD I;have dy:Dy (sb G A w f c s μ T) μ (args.map U++rG (c.length - args.length) V) st {s with heap:=J,toks:=s.toks+((iF w).zip L).length}:=by
   refine⟨ib.refl μ,I.keeps (iN E.lt) l,λb aJ e n=>l b aJ e,⟨_,E,λi x b e1 t=>?_⟩,I.fresh,λp m=>iI<|it (I.t p m).1,λb=>.inl,λp=>.inl,rfl,rfl,rfl⟩
   .have lt:=by
     cases nG i _ with
     |inl q=>exact q
     |inr q=>
      rw[pX (by rw[ig];exact q)]at t
      have:=l8 t
      rw[D2]at this
      cases this.2
    rw[qF (by rw[ig];exact lt),oa]at t
    have e3:args[i]?=U b:=by
     induction z:args[i]? with
     |none=>rw[z]at t;exists M;cases t
     |some y=>rw[z]at t;cases t;rfl
    refine hc (qc R e3) λv aI r=>⟨v,u7 ?_ ?_ aI,r⟩
    .have:=F.nodup
     rw[j]at this
     exact(rQ.mp this).1
    .have:c[i]?=U x:=e1
     rw[j,qF (iy<|jM<|jM (f1 (jD lt) (im aG)))]at this
     exact this
  refine Em (h _ μ _ av O O (room.deeper _) hh O (f1 I.bk<|g' _) dy) (λfl s' m=>?_) λv s' m=>?_
  .have C:∀v r af aj ac,Q r _->RelV G _ v r->Dy (sb G A w f c s μ T) _ aj _ s'->RC G s μ T Q X (.ok<|.ret v) s':=λv r af aj ac q aK D=>
    ⟨⟨D.bY,D.bZ,D.b4⟩,af,r,ac,q,D.ext,aK,D.Y,D.bx,D.a7,D.bb⟩
   induction fl with
   |next=>exact kM m λaf aj ac q=>C _ _ _ _ _ q .none
   |ret v=>exact jj m λaf aj aL=>i0 aL λr ac=>C _ _ _ _ _
   |brk=>refine kM m λn n n q n=>?_
         induction q
   |cont=>induction m
  .exact hE m λaj m=>A9 av m (λb aF=>(hc (sc aD aF) λo h1 n=>it h1)) λh' e af ac x ev P Y=>⟨⟨Y.1,Y.2.1,Y.2.2⟩,e,_,_,x,ev,P⟩
end
section
open PySem PySem.W PySem.Calls PyProof.Rows
structure B_ (G:Gl)(b:lQ)(hf:g9)(D l n e:Nat):Prop where
 eB:b.closure.lookup ("__class__":g9)=U n
 cell:∃cl j k,G.K.lookup n=U ⟨cl,j,.cell (U (.ref D)),k⟩
 gP:∃cd,pU G.K D=U cd
 gQ:∃cd,pU G.K G.T.a1=U cd
 sub:oA G.K G.T.a1 (.ref D)=U H
 gR:G.c5 "super"=V
 gS:G.eh "super"=U (.type "super")
 cL:b.scope.names.lookup ("super":g9)=U .globalImplicit
 gT:b.scope.names.lookup ("__class__":g9)=U .free
 L:∃m,(b.params.posonlyargs++b.params.args).head?=U m/\m.arg=hf
 code:b.code=.ref e/\∃f i o h a p,G.K.lookup e=U ⟨f,i,.fields o,h⟩/\o[2]?=U (.str a p)/\((G.prog.main.file:g9)==a)=H
 ek:(G.prog.main.scope.names.lookup ("super":g9)).isSome=g
 gU:nsIn G.K z4 "thirdparty.any"=U V
 dK:ks_superIn G.K G.T.a1 D "__init__"=U (U (.ref l))
 gV:oE G.K (.ref l)=U (.type "function")
 gW:fnIn G.K l=H
section
variable{M:oz}{A:iH}{cd:Code}{E:g7->hr->Prop}{s:hr}{ae:j8}
theorem Ti(p:j6 args ah e aa=H)(h:z3 M A cd (zJ o name ae<|eval o ae) (λl a=>∀q,g8 M A (getMethod l name q) (λj b=>g8 M A (wB aa j.1 j.2 (nb aa<|mA args ae)<|nc aa<|nH ah ae) Q E b) E a) E s):z3 M A cd (eval (.Call (.Attribute o name e) args ah aa) ae) Q E s:=by refine p5 (si (ae:=ae) p) λm r t n=>Ej<|Em h (λl a f=>z0<|hw (pZ ?_)) λk k x=>x;unfold methodCall;rw[m];rw[Gu n];exact hw<|n'<|hj (f _) (λj b i=>hw (ip i)) λk k x=>x
end
section
variable{Φ:Fm}{c:Ck}{d:Nat}
theorem Tj(C:Cx Φ c d){f D h cc aQ:Nat}(b2:B_ Φ.a fd aL D h cc aQ)(he:Φ.r=sY fd Φ.a_ f)(bl:k' Φ.a f=U fd)(h0:c.slots[(0)]?=U aL){a4:jp}(bj:c.bn h=U (bU::a4))(bo:(!c.bA||Φ.a.quiet h)=H)(aO:j6 es [] ap cp=H)(bv:Good Φ c d args<|.aZ a4 es []){st}(aM:Dy Φ μ ρ st s)(w:WS Φ.a.T (i6 Φ.a d) (.y<|.dK h args) ρ st k):z3 Φ.q Φ.C (.func a0 Φ.r) (exec (.Expr (.Call (.Attribute (.Call (.Name "super" bW) [] [] bX) "__init__" ap) es [] cp) ep) Φ.r) (PS Φ k) (nt Φ k.aK) s:=by
 haveI b0:=C.ok;refine jU (show i9 _ _ from w) λo aK w=>jU w λa eo w=>?_;obtain⟨ea,w'⟩:=AG w;rw[eo,ea]at aK
 .haveI aD:Φ.slots[(0)]?=U _:=by rw[C.c9];exact h0
  refine hc aM.ns λbS bn bp=>hc (bp 0 aL _ aD aK) λu bu a7=>jj (BG aM a7) λx dx aW=>jK aW λbD bH bC bE j bR bt aW=>hv aW λbr I=>?_;subst j;refine hc (tG bl) λof aS av=>nh b2.cell λcl bg bh m=>hE b2.gP λaP bk=>hE b2.gQ λbe hP=>hc b2.L λar aI au=>?_;obtain⟨aR,bc,bf,vs,bd,a1,bZ,n,aU,p⟩:=b2.code;haveI X:=aM.Y.aV;have aF:Φ.r.kindOf "super"=U .globalImplicit:=by rw[he];exact b2.cL
  have aE:Φ.r.kindOf "__class__"=U .free:=by rw[he];exact b2.gT
  haveI y:=b0.kind;obtain⟨hh,aC,dr,t,os⟩:=s;obtain⟨aV,L,T⟩:∃aV,hh.get? D=U aV/\aV.data=.cls aP:=(nh (FX bk) λc dd sl aS=>h_ _ (X _ _ aS) O);refine ks_wpAt_Expr_any ?_ (HI b0) O;refine jj (C.bn h _ bj) λbi aY b1=>b1.cy.cq λw0 a5 aJ G aT=>hv (bv a5 aT (si (ae:=Φ.r) aO).2.1 O) λbw bx=>Ti aO<|ks_wpAt_super_base aF aE O (by rw[he];rfl) (X _ _ aS) av aI (by rw[he];exact aR) (X _ _ n) O aU p b2.ek<|ks_loadName_global y aF<|DO (b0.b8 _ X) b2.gR (b0.b9 _ X) b2.gS ⟨rfl,?_⟩;refine wpAny_loadName_free y aE (by rw[he];exact b2.eB) ⟨_,X _ _ m,rfl⟩<|rA y (by rw[au];exact b0.slot 0 _ aD) (b0.j▸bn) (au▸bu)<|ks_wpAny_isType_cls L T ⟨rfl,?_⟩;refine ks_wpAny_call_super L T I.at_ I.cls (λc e=>?_) (wu X b2.sub) λh' e kp=>?_;.cases e
  intro pl;haveI aX:=aM.fy b0 (t:=t) kp;haveI J:=aX.Y.aV;obtain⟨bB,aG,aH⟩:∃of,h'.get? h=U of/\of.cls=.type _:=by
   haveI i:(Φ.a.K.lookup h).map _=U _:=b2.gV;induction z:Φ.a.K.lookup h with
   |none=>rw[z]at i;cases i
   |some of=>rw[z]at i;exact h_ of (J _ _ z)<|io i
  haveI b:=b2.dK;unfold ks_superIn at b;rw[hP]at b;refine ks_wpAny_getMethod_super e (looks_opaque J b2.gU) (λA Q E s k q=>hw<|(wL J hP) A _ E s k<|ip q) O J b aG aH (ks_ne J (⟨kp _ _ I.at_,I.cls,I.no,kp _ _ I.dict⟩:InstAt h' x (lh _ dx) Φ.a.T.a1<|U<|ji _ bE) hP) O ?_;haveI ba:Dy Φ (μ.bM h'.objs.size _) ρ st ⟨h'.push<|wq (.ref h)<|.ref x,aC,dr,t+1,os⟩:=aX.eQ b0 O;refine kf λY=>i5 (u9 (ae:=Φ.r) (aa:=cp) (ah:=[]) O) λG bA G=>Y<|o' (P:=MethP Φ.a.K _ h<|.ref x) (by rw[qY (si (ae:=Φ.r) aO).2.1];rfl) (keeps_M b2.gW)<|qg (si (ae:=Φ.r) aO).2.1 O<|hj (bx _ ρ st _ _ _ cp ba w') (λvs a_ q=>hj q (λks a' q=>?_) λG G=>jV) λG G=>jV;exists Y;obtain⟨n1,bT,bM,l,bJ,k3,aZ,bI,aN⟩:=q;haveI a2:=(aN.Y.t _<|aZ.t _<|.head _).1;refine Y ⟨⟨a2,aN.Y.aV⟩,?_⟩;haveI ok:jl (kO<|lp _ aY) (lA x::vs).length _=true:=by rw[aJ];show jl _ vs.length _=H;rw[n1];exact bw
  haveI B:=qe (kw:=[]) b1.d0 b1.d1 b1.d2 b1.d3 b1.c8 (qf aN.Y.aV b1.d4) b1.b0 ok;rw[(by rw[aJ];rfl:fill (lp _ aY) (lA x::vs) _=lA x::fill a5 vs [])]at B;refine pV<|method_call a2<|wz (A_ b0 aN C.room (xW C bo) b1.at_ (.cons ((a7.aP (ib.bM _ _ _)).aP aZ) bI) B k3) λr s' z=>?_;induction r with|error e=>exact jV z|ok fl=>
   induction fl with
   |ret v=>exists Y;obtain⟨bP,a,bK,bz,bQ,bY,bb⟩:=z;exact Y<|rW _ ρ _ bz bb
   |next=>exact z.elim|brk=>exact z.elim|cont=>exact z.elim
end
end
section
open PySem PySem.W PySem.Calls PyProof.Rows
noncomputable def B'(f:Nat->Bool):g7->Bool| .ref a=>f a|_=>g
theorem Im{P:g7->Prop}(h:B' f v=H)(k:∀a,f a=H->P (.ref a)):P v:=by induction v<;>first|exact ff h|exact k _ h
noncomputable def vStr(f:g9->Bool):g7->Bool| .str x _=>f x|_=>g
theorem Tl{P:g7->Prop}{v}(h:vStr f v=H)(k:∀x t,f x=H->P (.str x t)):P v:=by induction v<;>first|exact ff h|exact k _ _ h
noncomputable def Ca(f:Option g7->Bool)(aC:Array g7->Bool):Data->Bool| .cell v=>f v| .fields a=>aC a|_=>g
theorem Io{P:Data->Prop}(h:Ca f aC v=H)(k:∀v,f v=H->P (.cell v))(k2:∀v,aC v=H->P (.fields v)):P v:=by induction v<;>first|exact ff h|exact k _ h|exact k2 _ h
noncomputable def Ip(K:jc)(a D:Nat):Bool:=oB (K.lookup a) λo=>Ca (λv=>oB v (B' (· ==D))) hk o.data
theorem Tn{K}{f D}(h:Ip K f D=H):∃cl b c,K.lookup f=U ⟨cl,b,.cell<|U<|.ref D,c⟩:=j1 h λo e h=>Io (P:=λd=>o.data=d->∃cl b c,K.lookup f=U ⟨cl,b,_,c⟩) h (λv h i=>j1 h λu j h=>Im (P:=λw=>u=w->∃cl b c,K.lookup f=U ⟨cl,b,_,c⟩) h (λa h k=>⟨_,_,_,by rw[e,<-beq_iff_eq.mp h,<-k,<-j,<-i]⟩) O) iC O
noncomputable def Iq(G:Gl)(a:Nat):Bool:=oB (G.K.lookup a) λo=>Ca hk (λb=>oB ((b:Array g7)[2]?:Option g7) (vStr ((G.prog.main.file:g9)==·))) o.data
theorem To(h:Iq G j=H):∃b f i c a k,G.K.lookup j=U ⟨b,f,.fields i,c⟩/\i[2]?=U (.str a k)/\(G.prog.main.file==a)=true:=j1 h λo e h=>Io (P:=λd=>o.data=d->∃b f i c a k,G.K.lookup j=U ⟨b,f,.fields i,c⟩/\i[2]?=U (.str a k)/\(G.prog.main.file==a)=H) h iC (λi h l=>j1 h λu m h=>Tl (P:=λw=>u=w->∃b f i c a k,G.K.lookup j=U ⟨b,f,.fields i,c⟩/\i[2]?=U (.str a k)/\(G.prog.main.file==a)=H) h (λx t h n=>⟨_,_,i,_,x,t,by rw[e,<-l],m.trans<|congrArg _ n,h⟩) O) O
noncomputable def Ir(G:Gl)(a:lQ)(hf:g9)(D b:Nat):Bool:=
 oB (a.closure.lookup ("__class__":g9)) (Ip G.K · D)&&(pU G.K D).isSome&&(pU G.K G.T.a1).isSome&&oA G.K G.T.a1 (.ref D)==U H&&G.c5 "super"==V&&G.eh "super"==U (.type "super")&&
 a.scope.names.lookup ("super":g9)==U .globalImplicit&&a.scope.names.lookup ("__class__":g9)==U .free&&oB (a.params.posonlyargs++a.params.args).head? (·.arg==hf)&&B' (Iq G) a.code&&!(G.prog.main.scope.names.lookup ("super":g9)).isSome&&nsIn G.K z4 "thirdparty.any"==U V&&ks_superIn G.K G.T.a1 D "__init__"==U (U (.ref b))&&oE G.K (.ref b)==U (.type "function")&&fnIn G.K b
theorem Tp(h:Ir G d e D f=H):∃b a,B_ G d e D f b a:=by haveI h:=f2 h;haveI h1:=f2 h.1;haveI l:=f2 h1.1;haveI m:=f2 l.1;haveI n:=f2 m.1;haveI o:=f2 n.1;haveI p:=f2 o.1;haveI q:=f2 p.1;haveI r:=f2 q.1;haveI s:=f2 r.1;haveI g1:=f2 s.1;haveI i:=f2 g1.1;haveI j:=f2 i.1;haveI k:=f2 j.1;exact j1 k.1 λb x t=>j1 p.2 λw y a9=>Im (P:=λv=>d.code=v->∃b a,B_ G d _ D f b a) o.2 (λa c z=>⟨b,_,x,Tn t,z1.mp k.2,z1.mp j.2,beq_iff_eq.mp i.2,beq_iff_eq.mp g1.2,beq_iff_eq.mp s.2,beq_iff_eq.mp r.2,beq_iff_eq.mp q.2,⟨w,y,beq_iff_eq.mp a9⟩,⟨z,To c⟩,sW _ |>.mp n.2,beq_iff_eq.mp m.2,beq_iff_eq.mp l.2,beq_iff_eq.mp h1.2,h.2⟩) O
noncomputable def Iu(f:ie->List ie->Bool):FuncBody->Bool| .stmts l=>lc f l|_=>g
theorem Tq{P:FuncBody->Prop}{b}(h:Iu f b=H)(k:∀s r,f s r=H->P (.stmts (s::r))):P b:=by induction b<;>first|exact ff h|exact lZ (P:=λl=>P _) h k
noncomputable def Iv(f:List ho->lg->lg->Bool):ho->Bool:=k8 λaC d ks c=>l0 ks&&mG (λo x2 a=>x2==("__init__":g9)&&k8 (λn b k2 e=>l0 b&&l0 k2&&j_ (λx1=>x1==("super":g9)&&f d c a) n) o) aC
noncomputable def q3(c:List ho)(b a:lg)(e:ho):Prop:=∃d p2,e=.Call (.Attribute (.Call (.Name "super" d) [] [] p2) "__init__" a) c [] b
theorem Tr(h:Iv f e=H):∃j i d,q3 j i d e/\f j i d=true:=k9 (P:=λe=>∃j i d,q3 j i d e/\f j i d=H) h λaC j ks i h=>haveI h:=f2 h;iY (P:=λks=>∃b a d,q3 b a d (.Call aC j ks i)/\f b a d=H) h.1<|mW (P:=λaC=>∃b a d,q3 b a d (.Call aC j _ i)/\f b a d=H) h.2 λo x2 d h=>haveI h:=f2 h;k9 (P:=λo=>∃b a c,q3 b a c (.Call (.Attribute o x2 d) j _ i)/\f b a c=H) h.2 λn l k2 p2 h'=>haveI h':=f2 h';haveI h0:=f2 h'.1;iY (P:=λl=>∃b a c,q3 b a c (.Call (.Attribute (.Call n l k2 p2) x2 d) j _ i)/\f b a c=H) h0.1<|iY (P:=λk2=>∃b a c,q3 b a c (.Call (.Attribute (.Call n _ k2 p2) x2 d) j _ i)/\f b a c=H) h0.2 (ku (P:=λn=>∃b a c,q3 b a c (.Call (.Attribute (.Call n _ _ p2) x2 d) j _ i)/\f b a c=H) h'.2 λx1 m k=>haveI k:=f2 k;⟨j,i,d,⟨m,p2,by rw[beq_iff_eq.mp h.1,beq_iff_eq.mp k.1]⟩,k.2⟩)
noncomputable def Iw(f:Nat->DE->DS->Bool):DS->Bool
 | .seq a r=>match a with
  | .y e=>match e with| .dK b args=>f b args r|_=>g
  |_=>g
 |_=>g
set_option tactic.hygienic true in
theorem Ts{P:DS->Prop}(h:Iw f d=H)(k:∀b args r,f b args r=H->P (.seq (.y<|.dK b args) r)):P d:=by
 cases d<;>first|exact ff h|skip
 rename_i a r;induction a<;>first|exact ff h|skip
 rename_i e;induction e<;>first|exact ff h|exact k _ _ _ h
noncomputable def Ix(G:Gl)(t:Tb)(f:Nat)(a:List g9)(D:Nat)(j:DS):Bool:=oB (k' G f) λb=>Iu (λs al=>AP (Iv λe i h=>Iw (λd args c=>vr G b a&&Ir G b (a.headD "") D d&&(!G.quiet f||G.quiet d)&&j6 e [] h i&&oB (t.bn d) (lc λl k=>ke G (vq G t f b a) args (.aZ k e []))&&a.length !=0&&vo G ⟨t.dj,g⟩ (vq G t f b a) c al) j) s) b.body
theorem Tt{b:List g9}(h:(b.length !=0)=H):b[(0)]?=U (b.headD ""):=by induction b with|nil=>exact ff h|cons a r=>rfl
theorem Tv(X:Gx G t){st}(h:Ix G t f i D o=H)(J:(k' G f).any λm=>(iF m).length==args.length=H)(w:WS G.T (i6 G d) o (x' i args) st ⟨λl st=>Q .none st,Q,λl l=>False,λl=>Xc⟩):i6 G (d+1) f args st Q Xc:=by refine j1 h λm c h=>Tq (P:=λb=>m.body=b->i6 G _ f _ st Q Xc) h (λaG al h E=>?_) O;refine FH (P:=λs=>aG=s->i6 G _ f _ st Q Xc) h (λe ep h r=>?_) O;refine kf λaD=>kM (Tr h) λes cp ap j h=>jj j λaI p2 ee=>?_;rw[r,ee]at E;refine aD ?_;revert w;refine Ts (P:=λo=>WS _ _ o _ st _->i6 G _ f _ st Q Xc) h λav n au h w=>?_;haveI h:=f2 h;haveI B:=f2 h.1;haveI y:=f2 B.1;haveI A:=f2 y.1;haveI z:=f2 A.1;haveI x:=f2 z.1;rw[c]at J;refine j1 y.2 λk p a=>lZ (P:=λk=>t.bn av=U k->i6 G _ f _ st Q Xc) a (λaH L a p=>?_) p;refine jj (Tp x.2) λcc Y aK=>Th X.go (B9 c E x.1) (beq_iff_eq.mp (show((iF m).length==args.length)=H from J)).symm λΦ μ s aJ hG hs aE I he hl T=>?_;haveI C:=X.a2 aJ hG hs aE I (by rw[he];rfl);haveI K:Kx Φ ⟨t.dj,_⟩ d:=⟨λC L e=>hG▸X.dk C L e,ff,ff⟩;clear x y I;subst hG;refine ks_wpAt_execs_cons<|Em (Tj C aK he c (Tt B.2) p z.2 A.2 (kh C _ _ a) T w) (λfl s' q=>?_) λl l q=>q;induction fl with|next=>exact kM q λaf aj ac aF M=>z0<|B7 C K _ _ h.2 _ _ _ s' _ M aF|ret v=>exact q|brk=>exact q|cont=>exact q.elim
end
section
open PySem PySem.W PySem.Calls PyProof.Rows
noncomputable def ya(G:Gl)(t:Tb)(f:Nat)(a:List g9)(d:DS):Bool:=oB (k' G f) λc=>x_ c.body λb=>vr G c a&&vo G ⟨t.dj,H⟩ (vq G t f c a) d b
theorem Tw(X:Gx G t){st}(h:ya G t f c ds=H)(hA:A.frames=U [])(hh:A.handled=V)(Y:A.depth+2+d<900/\A.units+11+8*d<9000)(I:Inv G μ st s.heap)(R:ia G μ n args)(jQ:k' G f=U J)(aM:args.length=(iF J).length)(B:sV s J a<|(iF J).zip n)(w:WS G.T (i6 G d) ds (x' c args) st ⟨λm st=>Q .none st,Q,λm m=>False,λm=>Xc⟩):l9 (iu G.prog G.w) A (.call (.ref f) a) (RC G s μ [] Q Xc) s:=by
 unfold ya at h;rw[jQ]at h;refine kf λaG=>B8 h λL av h=>?_
 .have h:=f2 h;have F:=B9 jQ av h.1;have aE:=X.go;refine hc (tG jQ) λo aH hd=>hE F.fI λal j=>aG<|zx (pW (rX<|rX Y.1) (by decide)) (I.aV _ _ aH) hd (aE.eU _ I.aV) (wx I.aV F.code) F.body B F.cell (λx hx=>?_) (λau T k=>?_) F.dL F.dM F.kind;.refine F.j _ ?_;rw[j];exact s0 _ (wy hx).1
  .have aF:=A8 aE F hA (λae he=>by cases he) I;have dy:Dy (sb G A J f c s μ []) μ (x' c args) st {s with heap:=au,toks:=s.toks+((iF J).zip n).length}:=by
    refine⟨ib.refl μ,I.keeps (iN T.lt) k,λb aJ e m=>k b aJ e,⟨_,T,λi x b e1 E=>?_⟩,I.fresh,λp l=>iI<|it (I.t p l).1,λb=>.inl,λp=>.inl,rfl,rfl,rfl⟩
    .have lt:=by
      cases nG i _ with
      |inl q=>exact q
      |inr q=>
       rw[pX (by rw[ig];exact q)]at E
       have:=l8 E
       rw[D2]at this
       cases this.2
     rw[qF (by rw[ig];exact lt),oa]at E
     have e3:args[i]?=U b:=by
      induction z:args[i]? with
      |none=>rw[z]at E;exists aG;cases E
      |some y=>rw[z]at E;cases E;rfl
     refine hc (qc R e3) λv aI r=>⟨v,u7 ?_ ?_ aI,r⟩
     .have:=F.nodup
      rw[j]at this
      exact(rQ.mp this).1
     .have:c[i]?=U x:=e1
      rw[j,qF (‹args.length=(iF J).length›▸‹i<args.length›)]at this
      exact this
   have C:=X.a2 (f:=f) aF O O ⟨lB (iq (iA _) d) Y.1,lB (iq (hJ (by decide) _) _) Y.2⟩ (.inl hh) O;have aD:=B7 C ⟨X.dk,λm=>rfl,λm=>⟨Y.1,Y.2⟩⟩ ds L h.2;refine hj (aD μ _ st _ _ dy w) (λfl s' l=>?_) λv s' l=>(hE l λaj l=>A9 aF l (λb av=>by cases av) λh' e af ac x ev P hg=>⟨⟨hg.1,hg.2.1,hg.2.2⟩,e,_,_,x,ev,P⟩)
   .have M:∀v r af aj ac,Q r _->RelV G _ v r->Dy (sb G A J f c s μ []) _ aj _ s'->RC G s μ [] Q Xc (.ok<|.ret v) s':=λv r af aj ac q aK D=>
     ⟨⟨D.bY,D.bZ,D.b4⟩,af,r,ac,q,D.ext,aK,D.Y,D.bx,D.a7,D.bb⟩
    induction fl with
    |next=>exact kM l λaf aj ac q=>M _ _ _ _ _ q .none
    |ret v=>exact jj l λaf aj aL=>i0 aL λr ac=>M _ _ _ _ _
    |brk=>refine kM l λm m m q m=>?_
          induction q
    |cont=>induction l
end
section
open PySem
noncomputable abbrev pv(l:List DE):DE:=l.foldr .cons .nil
noncomputable abbrev hC:DE:=.j 0
noncomputable abbrev hb:DE:=.j 1
noncomputable abbrev hZ:DE:=.j 2
noncomputable abbrev hX:DE:=.j 3
noncomputable abbrev iM:DE:=.j 4
noncomputable abbrev iQ:DE:=.j 5
noncomputable abbrev iR:DE:=.j 6
noncomputable abbrev jx:DE:=.j 7
noncomputable abbrev hL(i:Nat):DE:=.j i
noncomputable abbrev hI(i:Int):DE:=.aI (.int i)
noncomputable abbrev hU:DE:=hI 0
noncomputable abbrev ic:DE:=hI 1
noncomputable abbrev hN:DE:=.aI .none
noncomputable abbrev hT:DE:=.aI (.bool H)
noncomputable abbrev hF:DE:=.aI (.bool g)
noncomputable abbrev hS(l:List Nat):DE:=.aI (.str l)
noncomputable abbrev hB(e:DE)(k:Nat):DE:=.cD e k
noncomputable abbrev hA(k:Nat):DE:=.cD hC k
noncomputable abbrev hD(f:Nat)(l:List DE):DE:=.bX f hC (pv l)
noncomputable abbrev hM(f:Nat):DE:=.bX f hC .nil
noncomputable abbrev kx(f:Nat)(l:List DE):DE:=.call f (pv l)
noncomputable abbrev jm(C:Nat)(l:List DE):DE:=.new C (pv l)
noncomputable abbrev yb(i:Nat)(l:List DE):DE:=.et i (pv l)
noncomputable abbrev hQ(l:List DE):DE:=.av (pv l)
noncomputable abbrev jR(l:List DE):DE:=.m (pv l)
noncomputable abbrev hV(a b:DE):DE:=.Q .eq a b
noncomputable abbrev jF(a b:DE):DE:=.Q .cg a b
noncomputable abbrev hP(a b:DE):DE:=.a0 .add a b
noncomputable abbrev hG(a:Nat):DE:=.cW (.val (.ref a))
noncomputable abbrev g_(l:List DS)(z:DS):DS:=l.foldr .seq z
noncomputable abbrev g6(i:Nat)(e:DE):DS:=.bT [i] e
noncomputable abbrev hp(t:DE)(a:DS):DS:=.ite t a .da
noncomputable abbrev h8(k:Nat)(e:DE):DS:=.ez hC k e
noncomputable abbrev kI(f:Nat):DS:=.y (hM f)
noncomputable abbrev jy(f:Nat)(l:List DE):DS:=.y (hD f l)
noncomputable abbrev oQ(C:Nat)(l:List DE):DS:=.eN C (pv l)
noncomputable def TA:DS:=g_ [h8 0 hN,h8 1 hN,h8 2 hU,h8 3 hT,h8 4 (hS []),h8 5 hU,h8 6 hN,h8 7 hN,h8 8 hN,h8 9 hU,h8 10 hU,h8 11 hU] (hp (.eM hb) (g_ [h8 0 (hS [60,117,110,105,99,111,100,101,32,115,116,114,105,110,103,62]),jy 720 [hb]] (h8 4 (hP hb (hS [0])))))
noncomputable def TB:DS:=.e8 (.ret (.sub (hA 4) (hP (hA 5) hb)))
noncomputable def TC:DS:=g_ [hp (.Q .ge (hP (hA 5) hb) (.len (hA 4))) (jy 727 [hb])] (.ret (.cd (hA 4) (hA 5) (hP (hA 5) hb)))
noncomputable def TD:DS:=g_ [hp (.Q .ge (hP (hP (hA 5) hb) ic) (.len (hA 4))) (jy 727 [hP hb ic])] (.bs hb (g_ [g6 2 (.sub (hA 4) (hA 5)),.cF hC 5 .add ic,.cF hC 9 .add ic,.ite (.or (jF hZ (hS [10,133,8232,8233])) (.and (hV hZ (hS [13])) (.Q .b' (.sub (hA 4) (hA 5)) (hS [10])))) (g_ [.cF hC 10 .add ic] (h8 11 hU)) (hp (.Q .b' hZ (hS [65279])) (.cF hC 11 .add ic))] (.cR 1 .sub ic)))
noncomputable def TE:DS:=.ite (.Q .ca (hA 1) hN) (.ret (jm 53 [hA 0,hA 9,hA 10,hA 11,hA 4,hA 5])) .aE
noncomputable def Iy:DS:=.b6 .e7 [2,3] hb (hp (.not (kx 668 [hX])) (g_ [.aE] .aE))
noncomputable def TF:DS:=hp (.Q .ca (hA 6) hN) (.ret hN)
noncomputable def TG:DS:=g_ [.y (.dK 682 (pv [hb])),h8 12 hF,h8 13 hU,.co hC 14 .I,kI 869,h8 15 hU,h8 16 (hI (-1)),.co hC 17 .ad,h8 18 hT] (.co hC 19 .cN)
noncomputable def TH:DS:=g_ [.bs (hM 813) (kI 820),hp (hA 14) (g_ [hp (.not hb) .aE] (hp (jF (hB (.sub (hA 14) hU) 46) hb) (.ret hT)))] (.ret hF)
noncomputable def TJ:DS:=g_ [.bs (hM 813) (kI 820)] (.ite (hA 14) (.ret (.sub (hA 14) hU)) .aE)
noncomputable def TK:DS:=g_ [.bs (hM 813) (kI 820)] (hp (hA 14) (g_ [.cF hC 15 .add ic] (.ret (.eu (hA 14)))))
noncomputable def TL:DS:=g_ [hp (hA 12) (.ret hF),hp (.not (hA 14)) (.ret hT),kI 834] (hp (hV (hM 827) (hA 15)) (.ret hT))
noncomputable def Iz:DS:=g_ [kI 1100,kI 834,jy 855 [hA 11],g6 1 (hD 690 [hU]),hp (hV hb (hS [0])) (.ret (hM 876)),hp (.and (hV hb (hS [37])) (hM 1051)) .aE,hp (.and (hV hb (hS [45])) (hM 1058)) (.ret (hM 890)),hp (.and (hV hb (hS [46])) (hM 1065)) (.ret (hM 897)),hp (hV hb (hS [91])) (.ret (hM 911)),hp (hV hb (hS [123])) (.ret (hM 918)),hp (hV hb (hS [93])) (.ret (hM 932)),hp (hV hb (hS [125])) (.ret (hM 939)),hp (hV hb (hS [44])) (.ret (hM 953)),hp (.and (hV hb (hS [45])) (hM 1072)) (.ret (hM 960)),hp (.and (hV hb (hS [63])) (hM 1079)) (.ret (hM 967)),hp (.and (hV hb (hS [58])) (hM 1086)) (.ret (hM 974)),hp (hV hb (hS [42])) (.ret (hM 981)),hp (hV hb (hS [38])) (.ret (hM 988)),hp (hV hb (hS [33])) (.ret (hM 995)),hp (.and (hV hb (hS [124])) (.not (hA 13))) .aE,hp (.and (hV hb (hS [62])) (.not (hA 13))) .aE,hp (hV hb (hS [39])) (.ret (hM 1023)),hp (hV hb (hS [34])) .aE,hp (hM 1093) (.ret (hM 1044))] (oQ 744 [hS [119,104,105,108,101,32,115,99,97,110,110,105,110,103,32,102,111,114,32,116,104,101,32,110,101,120,116,32,116,111,107,101,110],hN,.ci [102,111,117,110,100,32,99,104,97,114,97,99,116,101,114,32,37,114,32,116,104,97,116,32,99,97,110,110,111,116,32,115,116,97,114,116,32,97,110,121,32,116,111,107,101,110] hb,hM 713,hN])
noncomputable def IA:DS:=g_ [g6 1 hN,.b6 .eK [2] (hA 19) (g_ [g6 3 (.sub (hA 19) hZ)] (hp (.or (.Q .ca hb hN) (.Q .lt (hB hX 32) hb)) (g6 1 (hB hX 32))))] (.ret hb)
noncomputable def IB:DS:=.b6 .m [1] (.J (hA 19)) (g_ [g6 2 (.sub (hA 19) hb)] (hp (.or (.Q .b' (hB hZ 10) (hA 10)) (.Q .gt (.a0 .sub (hA 9) (hB hZ 9)) (hI 1024))) (g_ [hp (hB hZ 33) (oQ 744 [hS [119,104,105,108,101,32,115,99,97,110,110,105,110,103,32,97,32,115,105,109,112,108,101,32,107,101,121],hB hZ 31,hS [99,111,117,108,100,32,110,111,116,32,102,105,110,100,32,101,120,112,101,99,116,101,100,32,39,58,39],hM 713,hN])] (.eg (hA 19) hb))))
noncomputable def IC:DS:=g_ [g6 1 (.and (.not (hA 13)) (hV (hA 16) (hA 11)))] (hp (hA 18) (g_ [kI 848,g6 2 (hP (hA 15) (.len (hA 14))),g6 3 (jm 763 [hZ,hb,hA 9,hA 10,hA 11,hM 713])] (.cE (hA 19) (hA 13) hX)))
noncomputable def TM:DS:=hp (jF (hA 13) (hA 19)) (g_ [g6 1 (.sub (hA 19) (hA 13)),hp (hB hb 33) (oQ 744 [hS [119,104,105,108,101,32,115,99,97,110,110,105,110,103,32,97,32,115,105,109,112,108,101,32,107,101,121],hB hb 31,hS [99,111,117,108,100,32,110,111,116,32,102,105,110,100,32,101,120,112,101,99,116,101,100,32,39,58,39],hM 713,hN])] (.eg (hA 19) (hA 13)))
noncomputable def ID:DS:=g_ [hp (hA 13) (.ret hN)] (.bs (.Q .gt (hA 16) hb) (g_ [g6 2 (hM 713),h8 16 (.cn (hA 17))] (.y (.aD (hA 14) (jm 227 [hZ,hZ])))))
noncomputable def TN:DS:=g_ [hp (.Q .lt (hA 16) hb) (g_ [.y (.aD (hA 17) (hA 16)),h8 16 hb] (.ret hT))] (.ret hF)
noncomputable def TO:DS:=g_ [g6 1 (hM 713)] (.y (.aD (hA 14) (jm 179 [hb,hb,hA 8])))
noncomputable def TQ:DS:=g_ [jy 855 [hI (-1)],kI 848,h8 18 hF,h8 19 (.dict .false),g6 1 (hM 713),.y (.aD (hA 14) (jm 191 [hb,hb]))] (h8 12 hT)
noncomputable def TR:DS:=jy 904 [hG 147]
noncomputable def TU:DS:=jy 904 [hG 159]
noncomputable def TV:DS:=g_ [jy 855 [hI (-1)],kI 848,h8 18 hF,g6 2 (hM 713),jy 706 [hI 3],g6 3 (hM 713)] (.y (.aD (hA 14) (yb 1 [hZ,hX])))
noncomputable def TW:DS:=jy 925 [hG 239]
noncomputable def TX:DS:=jy 925 [hG 251]
noncomputable def TY:DS:=g_ [kI 841,.cF hC 13 .add ic,h8 18 hT,g6 2 (hM 713),jy 706 [ic],g6 3 (hM 713)] (.y (.aD (hA 14) (yb 1 [hZ,hX])))
noncomputable def TZ:DS:=jy 946 [hG 263]
noncomputable def T0:DS:=jy 946 [hG 275]
noncomputable def T1:DS:=g_ [kI 848,.cF hC 13 .sub ic,h8 18 hF,g6 2 (hM 713),jy 706 [ic],g6 3 (hM 713)] (.y (.aD (hA 14) (yb 1 [hZ,hX])))
noncomputable def T2:DS:=g_ [h8 18 hT,kI 848,g6 1 (hM 713),jy 706 [ic],g6 2 (hM 713)] (.y (.aD (hA 14) (jm 323 [hb,hZ])))
noncomputable def IE:DS:=g_ [hp (.not (hA 13)) (g_ [hp (.not (hA 18)) (oQ 744 [hN,hN,hS [115,101,113,117,101,110,99,101,32,101,110,116,114,105,101,115,32,97,114,101,32,110,111,116,32,97,108,108,111,119,101,100,32,104,101,114,101],hM 713,hN])] (hp (hD 862 [hA 11]) (g_ [g6 3 (hM 713)] (.y (.aD (hA 14) (jm 203 [hX,hX])))))),h8 18 hT,kI 848,g6 1 (hM 713),jy 706 [ic],g6 2 (hM 713)] (.y (.aD (hA 14) (jm 311 [hb,hZ])))
noncomputable def T3:DS:=g_ [hp (.not (hA 13)) (g_ [.aE] .aE),h8 18 (.not (hA 13)),kI 848,g6 1 (hM 713),jy 706 [ic],g6 2 (hM 713)] (.y (.aD (hA 14) (jm 287 [hb,hZ])))
noncomputable def IF:DS:=g_ [.ite (jF (hA 13) (hA 19)) (g_ [g6 3 (.sub (hA 19) (hA 13)),.eg (hA 19) (hA 13),.y (.ev (hA 14) (.a0 .sub (hB hX 32) (hA 15)) (jm 287 [hB hX 31,hB hX 31])),hp (.not (hA 13)) (hp (hD 862 [hB hX 11]) (.y (.ev (hA 14) (.a0 .sub (hB hX 32) (hA 15)) (jm 215 [hB hX 31,hB hX 31]))))] (h8 18 hF)) (g_ [hp (.not (hA 13)) (hp (.not (hA 18)) (oQ 744 [hN,hN,hS [109,97,112,112,105,110,103,32,118,97,108,117,101,115,32,97,114,101,32,110,111,116,32,97,108,108,111,119,101,100,32,104,101,114,101],hM 713,hN])),hp (.not (hA 13)) .aE,h8 18 (.not (hA 13))] (kI 848)),g6 1 (hM 713),jy 706 [ic],g6 2 (hM 713)] (.y (.aD (hA 14) (jm 299 [hb,hZ])))
noncomputable def T4:DS:=g_ [kI 841,h8 18 hF] (.y (.aD (hA 14) (hD 1163 [hG 342])))
noncomputable def T5:DS:=g_ [kI 841,h8 18 hF] (.y (.aD (hA 14) (hD 1163 [hG 361])))
noncomputable def T6:DS:=g_ [kI 841,h8 18 hF] (.y (.aD (hA 14) (hM 1170)))
noncomputable def T7:DS:=jy 1037 [hS [39]]
noncomputable def T8:DS:=g_ [kI 841,h8 18 hF] (.y (.aD (hA 14) (hD 1212 [hb])))
noncomputable def T9:DS:=g_ [kI 841,h8 18 hF] (.y (.aD (hA 14) (hM 1243)))
noncomputable def T_:DS:=hp (hV (hA 11) hU) (hp (.and (hV (hD 698 [hI 3]) (hS [45,45,45])) (jF (hD 690 [hI 3]) (hS [0,32,9,13,10,133,8232,8233]))) (.ret hT))
noncomputable def Ua:DS:=hp (hV (hA 11) hU) (hp (.and (hV (hD 698 [hI 3]) (hS [46,46,46])) (jF (hD 690 [hI 3]) (hS [0,32,9,13,10,133,8232,8233]))) (.ret hT))
noncomputable def Ub:DS:=.ret (jF (hD 690 [ic]) (hS [0,32,9,13,10,133,8232,8233]))
noncomputable def Uc:DS:=.ite (hA 13) (.ret hT) .aE
noncomputable def Ud:DS:=.ite (hA 13) (.ret hT) (.ret (jF (hD 690 [ic]) (hS [0,32,9,13,10,133,8232,8233])))
noncomputable def Ue:DS:=g_ [g6 1 (hD 690 [hU])] (.ret (.or (.Q .cj hb (hS [0,32,9,13,10,133,8232,8233,45,63,58,44,91,93,123,125,35,38,42,33,124,62,39,34,37,64,96])) (.and (.Q .cj (hD 690 [ic]) (hS [0,32,9,13,10,133,8232,8233])) (.or (hV hb (hS [45])) (.and (.not (hA 13)) (jF hb (hS [63,58])))))))
noncomputable def IG:DS:=g_ [hp (.and (hV (hA 9) hU) (hV (hD 690 [hU]) (hS [65279]))) .aE,g6 1 hF] (.bs (.not hb) (g_ [.bs (hV (hD 690 [hU]) (hS [32])) (jy 706 [ic]),hp (hV (hD 690 [hU]) (hS [35])) (.bs (.Q .cj (hD 690 [hU]) (hS [0,13,10,133,8232,8233])) (jy 706 [ic]))] (.ite (hM 1278) (hp (.not (hA 13)) (h8 18 hT)) (g6 1 hT))))
noncomputable def IH:DS:=g_ [g6 2 (hM 713),g6 3 (hD 690 [hU]),.ite (hV hX (hS [42])) (g6 8 (hS [97,108,105,97,115])) (g6 8 (hS [97,110,99,104,111,114])),jy 706 [ic],g6 4 hU,g6 5 (hD 690 [iM]),.bs (.or (.cb .le .le (hS [48]) iQ (hS [57])) (.or (.cb .le .le (hS [65]) iQ (hS [90])) (.or (.cb .le .le (hS [97]) iQ (hS [122])) (jF iQ (hS [45,95]))))) (g_ [.cR 4 .add ic] (g6 5 (hD 690 [iM]))),hp (.not iM) .aE,g6 6 (hD 698 [iM]),jy 706 [iM],g6 5 (hD 690 [hU]),hp (.Q .cj iQ (hS [0,32,9,13,10,133,8232,8233,63,58,44,93,125,37,64,96])) .aE,g6 7 (hM 713)] (.ret (yb 1 [iR,hZ,jx]))
noncomputable def II:DS:=g_ [g6 1 (hM 713),g6 2 (hD 690 [ic]),.ite (hV hZ (hS [60])) (g_ [.aE,.aE,.aE,.aE] .aE) (.ite (jF hZ (hS [0,32,9,13,10,133,8232,8233])) (g_ [.aE,.aE] .aE) (g_ [g6 7 ic,g6 8 hF,.bs (.Q .cj hZ (hS [0,32,13,10,133,8232,8233])) (g_ [hp (hV hZ (hS [33])) (g_ [.aE] .aE),.cR 7 .add ic] (g6 2 (hD 690 [jx]))),g6 5 (hS [33]),.ite (hL 8) .aE (g_ [g6 5 (hS [33])] (jy 706 [ic]))] (g6 6 (hD 1264 [hS [116,97,103],hb])))),g6 2 (hD 690 [hU]),hp (.Q .cj hZ (hS [0,32,13,10,133,8232,8233])) .aE,g6 3 (hQ [iQ,iR]),g6 4 (hM 713)] (.ret (jm 380 [hX,hb,iM]))
noncomputable def Uf:DS:=g_ [.ite (hV hb (hS [34])) .aE (g6 6 hF),g6 2 (jR []),g6 3 (hM 713),g6 4 (hD 690 [hU]),jy 706 [ic],.y (.ext hZ (hD 1222 [iR,hX])),.bs (.Q .b' (hD 690 [hU]) iM) (g_ [.aE] .aE),jy 706 [ic],g6 5 (hM 713)] (.ret (jm 400 [.join [] hZ,hF,hX,iQ,hb]))
noncomputable def Ug:DS:=g_ [g6 3 (jR [])] (.bs hT (g_ [g6 4 hU,.bs (.Q .cj (hD 690 [iM]) (hS [39,34,92,0,32,9,13,10,133,8232,8233])) (.cR 4 .add ic),hp iM (g_ [.y (.aD hX (hD 698 [iM]))] (jy 706 [iM])),g6 5 (hD 690 [hU])] (.ite (.and (.not hb) (.and (hV iQ (hS [39])) (hV (hD 690 [ic]) (hS [39])))) (g_ [.aE] .aE) (.ite (.or (.and hb (hV iQ (hS [39]))) (.and (.not hb) (jF iQ (hS [34,92])))) (g_ [.aE] .aE) (.ite (.and hb (hV iQ (hS [92]))) (g_ [.aE,.aE] .aE) (.ret hX))))))
noncomputable def yc:DS:=g_ [g6 1 (jR []),g6 2 (hM 713),g6 3 hZ,g6 4 (hP (hA 16) ic),g6 5 (jR []),.bs hT (g_ [g6 6 hU,hp (hV (hD 690 [hU]) (hS [35])) .aE,.bs hT (g_ [g6 7 (hD 690 [iR]),hp (.or (jF jx (hS [0,32,9,13,10,133,8232,8233])) (.or (.and (hV jx (hS [58])) (jF (hD 690 [hP iR ic]) (hP (hS [0,32,9,13,10,133,8232,8233]) (.cc (hA 13) (hS [44,91,93,123,125]) (hS []))))) (.and (hA 13) (jF jx (hS [44,63,91,93,123,125]))))) .brk] (.cR 6 .add ic)),hp (hV iR hU) .brk,h8 18 hF,.y (.ext hb iQ),.y (.aD hb (hD 698 [iR])),jy 706 [iR],g6 3 (hM 713),g6 5 (hD 1250 [iM,hZ])] (hp (.or (.not iQ) (.or (hV (hD 690 [hU]) (hS [35])) (.and (.not (hA 13)) (.Q .lt (hA 11) iM)))) .brk))] (.ret (jm 400 [.join [] hb,hT,hZ,hX,hN]))
noncomputable def Cb:DS:=g_ [g6 3 (jR []),g6 4 hU,.bs (jF (hD 690 [iM]) (hS [32])) (.cR 4 .add ic),g6 5 (hD 698 [iM]),jy 706 [iM],g6 6 (hD 690 [hU]),.ite (jF iR (hS [13,10,133,8232,8233])) (g_ [g6 7 (hM 1278),h8 18 hT,g6 8 (hD 698 [hI 3]),hp (.and (.or (hV (hL 8) (hS [45,45,45])) (hV (hL 8) (hS [46,46,46]))) (jF (hD 690 [hI 3]) (hS [0,32,9,13,10,133,8232,8233]))) (.ret hN),g6 9 (jR []),.bs (jF (hD 690 [hU]) (hS [32,13,10,133,8232,8233])) (.ite (hV (hD 690 [hU]) (hS [32])) (jy 706 [ic]) (g_ [.aE,.aE] .aE)),.ite (.Q .b' jx (hS [10])) .aE (hp (.not (hL 9)) (.y (.aD hX (hS [32]))))] (.y (.ext hX (hL 9)))) (hp iQ (.y (.aD hX iQ)))] (.ret hX)
noncomputable def IJ:DS:=g_ [g6 3 (jR []),g6 4 hU,g6 5 (hD 690 [iM]),.bs (.or (.cb .le .le (hS [48]) iQ (hS [57])) (.or (.cb .le .le (hS [65]) iQ (hS [90])) (.or (.cb .le .le (hS [97]) iQ (hS [122])) (jF iQ (hS [45,59,47,63,58,64,38,61,43,36,44,95,46,33,126,42,39,40,41,91,93,37]))))) (g_ [.ite (hV iQ (hS [37])) (g_ [.aE,.aE,.aE] .aE) (.cR 4 .add ic)] (g6 5 (hD 690 [iM]))),hp iM (g_ [.y (.aD hX (hD 698 [iM])),jy 706 [iM]] (g6 4 hU)),hp (.not hX) .aE] (.ret (.join [] hX))
noncomputable def Uh:DS:=g_ [g6 1 (hD 690 [hU]),.ite (jF hb (hS [13,10,133])) (g_ [.ite (hV (hD 698 [hI 2]) (hS [13,10])) .aE (jy 706 [ic])] (.ret (hS [10]))) (hp (jF hb (hS [8232,8233])) (g_ [.aE] .aE))] (.ret (hS []))
noncomputable def Ui:DS:=g_ [.y (.dK 783 (pv [hb])),h8 20 hN,h8 21 hN,h8 22 (.dict .true),.co hC 23 .E,.co hC 24 .aF] (h8 25 (.a9 1340 hC))
noncomputable def Uj:DS:=g_ [hp (.Q .ca (hA 20) hN) (hp (hA 25) (h8 20 (.eL hC 25)))] (.ret (hA 20))
noncomputable def Uk:DS:=g_ [hp (.Q .ca (hA 20) hN) .aE,g6 1 (hA 20),h8 20 hN] (.ret hb)
noncomputable def Ul:DS:=g_ [g6 1 (hM 806),g6 2 (jm 501 [hB hb 26,hB hb 27,hB hb 8]),h8 25 (.a9 1347 hC)] (.ret hZ)
noncomputable def Um:DS:=.ite (.not (hD 792 [hQ [hB (hG 135) 46,hB (hG 147) 46,hB (hG 191) 46]])) (g_ [h8 22 (hA 47),g6 1 (hM 799),.bT [2,3] (hB hb 26),g6 4 (jm 533 [hZ,hX,hF,hN,hN]),.y (.aD (hA 23) (.a9 1361 hC)),h8 25 (.a9 1382 hC)] (.ret iM)) (.ret (hM 1354))
noncomputable def Un:DS:=g_ [.bs (hD 792 [hQ [hB (hG 159) 46]]) .aE,.ite (.not (hD 792 [hQ [hB (hG 191) 46]])) (g_ [g6 1 (hM 799),g6 2 (hB hb 26),.cQ [5,6] (hM 1375),hp (.not (hD 792 [hQ [hB (hG 147) 46]])) (oQ 1293 [hN,hN,.ci [101,120,112,101,99,116,101,100,32,39,60,100,111,99,117,109,101,110,116,32,115,116,97,114,116,62,39,44,32,98,117,116,32,102,111,117,110,100,32,37,114] (hB (hM 799) 46),hB (hM 799) 26,hN]),g6 1 (hM 806),g6 3 (hB hb 27),g6 4 (jm 533 [hZ,hX,hT,iQ,iR]),.y (.aD (hA 23) (.a9 1361 hC))] (h8 25 (.a9 1368 hC))) (g_ [g6 1 (hM 806),g6 4 (jm 513 [hB hb 26,hB hb 27]),.eO (.not (hA 23)),.eO (.not (hA 24))] (h8 25 hN))] (.ret iM)
noncomputable def Uo:DS:=g_ [g6 1 (hM 799),.bT [2,3] (hB hb 26),g6 4 hF,hp (hD 792 [hQ [hB (hG 159) 46]]) (g_ [g6 1 (hM 806),g6 3 (hB hb 27)] (g6 4 hT)),g6 5 (jm 553 [hZ,hX,iM]),h8 25 (.a9 1354 hC)] (.ret iQ)
noncomputable def Up:DS:=.ite (hD 792 [hQ [hB (hG 135) 46,hB (hG 147) 46,hB (hG 159) 46,hB (hG 191) 46]]) (g_ [.aE,.aE] .aE) (.ret (hM 1382))
noncomputable def Uq:DS:=g_ [h8 21 hN,h8 22 (.dict .true),.bs (hD 792 [hQ [hB (hG 135) 46]]) (g_ [.aE] .aE),.ite (hA 22) .aE (g6 3 (hQ [hA 21,hN])),.b6 .eK [1] (hA 47) (hp (.Q .cj hb (hA 22)) (.cE (hA 22) hb (.sub (hA 47) hb)))] (.ret hX)
noncomputable def Ur:DS:=.ret (hD 1404 [hT,hF])
noncomputable def Us:DS:=.ret (hD 1404 [hF,hF])
noncomputable def Ut:DS:=.ret (hD 1404 [hT,hT])
noncomputable def yd:DS:=g_ [.ite (hD 792 [hQ [hB (hG 342) 46]]) (g_ [g6 3 (hM 806),g6 4 (jm 565 [hB hX 28,hB hX 26,hB hX 27])] (h8 25 (.cn (hA 23)))) (g_ [g6 5 hN,g6 6 hN,.bT [7,8,9] hN,.ite (hD 792 [hQ [hB (hG 361) 46]]) (g_ [g6 3 (hM 806),g6 7 (hB hX 26),g6 8 (hB hX 27),g6 5 (hB hX 28)] (hp (hD 792 [hQ [hB (hG 380) 46]]) (g_ [g6 3 (hM 806),g6 9 (hB hX 26),g6 8 (hB hX 27)] (g6 6 (hB hX 28))))) (hp (hD 792 [hQ [hB (hG 380) 46]]) (g_ [g6 3 (hM 806),.bT [7,9] (hB hX 26),g6 8 (hB hX 27),g6 6 (hB hX 28)] (hp (hD 792 [hQ [hB (hG 361) 46]]) (g_ [g6 3 (hM 806),g6 8 (hB hX 27)] (g6 5 (hB hX 28)))))),hp (.Q .c4 iR hN) (g_ [.cQ [11,12] iR] (.ite (.Q .c4 (hL 11) hN) (g_ [hp (.Q .cj (hL 11) (hA 22)) .aE] (g6 6 (hP (.sub (hA 22) (hL 11)) (hL 12)))) .aE)),hp (.Q .ca jx hN) (.bT [7,8] (hB (hM 799) 26)),g6 4 hN,g6 10 (.or (.Q .ca iR hN) (hV iR (hS [33])))] (.ite (.and hZ (hD 792 [hQ [hB (hG 311) 46]])) (g_ [g6 8 (hB (hM 799) 27),g6 4 (jm 597 [iQ,iR,hL 10,jx,hL 8,hN])] (h8 25 (.a9 1425 hC))) (.ite (hD 792 [hQ [hB (hG 400) 46]]) (g_ [g6 3 (hM 806),g6 8 (hB hX 27),.ite (.or (.and (hB hX 29) (.Q .ca iR hN)) (hV iR (hS [33]))) (g6 10 (hQ [hT,hF])) (.ite (.Q .ca iR hN) (g6 10 (hQ [hF,hT])) (g6 10 (hQ [hF,hF]))),g6 4 (jm 585 [iQ,iR,hL 10,hB hX 28,jx,hL 8,hB hX 30])] (h8 25 (.cn (hA 23)))) (.ite (hD 792 [hQ [hB (hG 239) 46]]) (g_ [g6 8 (hB (hM 799) 27),g6 4 (jm 597 [iQ,iR,hL 10,jx,hL 8,hT])] (h8 25 (.a9 1453 hC))) (.ite (hD 792 [hQ [hB (hG 251) 46]]) (g_ [g6 8 (hB (hM 799) 27),g6 4 (jm 621 [iQ,iR,hL 10,jx,hL 8,hT])] (h8 25 (.a9 1489 hC))) (.ite (.and hb (hD 792 [hQ [hB (hG 203) 46]])) (g_ [g6 8 (hB (hM 799) 26),g6 4 (jm 597 [iQ,iR,hL 10,jx,hL 8,hF])] (h8 25 (.a9 1411 hC))) (.ite (.and hb (hD 792 [hQ [hB (hG 215) 46]])) (g_ [g6 8 (hB (hM 799) 26),g6 4 (jm 621 [iQ,iR,hL 10,jx,hL 8,hF])] (h8 25 (.a9 1432 hC))) (.ite (.or (.Q .c4 iQ hN) (.Q .c4 iR hN)) (g_ [g6 4 (jm 585 [iQ,iR,hQ [hL 10,hF],hS [],jx,hL 8,hN])] (h8 25 (.cn (hA 23)))) (g_ [.ite hb (g6 13 (hS [98,108,111,99,107])) (g6 13 (hS [102,108,111,119])),g6 3 (hM 799)] (oQ 1293 [.ci [119,104,105,108,101,32,112,97,114,115,105,110,103,32,97,32,37,115,32,110,111,100,101] (hL 13),jx,.ci [101,120,112,101,99,116,101,100,32,116,104,101,32,110,111,100,101,32,99,111,110,116,101,110,116,44,32,98,117,116,32,102,111,117,110,100,32,37,114] (hB hX 46),hB hX 26,hN]))))))))))] (.ret iM)
noncomputable def Uu:DS:=g_ [g6 1 (hM 806),.y (.aD (hA 24) (hB hb 26))] (.ret (hM 1418))
noncomputable def Uv:DS:=g_ [hp (hD 792 [hQ [hB (hG 311) 46]]) (g_ [g6 1 (hM 806)] (.ite (.not (hD 792 [hQ [hB (hG 311) 46,hB (hG 227) 46]])) (g_ [.y (.aD (hA 23) (.a9 1418 hC))] (.ret (hM 1382))) (g_ [h8 25 (.a9 1418 hC)] (.ret (hD 1518 [hB hb 27]))))),hp (.not (hD 792 [hQ [hB (hG 227) 46]])) (g_ [g6 1 (hM 799)] (oQ 1293 [hS [119,104,105,108,101,32,112,97,114,115,105,110,103,32,97,32,98,108,111,99,107,32,99,111,108,108,101,99,116,105,111,110],.sub (hA 24) (hI (-1)),.ci [101,120,112,101,99,116,101,100,32,60,98,108,111,99,107,32,101,110,100,62,44,32,98,117,116,32,102,111,117,110,100,32,37,114] (hB hb 46),hB hb 26,hN])),g6 1 (hM 806),g6 2 (jm 609 [hB hb 26,hB hb 27]),h8 25 (.cn (hA 23)),.y (.cn (hA 24))] (.ret hZ)
noncomputable def Uw:DS:=g_ [hp (hD 792 [hQ [hB (hG 311) 46]]) (g_ [g6 1 (hM 806)] (.ite (.not (hD 792 [hQ [hB (hG 311) 46,hB (hG 287) 46,hB (hG 299) 46,hB (hG 227) 46]])) (g_ [.y (.aD (hA 23) (.a9 1425 hC))] (.ret (hM 1382))) (g_ [h8 25 (.a9 1425 hC)] (.ret (hD 1518 [hB hb 27]))))),g6 1 (hM 799),g6 2 (jm 609 [hB hb 26,hB hb 26]),h8 25 (.cn (hA 23))] (.ret hZ)
noncomputable def Ux:DS:=g_ [g6 1 (hM 806),.y (.aD (hA 24) (hB hb 26))] (.ret (hM 1439))
noncomputable def Uy:DS:=g_ [hp (hD 792 [hQ [hB (hG 287) 46]]) (g_ [g6 1 (hM 806)] (.ite (.not (hD 792 [hQ [hB (hG 287) 46,hB (hG 299) 46,hB (hG 227) 46]])) (g_ [.y (.aD (hA 23) (.a9 1446 hC))] (.ret (hM 1396))) (g_ [.aE] .aE))),hp (.not (hD 792 [hQ [hB (hG 227) 46]])) (g_ [g6 1 (hM 799)] (oQ 1293 [hS [119,104,105,108,101,32,112,97,114,115,105,110,103,32,97,32,98,108,111,99,107,32,109,97,112,112,105,110,103],.sub (hA 24) (hI (-1)),.ci [101,120,112,101,99,116,101,100,32,60,98,108,111,99,107,32,101,110,100,62,44,32,98,117,116,32,102,111,117,110,100,32,37,114] (hB hb 46),hB hb 26,hN])),g6 1 (hM 806),g6 2 (jm 633 [hB hb 26,hB hb 27]),h8 25 (.cn (hA 23)),.y (.cn (hA 24))] (.ret hZ)
noncomputable def Uz:DS:=.ite (hD 792 [hQ [hB (hG 299) 46]]) (g_ [g6 1 (hM 806)] (.ite (.not (hD 792 [hQ [hB (hG 287) 46,hB (hG 299) 46,hB (hG 227) 46]])) (g_ [.y (.aD (hA 23) (.a9 1439 hC))] (.ret (hM 1396))) (g_ [h8 25 (.a9 1439 hC)] (.ret (hD 1518 [hB hb 27]))))) (g_ [.aE,.aE] .aE)
noncomputable def UA:DS:=g_ [g6 1 (hM 806),.y (.aD (hA 24) (hB hb 26))] (.ret (hD 1461 [hT]))
noncomputable def ye:DS:=g_ [hp (.not (hD 792 [hQ [hB (hG 263) 46]])) (g_ [hp (.not hb) (.ite (hD 792 [hQ [hB (hG 323) 46]]) (kI 806) (g_ [g6 2 (hM 799)] (oQ 1293 [hS [119,104,105,108,101,32,112,97,114,115,105,110,103,32,97,32,102,108,111,119,32,115,101,113,117,101,110,99,101],.sub (hA 24) (hI (-1)),.ci [101,120,112,101,99,116,101,100,32,39,44,39,32,111,114,32,39,93,39,44,32,98,117,116,32,103,111,116,32,37,114] (hB hZ 46),hB hZ 26,hN])))] (.ite (hD 792 [hQ [hB (hG 287) 46]]) (g_ [g6 2 (hM 799),g6 3 (jm 621 [hN,hN,hT,hB hZ 26,hB hZ 27,hT]),h8 25 (.a9 1468 hC)] (.ret hX)) (hp (.not (hD 792 [hQ [hB (hG 263) 46]])) (g_ [.y (.aD (hA 23) (.a9 1461 hC))] (.ret (hM 1389)))))),g6 2 (hM 806),g6 3 (jm 609 [hB hZ 26,hB hZ 27]),h8 25 (.cn (hA 23)),.y (.cn (hA 24))] (.ret hX)
noncomputable def UB:DS:=g_ [g6 1 (hM 806)] (.ite (.not (hD 792 [hQ [hB (hG 299) 46,hB (hG 323) 46,hB (hG 263) 46]])) (g_ [.y (.aD (hA 23) (.a9 1475 hC))] (.ret (hM 1389))) (g_ [h8 25 (.a9 1475 hC)] (.ret (hD 1518 [hB hb 27]))))
noncomputable def UC:DS:=.ite (hD 792 [hQ [hB (hG 299) 46]]) (g_ [g6 1 (hM 806)] (.ite (.not (hD 792 [hQ [hB (hG 323) 46,hB (hG 263) 46]])) (g_ [.y (.aD (hA 23) (.a9 1482 hC))] (.ret (hM 1389))) (g_ [h8 25 (.a9 1482 hC)] (.ret (hD 1518 [hB hb 27]))))) (g_ [h8 25 (.a9 1482 hC),g6 1 (hM 799)] (.ret (hD 1518 [hB hb 26])))
noncomputable def UD:DS:=g_ [h8 25 (.a9 1461 hC),g6 1 (hM 799)] (.ret (jm 633 [hB hb 26,hB hb 26]))
noncomputable def UE:DS:=g_ [g6 1 (hM 806),.y (.aD (hA 24) (hB hb 26))] (.ret (hD 1497 [hT]))
noncomputable def yf:DS:=g_ [hp (.not (hD 792 [hQ [hB (hG 275) 46]])) (g_ [hp (.not hb) (.ite (hD 792 [hQ [hB (hG 323) 46]]) (kI 806) (g_ [g6 2 (hM 799)] (oQ 1293 [hS [119,104,105,108,101,32,112,97,114,115,105,110,103,32,97,32,102,108,111,119,32,109,97,112,112,105,110,103],.sub (hA 24) (hI (-1)),.ci [101,120,112,101,99,116,101,100,32,39,44,39,32,111,114,32,39,125,39,44,32,98,117,116,32,103,111,116,32,37,114] (hB hZ 46),hB hZ 26,hN])))] (.ite (hD 792 [hQ [hB (hG 287) 46]]) (g_ [g6 2 (hM 806)] (.ite (.not (hD 792 [hQ [hB (hG 299) 46,hB (hG 323) 46,hB (hG 275) 46]])) (g_ [.y (.aD (hA 23) (.a9 1504 hC))] (.ret (hM 1389))) (g_ [h8 25 (.a9 1504 hC)] (.ret (hD 1518 [hB hZ 27]))))) (hp (.not (hD 792 [hQ [hB (hG 275) 46]])) (g_ [.y (.aD (hA 23) (.a9 1511 hC))] (.ret (hM 1389)))))),g6 2 (hM 806),g6 3 (jm 633 [hB hZ 26,hB hZ 27]),h8 25 (.cn (hA 23)),.y (.cn (hA 24))] (.ret hX)
noncomputable def UF:DS:=.ite (hD 792 [hQ [hB (hG 299) 46]]) (g_ [g6 1 (hM 806)] (.ite (.not (hD 792 [hQ [hB (hG 323) 46,hB (hG 275) 46]])) (g_ [.y (.aD (hA 23) (.a9 1497 hC))] (.ret (hM 1389))) (g_ [h8 25 (.a9 1497 hC)] (.ret (hD 1518 [hB hb 27]))))) (g_ [h8 25 (.a9 1497 hC),g6 1 (hM 799)] (.ret (hD 1518 [hB hb 26])))
noncomputable def UG:DS:=g_ [h8 25 (.a9 1497 hC)] (.ret (hD 1518 [hB (hM 799) 26]))
noncomputable def UH:DS:=.ret (jm 585 [hN,hN,hQ [hT,hF],hS [],hb,hb,hN])
noncomputable def UI:DS:=.ret (.or (jF hC (hS [9,10,13,133])) (.or (.cb .le .le (hS [32]) hC (hS [126])) (.or (.cb .le .le (hS [160]) hC (hS [55295])) (.or (.cb .le .le (hS [57344]) hC (hS [65533])) (.cb .le .le (hS [65536]) hC (hS [1114111]))))))
noncomputable def su:List (Nat×List Nat):=[(53,[0,9,10,11,4,5]),(114,[26,27]),(135,[0,28,26,27]),(147,[26,27]),(159,[26,27]),(179,[26,27,8]),(191,[26,27]),(203,[26,27]),(215,[26,27]),(227,[26,27]),(239,[26,27]),(251,[26,27]),(263,[26,27]),(275,[26,27]),(287,[26,27]),(299,[26,27]),(311,[26,27]),(323,[26,27]),(342,[28,26,27]),(361,[28,26,27]),(380,[28,26,27]),(400,[28,29,26,27,30]),(427,[26,27]),(449,[34,26,27]),(469,[34,35,36,26,27,37]),(481,[26,27]),(501,[26,27,8]),(513,[26,27]),(533,[26,27,38,39,40]),(553,[26,27,38]),(565,[34,26,27]),(585,[34,35,36,28,26,27,30]),(597,[34,35,36,26,27,37]),(609,[26,27]),(621,[34,35,36,26,27,37]),(633,[26,27]),(763,[32,33,9,10,11,31])]
noncomputable def vt:List (Nat×List Nat):=[(95,[41,42,43,44,45]),(744,[41,42,43,44,45]),(1293,[41,42,43,44,45])]
noncomputable def UJ:List (Nat×List Nat):=[(53,[53]),(114,[114]),(135,[135,114]),(147,[147,114]),(159,[159,114]),(179,[179,114]),(191,[191,114]),(203,[203,114]),(215,[215,114]),(227,[227,114]),(239,[239,114]),(251,[251,114]),(263,[263,114]),(275,[275,114]),(287,[287,114]),(299,[299,114]),(311,[311,114]),(323,[323,114]),(342,[342,114]),(361,[361,114]),(380,[380,114]),(400,[400,114]),(427,[427]),(449,[449,427]),(469,[469,449,427]),(481,[481,427]),(501,[501,427]),(513,[513,427]),(533,[533,427]),(553,[553,427]),(565,[565,449,427]),(585,[585,449,427]),(597,[597,469,449,427]),(609,[609,481,427]),(621,[621,469,449,427]),(633,[633,481,427]),(763,[763]),(95,[95,67]),(744,[744,95,67]),(1293,[1293,95,67])]
noncomputable def IK:List Nat:=[501,513,533,553,565,585,597,609,621,633]
noncomputable def yg:List (List Nat×List (List Nat)):=[([101,120,112,101,99,116,101,100,32,116,104,101,32,110,111,100,101,32,99,111,110,116,101,110,116,44,32,98,117,116,32,102,111,117,110,100,32,37,114],[[60,100,105,114,101,99,116,105,118,101,62],[60,100,111,99,117,109,101,110,116,32,115,116,97,114,116,62],[60,100,111,99,117,109,101,110,116,32,101,110,100,62],[60,115,116,114,101,97,109,32,115,116,97,114,116,62],[60,115,116,114,101,97,109,32,101,110,100,62],[60,98,108,111,99,107,32,115,101,113,117,101,110,99,101,32,115,116,97,114,116,62],[60,98,108,111,99,107,32,109,97,112,112,105,110,103,32,115,116,97,114,116,62],[60,98,108,111,99,107,32,101,110,100,62],[91],[123],[93],[125],[63],[58],[45],[44],[60,97,108,105,97,115,62],[60,97,110,99,104,111,114,62],[60,116,97,103,62],[60,115,99,97,108,97,114,62]]),([101,120,112,101,99,116,101,100,32,39,44,39,32,111,114,32,39,125,39,44,32,98,117,116,32,103,111,116,32,37,114],[[60,100,105,114,101,99,116,105,118,101,62],[60,100,111,99,117,109,101,110,116,32,115,116,97,114,116,62],[60,100,111,99,117,109,101,110,116,32,101,110,100,62],[60,115,116,114,101,97,109,32,115,116,97,114,116,62],[60,115,116,114,101,97,109,32,101,110,100,62],[60,98,108,111,99,107,32,115,101,113,117,101,110,99,101,32,115,116,97,114,116,62],[60,98,108,111,99,107,32,109,97,112,112,105,110,103,32,115,116,97,114,116,62],[60,98,108,111,99,107,32,101,110,100,62],[91],[123],[93],[125],[63],[58],[45],[44],[60,97,108,105,97,115,62],[60,97,110,99,104,111,114,62],[60,116,97,103,62],[60,115,99,97,108,97,114,62]]),([101,120,112,101,99,116,101,100,32,39,44,39,32,111,114,32,39,93,39,44,32,98,117,116,32,103,111,116,32,37,114],[[60,100,105,114,101,99,116,105,118,101,62],[60,100,111,99,117,109,101,110,116,32,115,116,97,114,116,62],[60,100,111,99,117,109,101,110,116,32,101,110,100,62],[60,115,116,114,101,97,109,32,115,116,97,114,116,62],[60,115,116,114,101,97,109,32,101,110,100,62],[60,98,108,111,99,107,32,115,101,113,117,101,110,99,101,32,115,116,97,114,116,62],[60,98,108,111,99,107,32,109,97,112,112,105,110,103,32,115,116,97,114,116,62],[60,98,108,111,99,107,32,101,110,100,62],[91],[123],[93],[125],[63],[58],[45],[44],[60,97,108,105,97,115,62],[60,97,110,99,104,111,114,62],[60,116,97,103,62],[60,115,99,97,108,97,114,62]]),([101,120,112,101,99,116,101,100,32,39,60,100,111,99,117,109,101,110,116,32,115,116,97,114,116,62,39,44,32,98,117,116,32,102,111,117,110,100,32,37,114],[[60,100,105,114,101,99,116,105,118,101,62],[60,100,111,99,117,109,101,110,116,32,115,116,97,114,116,62],[60,100,111,99,117,109,101,110,116,32,101,110,100,62],[60,115,116,114,101,97,109,32,115,116,97,114,116,62],[60,115,116,114,101,97,109,32,101,110,100,62],[60,98,108,111,99,107,32,115,101,113,117,101,110,99,101,32,115,116,97,114,116,62],[60,98,108,111,99,107,32,109,97,112,112,105,110,103,32,115,116,97,114,116,62],[60,98,108,111,99,107,32,101,110,100,62],[91],[123],[93],[125],[63],[58],[45],[44],[60,97,108,105,97,115,62],[60,97,110,99,104,111,114,62],[60,116,97,103,62],[60,115,99,97,108,97,114,62]]),([101,120,112,101,99,116,101,100,32,60,98,108,111,99,107,32,101,110,100,62,44,32,98,117,116,32,102,111,117,110,100,32,37,114],[[60,100,105,114,101,99,116,105,118,101,62],[60,100,111,99,117,109,101,110,116,32,115,116,97,114,116,62],[60,100,111,99,117,109,101,110,116,32,101,110,100,62],[60,115,116,114,101,97,109,32,115,116,97,114,116,62],[60,115,116,114,101,97,109,32,101,110,100,62],[60,98,108,111,99,107,32,115,101,113,117,101,110,99,101,32,115,116,97,114,116,62],[60,98,108,111,99,107,32,109,97,112,112,105,110,103,32,115,116,97,114,116,62],[60,98,108,111,99,107,32,101,110,100,62],[91],[123],[93],[125],[63],[58],[45],[44],[60,97,108,105,97,115,62],[60,97,110,99,104,111,114,62],[60,116,97,103,62],[60,115,99,97,108,97,114,62]]),([102,111,117,110,100,32,99,104,97,114,97,99,116,101,114,32,37,114,32,116,104,97,116,32,99,97,110,110,111,116,32,115,116,97,114,116,32,97,110,121,32,116,111,107,101,110],[[64],[9]]),([119,104,105,108,101,32,112,97,114,115,105,110,103,32,97,32,37,115,32,110,111,100,101],[[98,108,111,99,107],[102,108,111,119]])]
noncomputable def IL:List (Nat×List (Nat×AV)):=[(135,[(46,.str [60,100,105,114,101,99,116,105,118,101,62])]),(147,[(46,.str [60,100,111,99,117,109,101,110,116,32,115,116,97,114,116,62])]),(159,[(46,.str [60,100,111,99,117,109,101,110,116,32,101,110,100,62])]),(179,[(46,.str [60,115,116,114,101,97,109,32,115,116,97,114,116,62])]),(191,[(46,.str [60,115,116,114,101,97,109,32,101,110,100,62])]),(203,[(46,.str [60,98,108,111,99,107,32,115,101,113,117,101,110,99,101,32,115,116,97,114,116,62])]),(215,[(46,.str [60,98,108,111,99,107,32,109,97,112,112,105,110,103,32,115,116,97,114,116,62])]),(227,[(46,.str [60,98,108,111,99,107,32,101,110,100,62])]),(239,[(46,.str [91])]),(251,[(46,.str [123])]),(263,[(46,.str [93])]),(275,[(46,.str [125])]),(287,[(46,.str [63])]),(299,[(46,.str [58])]),(311,[(46,.str [45])]),(323,[(46,.str [44])]),(342,[(46,.str [60,97,108,105,97,115,62])]),(361,[(46,.str [60,97,110,99,104,111,114,62])]),(380,[(46,.str [60,116,97,103,62])]),(400,[(46,.str [60,115,99,97,108,97,114,62])]),(1521,[(47,.val (.ref 1304))])]
noncomputable def UK:List (Nat×List (List Nat×AV)):=[(1304,[([33],.str [33]),([33,33],.str [116,97,103,58,121,97,109,108,46,111,114,103,44,50,48,48,50,58])])]
noncomputable def Cc:Nat:=1521
noncomputable def IM:List (Nat×List AV):=[(1432,[]),(1439,[]),(1446,[]),(1382,[]),(1396,[]),(1418,[]),(1411,[]),(1368,[]),(1361,[]),(1354,[]),(1511,[]),(1489,[]),(1497,[(.bool g)]),(1504,[]),(1389,[]),(1461,[(.bool g)]),(1482,[]),(1468,[]),(1475,[]),(1453,[]),(1347,[]),(1425,[]),(1404,[(.bool g),(.bool g)]),(1340,[])]
noncomputable def Cd:List (Nat×Nat×Nat×DS):=[(682,2,2,TA),(690,2,2,TB),(698,2,2,TC),(706,2,3,TD),(713,1,1,TE),(720,2,5,Iy),(727,2,2,TF),(783,2,2,TG),(792,2,2,TH),(799,1,1,TJ),(806,1,1,TK),(813,1,1,TL),(820,1,2,Iz),(827,1,4,IA),(834,1,3,IB),(841,1,4,IC),(848,1,2,TM),(855,2,3,ID),(862,2,2,TN),(869,1,2,TO),(876,1,2,TQ),(890,1,1,TR),(897,1,1,TU),(904,2,4,TV),(911,1,1,TW),(918,1,1,TX),(925,2,4,TY),(932,1,1,TZ),(939,1,1,T0),(946,2,4,T1),(953,1,3,T2),(960,1,4,IE),(967,1,4,T3),(974,1,5,IF),(981,1,1,T4),(988,1,1,T5),(995,1,1,T6),(1023,1,1,T7),(1037,2,2,T8),(1044,1,1,T9),(1058,1,1,T_),(1065,1,1,Ua),(1072,1,1,Ub),(1079,1,1,Uc),(1086,1,1,Ud),(1093,1,2,Ue),(1100,1,2,IG),(1163,2,9,IH),(1170,1,9,II),(1212,2,7,Uf),(1222,3,8,Ug),(1243,1,8,yc),(1250,3,10,Cb),(1264,3,6,IJ),(1278,1,2,Uh),(1312,2,2,Ui),(1326,1,1,Uj),(1333,1,2,Uk),(1340,1,3,Ul),(1347,1,5,Um),(1354,1,7,Un),(1361,1,6,Uo),(1368,1,2,Up),(1375,1,8,Uq),(1382,1,1,Ur),(1389,1,1,Us),(1396,1,1,Ut),(1404,3,14,yd),(1411,1,2,Uu),(1418,1,3,Uv),(1425,1,3,Uw),(1432,1,2,Ux),(1439,1,3,Uy),(1446,1,2,Uz),(1453,1,2,UA),(1461,2,4,ye),(1468,1,2,UB),(1475,1,2,UC),(1482,1,2,UD),(1489,1,2,UE),(1497,2,4,yf),(1504,1,2,UF),(1511,1,1,UG),(1518,2,2,UH),(668,1,1,UI)]
noncomputable def lk{α:Type}(n:Nat):List (Nat×α)->Option α|[]=>V|(k,v)::r=>match iE n k with|H=>U v|g=>lk n r
theorem UL{α:Type}{n k:Nat}{v:α}{r:List (Nat×α)}:lk n ((k,v)::r)=cond (iE n k) (U v) (lk n r):=rfl
noncomputable def g3:oJ where
 cm:=λC=>lk C su
 cv:=λC=>lk C vt
 be:=λC k=>match lk C IL with|U l=>lk k l|V=>V
 sub:=λC D=>match lk C UJ with|U l=>i8 D l|V=>g
 es:=λD=>lk D UK
 a1:=Cc
 fv:=λC=>i8 C IK
 bW:=λf=>lk f IM
 dV:=λf l=>yg.any λp=>ha p.1 f&&p.2.any (ha l)
end
section
open PySem PySem.W PySem.Calls PyProof.Rows
noncomputable def vu{α:Type}(n:g9):List (g9×α)->Option α|[]=>V|(k,v)::r=>if n=k then U v else vu n r
theorem UM{α:Type}{n k:g9}{v:α}{r:List (g9×α)}:vu n ((k,v)::r)=if n=k then U v else vu n r:=rfl
structure q4 where
 bP:List g9
 cz:List (g9×AV)
 bn:List (Nat×jp)
 cl:List (Nat×jp)
 dj:List (Nat×jp)
 quiet:Nat
noncomputable def q4.eY(R:q4):Tb where
 cz:=λx=>vu x R.cz
 bn:=λf=>lk f R.bn
 cl:=λf=>lk f R.cl
 dj:=λf=>lk f R.dj
noncomputable def yh(K:jc)(a:Nat)(x:g9):Option g7:=(nsIn K a x).join
noncomputable def q4.b8(R:q4)(ai:n6)(w:iZ)(K:jc)(aw:Nat):Gl where
 prog:=ai
 w:=w
 K:=K
 b2:=aw
 bP:=R.bP
 T:=g3
 c5:=yh K qE
 eh:=yh K wv
 quiet:=λf=>iE f R.quiet
end
section
open PySem
noncomputable def vv:AV:=.av [.str [118,97,108,117,101],.none,.none,.av [.bool H,.bool g],.str [],.none]
noncomputable def UN:DS:=.ret (.cc hC (.eu hC) hU)
noncomputable def IN:DS:=g_ [g6 3 (kx 1532 [hC]),hp (hV (.a0 .mod hX (hI 6)) (hI 5)) (g_ [.y (.aD hZ (hS [42]))] (.ret hN)),.y (.ext hZ (.sub (jR [jR [],jR [hS [38]],jR [hS [33]],jR [hS [33],hS [38]],jR [hS [38],hS [33]],jR [],jR []]) (.a0 .mod (.a0 .fdiv hX (hI 6)) (hI 7))))] (.ite (.or (hV hb hU) (.Q .lt (.a0 .mod hX (hI 6)) (hI 2))) (.y (.aD hZ (hS [119]))) (.y (kx 1546 [hC,hb,hZ,hV (.a0 .mod hX (hI 6)) (hI 4)])))
noncomputable def yi:DS:=g_ [.y (.aD hZ (.cc hX (hS [123]) (hS [91]))),g6 4 (kx 1532 [hC]),.b6 .ef [5] (.a0 .mod iM (hI 4)) (g_ [hp (.Q .gt iQ hU) (.y (.aD hZ (hS [44]))),g6 6 (.a0 .mod (kx 1532 [hC]) (hI 5)),hp (hV iR (hI 4)) (.y (.aD hZ (hS [63]))),.y (kx 1539 [hC,.a0 .sub hb ic,hZ])] (hp (.or (.Q .gt iR (hI 2)) (.and hX (.Q .gt iR hU))) (g_ [.y (.aD hZ (hS [58]))] (hp (.Q .b' iR (hI 2)) (.y (kx 1539 [hC,.a0 .sub hb ic,hZ])))))),hp (.and (.Q .gt (.a0 .mod iM (hI 4)) hU) (hV (.a0 .mod (.a0 .fdiv iM (hI 4)) (hI 4)) ic)) (.y (.aD hZ (hS [44])))] (.y (.aD hZ (.cc hX (hS [125]) (hS [93]))))
noncomputable def UO:DS:=g_ [hp (hV hZ hU) (.ret (hP (.cd hC .ch hb) (.cd hC (hP hb ic) .ch))),hp (hV hZ ic) (.ret (hP (hP (.cd hC .ch hb) (jR [hX])) (.cd hC hb .ch))),hp (hV hZ (hI 2)) (.ret (hP (hP (.cd hC .ch hb) (jR [hX])) (.cd hC (hP hb ic) .ch))),hp (hV hZ (hI 3)) (.ret (hP (hP (.cd hC .ch hb) (jR [.sub hC hb])) (.cd hC hb .ch))),hp (hV hZ (hI 4)) (.ret (hP (hP (hP (.cd hC .ch hb) (.cd hC (hP hb ic) (hP hb (hI 2)))) (jR [.sub hC hb])) (.cd hC (hP hb (hI 2)) .ch)))] (.ret hC)
noncomputable def IP:DS:=g_ [g6 1 (jR []),g6 2 hU,.b6 .m [3] hC (g_ [.y (.aD hb hX)] (.ite (jF hX (hS [91,123])) (g6 2 (hP hZ ic)) (hp (jF hX (hS [93,125])) (g_ [g6 2 (.a0 .sub hZ ic)] (hp (hV hZ hU) (.ret hb))))))] (.ret hb)
noncomputable def Ce:DS:=g_ [g6 4 hU,g6 5 (.len hb),g6 6 (jR []),.b6 .ef [7] (.len hC) (g_ [hp (.Q .gt jx hU) (.ite (.and (.Q .gt hZ hU) (hV (.a0 .mod jx (hP hZ ic)) hU)) (g_ [g6 1 (hP hb hX),g6 4 (hP iM ic)] (g6 5 (.cc (hV hX (hS [10,32,32])) (hI 2) hU))) (g_ [g6 1 (hP hb (hS [32]))] (g6 5 (hP iQ ic)))),g6 8 (.sub hC jx),g6 9 (hL 8),g6 10 hN,.ite (hV (hL 8) (hS [119])) (g_ [g6 11 (.and (.Q .b' (.a0 .mod jx (hI 3)) ic) (.or (hV (hP jx ic) (.len hC)) (jF (.sub hC (hP jx ic)) (hS [44,93,125,58,63])))),g6 10 (hQ [hP (hS [119]) (.sub (.cW (.str [97,98,99,100,101,102,103,104,105,106,107,108,109,110,111,112,113,114,115,116,117,118,119,120,121,122])) jx),.cc (hL 11) hN (hS [39])])] (g6 9 (.cc (hL 11) (.sub (hL 10) hU) (hP (hP (hS [39]) (.sub (hL 10) hU)) (hS [39]))))) (hp (jF (hL 8) (hS [42,38,33])) (g_ [g6 10 (.cc (hV (hL 8) (hS [33])) (hP (hS [33]) (.sub (.cW (.str [97,98,99,100,101,102,103,104,105,106,107,108,109,110,111,112,113,114,115,116,117,118,119,120,121,122])) jx)) (.sub (.cW (.str [97,98,99,100,101,102,103,104,105,106,107,108,109,110,111,112,113,114,115,116,117,118,119,120,121,122])) jx))] (g6 9 (hP (hL 8) (.sub (.cW (.str [97,98,99,100,101,102,103,104,105,106,107,108,109,110,111,112,113,114,115,116,117,118,119,120,121,122])) jx))))),.y (.aD iR (hQ [hL 8,hQ [.len hb,iM,iQ],hL 10])),g6 1 (hP hb (hL 9))] (g6 5 (hP iQ (.len (hL 9)))))] (.ret (hQ [hb,iR,hQ [.len hb,iM,iQ]]))
noncomputable def IQ:DS:=g_ [hp (.or (hV hb hU) (.or (.Q .cj (.sub (.sub hC (.a0 .sub hb ic)) hU) (hS [91,123,44])) (.Q .cj (.sub (.sub hC hb) hU) (hS [119,42,38,33,91,123])))) (.ret hF),g6 2 hU,.b6 .m [3,4,5] (.cd hC hb .ch) (g_ [hp (.and (hV hZ hU) (hV hX (hS [58]))) (.ret (hV (.sub iM ic) (.sub (.sub (.sub hC hb) ic) ic))),hp (.and (hV hZ hU) (jF hX (hS [44,93,125,63,45]))) (.ret hF)] (.ite (jF hX (hS [91,123])) (g6 2 (hP hZ ic)) (hp (jF hX (hS [93,125])) (g6 2 (.a0 .sub hZ ic)))))] (.ret hF)
noncomputable def IR:DS:=g_ [.cQ [5,6,7] (.sub hC (.sub hb hU)),hp (hV iQ (hS [42])) (g_ [.y (.aD hZ (hQ [hS [97,108,105,97,115],jx])),.cE hb hU (hP (.sub hb hU) ic)] (.ret hN)),g6 3 hN,g6 4 hN,.bs (.or (.and (hV iQ (hS [38])) (.Q .ca hX hN)) (.and (hV iQ (hS [33])) (.Q .ca iM hN))) (g_ [.ite (hV iQ (hS [38])) (g6 3 jx) (g6 4 jx),.cE hb hU (hP (.sub hb hU) ic)] (.cQ [5,6,7] (.sub hC (.sub hb hU)))),hp (hV iQ (hS [119])) (g_ [.cE hb hU (hP (.sub hb hU) ic),.cQ [8,9] jx,.y (.aD hZ (hQ [hS [118,97,108,117,101],hX,iM,hQ [.and (.Q .ca iM hN) (.Q .ca (hL 9) hN),.and (.Q .ca iM hN) (.Q .c4 (hL 9) hN)],hL 8,hL 9]))] (.ret hN)),hp (.or (hV iQ (hS [91])) (hV iQ (hS [123]))) (g_ [.y (.aD hZ (hQ [.cc (hV iQ (hS [91])) (hS [108,105,115,116]) (hS [109,97,112]),hX,iM,.Q .ca iM hN,hT]))] (.ret (kx 1588 [hC,hb,hZ,.cc (hV iQ (hS [91])) (hS [93]) (hS [125]),iR]))),hp (.and (.Q .ca hX hN) (.Q .ca iM hN)) (.ret (hQ [iR,iR])),.y (.aD hZ (hQ [hS [118,97,108,117,101],hX,iM,hQ [.Q .ca iM hN,hF],hS [],hN]))] (.ret hN)
noncomputable def IS:DS:=g_ [.cE hb hU (hP (.sub hb hU) ic),g6 5 hT,.bs (.Q .b' (.sub (.sub hC (.sub hb hU)) hU) hX) (g_ [hp (.not iQ) (g_ [hp (.Q .b' (.sub (.sub hC (.sub hb hU)) hU) (hS [44])) (.ret (hQ [.sub (.sub hC (.sub hb hU)) ic,iM]))] (.cE hb hU (hP (.sub hb hU) ic))),g6 5 hF] (.ite (hV (.sub (.sub hC (.sub hb hU)) hU) (hS [63])) (g_ [.cE hb hU (hP (.sub hb hU) ic),hp (hV hX (hS [93])) (.y (.aD hZ (hQ [hS [109,97,112],hN,hN,hT,hT]))),.ite (jF (.sub (.sub hC (.sub hb hU)) hU) (hQ [hS [58],hS [44],hX])) (.y (.aD hZ (.cW vv))) (g_ [g6 6 (kx 1581 [hC,hb,hZ])] (hp (.Q .c4 iR hN) (.ret iR))),.ite (hV (.sub (.sub hC (.sub hb hU)) hU) (hS [58])) (g_ [.cE hb hU (hP (.sub hb hU) ic)] (.ite (jF (.sub (.sub hC (.sub hb hU)) hU) (hQ [hS [44],hX])) (.y (.aD hZ (.cW vv))) (g_ [g6 6 (kx 1581 [hC,hb,hZ])] (hp (.Q .c4 iR hN) (.ret iR))))) (.y (.aD hZ (.cW vv)))] (hp (hV hX (hS [93])) (.y (.aD hZ (hQ [hS [109,97,112,32,101,110,100]]))))) (hp (.Q .b' (.sub (.sub hC (.sub hb hU)) hU) hX) (g_ [g6 6 (kx 1581 [hC,hb,hZ]),hp (.Q .c4 iR hN) (.ret iR)] (hp (hV hX (hS [125])) (.y (.aD hZ (.cW vv)))))))),.cE hb hU (hP (.sub hb hU) ic),.y (.aD hZ (.cc (hV hX (hS [93])) (hQ [hS [108,105,115,116,32,101,110,100]]) (hQ [hS [109,97,112,32,101,110,100]])))] (.ret hN)
noncomputable def UP:DS:=g_ [hp (.cP hC 585) (.ret (hQ [hS [118,97,108,117,101],hA 34,hA 35,hA 36,hA 28,hA 30])),hp (.cP hC 597) (.ret (hQ [hS [108,105,115,116],hA 34,hA 35,hA 36,hA 37])),hp (.cP hC 609) (.ret (hQ [hS [108,105,115,116,32,101,110,100]])),hp (.cP hC 621) (.ret (hQ [hS [109,97,112],hA 34,hA 35,hA 36,hA 37])),hp (.cP hC 633) (.ret (hQ [hS [109,97,112,32,101,110,100]])),hp (.cP hC 565) (.ret (hQ [hS [97,108,105,97,115],hA 34])),hp (.cP hC 533) (.ret (hQ [hS [100,111,99,117,109,101,110,116],hA 38,hA 39,hA 40])),hp (.cP hC 553) (.ret (hQ [hS [100,111,99,117,109,101,110,116,32,101,110,100],hA 38]))] (.ret (.cc (.cP hC 501) (hQ [hS [115,116,114,101,97,109]]) (.cc (.cP hC 513) (hQ [hS [115,116,114,101,97,109,32,101,110,100]]) (hQ [hS [110,111,110,101]]))))
noncomputable def UQ:DS:=.ret (hQ [hA 9,hA 10,hA 11])
noncomputable def vw:DS:=g_ [g6 1 (.ex 720720 (.cd hC .ch (hI 9))),g6 2 (kx 1532 [hb]),g6 3 (kx 1532 [hb]),g6 4 (jR []),.y (kx 1546 [hb,hI 3,iM,hV (.a0 .mod hZ (hI 2)) ic]),g6 4 (.cd iM .ch (hI 11)),g6 5 (kx 1560 [kx 1553 [iM,hP ic (.a0 .mod (.a0 .fdiv hZ (hI 12)) (.a0 .sub (.len iM) ic)),.a0 .mod (.a0 .fdiv hZ (hI 2)) (hI 6),.sub (hS [91,93,123,125,44,58,63,119,42,38,33,45]) (.a0 .mod hX (hI 12))]]),g6 6 (.a0 .mod (.a0 .fdiv hX (hI 12)) (hI 4)),g6 7 (.a0 .mod (.a0 .fdiv hX (hI 48)) (hI 4)),.cQ [8,16,17] (kx 1567 [iQ,.sub (jR [hS [],hS [45,45,45,32],hS [45,32],hS [107,58,32]]) iR,.a0 .mod (.a0 .fdiv hX (hI 576)) (hI 5),.sub (jR [hS [10],hS [10,32,32],hS [32,35,32,99,10]]) (.a0 .mod (.a0 .fdiv hX (hI 192)) (hI 3))]),g6 8 (hP (hL 8) (.sub (jR [hS [],hS [10],hS [10,46,46,46,10],hS [10,45,45,45,32,122,10]]) jx)),hp (.Q .gt jx hU) (g6 17 (hQ [hP (.sub (hL 17) hU) ic,hP (.sub (hL 17) ic) ic,hU])),g6 4 (jR []),.b6 .ef [9] (.len (hL 16)) (g_ [hp (kx 1574 [hL 16,hL 9]) (.y (.aD iM (hQ [hS [63],.sub (.sub (hL 16) (hL 9)) ic,hN])))] (.y (.aD iM (.sub (hL 16) (hL 9))))),.y (.aD iM (hQ [hS [101,110,100],hL 17,hN])),g6 10 (jR [hQ [hS [115,116,114,101,97,109]],hQ [hS [100,111,99,117,109,101,110,116],hV iR ic,hN,hN]]),hp (hV iR (hI 2)) (.y (.aD (hL 10) (hQ [hS [108,105,115,116],hN,hN,hT,hF]))),hp (hV iR (hI 3)) (g_ [.y (.aD (hL 10) (hQ [hS [109,97,112],hN,hN,hT,hF]))] (.y (.aD (hL 10) (hQ [hS [118,97,108,117,101],hN,hN,hQ [hT,hF],hS [107],hN])))),g6 11 (kx 1581 [iM,jR [hU],hL 10]),hp (.Q .ca (hL 11) hN) (g_ [hp (hV iR (hI 2)) (.y (.aD (hL 10) (hQ [hS [108,105,115,116,32,101,110,100]]))),hp (hV iR (hI 3)) (.y (.aD (hL 10) (hQ [hS [109,97,112,32,101,110,100]]))),.y (.aD (hL 10) (hQ [hS [100,111,99,117,109,101,110,116,32,101,110,100],hV jx (hI 2)])),hp (hV jx (hI 3)) (g_ [.y (.aD (hL 10) (hQ [hS [100,111,99,117,109,101,110,116],hT,hN,hN])),.y (.aD (hL 10) (hQ [hS [118,97,108,117,101],hN,hN,hQ [hT,hF],hS [122],hN]))] (.y (.aD (hL 10) (hQ [hS [100,111,99,117,109,101,110,116,32,101,110,100],hF]))))] (.y (.aD (hL 10) (hQ [hS [115,116,114,101,97,109,32,101,110,100]])))),g6 12 (.ey 1312 (pv [hL 8])),g6 13 (jR []),g6 14 hN,.eA (.bs (.Q .c4 (.bX 1326 (hL 12) .nil) hN) (.y (.aD (hL 13) (kx 1595 [.bX 1333 (hL 12) .nil])))) 15 1293 (g6 14 (hQ [kx 1602 [hB (hL 15) 44],kx 1602 [hB (hL 15) 42]])) 1293 (g6 14 (hQ [kx 1602 [hB (hL 15) 44],kx 1602 [hB (hL 15) 42]]))] (.ret (.and (.ew (hL 13) (hL 10)) (.ew (hL 14) (hL 11))))
end
section
open PySem
noncomputable def UR:List g9:=oh DL ["name","stream","stream_pointer","eof","buffer","pointer","raw_buffer","raw_decode","encoding","index","line","column","done","flow_level","tokens","tokens_taken","indent","indents","allow_simple_key","possible_simple_keys","current_event","yaml_version","tag_handles","states","marks","state","start_mark","end_mark","value","plain","style","mark","token_number","required","anchor","tag","implicit","flow_style","explicit","version","tags","context","context_mark","problem","problem_mark","note","id","DEFAULT_TAGS"]
noncomputable def US:List (Nat×List Nat):=[(960,[0,2,3,1]),(967,[0,2,3,1]),(974,[0,3,4,1,2]),(1163,[0,1,2,3,5,6,7,8,4]),(1170,[0,1,2,7,8,3,4,5,6]),(1212,[0,1,3,4,5,6,2]),(1354,[0,1,2,5,6,3,4]),(1375,[0,7,1,6,2,3,4,5]),(1404,[0,1,2,3,4,5,6,7,8,9,12,10,11,13]),(1581,[0,1,2,6,7,3,4,5,8,9])]
noncomputable def IT:List g9:=oh DL ["script","tape","f","g","row","whole","frame","tail","text","i","due","refused","parser","got","trouble","error","signs","end"]
end
section
open PySem
structure Sys (C:Nat->PC):Prop where
 c:∀{d f a n:Nat} {e:DS} {args:List AV} {st:St} {Q:AV->St->Prop} {X:h5->St->Prop},lk f Cd=U (a,n,e)->args.length=a->WS g3 (C d) e (args.map U++rG (n - a) V) st ⟨λb st=>Q .none st,Q,λb b=>False,λb=>X⟩->C (d+1) f args st Q X
noncomputable def tQ(q:Nat×Nat)(c:Nat):Nat×Nat:=if c=10 then(q.1+1,0)else(q.1,q.2+1)
noncomputable def vx(l:List Nat):Nat×Nat:=l.foldl tQ (0,0)
noncomputable def ij(b:List Nat)(p:Nat):Nat:=(vx (b.take p)).1
noncomputable def ir(b:List Nat)(p:Nat):Nat:=(vx (b.take p)).2
theorem vy{b:List _}(h:b[p]?=U c):vx (b.take (p+1))=tQ (vx<|b.take p) c:=by unfold vx;rw[List.take_add_one,h,MI];rfl
theorem vz(h:b[p]?=U 10):ij b (p+1)=ij b p+1:=by unfold ij;rw[vy h];rfl
theorem sv(h:b[p]?=U 10):ir b (p+1)=0:=by unfold ir;rw[vy h];rfl
theorem qj(h:b[p]?=U c)(n:c≠10):ij b (p+1)=ij b p:=by unfold ij;rw[vy h];unfold tQ;rw[if_neg n]
theorem vB(h:b[p]?=U c)(n:c≠10):ir b (p+1)=ir b p+1:=by unfold ir;rw[vy h];unfold tQ;rw[if_neg n]
structure g2 where
 j:Nat->Option MC
 f:Nat
noncomputable def g2.le(a b:g2):Prop:=a.f<=b.f/\∀n,n<a.f->b.j n=a.j n
theorem g2.le.refl(a:g2):a.le a:=⟨g' _,λb b=>rfl⟩
theorem g2.le.trans{a b c:g2}(x:a.le b)(y:b.le c):a.le c:=⟨f1 x.1 y.1,λn h=>(y.2 n<|hy h x.1).trans<|x.2 n h⟩
noncomputable def IU:List Nat:=[60,117,110,105,99,111,100,101,32,115,116,114,105,110,103,62]
noncomputable def h3(b:List Nat)(p:Nat):AV:=.obj 53 [0,9,10,11,4,5] [.str IU,.int p,.int (ij b p),.int (ir b p),.str b,.int p]
set_option genCtorIdx true in
inductive Tk where
 |a' (a:Nat)
 |k (C a b:Nat)
 |val (C:Nat) (v:AV) (a b:Nat)
 |aU (v:List Nat) (c:Bool) (ar:AV) (a b:Nat)
noncomputable def Tk.bo(B:List Nat):Tk->AV| .a' a=>.obj 179 [26,27,8] [h3 B a,h3 B a,.none]| .k C a b=>.obj C [26,27] [h3 B a,h3 B b]| .val C v a b=>.obj C [28,26,27] [v,h3 B a,h3 B b]| .aU v c ar a b=>.obj 400 [28,29,26,27,30] [.str v,.bool c,h3 B a,h3 B b,ar]
structure SK where
 num:Nat
 bH:Bool
 pos:Nat
noncomputable def SK.bo(B:List Nat)(k:SK):AV:=.obj 763 [32,33,9,10,11,31] [.int k.num,.bool k.bH,.int k.pos,.int (ij B k.pos),.int (ir B k.pos),h3 B k.pos]
noncomputable abbrev lq:=List (Nat×SK)
noncomputable def mi(B:List Nat)(ks:lq):List (Int×AV):=ks.map λk=>((k.1:Int),k.2.bo B)
noncomputable def iK(l:Nat):lq->Option SK|[]=>V|(j,k)::r=>if j=l then U k else iK l r
theorem py{r:lq}:iK l ((j,k)::r)=if j=l then U k else iK l r:=rfl
noncomputable def j4(l:Nat):lq->lq|[]=>[]|(j,k)::r=>if j=l then r else(j,k)::j4 l r
theorem sw{r:lq}:j4 l ((j,k)::r)=if j=l then r else(j,k)::j4 l r:=rfl
theorem sx(j l:Nat):decide (j=(l:Int))=decide (j=l):=by
 by_cases h:j=l;.subst h;simp
 .rw[decide_eq_false h,decide_eq_false (by exact λe=>h (Int.ofNat.inj e))]
theorem q5(B:List Nat)(l:Nat):∀ks:lq,uR (l:Int) (mi B ks)=(iK l ks).isSome:=by
 intro ks;induction ks with|nil=>exact O|cons b r a=>
  obtain⟨j,k⟩:=b;show(match decide ((j:Int)=(l:Int))with|true=>H|false=>uR l<|mi B r)=_;rw[sx];dsimp only[py];by_cases h:j=l;.rw[decide_eq_true h,if_pos h];rfl
  .rw[decide_eq_false h,if_neg h];exact a
theorem vC(B)(l:Nat):∀ks,uS l (mi B ks)=(iK l ks).map (SK.bo B):=by
 intro ks;induction ks with|nil=>exact O|cons b r a=>
  obtain⟨j,k⟩:=b;show(match decide (j=(l:Int))with|true=>U<|k.bo B|false=>uS l<|mi B r)=_;rw[sx];dsimp only[py];by_cases h:j=l;.rw[decide_eq_true h,if_pos h];rfl
  .rw[decide_eq_false h,if_neg h];exact a
theorem Cf(B)(l:Nat):∀ks,xb l (mi B ks)=mi B (j4 l ks):=by
 intro ks;induction ks with|nil=>exact O|cons b r a=>
  obtain⟨j,k⟩:=b;show(match decide (j=(l:Int))with|true=>mi B r|false=>(j,k.bo B)::xb l (mi B r))=_;rw[sx];dsimp only[sw];by_cases h:j=l;.rw[decide_eq_true h,if_pos h]
  .rw[decide_eq_false h,if_neg h,a];rfl
theorem UT(B)(l)(k):∀ks,iK l ks=V->Ao l (k.bo B) (mi B ks)=mi B (ks++[(l,k)]):=by
 intro ks;induction ks with|nil=>exactλ_=>rfl|cons f r b=>
  obtain⟨j,c⟩:=f;intro h;dsimp only[py]at h;exists a;by_cases e:j=l;.rw[if_pos e]at h;cases h
  .rw[if_neg e]at h;refine a ?_;show(match decide (j=(l:Int))with|true=>_|false=>((j:Int),c.bo B)::Ao l _ _)=_;rw[sx,decide_eq_false e,b h];rfl
noncomputable def lG(ks:lq):Prop:=(ks.map (·.1)).Nodup
theorem IV:∀{ks},lG ks->iK l (j4 l ks)=none:=by
 intro ks;induction ks with|nil=>exactλ_=>rfl|cons c r a=>
  obtain⟨j,k⟩:=c;intro h;haveI h':=qG.mp h;dsimp only[sw];by_cases e:j=l
  .rw[if_pos e];subst e;haveI:∀{r},j∉r.map (·.1)->iK j r=none:=by intro r;induction r with|nil=>intro _;rfl|cons p r a=>obtain⟨i,k⟩:=p;intro b;dsimp only[py];rw[if_neg λz=>b (by clear zz3 z;exact .head _)];exact a λz=>b<|.tail _ z
   exact this h'.1
  .rw[if_neg e];dsimp only[py];rw[if_neg e];exact a h'.2
structure Z where
 G:List Nat
 o:Nat
 R:Nat
 I:List Tk
 aG:Nat
 ad:Int
 aS:List Int
 ask:Bool
 J:lq
 A:AV
 bU:AV
 bt:AV
 E:List Nat
 aF:List Nat
 x:g2
noncomputable def UU:List Nat:=[0,1,2,3,4,5,6,7,8,9,10,11,12,13,14,15,16,17,18,19,20,21,22,23,24,25]
noncomputable def Z.aW(z:Z)(a:Bool)(pk:AV):St:=⟨U (UU,[.str IU,.none,.int 0,.bool H,.str z.G,.int z.o,.none,.none,.none,.int z.o,.int (ij z.G z.o),.int (ir z.G z.o),.bool a,.int z.R,.mut .I,.int z.aG,.int z.ad,.mut .ad,.bool z.ask,pk,
 z.A,.none,z.bU,.mut .E,.mut .aF,z.bt]),U (.m (z.I.map (Tk.bo z.G))),U (.m (z.aS.reverse.map .int)),U (.m (z.E.reverse.map .au)),U (.m (z.aF.reverse.map (h3 z.G))),U (.bS (mi z.G z.J)),z.x.j,z.x.f⟩
noncomputable abbrev Z.h(z:Z):St:=z.aW g (.mut .cN)
noncomputable def hf:AV:=.mut .L
theorem Cg{a b:Nat}(h:a≠b):iE a b=false:=by induction q:iE a b with|true=>exact absurd (nL q) h|false=>rfl
theorem mj(h:c≠e):ha (c::l) (e::r)=false:=by show(match iE c e with|true=>ha l r|false=>g)=g;rw[Cg h]
theorem yj:∀{l},(∀x∈l,c≠x)->i8 c l=false:=by intro l;induction l with|nil=>exactλ_=>rfl|cons x r b=>intro h;dsimp only[Am];rw[show iE c x=g from by induction q:iE c x with|true=>exact absurd (nL q)<|h x<|.head _|false=>rfl];exact b λy a=>h y<|.tail _ a
theorem mc{c x}{l}(h:c≠x)(k:i8 c l=g):i8 c (x::l)=false:=by dsimp only[Am];rw[show iE c x=g from by induction q:iE c x with|true=>exact absurd (nL q) h|false=>rfl];exact k
theorem mz{c x}(h:c<127)(k:kK 127 x=H):c≠x:=iI<|hy h<|kC k
theorem mg{c x}(h:32<=c)(k:kK x 31=H):c≠x:=iP<|hy (lC<|kC k) h
theorem mu{c}(h:c<127):i8 c [133,8232,8233]=false:=mc (mz h O)<|mc (mz h O)<|mc (mz h O) O
theorem Ch:∀{ks},iK l ks=V->j4 l ks=ks:=by
 intro ks;induction ks with|nil=>exactλ_=>rfl|cons c r b=>
  obtain⟨j,k⟩:=c;intro h;dsimp only[py]at h;dsimp only[sw];exists a;by_cases e:j=l;.rw[if_pos e]at h;cases h
  .refine a ?_;rw[if_neg e]at h ⊢;rw[b h]
theorem iW(h:n<=1000000)(a:A):mF n A:=by unfold mF;rw[En h];exact a
noncomputable def DS.fst:DS->DS| .seq a _=>a|x=>x
noncomputable def DS.snd:DS->DS| .seq _ b=>b|x=>x
noncomputable def DS.bE:DS->DS| .bs _ b=>b| .b6 _ _ _ b=>b|x=>x
noncomputable def DS.dl:DS->DS| .ite _ b _=>b|x=>x
noncomputable def DS.a5:DS->DS| .ite _ _ b=>b|x=>x
theorem Ci:∀{ks},(j4 l ks).length<=ks.length:=by
 intro ks;induction ks with|nil=>exact g' _|cons b r a=>
  obtain⟨j,k⟩:=b;dsimp only[sw];by_cases e:j=l;.rw[if_pos e];exact iA _
  .rw[if_neg e];exact lC a
theorem la{α a:Type}(f:α->a)(j)(r):(oh f (j::r).reverse).getLast?=U (f j):=by simp
theorem lb{α a:Type}(f:α->a)(j)(r):(oh f (j::r).reverse).dropLast=oh f r.reverse:=by simp
theorem IW{l}{k}{r:lq}:∀{q:lq},l∉q.map (·.1)->iK l (q++(l,k)::r)=U k:=by intro q;induction q with|nil=>intro _;show(if l=l then U k else iK l r)=_;rw[if_pos O]|cons c q a=>obtain⟨j,b⟩:=c;intro h;show(if j=l then U b else iK l _)=_;rw[if_neg λz=>h (by clear zz3 z;exact .head _)];exact a λz=>h<|.tail _ z
theorem IX{l}{k}{r:lq}:∀{q:lq},l∉q.map (·.1)->j4 l (q++(l,k)::r)=q++r:=by intro q;induction q with|nil=>intro _;show(if l=l then r else _)=_;rw[if_pos O];rfl|cons c q a=>obtain⟨j,b⟩:=c;intro h;show(if j=l then q++(l,k)::r else(j,b)::j4 l (q++(l,k)::r))=_;rw[if_neg λz=>h (by clear zz3 z;exact .head _),a λz=>h<|.tail _ z];rfl
theorem UV{l}{k}{q r:lq}(h:lG (q++(l,k)::r)):l∉q.map (·.1)/\lG (q++r):=by unfold lG at h ⊢;rw[k4]at h ⊢;have h':=rQ.mp h;exact⟨λz=>h'.2.2 l z l (.head _) O,rQ.mpr ⟨h'.1,(qG.mp h'.2.1).2,λa c b e=>h'.2.2 a c b<|.tail _ e⟩⟩
noncomputable def g2.add(m:g2)(c:MC):g2:=⟨ni m.j m.f c,m.f+1⟩
theorem g2.le.add(m:g2)(c):m.le<|m.add c:=⟨iA _,λn h=>by show ni _ _ c n=_;rw[p6,if_neg<|iI h]⟩
theorem g2.bu(m:g2)(c):(m.add c).j m.f=U c:=by show ni _ _ c _=_;rw[p6,if_pos O]
theorem Cj(st:St)(c):(st.new c).cell (.j st.f)=U c:=by show ni _ _ c _=_;rw[p6,if_pos O]
noncomputable def g2.set(m:g2)(n:Nat)(c:MC):g2:=⟨ni m.j n c,m.f⟩
theorem g2.bp(m:g2)(n)(c):(m.set n c).j n=U c:=by show ni _ n c n=_;rw[p6,if_pos O]
theorem g2.cr(m:g2)(c)(h:k≠n):(m.set n c).j k=m.j k:=by show ni _ n c k=_;rw[p6,if_neg h]
theorem g2.fP(m:g2)(c)(h:k≠m.f):(m.add c).j k=m.j k:=by show ni _ _ c k=_;rw[p6,if_neg h]
theorem g2.le.set{a b:g2}(x:a.le b)(c)(h:a.f<=n):a.le<|b.set n c:=⟨x.1,λk e=>by show ni _ n c k=_;rw[p6,if_neg (by exact iI (hy e h))];exact x.2 k e⟩
theorem g2.le.at{a b:g2}(x:a.le b)(e:n<a.f)(h:a.j n=U c):b.j n=U c:=(x.2 n e).trans h
noncomputable abbrev Z.p(z:Z)(m:g2):Z:={z with x:=m}
theorem oR{st:St}(h:st.cell m=U (.m l))(p:P l):i9 (st.cell m) λc=>EZ c P:=nj h p
theorem q6{P}(h:st.cell m=U (.m l))(p:P):tz (.mut m) st P:=oK h p
theorem qk(h:st.cell m=U (.m l))(hl:l.length<1000000)(r:R .none<|st.ba m<|.m (l++[b])):AD (.mut m) b st R:=oK h<|iW hl r
theorem IY(h:st.cell m=U (.m l))(h':st.cell m'=U (.m a))(b:m≠m')(hl:l.length+a.length<=1000000)(r:R .none<|st.ba m<|.m (l++a)):oL (.mut m) (.mut m') st R:=oK h<|oK h' ⟨b,iW hl r⟩
theorem UW(h:st.cell m=U (.m l))(a:Av l=U x)(hl:x.length<=1000000)(r:R (.str x) st):AF s (.mut m) st R:=oK h<|nj a<|iW hl r
theorem UX(hm:m≠ .L)(h:st.cell m=U (.m l))(p:P (!l.isEmpty) st):kr (.mut m) st P:=by unfold kr nS;induction m with|L=>exact absurd O hm|_=>dsimp only;rw[h];exact p
theorem jH(l:Nat):decide ((l:Int)=0)=decide (l=0):=sx l 0
section
variable{C:Nat->PC}(Y:Sys C){Q:AV->St->Prop}{X:h5->St->Prop}{d:Nat}
include Y
theorem iz(z:Z)(a)(b)(f:z.G[z.o+k]?=U c)(h:Q (.str [c])<|z.aW a b):C (d+1) 690 [hf,.int k] (z.aW a b) Q X:=by
 refine Y.c O O ?_;haveI e:placeOf (z.o+k) z.G.length=U _:=by unfold placeOf;congr 1
 exact uV e f h
theorem jq(z:Z)(a)(b)(h:Q (h3 z.G z.o)<|z.aW a b):C (d+1) 713 [hf] (z.aW a b) Q X:=Y.c O O ⟨rfl,h⟩
theorem IZ(z:Z)(k)(a)(b)(h:Q .none<|z.aW a b):C (d+1) 727 [hf,k] (z.aW a b) Q X:=Y.c O O h
theorem nz(z:Z)(h:Q (.str<|(z.G.drop z.o).take k) z.h):C (d+2) 698 [hf,.int k] z.h Q X:=by
 refine Y.c O O ?_;haveI a:=by
  haveI e:oj _ _ _=U _:=by show(qQ<|.int z.o).bind (λI=>(qQ<|.int ((z.o+k:Nat))).map λJ=>Au (As z.G J) I)=_;rw[Nq];exact congrArg _<|(D8 ..).trans (by rw[Ad])
  exact nj (P:=λr=>Q _ _) e h
 exact EY (IZ Y z _ _ _ a) a
noncomputable def Z.s(z:Z)(n:Nat):Z:={z with o:=z.o+n}
noncomputable def lH(c:Nat):Prop:=c≠13/\c<127
noncomputable def UY:DS:=(.seq (.bT [2] (.sub (.cD (.j 0) 4) (.cD (.j 0) 5)))
 (.seq (.cF (.j 0) 5 .add (.aI (.int 1)))
 (.seq (.cF (.j 0) 9 .add (.aI (.int 1)))
 (.seq (.ite (.or (.Q .cg (.j 2) (.aI (.str [10,133,8232,8233]))) (.and (.Q .eq (.j 2) (.aI (.str [13]))) (.Q .b' (.sub (.cD (.j 0) 4) (.cD (.j 0) 5)) (.aI (.str [10])))))
 (.seq (.cF (.j 0) 10 .add (.aI (.int 1)))
 (.ez (.j 0) 11 (.aI (.int 0))))
 (.ite (.Q .b' (.j 2) (.aI (.str [65279])))
 (.cF (.j 0) 11 .add (.aI (.int 1)))
 .da))
 (.cR 1 .sub (.aI (.int 1)))))))
theorem UZ{k:KS}:∀n (z:Z) (a:Option AV),z.o+n<z.G.length->(∀(i:Nat) c,z.G[i]?=U c->lH c)->(∀a,k.n [U hf,U<|.int 0,a] (z.s n).h)->j0 (WE g3 (C d)<|.j 1) (WS g3 (C d) UY) k [U hf,U<|.int n,a] z.h:=by
 intro n;induction n with|zero=>intro z a hl f h;exact .turn (λj j=>False) (λj j x=>x.elim)<|h a|succ n r=>
  intro z a hl f h;exists q;obtain⟨c,b⟩:∃c,z.G[z.o]?=U c:=⟨_,oe (by exact iy<|f1 (iq (ih _ _) _)<|jD hl)⟩;refine hv (f _ _ b) λs p2=>?_;refine q<|.turn (λρ st=>∃a,ρ=[U hf,U<|.int n,a]/\st=(z.s 1).h) (λρ st ⟨m,o,p⟩=>?_) ?_;.subst o p;refine r _ _ (iy<|je<|jL (jD hl)) f λa=>?_;haveI:=h a;rw[(by unfold Z.s;dsimp only;rw[oG,nJ 1 n]:(z.s 1).s n=z.s _)];exact this
  .left;rw[show z.G[((z.o:Int)).toNat]?=U c from b];left;haveI l:(((n+1:Nat)) - 1)=(n:Int):=Int.add_sub_cancel n 1;by_cases e:c=10
   .clear zz3 e b;refine h_ (U<|.str [10]) ?_ ?_;.rw[l];rfl
    .unfold Z.s Z.h Z.aW;rw[vz b,sv b];rfl
   .rw[mc e<|mu p2];left;rw[mj s];left;rw[mj (show c≠65279 by exact iI<|iy<|f1 (jD p2) (by decide))];refine h_ (U<|.str [c]) ?_ ?_;.rw[l];rfl
    .unfold Z.s Z.h Z.aW;rw[qj b e,vB b e];rfl
theorem ky(z:Z)(hl:z.o+n<z.G.length)(e:∀(i:Nat) c,z.G[i]?=U c->lH c)(h:Q .none (z.s n).h):C (d+2) 706 [hf,.int n] z.h Q X:=by refine Y.c O O ?_;haveI a:=UZ Y (d:=d+1) (k:=⟨λb st=>Q _ st,Q,λb b=>False,λb=>X⟩) n z V hl e λb=>h;exact EY (IZ Y z _ _ _ a) a
end
end
section
open PySem
theorem I0:∀{ks},lG ks->∀q∈ks,iK q.1 ks=U q.2
 |(j,k)::r,h,q,b=>by
  dsimp only[py];rcases h7.mp b with a|b;clear zz3 a
  .rw[if_pos O]
  .haveI h':=qG.mp h;rw[if_neg λz=>h'.1 (by rw[z];exact zA.mpr ⟨q,b,rfl⟩)];exact I0 h'.2 q b
section
variable{C:Nat->PC}(Y:Sys C){Q:AV->St->Prop}{X:h5->St->Prop}{d:Nat}
include Y
noncomputable def Z.aM(z:Z):Z:={z with J:=j4 z.R z.J}
theorem q7(z:Z)(h0:∀k,iK z.R z.J=U k->k.bH=g)(h:Q .none z.aM.h):C (d+2) 848 [hf] z.h Q X:=by refine Y.c O O ?_;left;rw[q5];induction a:iK _ _ with|none=>unfold Z.aM at h;rw[Ch a]at h;exact h|some k=>left;rw[vC,a];left;rw[(h0 k a)];left;rw[q5,a];refine Eq.mp (congrArg (Q _) ?_) h;unfold Z.aM Z.h Z.aW;dsimp only;rw[<-Cf];rfl
noncomputable def fresh(B:List Nat)(p:Nat)(k:Nat×SK):Bool:=decide (ij B k.2.pos=ij B p)
noncomputable def Z.aL(z:Z):Z:={z with J:=z.J.filter (fresh z.G z.o)}
theorem U2{n}{l}:∀al ag (z:Z) a b,z.J=ag++al->lG z.J->z.o<=1000->(∀q∈al,fresh z.G z.o q=g->q.2.bH=g)->z.x.j n=U (.m l)->(∀a b,k.n [U hf,a,b] ({z with J:=ag++al.filter (fresh z.G z.o)}).h)->ll (WS g3 (C (d+1)) IB.bE) [1] (λst=>st.cell (.j n)=U (.m l)) k (al.map λq=>.int (q.1)) [U hf,a,b] z.h:=by
 intro al;induction al with|nil=>refineλag z a b c hl m i hm h=>⟨hm,?_⟩;haveI:=h a b;rw[show ag++List.filter _ []=z.J from c.symm]at this;exact this|cons s al r=>
  obtain⟨j,q⟩:=s;intro ag z a b c hl m i hm h;haveI o:=UV (by rw[<-c];exact hl);haveI p:iK j z.J=U q:=by rw[c];exact IW o.1
  refine⟨hm,?_⟩;left;rw[vC,p];left;rw[sx];by_cases f:ij z.G q.pos=ij z.G z.o;.rw[decide_eq_true f];left;rw[show decide _=g from decide_eq_false (by exact Int.not_lt.mpr<|wF (Int.sub_le_self _ (mB _)) (wD.mpr (f1 m (by decide:1000<=1024))))];refine r (ag++[(j,q)]) z _ _ (by rw[c];simp) hl m (λx hx=>i x<|.tail _ hx) hm λa b=>?_;haveI:=h a b;rw[MJ (by exact decide_eq_true f)]at this;rw[h2];exact this
  .rw[decide_eq_false f];left;rw[(i _ (.head _)<|decide_eq_false f)];left;rw[q5,p];haveI e:z.h.ba .cN (.bS<|xb j<|mi z.G z.J)=({z with J:=ag++al}).h:=by rw[Cf,c,IX o.1];rfl
   rw[e];refine r _ _ _ _ O o.2 m (λx hx=>i x<|.tail _ hx) hm λa b=>?_;haveI:=h a b;rw[MK (by unfold fresh;simpa using f)]at this;exact this
theorem I1(z:Z)(hl:lG z.J)(c:z.o<=1000)(f:∀q∈z.J,fresh z.G z.o q=g->q.2.bH=g)(h:∀m,z.x.le m->Q .none ({z.aL with x:=m}).h):C (d+2) 834 [hf] z.h Q X:=by
 refine Y.c O O ?_;left;haveI e:oh (λp:Int×AV=>AV.int p.1) (mi z.G z.J)=z.J.map λq=>AV.int (q.1):=by rw[s1];rfl
 rw[e,Cj];exact U2 Y _ [] {z with x:=z.x.add _} _ _ O hl c f (g2.bu _ _) λa b=>h _<|g2.le.add _ _
noncomputable def kP:Option Nat->lq->Option Nat|a,[]=>a|V,(_,k)::r=>kP (U k.num) r|U n,(_,k)::r=>kP (U (if k.num<n then k.num else n)) r
omit Y in
theorem I2{r:lq}:kP (U n) ((j,k)::r)=kP (U (if k.num<n then k.num else n)) r:=rfl
noncomputable def yl:Option Nat->AV|V=>.none|U n=>.int n
theorem U3(z:Z){o}(b:Option AV):∀al n a,(∀q∈al,iK q.1 z.J=U q.2)->(∀a b,k.n [U hf,U<|yl<|kP n al,a,b]<|z.h.ba .cN<|.dv o (mi z.G z.J))->∀b,ll (WS g3 (C (d+1)) IA.snd.fst.bE) [2] (λst=>st.cell .cN=U (.dv o<|mi z.G z.J)) k (al.map λq=>.int (q.1)) [U hf,U<|yl n,a,b]<|z.h.ba .cN<|.dv o (mi z.G z.J):=by
 intro al;induction al with|nil=>exactλn a c h b=>⟨rfl,h a b⟩|cons i al e=>
  obtain⟨j,q⟩:=i;intro n a c h b;haveI f:iK j _=U q:=c _<|.head _;refine⟨rfl,?_⟩;left;rw[vC,f];induction n with|none=>exact e _ _ (λx hx=>c x<|.tail _ hx) h _|some m=>
   left;by_cases hm:q.num<m;.rw[show decide _=H from decide_eq_true (by apply pd.mpr<;>right)];refine e (U _) _ (λx hx=>c x<|.tail _ hx) (λa b=>?_) _;haveI:=h a b;dsimp only[I2]at this;rw[if_pos hm]at this;exact this
   .rw[show decide _=g from decide_eq_false (by exactλh=>hm (pd.mp h))];refine e _ _ (λx hx=>c x<|.tail _ hx) (λa b=>?_) _;haveI:=h a b;dsimp only[I2]at this;rw[if_neg hm]at this;exact this
theorem U4(z:Z)(hl:lG z.J)(h:Q (yl<|kP V z.J) z.h):C (d+1) 827 [hf] z.h Q X:=by
 refine Y.c O O ?_;intro o;haveI e:oh (λp:Int×AV=>AV.int p.1) (mi z.G z.J)=z.J.map λq=>AV.int (q.1):=by rw[s1];rfl
 rw[e];refine U3 (d:=d) Y z V _ V _ (I0 hl) (λa b=>?_) _;exact⟨rfl,h⟩
noncomputable def lu(c:Int)(mk:Tk):Int->List Int->List Tk->Int×List Int×List Tk|i,[],t=>(i,[],t)|i,j::r,t=>if c<i then lu c mk j r (t++[mk])else(i,j::r,t)
omit Y in
theorem vD:lu c mk i (j::r) t=if c<i then lu c mk j r (t++[mk])else(i,j::r,t):=rfl
noncomputable def nW:Int->List Int->Prop|i,[]=>i= -1|i,j::r=>nW j r
noncomputable def Z.aN(z:Z)(c:Int):Z:=if z.R=0 then let q:=lu c (.k 227 z.o z.o) z.ad z.aS z.I;{z with ad:=q.1,aS:=q.2.1,I:=q.2.2}else z
theorem U5{c}(t: -1<=c):∀b (z:Z) a,z.aS=b->nW z.ad b->z.I.length+b.length<=100000->(∀a,k.n [U hf,U<|.int c,a] (let q:=lu c (.k 227 z.o z.o) z.ad b z.I;({z with ad:=q.1,aS:=q.2.1,I:=q.2.2})).h)->j0 (WE g3 (C (d+1))<|.Q .gt (.cD (.j 0) 16)<|.j 1) (WS g3 (C (d+1)) ID.snd.bE) k [U hf,U<|.int c,a] z.h:=by
 intro b;induction b with|nil=>refineλz a i m l h=>.turn (λe e=>False) (λe e x=>x.elim) ?_;left;haveI n:z.ad= -1:=m;rw[show decide _=g from decide_eq_false (by exactλh=>Int.not_lt.mpr t (n▸h))];haveI:=h a;rw[show lu c _ _ _ _=(z.ad,z.aS,z.I)by rw[i];rfl]at this;exact this|cons j r w=>
  intro z a i m l h;by_cases f:c<z.ad
  .refine .turn (λρ st=>∃a,ρ=[U hf,U<|.int c,a]/\st=({z with ad:=j,aS:=r,I:=z.I++[.k 227 z.o z.o]}:Z).h) (λρ st ⟨o,p,s⟩=>?_) ?_;.subst p s;refine w _ o O m (by simp at l ⊢;exact jL<|je l) λa=>?_;haveI:=h a;dsimp only[vD]at this;rw[if_pos f]at this;exact this
   .left;rw[show decide _=H from decide_eq_true f];refine jq Y z _ _ ?_;left;rw[i,la];refine⟨rfl,?_⟩;refine iW ?_ ⟨U _,rfl,?_⟩;.rw[ig];exact f1 (hJ (jv _ _) _)<|f1 l (by decide)
    .rw[lb];unfold Z.h Z.aW;rw[k4];rfl
  .refine .turn (λe e=>False) (λe e x=>x.elim) ?_;left;rw[show decide _=g from decide_eq_false f];haveI:=h a;dsimp only[vD]at this;rw[if_neg f,<-i]at this;exact this
theorem Cn(z:Z)(b: -1<=c)(e:nW z.ad z.aS)(f:z.I.length+z.aS.length<=100000)(h:Q .none (z.aN c).h):C (d+2) 855 [hf,.int c] z.h Q X:=by
 refine Y.c O O ?_;left;rw[jH];unfold Z.aN at h;by_cases a:z.R=0;.rw[decide_eq_true a];rw[if_pos a]at h;exact U5 Y b _ z _ O e f λi=>h
 .rw[decide_eq_false a];rw[if_neg a]at h;exact h
noncomputable def Z.bf(z:Z)(c:Int):Z:=if z.ad<c then{z with ad:=c,aS:=z.ad::z.aS}else z
theorem I3(z:Z)(b:z.aS.length<=100000)(h:Q (.bool<|decide (z.ad<c)) (z.bf c).h):C (d+1) 862 [hf,.int c] z.h Q X:=by
 refine Y.c O O ?_;unfold Z.bf at h;left;by_cases a:z.ad<c;.rw[decide_eq_true a]at h ⊢;rw[if_pos a]at h;refine iW (by simp;apply f1<;>right)<|Eq.mp (congrArg (Q _) ?_) h;unfold Z.h Z.aW;rw[z6,k4];rfl
 .rw[decide_eq_false a]at h ⊢;rw[if_neg a]at h;exact h
noncomputable def Z.cZ(z:Z):SK:=⟨z.aG+z.I.length,decide (z.R=0)&&decide (z.ad=ir z.G z.o),z.o⟩
noncomputable def Z.M(z:Z):Z:=if z.ask then{z with J:=j4 z.R z.J++[(z.R,z.cZ)]}else z
theorem tR(z:Z)(hl:lG z.J)(i:z.J.length<=100000)(h0:∀k,iK z.R z.J=U k->k.bH=g)(h:Q .none z.M.h):C (d+3) 841 [hf] z.h Q X:=by
 refine Y.c O O ?_;haveI a:∀r,r=z.cZ.bH->WS g3 (C (d+2)) (DS.snd IC) [U hf,U<|.bool r,V,V] z.h ⟨λc=>Q .none,Q,λc c=>False,λc=>X⟩:=by
  intro r j;left;induction f:z.ask with|false=>unfold Z.M at h;rw[f]at h;exact h|true=>
   unfold Z.M at h;rw[if_pos f]at h;refine q7 Y z h0<|jq Y _ _ _ ⟨rfl,?_⟩;haveI e:AV.obj _ _ [.int (↑z.aM.aG+↑(oh (Tk.bo z.aM.G) z.aM.I).length),.bool r,.int _,.int ↑(ij _ z.aM.o),.int ↑(ir _ z.aM.o),h3 z.aM.G _]=z.cZ.bo _:=by rw[ig,j];rfl
   refine iW ?_ ?_;.haveI:=Ci (l:=z.R) (ks:=z.J);rw[ig];exact f1 (h9 (f1 this i)<|g' _) (by decide)
   .rw[e];refine Eq.mp (congrArg _ ?_) h;unfold Z.h Z.aW;rw[<-UT _ _ _ _<|IV hl];rfl
 left;rw[jH];by_cases b:z.R=0;.rw[decide_eq_true b];refine a _ ?_;unfold Z.cZ;rw[decide_eq_true b];rfl
 .rw[decide_eq_false b];refine a _ ?_;unfold Z.cZ;rw[decide_eq_false b];rfl
end
end
section
open PySem
structure h6 (z:Z):Prop where
 a3:lG z.J
 ad:nW z.ad z.aS
 dy:z.I.length+z.aS.length+z.J.length+8*(z.G.length - z.o)<=9000
 b9:z.G.length<=1000
 bv:∀(i:Nat) c,z.G[i]?=U c->lH c
 cU:z.o<z.G.length
theorem h6.eZ(a:h6 z):z.I.length+z.aS.length<=9000:=lW<|lW a.dy
theorem h6.bc(a:h6 z):z.I.length<=9000:=lW a.eZ
theorem h6.dN(a:h6 z):z.I.length+1<=1000000:=up a.bc (by decide)
theorem h6.gh(a:h6 z):z.aS.length<=100000:=f1 (f1 (jv _ _) a.eZ) (by decide)
theorem h6.e0(a:h6 z):z.J.length<=100000:=f1 (f1 (jv _ _)<|lW a.dy) (by decide)
noncomputable def Z.aR(z:Z)(t:Tk):Z:={z with I:=z.I++[t]}
noncomputable def Z.ab(z:Z)(b:Bool):Z:={z with ask:=b}
theorem I4(z:Z)(t)(a)(b):(z.aR t).aW a b=(z.aW a b).ba .I (.m (z.I.map (Tk.bo z.G)++[t.bo z.G])):=by unfold Z.aR Z.aW;dsimp only;rw[k4];rfl
theorem nX(z:Z)(t):(z.aR t).h=(z.aW g<|.mut .cN).ba .I (.m (z.I.map (Tk.bo z.G)++[t.bo z.G])):=I4 z t _ _
theorem U6(c)(t):∀r i l,(lu c t i r l).2.2.length+(lu c t i r l).2.1.length=l.length+r.length:=by
 intro r;induction r with|nil=>exactλ_ _=>rfl|cons j r a=>
  intro i l;dsimp only[vD];by_cases h:c<i;.rw[if_pos h,a];simp;apply iU<;>right
  .rw[if_neg h]
theorem I5(c)(t):∀r i l,nW i r->nW (lu c t i r l).1 (lu c t i r l).2.1:=by
 intro r;induction r with|nil=>exactλ_ _ h=>h|cons j r a=>
  intro i l h;dsimp only[vD];by_cases q:c<i;.rw[if_pos q];exact a j _ h
  .rw[if_neg q];exact h
theorem ym(z:Z)(c):(z.aN c).I.length+(z.aN c).aS.length=z.I.length+z.aS.length:=by
 unfold Z.aN;split;.exact U6 c _ _ _ _
 .rfl
theorem q8(z:Z)(c):(z.aN c).J=z.J/\(z.aN c).R=z.R/\(z.aN c).G=z.G/\(z.aN c).o=z.o/\(z.aN c).x=z.x/\(z.aN c).ask=z.ask/\(z.aN c).aG=z.aG:=by unfold Z.aN;split<;>exact⟨rfl,rfl,rfl,rfl,rfl,rfl,rfl⟩
theorem yn{α:Type}{c}[Decidable c]{a b}{P:α->Prop}(h1:c->P a)(e:¬c->P b):P (if c then a else b):=by
 split;.exact h1 ‹_›
 .exact e ‹_›
section
variable{C:Nat->PC}(Y:Sys C){Q:AV->St->Prop}{X:h5->St->Prop}{d:Nat}
include Y
noncomputable def Z.dO(z:Z):Z:=((z.aN (-1)).aM.ab g).aR (.k 191 z.o z.o)
theorem U7(z)(l:h6 z)(h0:∀k,iK z.R z.J=U k->k.bH=g)(h:∀m pk,z.x.le m->Q .none (({z.dO with x:=m}:Z).aW H pk)):C (d+3) 876 [hf] z.h Q X:=by
 refine lD (q8 z (-1)) λa b f c e i j=>Y.c O O<|Cn Y z (by decide) l.ad (f1 l.eZ (by decide))<|q7 Y _ (by rw[a,b];exact h0)<|jq Y ({(z.aN _).aM.ab g with x:=(z.aN (-1)).x.add<|.bS []}) _ (.mut<|.j (z.aN _).x.f) ?_;refine⟨rfl,?_⟩;refine iW ?_ ?_;.rw[ig];exact up (f1 (lW<|im<|ym z (-1)) l.eZ) (by decide)
 .haveI h':Q _<|(({(z.aN _).aM.ab _ with x:=(z.aN _).x.add _}).aR _).aW _<|.mut (.j (z.aN (-1)).x.f):=h ((z.aN _).x.add<|.bS []) _ (by rw[e];exact g2.le.add _ _);rw[I4]at h';rw[<-c]at h';exact h'
noncomputable def Z.cs(z:Z)(C:Nat):Z:=(((z.aN (-1)).aM.ab g).s 3).aR (.k C z.o (z.o+3))
theorem I6(z)(hK:g3.cm K=U [26,27])(m:h6 z)(h0:∀k,iK z.R z.J=U k->k.bH=g)(f:z.o+3<z.G.length)(h:Q .none (z.cs K).h):C (d+3) 904 [hf,.val<|.ref K] z.h Q X:=by
 refine lD (q8 z (-1)) λc e a b i j l=>Y.c O O<|Cn Y z (by decide) m.ad (f1 m.eZ (by decide))<|q7 Y _ (by rw[c,e];exact h0)<|jq Y ((z.aN _).aM.ab g) _ _<|ky Y _ (n:=3) (by rw[a,b];exact f) (by rw[a];exact m.bv)<|jq Y _ _ _ ?_;left;rw[hK];left;rw[hK];refine⟨rfl,?_⟩;refine iW ?_ ?_;.rw[ig];exact up (f1 (lW<|im<|ym z (-1)) m.eZ) (by decide)
 .rw[nX]at h;rw[<-b]at h;exact h
theorem U8(z)(b:h6 z)(h0:∀k,iK z.R z.J=U k->k.bH=g)(a:z.o+3<z.G.length)(h:Q .none (z.cs 147).h):C (d+4) 890 [hf] z.h Q X:=Y.c O O<|I6 Y z O b h0 a h
theorem U9(z)(b:h6 z)(h0:∀k,iK z.R z.J=U k->k.bH=g)(a:z.o+3<z.G.length)(h:Q .none (z.cs 159).h):C (d+4) 897 [hf] z.h Q X:=Y.c O O<|I6 Y z O b h0 a h
noncomputable def Z.a3(z:Z)(f:Nat)(b:Bool):Z:={z with R:=f,ask:=b}
omit Y in
theorem pz(z:Z):z.M.o=z.o/\z.M.G=z.G/\z.M.R=z.R/\z.M.I=z.I/\z.M.J.length<=z.J.length+1/\z.M.aS=z.aS/\z.M.ad=z.ad:=by refine yn (P:=λy:Z=>y.o=z.o/\y.G=z.G/\y.R=z.R/\y.I=z.I/\y.J.length<=z.J.length+1/\y.aS=z.aS/\y.ad=z.ad) (λa=>⟨rfl,rfl,rfl,rfl,?_,rfl,rfl⟩) λa=>⟨rfl,rfl,rfl,rfl,iA _,rfl,rfl⟩;haveI:=Ci (l:=z.R) (ks:=z.J);simp only[hz,mT,uD];apply lC<;>right
noncomputable def Z.dm(z:Z)(K:Nat):Z:=((z.M.a3 (z.R+1) H).s 1).aR (.k K z.o (z.o+1))
theorem I7(z)(hK:g3.cm K=U [26,27])(m:h6 z)(h0:∀k,iK z.R z.J=U k->k.bH=g)(f:z.o+1<z.G.length)(h:Q .none (z.dm K).h):C (d+4) 925 [hf,.val<|.ref K] z.h Q X:=by
 refine kL (pz z) λa b c e i=>hv i λj l=>Y.c O O<|tR Y z m.a3 m.e0 h0<|jq Y (z.M.a3 _ H) _ _<|ky Y _ (by show z.M.o+1<z.M.G.length;rw[a,b];exact f) (by rw[b];exact m.bv)<|jq Y _ _ _ ?_;left;rw[hK];left;rw[hK];refine⟨rfl,?_⟩;refine iW ?_ ?_;.rw[ig];rw[e];exact m.dN
 .rw[nX]at h;rw[<-a,<-c]at h;exact h
theorem U_(z)(b:h6 z)(h0:∀k,iK z.R z.J=U k->k.bH=g)(a:z.o+1<z.G.length)(h:Q .none (z.dm 239).h):C (d+5) 911 [hf] z.h Q X:=Y.c O O<|I7 Y z O b h0 a h
theorem U'(z)(b:h6 z)(h0:∀k,iK z.R z.J=U k->k.bH=g)(a:z.o+1<z.G.length)(h:Q .none (z.dm 251).h):C (d+5) 918 [hf] z.h Q X:=Y.c O O<|I7 Y z O b h0 a h
noncomputable def Z.dz(z:Z)(K:Nat):Z:=((z.aM.a3 (z.R - 1) g).s 1).aR (.k K z.o (z.o+1))
theorem I8(z)(hK:g3.cm K=U [26,27])(e:h6 z)(b:0<z.R)(h0:∀k,iK z.R z.J=U k->k.bH=g)(c:z.o+1<z.G.length)(h:Q .none (z.dz K).h):C (d+3) 946 [hf,.val<|.ref K] z.h Q X:=by
 haveI a:(z.aM.R - 1)=((z.R - 1:Nat):Int):=tt b;refine Y.c O O<|q7 Y z h0 ?_;left;rw[a];refine jq Y (z.aM.a3 _ g) _ _<|ky Y _ c e.bv<|jq Y ((z.aM.a3 _ _).s 1) _ _ ?_;left;rw[hK];left;rw[hK];refine⟨rfl,?_⟩;refine iW ?_ ?_;.rw[ig];exact e.dN
 .rw[nX]at h;exact h
theorem Va(z)(c:h6 z)(a:0<z.R)(h0:∀k,iK z.R z.J=U k->k.bH=g)(b:z.o+1<z.G.length)(h:Q .none (z.dz 263).h):C (d+4) 932 [hf] z.h Q X:=Y.c O O<|I8 Y z O c a h0 b h
theorem Vb(z)(c:h6 z)(a:0<z.R)(h0:∀k,iK z.R z.J=U k->k.bH=g)(b:z.o+1<z.G.length)(h:Q .none (z.dz 275).h):C (d+4) 939 [hf] z.h Q X:=Y.c O O<|I8 Y z O c a h0 b h
noncomputable def Z.e1(z:Z):Z:=((z.ab H).aM.s 1).aR (.k 323 z.o (z.o+1))
theorem Vc(z)(b:h6 z)(h0:∀k,iK z.R z.J=U k->k.bH=g)(a:z.o+1<z.G.length)(h:Q .none z.e1.h):C (d+3) 953 [hf] z.h Q X:=by
 refine Y.c O O<|q7 Y (z.ab H) h0<|jq Y _ _ _<|ky Y _ a b.bv<|jq Y ((z.ab _).aM.s 1) _ _ ⟨rfl,?_⟩;refine iW ?_ ?_;.rw[ig];exact b.dN
 .rw[nX]at h;exact h
end
end
section
open PySem
theorem q9(z:Z)(c):(z.bf c).o=z.o/\(z.bf c).G=z.G/\(z.bf c).R=z.R/\(z.bf c).I=z.I/\(z.bf c).J=z.J/\(z.bf c).aS.length<=z.aS.length+1/\(z.bf c).aG=z.aG/\(z.bf c).x=z.x/\(z.bf c).ask=z.ask:=by
 unfold Z.bf;split;.exact⟨rfl,rfl,rfl,rfl,rfl,g' _,rfl,rfl,rfl⟩
 .exact⟨rfl,rfl,rfl,rfl,rfl,iA _,rfl,rfl,rfl⟩
noncomputable def Z.bd(z:Z):Z:=if z.R=0/\z.ad<ir z.G z.o then(z.bf (ir z.G z.o)).aR (.k 203 z.o z.o)else z
theorem Vf(z:Z):z.bd.o=z.o/\z.bd.G=z.G/\z.bd.R=z.R/\z.bd.J=z.J/\z.bd.I.length<=z.I.length+1:=by
 unfold Z.bd;refine lD (q9 z<|ir z.G z.o) λa b c e f i h=>i5 h λj k l=>?_;split;.refine oi a b c f ?_;show((z.bf _).I++[_]).length<=_;rw[e];simp
 .exact oi O O O O<|iA _
noncomputable def Z.dP(z:Z):Z:=((z.bd.ab H).aM.s 1).aR (.k 311 z.o (z.o+1))
section
variable{C:Nat->PC}(Y:Sys C){Q:AV->St->Prop}{X:h5->St->Prop}{d:Nat}
include Y
theorem Vg(z)(G:h6 z)(r:z.R=0->z.ask=H)(h0:∀k,iK z.R z.J=U k->k.bH=g)(s:z.o+1<z.G.length)(h:Q .none z.dP.h):C (d+3) 960 [hf] z.h Q X:=by
 refine kL (Vf z) λi j l m n=>?_;have b:∀a,WS g3 (C (d+2)) IE.snd [U hf,V,V,a] z.bd.h ⟨λf st=>Q .none st,Q,λf f=>False,λf=>X⟩:=by
  refineλa=>q7 Y (z.bd.ab H) (by rw[l,m];exact h0)<|jq Y _ _ _<|ky Y _ (by rw[i,j];exact s) (by rw[j];exact G.bv)<|jq Y ((z.bd.ab _).aM.s 1) _ _ ⟨rfl,?_⟩;refine iW ?_ ?_;.rw[ig];exact up (f1 n<|lC G.bc) (by decide)
  .rw[nX]at h;rw[<-i]at h;exact h
 refine Y.c O O ?_;left;rw[jH];by_cases e:z.R=0
 .rw[decide_eq_true e];left;rw[r e];refine I3 Y z G.gh ?_;by_cases c:z.ad<ir z.G z.o
  .rw[decide_eq_true c];refine lD (q9 z<|ir z.G z.o) λo w x p y A t=>i5 t λB D E=>jq Y _ _ _ ⟨rfl,?_⟩;refine iW ?_ ?_;.rw[ig,p];exact G.dN
   .haveI k2:=b<|U<|h3 (z.bf (ir z.G z.o)).G z.o;unfold Z.bd at k2;rw[if_pos ⟨e,c⟩,nX]at k2;rw[o];exact k2
  .rw[decide_eq_false c,show z.bf _=z from if_neg c];haveI k2:=b V;unfold Z.bd at k2;rw[if_neg λq=>c q.2]at k2;exact k2
 .rw[decide_eq_false e];haveI k2:=b V;unfold Z.bd at k2;rw[if_neg λq=>e q.1]at k2;exact k2
noncomputable def Z.e2(z:Z):Z:=((z.ab g).aM.s 1).aR (.k 287 z.o (z.o+1))
theorem Vh(z)(e:h6 z)(b:0<z.R)(h0:∀k,iK z.R z.J=U k->k.bH=g)(c:z.o+1<z.G.length)(h:Q .none z.e2.h):C (d+3) 967 [hf] z.h Q X:=by
 haveI a:=decide_eq_false<|iP b;refine Y.c O O ?_;left;rw[jH,a];left;rw[jH,a];refine q7 Y (z.ab g) h0<|jq Y _ _ _<|ky Y _ c e.bv<|jq Y ((z.ab _).aM.s 1) _ _ ⟨rfl,?_⟩;refine iW ?_ ?_;.rw[ig];exact e.dN
 .rw[nX]at h;exact h
omit Y in
theorem Vi(f:Tk->AV)(n)(t)(l:List Tk):(l.map f).take n++f t::(l.map f).drop n=(l.take n++t::l.drop n).map f:=by simp
noncomputable def Z.br(z:Z)(k:SK):Z:={z with J:=j4 z.R z.J,I:=z.I.take (k.num - z.aG)++.k 287 k.pos k.pos::z.I.drop (k.num - z.aG)}
noncomputable def Z.bB(z:Z)(k:SK):Z:=if z.R=0/\z.ad<ir z.G k.pos then
 let y:=(z.br k).bf (ir z.G k.pos)
 {y with I:=y.I.take (k.num - z.aG)++.k 215 k.pos k.pos::y.I.drop (k.num - z.aG)}
 else z.br k
noncomputable def Z.d5(z:Z)(k:SK):Z:=(((z.bB k).ab g).s 1).aR (.k 299 z.o (z.o+1))
omit Y in
theorem I9(z:Z)(k):(z.bB k).o=z.o/\(z.bB k).G=z.G/\(z.bB k).R=z.R/\(z.bB k).J=j4 z.R z.J/\(z.bB k).I.length<=z.I.length+2:=by
 haveI l1:(z.br k).I.length=z.I.length+1:=qN _ _ _;unfold Z.bB;refine lD (q9 (z.br k)<|ir z.G k.pos) λa b c e f i h=>i5 h λj l m=>?_;split;.refine oi a b c f ?_;rw[qN,e,l1];exact g' _
 .exact oi O O O O<|jw<|im l1
omit Y in
theorem Vj(z:Z)(k):z.I.length<=(z.bB k).I.length:=by
 haveI l1:(z.br k).I.length=z.I.length+1:=qN _ _ _;haveI l2:=f1 (iA _)<|im l1.symm;unfold Z.bB;split;.show _<=(_++_::_).length;rw[qN,(q9 _ _).2.2.2.1];exact jw l2
 .exact l2
omit Y in
theorem I_(z:Z){n:Nat}{i:Int}(t)(c:i=n)(b:a=t.bo z.G)(e:n<=z.I.length)(hl:z.I.length<=100000)(h:R .none ({z with I:=z.I.take n++t::z.I.drop n}).h):AE (.mut .I) (.int i) a z.h R:=by subst c b;refine⟨by apply mB<;>right,by rw[ig];exact e,iW (by rw[ig];apply lB<;>right) ?_⟩;rw[Vi];exact h
theorem Vk(z)(G:h6 z)(f:iK z.R z.J=U k)(e:z.aG<=k.num/\k.num - z.aG<=z.I.length)(r:z.o+1<z.G.length)(h:Q .none (z.d5 k).h):C (d+3) 974 [hf] z.h Q X:=by
 refine kL (I9 z k) λj l t w n=>?_;have a:WS g3 (C (d+2)) IF.snd [U hf,V,V,U<|k.bo z.G,V] ((z.bB k).ab g).h ⟨λi st=>Q .none st,Q,λi i=>False,λi=>X⟩:=by
  refine jq Y _ _ _<|ky Y _ (by rw[j,l];exact r) (by rw[l];exact G.bv)<|jq Y (((z.bB k).ab _).s 1) _ _ ⟨rfl,?_⟩;refine iW ?_ ?_;.rw[ig];exact up (f1 n<|iq G.bc 2) (by decide)
  .rw[nX]at h;rw[<-j]at h;exact h
 refine Y.c O O ?_;left;rw[q5,f];left;rw[vC,f];left;rw[q5,f];rw[Cf];refine⟨rfl,?_⟩;refine I_ {z with J:=j4 _ _} (.k _ _ _) (tt e.1) O e.2 (f1 G.bc (by decide)) ?_;haveI l1:(z.br k).I.length=z.I.length+1:=qN _ _ _;refine(?_:_->_) (rfl:({z with J:=j4 _ _,I:=z.I.take _++.k _ _ _::z.I.drop _})=z.br k);intro _;left;rw[jH];by_cases c:z.R=0
 .rw[decide_eq_true c];refine I3 Y (z.br k) G.gh ?_;by_cases b:z.ad<ir z.G k.pos
  .rw[show decide ((z.br k).ad<_)=H from decide_eq_true b];refine⟨rfl,?_⟩;refine lD (q9 (z.br k)<|ir z.G k.pos) λx o y m A B s=>i5 s λp D E=>I_ _ (.k 215 k.pos k.pos) ?_ ?_ (by rw[m,l1];exact jw e.2) (by rw[m,l1];exact up G.bc (by decide)) ?_;.rw[p];exact tt e.1
   .rw[o];rfl
   .haveI k2:=a;unfold Z.bB at k2;rw[if_pos ⟨c,b⟩]at k2;exact k2
  .rw[show decide ((z.br k).ad<_)=g from decide_eq_false b,show(z.br k).bf _=z.br k from if_neg b];haveI k2:=a;unfold Z.bB at k2;rw[if_neg λq=>b q.2]at k2;exact k2
 .rw[decide_eq_false c];haveI k2:=a;unfold Z.bB at k2;rw[if_neg λq=>c q.1]at k2;exact k2
noncomputable def Z.e3(z:Z):Z:=((z.ab g).s 1).aR (.k 299 z.o (z.o+1))
theorem Vl(z)(i:h6 z)(a:iK z.R z.J=V)(c:0<z.R)(f:z.o+1<z.G.length)(h:Q .none z.e3.h):C (d+3) 974 [hf] z.h Q X:=by
 haveI b:=decide_eq_false<|iP c;refine Y.c O O ?_;left;rw[q5,a];left;rw[jH,b];left;rw[jH,b];left;rw[jH,b];refine q7 Y _ (by intro k e;rw[show iK (z.ab g).R _=V from a]at e;cases e) ?_;rw[show(z.ab _).aM=z.ab _ from by unfold Z.aM;rw[show j4 _ _=(z.ab g).J from Ch a]];refine jq Y _ _ _<|ky Y _ f i.bv<|jq Y ((z.ab _).s 1) _ _ ⟨rfl,?_⟩;refine iW ?_ ?_;.rw[ig];exact i.dN
 .rw[nX]at h;exact h
end
end
section
open PySem
theorem nA(a b):qO [a] [b]=decide (a<=b):=by
 show(if a=b then qO _ _ else decide (a<b))=_;by_cases h:a=b;.subst h;rw[if_pos O,decide_eq_true<|g' _];rfl
 .rw[if_neg h];by_cases q:a<b;.rw[decide_eq_true q,decide_eq_true<|iN q]
  .rw[decide_eq_false q,decide_eq_false λc=>q<|L0 c h]
noncomputable def Wd(B:List Nat)(p n:Nat):Prop:=∀i,i<n->∃c,B[p+i]?=U c/\97<=c/\c<=122
theorem Wd.el(w:Wd B p (n+1)):∃c,B[p]?=U c/\97<=c/\c<=122:=w 0 (by apply jv<;>right)
theorem Wd.cq(w:Wd B p (n+1)):Wd B (p+1) n:=λi a=>by obtain⟨c,h⟩:=w (i+1) (by apply wR<;>right);exact⟨c,by rw[oG,nJ 1 i];exact h⟩
noncomputable def jn(e:Nat):Prop:=e=0\/e=32\/e=10
theorem tS(h:97<=c/\c<=122){l}(hl:(l.all λx=>pT x 97||pT 122 x)=H):i8 c l=false:=yj λx hx e=>Or.elim (s_.mp (e▸mC.mp hl x hx)) (λk=>Ac h.1<|kC k) λk=>Ac h.2<|kC k
section
variable{C:Nat->PC}(Y:Sys C){Q:AV->St->Prop}{X:h5->St->Prop}{d:Nat}
include Y
theorem Vm(z:Z)(j l a3 a6 m a8){e}(he:jn e):∀n i c,z.G[z.o+i]?=U c->Wd z.G (z.o+i) n->z.G[z.o+(i+n)]?=U e->k.n [U hf,j,l,a3,U<|.int (i+n:Nat),U<|.str [e],a6,m,a8] z.h->j0 (WE g3 (C (d+1))<|.or (.cb .le .le (.aI<|.str [48]) (.j 5)<|.aI (.str [57]))<|.or (.cb .le .le (.aI (.str [65])) (.j 5) (.aI (.str [90]))) (.or (.cb .le .le (.aI (.str [97])) (.j 5) (.aI (.str [122]))) (.Q .cg (.j 5) (.aI (.str [45,95]))))) (WS g3 (C (d+1))<|.seq (.cR 4 .add<|.aI (.int 1))<|.bT [5] (.bX 690 (.j 0) (.cons (.j 4) .nil))) k [U hf,j,l,a3,U<|.int i,U<|.str [c],a6,m,a8] z.h:=by
 intro n;induction n with
 |zero=>
  intro i c o w hs h;clear zz3 (by rw[o]at hs;exact io hs:c=e);refine .turn (λf f=>False) (λf f x=>x.elim) ?_;rcases he with rfl|rfl|rfl
  .exact h
  .exact h
  .exact h
 |succ n s=>
  refineλi c o w hs h=>jB w.el λB h1 a p=>?_;have r:=by rw[o]at h1;exact(io h1).symm
  clear zz3 r p a;obtain⟨c2,b⟩:∃c2,z.G[z.o+(i+1)]?=U c2:=by refine wY λA q=>?_;induction n with|zero=>exact q e hs|succ n=>exact hc w.cq.el λc2 b f=>q c2 b
  refine .turn (λρ st=>ρ=[U hf,j,l,a3,U<|.int (i+1:Nat),U<|.str [c2],a6,m,a8]/\st=z.h) (λρ st ⟨t,y⟩=>?_) ?_;.subst t y;refine s _ c2 b w.cq (by rw[show i+1+n=i+(n+1)by apply iU<;>right];exact hs) ?_;rw[show i+1+n=i+(n+1)by apply iU<;>right];exact h
  .left;rw[nA,decide_eq_true<|f1 (by decide) a];left;rw[nA,decide_eq_false (z7<|iy<|f1 (by decide) a)];left;rw[nA,decide_eq_true<|f1 (by decide) a];left;rw[nA,decide_eq_false (z7<|iy<|f1 (by decide) a)];left;rw[nA,decide_eq_true a];left;rw[nA,decide_eq_true p];exact iz Y z _ _ b ⟨rfl,rfl⟩
noncomputable def Z.gX(z:Z)(K n:Nat):Z:=(z.s (n+1)).aR (.val K (.str ((z.G.drop (z.o+1)).take n)) z.o (z.o+(n+1)))
theorem Vn(z:Z){K n e}(hK:g3.cm K=U [28,26,27])(t:∀(i:Nat) c,z.G[i]?=U c->lH c){c}(x:z.G[z.o]?=U c)(q:c=42\/c=38)(y:0<n)(w:Wd z.G (z.o+1) n)(he:jn e)(hs:z.G[z.o+1+n]?=U e)(h:Q (Tk.bo z.G<|.val K (.str<|(z.G.drop (z.o+1)).take n) z.o (z.o+(n+1))) (z.s (n+1)).h):C (d+3) 1163 [hf,.val<|.ref K] z.h Q X:=by
 haveI s:=(i2.mp hs).1;refine hE (w 0 y) λc1 w1=>?_;have o:∀a,WS g3 (C (d+2)) IH.snd.snd.snd [U hf,U<|.val<|.ref K,U<|h3 z.G z.o,U<|.str [c],V,V,V,V,U a] z.h ⟨λr st=>Q .none st,Q,λr r=>False,λr=>X⟩:=by
  refineλa=>ky Y z (n:=1) ((iy<|f1 (iq (ih _ _) _)<|jD s)) t<|iz Y _ _ _ w1.1<|Vm Y _ _ _ _ _ _ _ he n 0 c1 w1.1 w (by rw[mU];exact hs) ?_;rw[mU];left;rw[jH,decide_eq_false (by apply iP<;>right)];refine nz Y _<|ky Y _ s t<|iz Y _ _ _ hs ?_;have p:C (d+2) 713 [hf] ((z.s 1).s n).h (λb st=>WE g3 (C (d+2)) (.et 1<|.cons (.j 6)<|.cons (.j 2) (.cons (.j 7) .nil)) [U hf,U<|.val<|.ref K,U<|h3 z.G z.o,U<|.str [c],U<|.int n,U<|.str [e],U<|.str<|(z.G.drop (z.o+1)).take n,U b,U a] st Q X) X:=by
   refine jq Y _ _ _ ?_;left;rw[hK];left;rw[hK];refine⟨rfl,?_⟩;have:(z.s 1).s n=z.s (n+1):=by unfold Z.s;dsimp only;rw[oG,nJ 1 n]
   rw[this];exact h
  rcases he with f|j|k;clear zz3 f;rotate_left 1;clear zz3 j;rotate_right 1;rotate_left 2;clear zz3 k;rotate_right 2
  .exact p
  .exact p
  .exact p
 refine Y.c O O<|jq Y z _ _<|iz Y z _ _ x ?_;rcases q with l|m;clear zz3 l o;rotate_left 1;clear zz3 m o;. exact o _
 .exact o _
noncomputable def Z.dn(z:Z)(K n:Nat):Z:=(z.M.ab g).gX K n
omit Y in
theorem I'(z)(I:h6 z)(b):lG (z.M.ab b).J/\nW (z.M.ab b).ad (z.M.ab b).aS/\(z.M.ab b).I.length+(z.M.ab b).aS.length+(z.M.ab b).J.length+8*((z.M.ab b).G.length - (z.M.ab b).o)<=9001:=by
 refine lD (pz z) λt w E x G p A=>?_;haveI os:=I.dy;refine jZ ?_ ?_ ?_
 .refine yn (P:=λy:Z=>lG y.J) (λs=>?_) λs=>I.a3;haveI D:=IV I.a3 (l:=z.R);haveI sub:∀{ks},lG ks->lG (j4 _ ks)/\∀a∈(j4 z.R ks).map _,a∈ks.map (·.1):=by
   intro ks;induction ks with|nil=>exactλ_=>⟨Eo,λs h=>h⟩|cons q r i=>
    obtain⟨j,k⟩:=q;intro h;haveI h':=qG.mp h;dsimp only[sw];by_cases e:j=z.R;.rw[if_pos e];exact⟨h'.2,λa=>.tail _⟩
    .rw[if_neg e];refine⟨qG.mpr ⟨λm=>h'.1<|(i h'.2).2 _ m,(i h'.2).1⟩,λa f=>?_⟩;rcases h7.mp f with c|f;clear zz3 c
     .exact .head _
     .exact .tail _<|(i h'.2).2 a f
  haveI o:∀{ks} {l},iK l ks=V->l∉ks.map (·.1):=by
   intro ks l;induction ks with
   |nil=>intro _ m;cases m
   |cons q r i=>
    obtain⟨j,k⟩:=q;intro h m;dsimp only[py]at h;by_cases e:j=l;.rw[if_pos e]at h;cases h
    .rw[if_neg e]at h;rcases h7.mp m with z|m
     .exact e z.symm
     .exact i h m
  show(oh _ _).Nodup;rw[k4];refine rQ.mpr ⟨(sub I.a3).1,by simp,λa f b B=>?_⟩;haveI n:=by simpa using B
  subst n;exactλz=>o D (z▸f)
 .show nW z.M.ad _;rw[p,A];exact I.ad
 .show z.M.I.length+z.M.aS.length+z.M.J.length+8*(z.M.G.length - z.M.o)<=9001;rw[t,w,x,p];exact jL<|f1 (hJ G _)<|Nat.succ_le_succ<|jL os
theorem Ja(z)(t:f=981/\K=342\/f=988/\K=361)(G:h6 z)(h0:∀k,iK z.R z.J=U k->k.bH=g)(s:z.G[z.o]?=U c)(m:c=42\/c=38)(x:0<n)(w:Wd z.G (z.o+1) n)(he:jn e)(hs:z.G[z.o+1+n]?=U e)(h:Q .none (z.dn K n).h):C (d+4) f [hf] z.h Q X:=by
 refine kf λp=>kL (pz z) λb a B q A=>hv A λD E=>?_;haveI vF:∀l,l (Tk.bo z.G<|.val K (.str<|(z.G.drop (z.o+1)).take n) z.o (z.o+(n+1))) ((z.M.ab g).s (n+1)).h->g3.cm K=U _->C (d+3) _ _ (z.M.ab _).h l X:=by refineλl y hK=>Vn Y (z.M.ab g) hK (by rw[a];exact G.bv) (by rw[b,a];exact s) m x (by rw[b,a];exact w) he (by rw[b,a];exact hs) ?_;show l _ _;rw[b,a];exact y
 haveI i:Q _<|((z.M.ab _).s _).h.ba _<|.m (((z.M.ab _).s _).I.map (Tk.bo ((z.M.ab g).s (n+1)).G)++[Tk.bo _ _]):=by haveI h':=h;rw[nX]at h';haveI o:=a;haveI r:=a;rw[b,o]at h';rw[o];exact h'
 haveI j:(((z.M.ab g).s (n+1)).I.map<|Tk.bo ((z.M.ab g).s (n+1)).G).length+1<=1000000:=by rw[ig];rw[q];exact G.dN
 rcases t with⟨rfl,rfl⟩|⟨rfl,rfl⟩
 .refine p<|Y.c O O<|tR Y z G.a3 G.e0 h0<|vF _ ?_ rfl;exact iW j i
 .refine p<|Y.c O O<|tR Y z G.a3 G.e0 h0<|vF _ ?_ rfl;exact iW j i
theorem Vo{k:KS}(z:Z)(j l a3:Option AV){e}(he:jn e):∀n i c,z.G[z.o+i]?=U c->Wd z.G (z.o+i) n->z.G[z.o+(i+n)]?=U e->k.n [U hf,j,l,a3,U<|.int (i+n:Nat),U<|.str [e]] z.h->j0 (WE g3 (C (d+1))<|.or (.cb .le .le (.aI<|.str [48]) (.j 5)<|.aI (.str [57]))<|.or (.cb .le .le (.aI (.str [65])) (.j 5) (.aI (.str [90]))) (.or (.cb .le .le (.aI (.str [97])) (.j 5) (.aI (.str [122]))) (.Q .cg (.j 5) (.aI (.str [45,59,47,63,58,64,38,61,43,36,44,95,46,33,126,42,39,40,41,91,93,37]))))) (WS g3 (C (d+1)) IJ.snd.snd.snd.fst.bE) k [U hf,j,l,a3,U<|.int (i:Nat),U<|.str [c]] z.h:=by
 intro n;induction n with
 |zero=>
  intro i c o w hs h;have m:c=e:=by rw[Nat.add_zero,o]at hs;exact io hs
  clear zz3 m he;refine .turn (λf f=>False) (λf f x=>x.elim) ?_;rcases he with rfl|rfl|rfl
  .left;exact h
  .left;exact h
  .left;exact h
 |succ n s=>
  intro i c o w hs h;refine jB w.el λp h1 a r=>?_;haveI m:p=c:=by rw[o]at h1;exact(io h1).symm
  subst m;obtain⟨c2,b⟩:∃c2,z.G[z.o+(i+1)]?=U c2:=by refine wY λA q=>?_;induction n with|zero=>exact q e hs|succ n=>refine hc w.cq.el λc2 b f=>?_;exact q c2 b
  refine .turn (λρ st=>ρ=[U hf,j,l,a3,U<|.int (i+1:Nat),U<|.str [c2]]/\st=z.h) (λρ st ⟨t,y⟩=>?_) ?_;.subst t y;refine s _ c2 b w.cq (by rw[show i+1+n=i+(n+1)by apply iU<;>right];exact hs) ?_;rw[show i+1+n=i+(n+1)by apply iU<;>right];exact h
  .left;rw[nA,decide_eq_true<|f1 (by decide) a];left;rw[nA,decide_eq_false (z7<|iy<|f1 (by decide) a)];left;rw[nA,decide_eq_true<|f1 (by decide) a];left;rw[nA,decide_eq_false (z7<|iy<|f1 (by decide) a)];left;rw[nA,decide_eq_true a];left;rw[nA,decide_eq_true r];left;rw[mj (show p≠37 by exact iP<|iy<|f1 (by decide) a)];exact iz Y z (k:=i+1) _ _ b ⟨rfl,rfl⟩
theorem Vp(z:Z){n e}{a b}(j:∀(i:Nat) c,z.G[i]?=U c->lH c)(f:0<n)(hm:n<=1000)(w:Wd z.G z.o n)(he:jn e)(hs:z.G[z.o+n]?=U e)(h:∀m,z.x.le m->Q (.str<|(z.G.drop z.o).take n) ({z.s n with x:=m}:Z).h):C (d+3) 1264 [hf,a,b] z.h Q X:=by refine hE (w 0 f) λc1 w1=>Y.c O O<|iz Y {z with x:=z.x.add _} _ _ w1.1<|Vo Y _ _ _ _ he n 0 c1 w1.1 w (by rw[mU];exact hs) ?_;rw[mU];left;rw[jH,decide_eq_false (by apply iP<;>right)];refine q6 (g2.bu _ _)<|nz Y _<|qk (g2.bu _ _) (by simp)<|ky Y (z.p<|(z.x.add _).set _<|.m [.str _]) ((i2.mp hs).1) j<|UX (by intro q;cases q) (g2.bp _ _ _)<|UW (s:=[]) (g2.bp _ _ _) O ?_ (h _<|(g2.le.add _ _).set _<|g' _);.rw[oD];exact f1 (wS _ _)<|f1 hm (by decide)
end
end
section
open PySem
section
variable{C:Nat->PC}(Y:Sys C){Q:AV->St->Prop}{X:h5->St->Prop}{d:Nat}
include Y
theorem Vq(z:Z)(f a3 j l a6 a8){e}(he:jn e):∀n i c,z.G[z.o+i]?=U c->Wd z.G (z.o+i) n->z.G[z.o+(i+n)]?=U e->k.n [U hf,f,U<|.str [e],a3,j,l,a6,U<|.int (i+n:Nat),a8] z.h->j0 (WE g3 (C (d+1))<|.Q .cj (.j 2)<|.aI (.str [0,32,13,10,133,8232,8233])) (WS g3 (C (d+1)) II.snd.snd.fst.a5.a5.snd.snd.fst.bE) k [U hf,f,U<|.str [c],a3,j,l,a6,U<|.int i,a8] z.h:=by
 intro n;induction n with
 |zero=>
  intro i c m w hs h;clear zz3 (by rw[m]at hs;exact io hs:c=e);refine .turn (λb b=>False) (λb b x=>x.elim) ?_;rcases he with rfl|rfl|rfl
  .exact h
  .exact h
  .exact h
 |succ n t=>
  refineλi c m w hs h=>jB w.el λq h1 o s=>?_;haveI r:=by rw[m]at h1;exact(io h1).symm
  subst r;obtain⟨c2,a⟩:∃c2,z.G[z.o+(i+1)]?=U c2:=by refine wY λB p=>?_;induction n with|zero=>exact p e hs|succ n=>exact hc w.cq.el λc2 a b=>p c2 a
  refine .turn (λρ st=>ρ=[U hf,f,U<|.str [c2],a3,j,l,a6,U<|.int (i+1),a8]/\st=z.h) (λρ st ⟨y,A⟩=>?_) ?_;.subst y A;refine t (i+1) c2 a w.cq (by rw[show i+1+n=i+(n+1)by apply iU<;>right];exact hs) ?_;rw[show i+1+n=i+(n+1)by apply iU<;>right];exact h
  .left;rw[tS ⟨o,s⟩ rfl];left;rw[mj (show q≠33 by exact iP<|iy<|f1 (by decide) o)];exact iz Y z (k:=i+1) _ _ a ⟨rfl,rfl⟩
noncomputable def Co(B:List Nat)(p n:Nat):AV:=.av [.str [33],.str ((B.drop p).take n)]
theorem Vr(z:Z){n e}(p:∀(i:Nat) c,z.G[i]?=U c->lH c)(o:0<n)(hm:n<=1000)(w:Wd z.G (z.o+1) n)(he:jn e)(hs:z.G[z.o+(n+1)]?=U e)(h:∀m,z.x.le m->Q (Tk.bo z.G<|.val 380 (Co z.G (z.o+1) n) z.o (z.o+(n+1))) ({z.s (n+1)with x:=m}:Z).h):C (d+4) 1170 [hf] z.h Q X:=by
 refine kf λj=>hE (w 0 o) λc1 w1=>j<|Y.c O O<|jq Y z _ _<|iz Y z _ _ w1.1 ?_;left;rw[mj (show c1≠60 by exact iP<|iy<|f1 (by decide) w1.2.1)];left;rw[tS w1.2 O];refine Vq Y z _ _ _ _ _ _ he n 1 c1 w1.1 w (by rw[show 1+n=n+1 by apply nJ<;>right];exact hs)<|ky Y z (n:=1) ((iy<|f1 (iq (hJ (jv _ _) _) _)<|jD ((i2.mp hs).1))) p<|Vp Y _ p o hm w he (by show z.G[z.o+1+n]?=_;rw[show z.o+1+n=z.o+(n+1)by apply iU<;>right];exact hs) λm l=>?_;haveI q:({(z.s 1).s n with x:=m})={z.s _ with x:=m}:=by unfold Z.s;dsimp only;rw[show z.o+1+n=z.o+(n+1)by apply iU<;>right]
 rw[q];refine iz Y _ _ _ hs ?_;haveI k:=h m l;exists j;rcases he with a|b|f;clear zz3 a j;rotate_left 1;clear zz3 b j;rotate_right 1;rotate_left 2;clear zz3 f j;rotate_right 2
 .exact j<|jq Y _ _ _ ⟨rfl,k⟩
 .exact j<|jq Y _ _ _ ⟨rfl,k⟩
 .exact j<|jq Y _ _ _ ⟨rfl,k⟩
noncomputable def Z.d6(z:Z)(n:Nat):Z:=((z.M.ab g).s (n+1)).aR (.val 380 (Co z.G (z.o+1) n) z.o (z.o+(n+1)))
theorem Vs(z)(t:h6 z)(h0:∀k,iK z.R z.J=U k->k.bH=g)(j:0<n)(hm:n<=1000)(w:Wd z.G (z.o+1) n)(he:jn e)(hs:z.G[z.o+(n+1)]?=U e)(h:∀m,z.x.le m->Q .none ((z.d6 n).p m).h):C (d+5) 995 [hf] z.h Q X:=by
 refine lD (pz z) λb a p f q r s=>?_;haveI i:z.M.x=z.x:=yn (P:=λy:Z=>y.x=z.x) (λo=>rfl) λo=>rfl;refine Y.c O O<|tR Y z t.a3 t.e0 h0<|Vr Y (z.M.ab g) (by rw[a];exact t.bv) j hm (by show Wd z.M.G _ n;rw[b,a];exact w) he (by show z.M.G[z.M.o+(n+1)]?=U e;rw[b,a];exact hs) λm c=>qk (l:=z.M.I.map _) O ?_ ?_;.rw[ig,f];exact t.dN
 .haveI h':=h m (by rw[<-i];exact c);haveI h':Q _ ((({(z.M.ab _).s _ with x:=m}).aR _).h):=h';rw[nX]at h';rw[<-b,<-a]at h';exact h'
noncomputable def Z.d7(z:Z)(n:Nat):Z:=((z.M.ab g).s (n+2)).aR (.aU ((z.G.drop (z.o+1)).take n) g (.str [39]) z.o (z.o+(n+2)))
theorem Vt{k:KS}(z:Z)(a b a3 c a6 e:Option AV):∀n i,Wd z.G (z.o+i) n->z.G[z.o+(i+n)]?=U 39->k.n [U hf,a,b,a3,U<|.int (i+n:Nat),c,a6,e] z.h->j0 (WE g3 (C (d+1))<|.Q .cj (.bX 690 (.j 0)<|.cons (.j 4) .nil)<|.aI (.str [39,34,92,0,32,9,13,10,133,8232,8233])) (WS g3 (C (d+1))<|.cR 4 .add<|.aI (.int 1)) k [U hf,a,b,a3,U<|.int (i:Nat),c,a6,e] z.h:=by
 intro n;induction n with|zero=>intro i w hs h;refine .turn (λf f=>False) (λf f x=>x.elim)<|iz Y z (k:=i) _ _ hs ?_;exact h|succ n m=>
  intro i w hs h;refine jB w.el λq h1 j l=>?_;refine .turn (λρ st=>ρ=[U hf,a,b,a3,U<|.int (i+1:Nat),c,a6,e]/\st=z.h) (λρ st ⟨o,p⟩=>?_) ?_;.subst o p;refine m _ w.cq (by rw[show i+1+n=i+(n+1)by apply iU<;>right];exact hs) ?_;rw[show i+1+n=i+(n+1)by apply iU<;>right];exact h
  .refine iz Y z _ _ h1 ?_;left;rw[tS ⟨j,l⟩ rfl];exact⟨rfl,rfl⟩
theorem Vu(z:Z){n e}{a}(j:∀(i:Nat) c,z.G[i]?=U c->lH c)(k:0<n)(hm:n<=1000)(w:Wd z.G z.o n)(hs:z.G[z.o+n]?=U 39)(f:z.G[z.o+(n+1)]?=U e)(he:e≠39)(h:∀m,z.x.le m->m.j z.x.f=U (.m [.str<|(z.G.drop z.o).take n])->Q (.mut<|.j z.x.f) ({z.s n with x:=m}:Z).h):C (d+3) 1222 [hf,.bool g,a] z.h Q X:=by refine Y.c O O<|.turn (λb b=>False) (λb b x=>x.elim)<|Vt Y (z.p<|z.x.add _) _ _ _ _ _ _ n 0 w (by rw[mU];exact hs) ?_;rw[mU];left;rw[jH,decide_eq_false (by apply iP<;>right)];refine q6 (g2.bu _ _)<|nz Y _<|qk (g2.bu _ _) (by simp)<|ky Y (z.p<|(z.x.add _).set _<|.m [.str _]) ((i2.mp hs).1) j<|iz Y ((z.s n).p<|(z.x.add _).set _ _) _ _ hs<|iz Y _ _ _ (f) ?_;left;rw[mj he];exact h _ ((g2.le.add _ _).set _<|g' _)<|g2.bp _ _ _
end
end
section
open PySem
theorem Jb(z:Z):z.M.x=z.x:=yn (P:=λy:Z=>y.x=z.x) (λa=>rfl) λa=>rfl
section
variable{C:Nat->PC}(Y:Sys C){Q:AV->St->Prop}{X:h5->St->Prop}{d:Nat}
include Y
theorem Vv(z:Z){n e}(a:∀(i:Nat) c,z.G[i]?=U c->lH c)(j:0<n)(hm:n<=1000)(k:z.G[z.o]?=U 39)(w:Wd z.G (z.o+1) n)(hs:z.G[z.o+(n+1)]?=U 39)(f:z.G[z.o+(n+2)]?=U e)(he:e≠39)(h:∀m,z.x.le m->Q (Tk.bo z.G<|.aU ((z.G.drop (z.o+1)).take n) g (.str [39]) z.o (z.o+(n+2))) ({z.s (n+2)with x:=m}:Z).h):C (d+4) 1212 [hf,.str [39]] z.h Q X:=by
 haveI l:=(i2.mp f).1;refine Y.c O O<|jq Y (z.p<|z.x.add _) _ _<|iz Y _ _ _ k<|ky Y _ (by show z.o+1<z.G.length;exact iy<|f1 (iq (hJ (z8 (by decide)) _) _)<|jD l) a<|q6 (g2.bu _ _)<|Vu Y _ a j hm w (by show z.G[z.o+1+n]?=_;rw[show z.o+1+n=z.o+(n+1)by apply iU<;>right];exact hs) (by show z.G[z.o+1+(n+1)]?=_;rw[show z.o+1+(n+1)=z.o+(n+2)by apply iU<;>right];exact f) he λm m1 m2=>?_;haveI o:(ja.j z.x.f)≠ja.j (z.x.add<|.m []).f:=by intro q;exact iI (kY _) (uT q)
 refine IY (m1.at (kY _)<|g2.bu _ _) m2 o (by simp) ?_;rw[(by unfold Z.s;dsimp only;rw[show z.o+1+n=z.o+(n+1)by apply iU<;>right]:({((z.s 1).p _).s n with x:=m})=(z.s _).p m)];refine .turn (λb b=>False) (λb b x=>x.elim)<|iz Y ((z.s _).p<|m.set _ _) _ _ hs<|ky Y _ (by assumption) a<|jq Y (((z.s _).p _).s 1) _ _ ?_;left;rw[show((((z.s _).p<|m.set _ _).s 1).aW _ _).cell (.j _)=U _ from g2.bp _ _ _];refine iW (by rw[oD];exact f1 (wS _ _)<|f1 hm (by decide)) ⟨rfl,?_⟩;exact h _<|((g2.le.add _ _).trans m1).set _<|g' _
theorem Vw(z)(s:h6 z)(h0:∀k,iK z.R z.J=U k->k.bH=g)(j:0<n)(hm:n<=1000)(l:z.G[z.o]?=U 39)(w:Wd z.G (z.o+1) n)(hs:z.G[z.o+(n+1)]?=U 39)(i:z.G[z.o+(n+2)]?=U e)(he:e≠39)(h:∀m,z.x.le m->Q .none ((z.d7 n).p m).h):C (d+6) 1023 [hf] z.h Q X:=by
 refine lD (pz z) λb a o f p q r=>Y.c O O<|Y.c O O<|tR Y z s.a3 s.e0 h0<|Vv Y (z.M.ab g) (by rw[a];exact s.bv) j hm (by show z.M.G[z.M.o]?=_;rw[b,a];exact l) (by show Wd z.M.G _ n;rw[b,a];exact w) (by show z.M.G[z.M.o+(n+1)]?=_;rw[b,a];exact hs) (by show z.M.G[z.M.o+(n+2)]?=_;rw[b,a];exact i) he λm c=>qk O ?_ ?_;.rw[ig,f];exact s.dN
 .haveI h':=h m (by rw[<-(Jb z)];exact c);haveI h':Q _ ((({(z.M.ab _).s _ with x:=m}).aR _).h):=h';rw[nX]at h';rw[<-b,<-a]at h';exact h'
inductive lI (z:Z)(p:Nat):Nat->Bool->Prop|d8:z.G[p]?=U 0->lI z p 0 g|d9 {e:Nat}:z.G[p]?=U 58->z.G[p+1]?=U e->jn e->lI z p 0 g|cV:z.G[p]?=U 32->z.G[p+1]?=U 35->lI z p 1 g|sign {c:Nat}:z.G[p]?=U 32->z.G[p+1]?=U c->(c=44\/c=93\/c=125\/c=63)->0<z.R->lI z p 1 g|d_ {e:Nat}:z.G[p]?=U 32->z.G[p+1]?=U 58->z.G[p+2]?=U e->jn e->0<z.R->lI z p 1 g|doc {c e:Nat}:z.G[p]?=U 10->(z.G.drop (p+1)).take 3=[c,c,c]->(c=45\/c=46)->z.G[p+4]?=U e->jn e->lI z p 1 H|dQ {j c:Nat}:z.G[p]?=U 10->(∀i,i<j->z.G[p+1+i]?=U 32)->z.G[p+1+j]?=U c->(c=44\/c=93\/c=125\/c=63)->0<z.R->lI z p (1+j) H|dR {j e:Nat}:z.G[p]?=U 10->(∀i,i<j->z.G[p+1+i]?=U 32)->z.G[p+1+j]?=U 58->z.G[p+1+j+1]?=U e->jn e->0<z.R->lI z p (1+j) H|dS:z.G[p]?=U 10->z.G[p+1]?=U 0->z.ad= -1\/0<z.R->lI z p 1 H
theorem Cp(z:Z)(p q a3 r s l:Option AV){c1 c2}(E:c1=0\/c1=32\/c1=10\/(c1=58/\jn c2)):∀n i l,Wd z.G (z.o+i) n->z.G[z.o+(i+n)]?=U c1->(c1=58->z.G[z.o+(i+n+1)]?=U c2)->(∀l,k.n [U hf,p,q,a3,r,s,U<|.int (i+n:Nat),l] z.h)->j0 (WE g3 (C (d+1))<|.aI<|.bool H) (WS g3 (C (d+1)) yc.snd.snd.snd.snd.snd.fst.bE.snd.snd.fst.bE) k [U hf,p,q,a3,r,s,U<|.int i,l] z.h:=by
 intro n;induction n with
 |zero=>
  refineλi l w hs t h=>.turn (λy y=>False) (λy y x=>x.elim)<|iz Y z _ _ hs ?_;rcases E with rfl|rfl|rfl|⟨rfl,he⟩
  .exact h _
  .exact h _
  .exact h _
  .refine iz Y z (k:=i+1) _ _ (t O) ?_;left;rw[jH];by_cases o:z.R=0
   .rw[decide_eq_true o];rcases he with a|b|c;clear zz3 a;rotate_left 1;clear zz3 b;rotate_right 1;rotate_left 2;clear zz3 c;rotate_right 2
    .exact h _
    .exact h _
    .exact h _
   .rw[decide_eq_false o];rcases he with e|f|j;clear zz3 e;rotate_left 1;clear zz3 f;rotate_right 1;rotate_left 2;clear zz3 j;rotate_right 2
    .exact h _
    .exact h _
    .exact h _
 |succ n G=>
  refineλi l w hs t h=>kf λD=>jB w.el λB h1 m A=>D<|.turn (λρ st=>∃l,ρ=[U hf,p,q,a3,r,s,U<|.int (i+1:Nat),l]/\st=z.h) (λρ st ⟨l,I,J⟩=>?_) ?_;.subst I J;refine G _ l w.cq (by rw[show i+1+n=i+(n+1)by apply iU<;>right];exact hs) (by rw[show i+1+n+1=i+(n+1)+1 by exact k6 (iq (kD<|jL<|g' _) _)<|iq (lE<|hJ (jM (g' _)) _) _];exact t) ?_;rw[show i+1+n=i+(n+1)by apply iU<;>right];exact h
  .refine iz Y z _ _ h1 ?_;left;rw[tS ⟨m,A⟩ rfl];left;rw[mj (show B≠58 by exact iP<|iy<|f1 (by decide) m)];left;rw[jH];by_cases o:z.R=0;.rw[decide_eq_true o];left;rw[jH,decide_eq_true o];exact h_ _ O O
   .rw[decide_eq_false o];left;rw[tS ⟨m,A⟩ rfl];exact h_ _ O O
end
end
section
open PySem
theorem vG{B:List Nat}{p c}(h:B[p]?=U c)(k):(B.drop p).take (k+1)=c::(B.drop (p+1)).take k:=by refine hE (i2.mp h) λa e=>?_;rw[s4 a,List.take_succ_cons,e]
theorem Cq(hm:m≠ .L)(h:st.cell m=U (.m l)):nS st (.mut m)=U (!l.isEmpty):=by induction m with|L=>exact absurd O hm|_=>unfold nS;dsimp only;rw[h];rfl
section
variable{C:Nat->PC}(Y:Sys C){Q:AV->St->Prop}{X:h5->St->Prop}{d:Nat}
include Y
theorem yo(z:Z)(b:∀(i:Nat) c,z.G[i]?=U c->lH c)(a:z.G[z.o]?=U 10)(hl:z.o+1<z.G.length)(h:Q (.str [10]) (z.s 1).h):C (d+3) 1278 [hf] z.h Q X:=by refine Y.c O O<|iz Y z _ _ a<|nz Y z ?_;rw[vG a 1];exact ky Y z hl b h
theorem Vx(z:Z)(a:z.G[z.o]?=U c)(h1:c<127/\c≠10/\c≠13)(h:Q (.str []) z.h):C (d+2) 1278 [hf] z.h Q X:=by refine Y.c O O<|iz Y z _ _ a ?_;left;rw[mc h1.2.2<|mc h1.2.1<|mc (mz h1.1 O) O];left;rw[mc (mz h1.1 O)<|mc (mz h1.1 O) O];exact h
theorem Jc(z:Z)(l:∀(i:Nat) c,z.G[i]?=U c->lH c)(e:z.G[z.o]?=U c)(h1:c=0\/c=58)(h:∀m n,z.x.le m->z.x.f<=n->m.j n=U (.m [])->Q (.mut<|.j n) (z.p m).h):C (d+3) 1250 [hf,j,k] z.h Q X:=by
 haveI o:=(i2.mp e).1;refine Y.c O O<|.turn (λa a=>False) (λa a x=>x.elim)<|iz Y (z.p<|z.x.add _) _ _ e ?_;have b:WS g3 (C (d+2)) Cb.snd.snd.snd [U hf,U j,U k,U<|.mut<|.j z.x.f,U<|.int 0,V,V,V,V,V] (z.p<|z.x.add<|.m []).h ⟨λa st=>Q .none st,Q,λa a=>False,λa=>X⟩:=by
  refine nz Y _<|ky Y _ (by assumption) l<|iz Y (z.p<|z.x.add _) _ _ e ?_;have f:=h _ _ (g2.le.add _ _) (g' _)<|g2.bu _ _;rcases h1 with rfl|rfl
  .exact f
  .exact f
 rcases h1 with rfl|rfl
 .exact b
 .exact b
theorem Cr(z:Z){c}{y A}(I:∀(i:Nat) c,z.G[i]?=U c->lH c)(hs:z.G[z.o]?=U 32)(D:z.G[z.o+1]?=U c)(h1:c=35\/c=58\/c=44\/c=93\/c=125\/c=63)(h:∀m n,z.x.le m->z.x.f<=n->m.j n=U (.m [.str [32]])->Q (.mut<|.j n) ((z.s 1).p m).h):C (d+3) 1250 [hf,y,A] z.h Q X:=by
 haveI G:=(i2.mp D).1;refine Y.c O O ?_;have B:WS g3 (C (d+2)) Cb.snd.snd.snd [U hf,U y,U A,U<|.mut<|.j z.x.f,U<|.int 1,V,V,V,V,V] (z.p<|z.x.add<|.m []).h ⟨λw st=>Q .none st,Q,λw w=>False,λw=>X⟩:=by
  refine nz Y (z.p<|z.x.add<|.m []) (k:=1) ?_;rw[show((z.p<|z.x.add<|.m []).G.drop (z.p<|z.x.add<|.m []).o).take 1=[32]from vG hs 0];refine ky Y (z.p<|z.x.add<|.m []) (n:=1) G I<|iz Y ((z.p<|z.x.add<|.m []).s 1) (k:=0) _ _ D ?_;have E:=h _ _ ((g2.le.add _<|.m []).set (.m [.str [32]])<|g' _) (g' _)<|g2.bp _ _ _;rcases h1 with a|b|e|f|j|l;clear zz3 a;rotate_left 1;clear zz3 b;rotate_right 1;rotate_left 2;clear zz3 e;rotate_right 2;rotate_left 3;clear zz3 f;rotate_right 3;rotate_left 4;clear zz3 j;rotate_right 4;rotate_left 5;clear zz3 l;rotate_right 5
  all_goals
   exact oR (g2.bu _ _)<|oR (g2.bu _ _)<|iW (by decide) E
 refine .turn (λρ st=>ρ=[U hf,U y,U A,U<|.mut<|.j z.x.f,U<|.int 1,V,V,V,V,V]/\st=(z.p<|z.x.add<|.m []).h) (λρ st ⟨J,L⟩=>?_) (iz Y (z.p<|z.x.add _) _ _ hs ⟨rfl,rfl⟩);.subst J L;refine .turn (λw w=>False) (λw w x=>x.elim)<|iz Y _ _ _ D ?_;rcases h1 with o|p|q|r|s|t;clear zz3 o;rotate_left 1;clear zz3 p;rotate_right 1;rotate_left 2;clear zz3 q;rotate_right 2;rotate_left 3;clear zz3 r;rotate_right 3;rotate_left 4;clear zz3 s;rotate_right 4;rotate_left 5;clear zz3 t;all_goals exact B
theorem Vy{k:KS}{ρ}(a:ρ[(0:Nat)]?=U (U hf)){c}(b:c<127/\c≠32/\c≠10/\c≠13):∀j (z:Z),(∀(i:Nat) c,z.G[i]?=U c->lH c)->(∀i,i<j->z.G[z.o+i]?=U 32)->z.G[z.o+j]?=U c->k.n ρ (z.s j).h->j0 (WE g3 (C (d+2))<|.Q .cg (.bX 690 (.j 0)<|.cons (.aI (.int 0)) .nil)<|.aI (.str [32,13,10,133,8232,8233])) (WS g3 (C (d+2))<|.ite (.Q .eq (.bX 690 (.j 0)<|.cons (.aI (.int 0)) .nil)<|.aI (.str [32])) (.y<|.bX 706 (.j 0) (.cons (.aI (.int 1)) .nil))<|.seq .aE (.seq .aE .aE)) k ρ z.h:=by
 intro j;induction j with|zero=>intro z e hs he h;refine .turn (λf f=>False) (λf f x=>x.elim) ?_;left;rw[a];refine iz Y z (k:=0) _ _ he ?_;left;rw[mc b.2.1<|mc b.2.2.2<|mc b.2.2.1<|mu b.1];exact h|succ j m=>
  intro z e hs he h;haveI o:=(i2.mp he).1;haveI h0:z.G[z.o+0]?=U _:=hs 0 (by apply jv<;>right);haveI l:(z.s 1).s j=z.s (j+1):=by unfold Z.s;dsimp only;rw[show z.o+1+j=z.o+(j+1)by apply iU<;>right]
  refine .turn (λaj st=>aj=ρ/\st=(z.s 1).h) (λaj st ⟨p,q⟩=>?_) ?_
  .subst p q;refine m _ e (λi r=>?_) ?_ ?_;.haveI:=hs (i+1) (by apply wR<;>right);show z.G[z.o+1+i]?=_;rw[show z.o+1+i=z.o+(i+1)by apply iU<;>right];exact this
   .show z.G[z.o+1+j]?=_;rw[show z.o+1+j=z.o+(j+1)by apply iU<;>right];exact he
   .rw[l];exact h
  .left;rw[a];refine iz Y z _ _ h0 ?_;left;rw[a];refine iz Y z _ _ h0 ?_;left;rw[a];exact ky Y z (n:=1) ((iy<|f1 (iq (hJ (jv _ _) _) _)<|jD o)) e ⟨rfl,rfl⟩
theorem Cs(z:Z)(b:∀(i:Nat) c,z.G[i]?=U c->lH c)(hs:z.G[z.o]?=U 10)(r:∀i,i<j->z.G[z.o+1+i]?=U 32)(o:z.G[z.o+1+j]?=U c)(h1:c<127/\c≠32/\c≠10/\c≠13)(hx:z.G[z.o+1]?=U x)(a:x≠45/\x≠46)(h:∀m n,z.x.le m->z.x.f<=n->m.j n=U (.m [.str [32]])->Q (.mut<|.j n) (((z.ab H).s (1+j)).p m).h):C (d+4) 1250 [hf,s,t] z.h Q X:=by
 haveI p:=(i2.mp o).1;refine Y.c O O<|.turn (λe e=>False) (λe e x=>x.elim)<|iz Y (z.p<|z.x.add _) _ _ hs<|nz Y _<|ky Y _ (by show z.o+0<z.G.length;exact iy<|f1 (iq (h9 (ih _ _)<|jd _) _)<|jD p) b<|iz Y (z.p<|z.x.add _) _ _ hs<|yo Y _ b hs (by show z.o+1<z.G.length;exact iy<|f1 (iq (ih _ _) _)<|jD p)<|nz Y (((z.p<|z.x.add _).ab H).s 1) ?_;rw[show((((z.p _).ab H).s 1).G.drop _).take 3=x::(z.G.drop _).take 2 from vG hx 2];left;rw[mj a.1];left;rw[mj a.2];refine Vy Y O h1 j (((z.p<|(z.x.add<|.m []).add<|.m []).ab _).s 1) b r o ?_;haveI c1:((z.x.add<|.m []).add _).j _=U (.m []):=g2.bu _ _;haveI f:((z.x.add<|.m []).add<|.m []).j z.x.f=U (.m []):=(g2.fP _ _ (by show z.x.f≠z.x.f+1;exact iI (g' z.x.f.succ))).trans<|g2.bu _ _;left;rw[show nS ((((z.p<|(z.x.add _).add _).ab _).s 1).s j).h (.mut<|.j (((z.p<|z.x.add _).ab _).s 1).h.f)=U g from Cq (l:=[]) (by intro q;cases q) c1];refine oR f<|oR f<|iW (by decide) ?_;haveI nn:(ja.j _)≠ja.j (((z.p<|z.x.add<|.m []).ab H).s 1).h.f:=by intro q;haveI w:z.x.f=z.x.f+1:=uT q;lia
 haveI k:(((((z.p<|(z.x.add<|.m []).add<|.m []).ab H).s 1).s j).h.ba (.j z.h.f) _).cell (.j z.h.f)=U (.m [.str [32]]):=g2.bp _ _ _;refine oR k<|oR k<|oK ((g2.cr ((z.x.add _).add _) (n:=z.x.f) _ (by exact iP (g' z.x.f.succ))).trans c1) ⟨nn,iW (by decide) ?_⟩;rw[(by unfold Z.s Z.ab;dsimp only;rw[show z.o+1+j=z.o+(1+j)by apply oG<;>right]:(((z.p _).ab H).s 1).s j=((z.ab H).s _).p ((z.x.add<|.m []).add<|.m []))];exact h _ _ ((((g2.le.add _<|.m _).trans<|g2.le.add _ _).set _<|g' _).set _<|g' _) (g' _)<|g2.bp _ _ _
theorem Vz(z:Z)(w:∀(i:Nat) c,z.G[i]?=U c->lH c)(hs:z.G[z.o]?=U 10)(y:(z.G.drop (z.o+1)).take 3=[c,c,c])(A:c=45\/c=46)(s:z.G[z.o+4]?=U e)(he:jn e)(h:∀m,z.x.le m->Q .none (((z.ab H).s 1).p m).h):C (d+4) 1250 [hf,B,D] z.h Q X:=by
 haveI t:=(i2.mp s).1;refine Y.c O O<|.turn (λr r=>False) (λr r x=>x.elim)<|iz Y (z.p<|z.x.add _) _ _ hs<|nz Y _<|ky Y _ (by show z.o+0<z.G.length;exact iy<|f1 (iq (hJ (by decide) _) _)<|jD t) w<|iz Y (z.p<|z.x.add _) _ _ hs<|yo Y _ w hs (by show z.o+1<z.G.length;exact iy<|f1 (iq (hJ (by decide) _) _)<|jD t)<|nz Y (((z.p<|z.x.add _).ab H).s 1) ?_;rw[show((((z.p _).ab H).s 1).G.drop _).take 3=[c,c,c]from y];haveI q:=s;haveI p:=h _<|g2.le.add _<|.m [];rcases A with a|b;clear zz3 a;rotate_left 1;clear zz3 b;rotate_right 1
 .refine iz Y _ _ _ q ?_;rcases he with f|j|k;clear zz3 f;rotate_left 1;clear zz3 j;rotate_right 1;rotate_left 2;clear zz3 k;all_goals exact p
 .refine iz Y _ _ _ q ?_;rcases he with l|n|o;clear zz3 l;rotate_left 1;clear zz3 n;rotate_right 1;rotate_left 2;clear zz3 o;all_goals exact p
end
end
section
open PySem
theorem Jd:ja.j n≠ .L:=λq=>by cases q
theorem Ct{y:Z}(h:m.j n=U (.m [.str [32]])):nS (y.p m).h (.mut<|.j n)=U true:=Cq (st:=(y.p m).h) Jd h
theorem Je{y:Z}(h:m.j n=U (.m [])):nS (y.p m).h (.mut<|.j n)=U false:=Cq (st:=(y.p m).h) Jd h
theorem yp{P:Nat->Prop}(f:c=44\/c=93\/c=125\/c=63)(a:P 44)(b:P 93)(d:P 125)(e:P 63):P c:=by rcases f with rfl|rfl|rfl|rfl<;>assumption
theorem Jf{B:List _}{p j c:Nat}(b:∀i,i<j->B[p+i]?=U 32)(h:B[p+j]?=U c)(n:c≠45/\c≠46):∃x,B[p]?=U x/\x≠45/\x≠46:=by cases j with|zero=>exact⟨c,h,n⟩|succ j=>exact⟨_,b 0<|wJ j,by decide⟩
theorem Jg(p n j):p+n+1+j=p+(n+(1+j)):=by rw[oG,oG]
theorem Jh(z:Z)(n j):((z.s n).s (1+j)).p m=(z.s (n+(1+j))).p m:=by unfold Z.s;dsimp only;rw[oG]
noncomputable def Cu(z:Z)(p:Nat):Prop:=(z.G[p]?=U 0)\/(∃c,z.G[p]?=U c/\(c=44\/c=93\/c=125\/c=63)/\0<z.R)\/(∃e,z.G[p]?=U 58/\z.G[p+1]?=U e/\jn e)
noncomputable def vH:DS:=yc.snd.snd.snd.snd.snd.fst.bE
section
variable{C:Nat->PC}(Y:Sys C){Q:AV->St->Prop}{X:h5->St->Prop}{d:Nat}
include Y
theorem VA(z)(l m a3 n o a6 p)(he:Cu z z.o)(h:∀r,k.b [U hf,l,m,a3,n,o,U<|.int 0,r] z.h):WS g3 (C (d+1)) vH [U hf,l,m,a3,n,o,a6,p] z.h k:=by
 exists f;rcases he with h0|⟨c,h0,t,w⟩|⟨e,h0,h1,s⟩
 .exact f<|iz Y z _ _ h0<|Cp Y z _ _ _ _ _ V (c2:=0) (.inl O) 0 0 _ (λi j=>absurd j<|p3 i) h0 (λq=>absurd q (by decide)) λa=>h _
 .refine f<|iz Y z _ _ h0 ?_;rcases t with rfl|rfl|rfl|rfl
  all_goals
   refine .turn (λb b=>False) (λb b x=>x.elim)<|iz Y z _ _ h0 ?_
   left
   rw[jH,(decide_eq_false (by apply iP<;>right))]
   exact h _
 .exact f<|iz Y z _ _ h0<|Cp Y z _ _ _ _ _ V (.inr<|.inr<|.inr ⟨rfl,s⟩) 0 0 _ (λi j=>absurd j<|p3 i) h0 (λb=>h1) λa=>h _
set_option tactic.hygienic true in
theorem VB(z){n t c1:Nat}(s:∀(i:Nat) c,z.G[i]?=U c->lH c)(aM:0<n)(hm:n<=1000)(w:Wd z.G z.o n)(T:lI z (z.o+n) t nl)(h:∀m,z.x.le m->Q (Tk.bo z.G<|.aU ((z.G.drop z.o).take n) H .none z.o (z.o+n)) (((z.ab nl).s (n+t)).p m).h):C (d+5) 1243 [hf] z.h Q X:=by
 refine hc (w 0 aM) λx w1 x1=>?_;haveI aK:∃c1 c2,z.G[z.o+n]?=U c1/\(c1=0\/c1=32\/c1=10\/(c1=58/\jn c2))/\(c1=58->z.G[z.o+(n+1)]?=U c2):=by induction T with|d8 a=>exact l' _ 0 a (.inl O) λq=>absurd q (by decide)|d9 a b c=>exact l' _ _ a (.inr<|.inr<|.inr ⟨rfl,c⟩) λB=>b|cV a b=>exact l' _ 0 a (.inr<|.inl O) λq=>absurd q (by decide)|sign a b=>exact l' _ 0 a (.inr<|.inl O) λq=>absurd q (by decide)|d_ a b=>exact l' _ 0 a (.inr<|.inl O) λq=>absurd q (by decide)|doc a b=>exact l' _ 0 a (.inr<|.inr<|.inl O) λq=>absurd q (by decide)|dQ a b=>exact l' _ 0 a (.inr<|.inr<|.inl O) λq=>absurd q (by decide)|dR a b=>exact l' _ 0 a (.inr<|.inr<|.inl O) λq=>absurd q (by decide)|dS a b=>exact l' _ 0 a (.inr<|.inr<|.inl O) λq=>absurd q (by decide)
 refine i0 aK λc1 c2 au aF aG=>?_;let aD:=z.p<|(z.x.add<|.m []).add<|.m [];let D:=((((z.x.add<|.m []).add<|.m []).set z.x.f<|.m []).set z.x.f<|.m [.str<|(z.G.drop z.o).take n]);let p:=(((z.ab g).s n).p D);haveI L:z.x.le D:=((((g2.le.add _<|.m _).trans<|g2.le.add _ _).set _<|g' _).set _<|g' _);refine Y.c O O<|jq Y (z.p<|z.x.add _) _ _ ?_;haveI M:∀q aI a6 l m b,D.le m->b=nl->q=n+t->WS g3 (C (d+4)) yc.snd.snd.snd.snd.snd.snd [U hf,U<|.mut<|.j z.x.f,U<|h3 z.G z.o,U<|h3 z.G (z.o+n),U<|.int (z.ad+1),aI,a6,l] (((z.ab b).s q).p m).h ⟨λB=>Q .none,Q,λB B=>False,λB=>X⟩:=by refineλq aI a6 l m b av J aN=>kf λaE=>?_;subst J aN;refine aE<|oR (av.at (by apply rO<;>right)<|g2.bp _ _ _)<|iW (by rw[oD];exact f1 (wS _ _)<|f1 hm (by decide)) ⟨rfl,?_⟩;exact h m<|L.trans av
 haveI ag:∀k,(∀l,C _ _ _ _ _ _)->WS _ (C (d+4)) vH [U hf,U<|.mut _,U _,U _,U _,U _,V,V] aD.h k:=by
  refineλk aL=>iz Y aD _ _ w1 ?_
  left
  rw[mj (show x≠35 by exact iP<|iy<|f1 (by decide) x1.1)]
  refine Cp Y aD _ _ _ _ _ V aF n 0 _ w (by rw[mU];exact au) (λq=>by rw[mU];exact aG q) λl=>?_
  rw[mU]
  haveI c1:((z.x.add<|.m []).add<|.m []).j (z.x.f+1)=U (.m []):=g2.bu _ _
  haveI A:((z.x.add<|.m []).add<|.m []).j z.x.f=U (.m []):=(g2.fP _ _ (by exact iI (g' z.x.f.succ))).trans<|g2.bu _ _
  haveI nn:(ja.j z.x.f)≠ja.j (z.x.f+1):=λh=>iI (kY _) (uT h)
  haveI k2:WS g3 (C (d+4)) vH.snd.snd.snd.snd.snd.snd [U hf,U<|.mut<|.j z.x.f,U<|h3 z.G z.o,U<|h3 z.G z.o,U<|.int (z.ad+1),U<|.mut<|.j (z.x.f+1),U<|.int n,l] ((z.ab _).p<|((z.x.add<|.m []).add _).set _<|.m []).h k:=oR (g2.bp _ _ _)<|nz Y _<|qk (g2.bp _ _ _) (by simp)<|ky Y ((z.ab g).p D) ((i2.mp au).1) s<|jq Y p _ _<|aL l
  left
  rw[jH,decide_eq_false (by apply iP<;>right)]
  exact(oR A<|oR A<|oK c1 ⟨nn,iW (by decide) k2⟩:WS _ _ vH.snd.snd.snd.snd.snd [U _,U<|.mut<|.j _,U _,U _,U _,U<|.mut<|.j _,U _,l] (aD.ab g).h k)
 haveI I:∀k,(∀v l q m b,D.le m->b=nl->q=n+t->k.b [U hf,U<|.mut<|.j z.x.f,U<|h3 z.G z.o,U<|h3 z.G (z.o+n),U<|.int (z.ad+1),U v,U<|.int n,l] (((z.ab b).s q).p m).h)->(∀v l q m b,D.le m->b=nl->q=n+t->Cu (z.s q) (z.o+q)->k.n [U hf,U<|.mut<|.j z.x.f,U<|h3 z.G z.o,U<|h3 z.G (z.o+n),U<|.int (z.ad+1),U v,U<|.int n,l] (((z.ab b).s q).p m).h)->WS _ _ _ _ _ k:=by
  refineλk J r=>ag k λl=>?_
  haveI aq:∀(y:Z) m nn A,m.j nn=U _->y.G[y.o]?=U A->A≠35->0<y.R->k.n _ (y.p m).h->WS g3 (C (d+4)) vH.snd.snd.snd.snd.snd.snd.snd.snd.snd.snd [U hf,U<|.mut<|.j z.x.f,U<|h3 z.G z.o,U<|h3 z.G (z.o+n),U<|.int (z.ad+1),U _,U<|.int n,l] (y.p m).h k:=λy m nn A o b e f q=>by left;rw[Ct o];refine iz Y _ _ _ b ?_;left;rw[mj e];left;rw[jH,show decide ((y.p m).R=0)=g from decide_eq_false<|iP f];exact q
  clear h;induction T with|d8 a=>refine Jc Y p s a (.inl O) λm nn l1 l2 o=>?_;left;rw[Je o];exact J _ _ n m _ l1 O O|d9 a b c=>refine Jc Y p s a (.inr O) λm nn l1 l2 o=>?_;left;rw[Je o];exact J _ _ n m _ l1 O O|cV a b=>refine Cr Y p s a b (.inl O) λm nn l1 l2 o=>?_;left;rw[Ct o];exact iz Y _ _ _ b<|J _ _ _ m _ l1 O O|sign a b c f=>exact Cr Y p s a b (.inr<|.inr c) λm nn l1 l2 o=>aq _ m nn _ o b (yp (P:=λc=>c≠35) c (by decide) (by decide) (by decide) (by decide)) f<|r _ l (n+1) m _ l1 O O<|.inr (.inl ⟨_,b,c,f⟩)|d_ a b c aC f=>exact Cr Y p s a b (.inr<|.inl O) λm nn l1 l2 o=>aq _ m nn _ o b (by decide) f<|r _ l (n+1) m _ l1 O O<|.inr (.inr ⟨_,b,c,aC⟩)|doc a b c aC f=>exact Vz Y p s a b c aC f λm l1=>J _ _ _ m _ l1 O O|dQ a b c aC f=>rename_i j A;refine kf λaE=>hc (Jf b c<|yp (P:=λc=>c≠45/\c≠46) aC (by decide) (by decide) (by decide) (by decide)) λaO E G=>aE<|Cs Y p s a b c (yp (P:=λc=>c<127/\c≠32/\c≠10/\c≠13) aC (by decide) (by decide) (by decide) (by decide)) E G λm nn l1 l2 o=>?_;rw[Jh (z.ab H) n j];rw[Jg]at c;exact aq _ m nn A o c (yp (P:=λc=>c≠35) aC (by decide) (by decide) (by decide) (by decide)) f<|r _ l _ m _ l1 O O<|.inr (.inl ⟨A,c,aC,f⟩)|dR a b c aC f aJ=>rename_i j e0;refine hc (Jf b c (by decide)) λaO E G=>Cs Y p s a b c (by decide) E G λm nn l1 l2 o=>?_;rw[Jh (z.ab H) n j];rw[Jg]at c aC;exact aq _ m nn _ o c (by decide) aJ<|r _ l _ m _ l1 O O<|.inr (.inr ⟨e0,c,aC,f⟩)|dS a b f=>
   refine Cs Y p s a (λi hi=>absurd hi<|p3 i) b (by decide) b (by decide) λm nn l1 l2 o=>?_;haveI go:=r (.mut<|.j nn) l _ m H l1 O O<|.inl b;left;rw[Ct o];refine iz Y _ _ _ b ?_;left;rw[jH];by_cases aH:z.R=0
   .rw[show decide ((((p.ab _).s _).p m).R=0)=H from decide_eq_true aH];left;haveI hi:z.ad= -1:=f.resolve_right λh=>iP h aH
    rw[show decide _=g from decide_eq_false (by rw[hi];exact Int.not_lt.mpr (mB _))];exact go
   .rw[show decide ((((p.ab _).s _).p m).R=0)=g from decide_eq_false aH];exact go
 refine .turn (λρ st=>∃v l q m b,D.le m/\b=nl/\q=n+t/\Cu (z.s q) (z.o+q)/\ρ=[U hf,U<|.mut<|.j z.x.f,U<|h3 z.G z.o,U<|h3 z.G (z.o+n),U<|.int (z.ad+1),U v,U<|.int n,l]/\st=(((z.ab b).s q).p m).h) (λρ st ⟨v,l,q,m,b,m1,m2,m3,m4,m5,m6⟩=>?_)<|I _ (λv l q=>M q _ _ _) λv l q m b m1 m2 m3 m4=>⟨v,l,q,m,b,m1,m2,m3,m4,rfl,rfl⟩;.subst m5 m6;exact .turn (λB B=>False) (λB B x=>x.elim)<|VA Y _ _ _ _ _ _ _ _ m4 λch=>M q _ _ _ m b m1 m2 m3
noncomputable def Z.dp(z:Z)(n t:Nat)(nl:Bool):Z:=((z.M.ab nl).s (n+t)).aR (.aU ((z.G.drop z.o).take n) H .none z.o (z.o+n))
theorem VC(z)(B:h6 z)(h0:∀k,iK z.R z.J=U k->k.bH=g)(x:0<n)(hm:n<=1000)(w:Wd z.G z.o n)(T:lI z (z.o+n) t nl)(h:∀m,z.x.le m->Q .none ((z.dp n t nl).p m).h):C (d+6) 1044 [hf] z.h Q X:=by
 refine lD (pz z) λl j p q y A r=>?_;haveI T':lI (z.M.ab g) ((z.M.ab _).o+n) t nl:=by rw[l];haveI e:=j;haveI i:=p;induction T with|d8 a=>exact .d8 (by rw[e];exact a)|d9 a b c=>exact .d9 (by rw[e];exact a) (by rw[e];exact b) c|cV a b=>exact .cV (by rw[e];exact a) (by rw[e];exact b)|sign a b c f=>exact .sign (by rw[e];exact a) (by rw[e];exact b) c (by rw[i];exact f)|d_ a b c aC f=>exact .d_ (by rw[e];exact a) (by rw[e];exact b) (by rw[e];exact c) aC (by rw[i];exact f)|doc a b c aC f=>exact .doc (by rw[e];exact a) (by rw[e];exact b) c (by rw[e];exact aC) f|dQ a b c aC f=>exact .dQ (by rw[e];exact a) (by rw[e];exact b) (by rw[e];exact c) aC (by rw[i];exact f)|dR a b c aC f s=>exact .dR (by rw[e];exact a) (by rw[e];exact b) (by rw[e];exact c) (by rw[e];exact aC) f (by rw[i];exact s)|dS a b f=>exact .dS (by rw[e];exact a) (by rw[e];exact b) (by rw[r,i];exact f)
 refine Y.c O O<|tR Y z B.a3 B.e0 h0<|VB Y (c1:=0) _ (by rw[j];exact B.bv) x hm (by rw[l,j];exact w) T' λm o=>qk O ?_ ?_;.rw[ig,q];exact B.dN
 .haveI h':=h m (by rw[<-(Jb z)];exact o);haveI h':Q _ ((((((z.M.ab g).ab nl).s _).p m).aR _).h):=h';rw[nX]at h';rw[<-l,<-j]at h';exact h'
end
end
section
open PySem
noncomputable def Quiet(c:Nat):Prop:=c<127/\c≠10/\c≠13/\c≠0
class inductive jG (B:List Nat):Nat->Nat->Bool->Prop
 |here {p k c:Nat}:(∀i,i<k->B[p+i]?=U 32)->B[p+k]?=U c->c<127/\c≠32/\c≠35/\c≠10/\c≠13->jG B p (p+k) g
 |line {p k p':Nat} {b:Bool}:(∀i,i<k->B[p+i]?=U 32)->B[p+k]?=U 10->jG B (p+k+1) p' b->jG B p p' H
 |cV {p k j p':Nat} {b:Bool}:(∀i,i<k->B[p+i]?=U 32)->B[p+k]?=U 35->(∀i,i<j->∃c,B[p+k+1+i]?=U c/\Quiet c)->B[p+k+1+j]?=U 10->jG B (p+k+1+j+1) p' b->jG B p p' H
noncomputable def Z.a4(z:Z)(p':Nat)(b:Bool):Z:={z with o:=p',ask:=(b&&decide (z.R=0))||z.ask}
theorem jG.lt(s:jG B p p' b):p'<B.length:=by induction s with|here _ h _=>exact(i2.mp h).1|line _ _ _ a=>exact a|cV _ _ _ _ _ a=>exact a
theorem jG.le(s:jG B p p' b):p<=p':=by induction s with|here _ h _=>exact ih _ _|line _ _ _ a=>exact lW<|lW a|cV _ _ _ _ _ a=>exact lW<|lW<|lW (lW a)
theorem Ji(z:Z)(q p')(b):(z.a4 q H).a4 p' b=z.a4 p' true:=by unfold Z.a4;dsimp only;induction b<;>induction decide (z.R=0)<;>cases z.ask<;>rfl
section
variable{C:Nat->PC}(Y:Sys C){Q:AV->St->Prop}{X:h5->St->Prop}{d:Nat}
include Y
noncomputable def VD:DS:=IG.snd.snd.bE
theorem Cw{ρ}(a:ρ[(0)]?=U (U hf)){c}(f:c≠32):∀j (z:Z),(∀(i:Nat) c,z.G[i]?=U c->lH c)->(∀i,i<j->z.G[z.o+i]?=U 32)->z.G[z.o+j]?=U c->k.n ρ (z.s j).h->j0 (WE g3 (C (d+2))<|.Q .eq (.bX 690 (.j 0)<|.cons (.aI (.int 0)) .nil)<|.aI (.str [32])) (WS g3 (C (d+2))<|.y<|.bX 706 (.j 0) (.cons (.aI (.int 1)) .nil)) k ρ z.h:=by
 intro j;induction j with|zero=>refineλz b hs he h=>.turn (λe e=>False) (λe e x=>x.elim) ?_;left;rw[a];refine iz Y z _ _ he ?_;left;rw[mj f];exact h|succ j l=>
  refineλz b hs he h=>.turn (λaj st=>aj=ρ/\st=(z.s 1).h) (λaj st ⟨m,o⟩=>?_) ?_
  .subst m o;refine l _ b (λi p=>?_) ?_ ?_;.haveI:=hs (i+1) (by apply wR<;>right);show z.G[z.o+1+i]?=_;rw[show z.o+1+i=z.o+(i+1)by apply iU<;>right];exact this
   .show z.G[z.o+1+j]?=_;rw[show z.o+1+j=z.o+(j+1)by apply iU<;>right];exact he
   .rw[(by unfold Z.s;dsimp only;rw[show z.o+1+j=z.o+(j+1)by apply iU<;>right]:(z.s 1).s j=z.s _)];exact h
  .left;rw[a];refine iz Y z _ _ (hs 0 (by apply jv<;>right)) ?_;left;rw[a];exact ky Y z (n:=1) ((iy<|f1 (iq (hJ (jv _ _) _) _)<|jD ((i2.mp he).1))) b ⟨rfl,rfl⟩
theorem VE{ρ}(a:ρ[(0)]?=U (U hf)):∀j (z:Z),(∀(i:Nat) c,z.G[i]?=U c->lH c)->(∀i,i<j->∃c,z.G[z.o+i]?=U c/\Quiet c)->z.G[z.o+j]?=U 10->k.n ρ (z.s j).h->j0 (WE g3 (C (d+2))<|.Q .cj (.bX 690 (.j 0)<|.cons (.aI (.int 0)) .nil)<|.aI (.str [0,13,10,133,8232,8233])) (WS g3 (C (d+2))<|.y<|.bX 706 (.j 0) (.cons (.aI (.int 1)) .nil)) k ρ z.h:=by
 intro j;induction j with|zero=>refineλz b hs he h=>.turn (λe e=>False) (λe e x=>x.elim) ?_;left;rw[a];exact iz Y z _ _ he h|succ j l=>
  refineλz b hs he h=>mD (hs 0 (by apply jv<;>right)) λc h0 c1 c2 c3 f=>.turn (λaj st=>aj=ρ/\st=(z.s 1).h) (λaj st ⟨m,o⟩=>?_) ?_
  .subst m o;refine l _ b (λi p=>?_) ?_ ?_;.haveI:=hs (i+1) (by apply wR<;>right);show ∃c,z.G[z.o+1+i]?=U c/\_;rw[show z.o+1+i=z.o+(i+1)by apply iU<;>right];exact this
   .show z.G[z.o+1+j]?=_;rw[show z.o+1+j=z.o+(j+1)by apply iU<;>right];exact he
   .rw[(by unfold Z.s;dsimp only;rw[show z.o+1+j=z.o+(j+1)by apply iU<;>right]:(z.s 1).s j=z.s _)];exact h
  .left;rw[a];refine iz Y z _ _ h0 ?_;left;rw[mc f<|mc c3<|mc c2<|mu c1];left;rw[a];exact ky Y z (n:=1) ((iy<|f1 (iq (hJ (jv _ _) _) _)<|jD ((i2.mp he).1))) b ⟨rfl,rfl⟩
set_option tactic.hygienic true in
theorem VF{k:KS}{B:List _}{p p'}{b}(G:jG B p p' b):∀(z:Z),z.G=B->z.o=p->(∀(i:Nat) c,z.G[i]?=U c->lH c)->k.n [U hf,U<|.bool H] (z.a4 p' b).h->j0 (WE g3 (C (d+3))<|.not<|.j 1) (WS g3 (C (d+3)) VD) k [U hf,U<|.bool g] z.h:=by
 induction G with
 |here h1 a m=>
  intro z o l e h;exists n;subst o l;rename_i j c;haveI t:=(i2.mp a).1;refine n<|.turn (λρ st=>ρ=[U hf,U<|.bool H]/\st=(z.s j).h) (λρ st ⟨q,r⟩=>?_) ?_;.subst q r;refine .turn (λw w=>False) (λw w x=>x.elim) ?_;exact h
  .left;refine Cw Y (d:=d+1) O m.2.1 j z e h1 a<|iz Y (z.s j) (k:=0) _ _ a ?_;left;rw[mj m.2.2.1];refine Vx Y (z.s j) a ⟨m.1,m.2.2.2⟩ ?_;exact⟨rfl,rfl⟩
 |line h1 a G s=>
  intro z o l e h;exists n;subst o l;rename_i j p2 D;haveI t:=G.lt;haveI A:=G.le;refine n<|.turn (λρ st=>ρ=[U hf,U<|.bool g]/\st=(z.a4 (z.o+j+1) H).h) (λρ st ⟨q,r⟩=>?_) ?_;.subst q r;exact s (z.a4 (z.o+j+1) _) O O e (by rw[Ji];exact h)
  .left;refine Cw Y (d:=d+1) O (show 10≠32 by apply iI<;>right) j z e h1 a<|iz Y (z.s j) (k:=0) _ _ a<|yo Y (z.s j) e a (by show z.o+j+1<z.G.length;apply lB<;>right) ?_;left;rw[jH];exists n;by_cases f:z.R=0;.refine n ?_;rw[show decide (((z.s j).s 1).R=0)=H from decide_eq_true f];refine⟨rfl,?_⟩;unfold Z.a4;rw[decide_eq_true f];rfl
   .refine n ?_;rw[show decide (((z.s j).s 1).R=0)=g from decide_eq_false f];refine⟨rfl,?_⟩;unfold Z.a4;rw[decide_eq_false f];rfl
 |cV h1 a m y G s=>
  intro z o l e h;subst o l;rename_i k0 j p2 D;haveI t:=G.lt;haveI A:=G.le;refine .turn (λρ st=>ρ=[U hf,U<|.bool g]/\st=(z.a4 (z.o+k0+1+j+1) H).h) (λρ st ⟨q,r⟩=>?_) ?_;.subst q r;exact s _ O O e (by rw[Ji];exact h)
  .refine Cw Y O (show 35≠32 by apply iP<;>right) k0 z e h1 a<|iz Y _ _ _ a<|VE Y O (j+1) _ e (λi E=>?_) (by show z.G[z.o+k0+(j+1)]?=_;rw[show z.o+k0+(j+1)=z.o+k0+1+j by exact k6 (lE<|hJ (jM<|g' _) _)<|kD<|jL (g' _)];exact y) ?_;.induction i with|zero=>exact h_ _ a (by unfold Quiet;decide)|succ i=>haveI:=m i (by apply td<;>right);show ∃c,z.G[z.o+k0+(i+1)]?=U c/\_;rw[show z.o+k0+(i+1)=z.o+k0+1+i by exact k6 (lE<|hJ (jM<|g' _) _)<|kD<|jL (g' _)];exact this
   rw[(by unfold Z.s;dsimp only;rw[show z.o+k0+(j+1)=z.o+(k0+1+j)by exact k6 (je<|hJ (lE<|hJ (jM (g' _)) _) _)<|lE<|hJ (kD (jL (g' _))) _]:(z.s k0).s _=z.s _)];refine yo Y _ e (by show z.G[z.o+(k0+1+j)]?=_;rw[show z.o+(k0+1+j)=z.o+k0+1+j by exact k6 (qM<|iq (lE<|g' _) _)<|kD<|iq (kD (g' _)) _];exact y) (by show z.o+(k0+1+j)+1<z.G.length;exact iy<|f1 (iq (f1 (iq (qM<|iq (lE (g' _)) _) _) A) _)<|jD t) ?_;left;rw[jH];haveI l:z.o+(k0+1+j)+1=z.o+k0+1+j+1:=(k6 (iq (qM<|iq (lE<|g' _) _) _)<|iq (kD<|iq (kD (g' _)) _) _);by_cases f:z.R=0;.rw[show decide _=H from decide_eq_true f];refine⟨rfl,?_⟩;unfold Z.a4;rw[decide_eq_true f,<-l];rfl
   .rw[show decide _=g from decide_eq_false f];refine⟨rfl,?_⟩;unfold Z.a4;rw[decide_eq_false f,<-l];rfl
theorem VG(z:Z)(j:∀(i:Nat) c,z.G[i]?=U c->lH c)(l:z.o<z.G.length)(m:jG z.G z.o p' b)(h:Q .none (z.a4 p' b).h):C (d+4) 1100 [hf] z.h Q X:=by
 obtain⟨c,f⟩:∃c,z.G[z.o]?=U c:=⟨_,oe l⟩;haveI a:=VF Y (d:=d) (k:=⟨λe st=>Q _ st,Q,λe e=>False,λe=>X⟩) m z O O j h;refine Y.c O O ?_;left;rw[jH];by_cases h0:z.o=0;.rw[decide_eq_true h0];refine iz Y z _ _ f ?_;left;rw[mj (show c≠65279 by haveI:=(j _ _ f).2;exact iI<|iy<|f1 (jD this) (by decide))];exact a
 .rw[decide_eq_false h0];exact a
end
end
section
open PySem
section
variable{C:Nat->PC}(Y:Sys C){Q:AV->St->Prop}{X:h5->St->Prop}{d:Nat}
include Y
theorem Jj(z:Z)(p:f=1058/\c=45\/f=1065/\c=46)(h0:ir z.G z.o=0)(n:(z.G.drop z.o).take 3=[c,c,c])(o:z.G[z.o+3]?=U e)(he:jn e)(h:Q (.bool H) z.h):C (d+3) f [hf] z.h Q X:=by
 rcases p with⟨rfl,rfl⟩|⟨rfl,rfl⟩
 .refine Y.c O O ?_;left;rw[jH,decide_eq_true h0];refine nz Y z ?_;rw[n];refine iz Y z (k:=3) _ _ o ?_;rcases he with j|l|m;clear zz3 j;rotate_left 1;clear zz3 l;rotate_right 1;rotate_left 2;clear zz3 m;all_goals exact h
 .refine Y.c O O ?_;left;rw[jH,decide_eq_true h0];refine nz Y z ?_;rw[n];refine iz Y z (k:=3) _ _ o ?_;rcases he with a|b|i;clear zz3 a;rotate_left 1;clear zz3 b;rotate_right 1;rotate_left 2;clear zz3 i;all_goals exact h
theorem VH(z:Z)(h0:z.G[z.o]?=U 45)(h1:z.G[z.o+1]?=U x)(hx:x≠45)(h:Q .none z.h):C (d+3) 1058 [hf] z.h Q X:=by
 refine Y.c O O ?_;left;rw[jH];by_cases a:ir z.G z.o=0;.rw[decide_eq_true a];refine nz Y z ?_;rw[vG h0 2,vG h1 1];left;rw[show ha _ _=g from(mj hx:ha _ _=g)];exact h
 .rw[decide_eq_false a];exact h
theorem VI(z:Z)(h1:z.G[z.o+1]?=U e)(he:jn e)(h:Q (.bool H) z.h):C (d+2) 1072 [hf] z.h Q X:=by refine Y.c O O<|iz Y z _ _ h1 ?_;rcases he with a|b|c;clear zz3 a;rotate_left 1;clear zz3 b;rotate_right 1;rotate_left 2;clear zz3 c;all_goals exact h
theorem VJ(z:Z)(a:0<z.R)(h:Q (.bool H) z.h):C (d+1) 1079 [hf] z.h Q X:=by refine Y.c O O ?_;left;rw[jH,decide_eq_false (by apply iP<;>right)];exact h
theorem VK(z:Z)(h1:z.G[z.o+1]?=U e)(he:0<z.R\/jn e)(h:Q (.bool H) z.h):C (d+2) 1086 [hf] z.h Q X:=by
 refine Y.c O O ?_;left;rw[jH];by_cases f:z.R=0
 .rw[decide_eq_true f];refine iz Y z _ _ h1 ?_;rcases he with he|he
  .exact absurd f (iP he)
  .rcases he with a|b|c;clear zz3 a;rotate_left 1;clear zz3 b;rotate_right 1;rotate_left 2;clear zz3 c;all_goals exact h
 .rw[decide_eq_false f];exact h
theorem VL(z:Z)(h1:z.G[z.o]?=U c)(a:97<=c/\c<=122)(h:Q (.bool H) z.h):C (d+2) 1093 [hf] z.h Q X:=by refine Y.c O O<|iz Y z _ _ h1 ?_;left;rw[tS a O];exact h
noncomputable def l4:DS:=Iz.snd.snd.snd.snd
noncomputable def Z.aQ(z:Z)(p':Nat)(b:Bool):Z:=((z.a4 p' b).aL).aN (ir z.G p')
omit Y in
theorem VM(z:Z)(c)(m):(z.p m).aN c=(z.aN c).p m:=by unfold Z.aN;split<;>rfl
theorem Jl(z)(j:h6 z)(k:jG z.G z.o p' b)(f:z.G[p']?=U c)(i:∀q∈z.J,fresh z.G p' q=g->q.2.bH=g)(h:∀m,z.x.le m->WS g3 (C (d+5)) l4 [U hf,U<|.str [c]] ((z.aQ p' b).p m).h ⟨λa st=>Q .none st,Q,λa a=>False,λa=>X⟩):C (d+6) 820 [hf] z.h Q X:=by refine Y.c O O<|VG Y z j.bv j.cU k<|I1 Y _ j.a3 (by show p'<=1000;haveI:=j.b9;exact f1 (ih _ _)<|f1 (jD ((i2.mp f).1)) this) i λm hm=>Cn Y _ (by apply mB<;>right) j.ad (f1 (l_<|ih _ _)<|f1 j.dy (by decide)) ?_;rw[VM];haveI e:=q8 ((z.a4 p' b).aL)<|ir z.G p';refine iz Y _ (c:=c) _ _ ?_<|h m hm;.rw[e.2.2.1,e.2.2.2.1];exact f
theorem VN(z:Z)(h:C (d+5) 876 [hf] z.h Q X):WS g3 (C (d+5)) l4 [U hf,U<|.str [0]] z.h ⟨λa st=>Q .none st,Q,λa a=>False,λa=>X⟩:=h
theorem VO(z:Z)(h:C (d+5) 911 [hf] z.h Q X):WS g3 (C (d+5)) l4 [U hf,U<|.str [91]] z.h ⟨λa st=>Q .none st,Q,λa a=>False,λa=>X⟩:=h
theorem VP(z:Z)(h:C (d+5) 918 [hf] z.h Q X):WS g3 (C (d+5)) l4 [U hf,U<|.str [123]] z.h ⟨λa st=>Q .none st,Q,λa a=>False,λa=>X⟩:=h
theorem VQ(z:Z)(h:C (d+5) 932 [hf] z.h Q X):WS g3 (C (d+5)) l4 [U hf,U<|.str [93]] z.h ⟨λa st=>Q .none st,Q,λa a=>False,λa=>X⟩:=h
theorem VR(z:Z)(h:C (d+5) 939 [hf] z.h Q X):WS g3 (C (d+5)) l4 [U hf,U<|.str [125]] z.h ⟨λa st=>Q .none st,Q,λa a=>False,λa=>X⟩:=h
theorem VS(z:Z)(h:C (d+5) 953 [hf] z.h Q X):WS g3 (C (d+5)) l4 [U hf,U<|.str [44]] z.h ⟨λa st=>Q .none st,Q,λa a=>False,λa=>X⟩:=h
theorem VT(z:Z)(h:C (d+5) 981 [hf] z.h Q X):WS g3 (C (d+5)) l4 [U hf,U<|.str [42]] z.h ⟨λa st=>Q .none st,Q,λa a=>False,λa=>X⟩:=h
theorem VU(z:Z)(h:C (d+5) 988 [hf] z.h Q X):WS g3 (C (d+5)) l4 [U hf,U<|.str [38]] z.h ⟨λa st=>Q .none st,Q,λa a=>False,λa=>X⟩:=h
theorem VV(z:Z)(h:C (d+5) 995 [hf] z.h Q X):WS g3 (C (d+5)) l4 [U hf,U<|.str [33]] z.h ⟨λa st=>Q .none st,Q,λa a=>False,λa=>X⟩:=h
theorem VW(z:Z)(h:C (d+5) 1023 [hf] z.h Q X):WS g3 (C (d+5)) l4 [U hf,U<|.str [39]] z.h ⟨λa st=>Q .none st,Q,λa a=>False,λa=>X⟩:=h
theorem VX(z:Z)(h0:z.G[z.o]?=U 45)(h1:z.G[z.o+1]?=U e)(he:jn e)(h:C (d+5) 960 [hf] z.h Q X):WS g3 (C (d+5)) l4 [U hf,U<|.str [45]] z.h ⟨λa st=>Q .none st,Q,λa a=>False,λa=>X⟩:=VH Y z h0 h1 (by rcases he with rfl|rfl|rfl<;>decide)<|VI Y z h1 he h
theorem VY(z:Z)(h0:ir z.G z.o=0)(b:(z.G.drop z.o).take 3=[45,45,45])(c:z.G[z.o+3]?=U e)(he:jn e)(h:C (d+5) 890 [hf] z.h Q X):WS g3 (C (d+5)) l4 [U hf,U<|.str [45]] z.h ⟨λa st=>Q .none st,Q,λa a=>False,λa=>X⟩:=Jj Y z (.inl ⟨rfl,rfl⟩) h0 b c he h
theorem VZ(z:Z)(h0:ir z.G z.o=0)(b:(z.G.drop z.o).take 3=[46,46,46])(c:z.G[z.o+3]?=U e)(he:jn e)(h:C (d+5) 897 [hf] z.h Q X):WS g3 (C (d+5)) l4 [U hf,U<|.str [46]] z.h ⟨λa st=>Q .none st,Q,λa a=>False,λa=>X⟩:=Jj Y z (.inr ⟨rfl,rfl⟩) h0 b c he h
theorem V0(z:Z)(b:0<z.R)(h:C (d+5) 967 [hf] z.h Q X):WS g3 (C (d+5)) l4 [U hf,U<|.str [63]] z.h ⟨λa st=>Q .none st,Q,λa a=>False,λa=>X⟩:=VJ Y z b h
theorem Jm(z:Z)(h1:z.G[z.o+1]?=U e)(he:0<z.R\/jn e)(h:C (d+5) 974 [hf] z.h Q X):WS g3 (C (d+5)) l4 [U hf,U<|.str [58]] z.h ⟨λa st=>Q .none st,Q,λa a=>False,λa=>X⟩:=VK Y z h1 he h
theorem V1(z:Z){c}(h0:z.G[z.o]?=U c)(a:97<=c/\c<=122)(h:C (d+5) 1044 [hf] z.h Q X):WS g3 (C (d+5)) l4 [U hf,U<|.str [c]] z.h ⟨λf st=>Q .none st,Q,λf f=>False,λf=>X⟩:=by haveI n:∀e,e<97->ha [c] [e]=false:=λe he=>mj ((iP<|iy<|jM (jM (f1 (jD he) a.1))));haveI b:∀e,122<e->ha [c] [e]=false:=λe he=>mj ((iI<|iy<|f1 (iq a.2 _) (jD he)));left;rw[n 0 (by decide)];left;rw[n _ (by decide)];left;rw[n _ (by decide)];left;rw[n _ (by decide)];left;rw[n _ (by decide)];left;rw[b _ (by decide)];left;rw[n _ (by decide)];left;rw[b _ (by decide)];left;rw[n _ (by decide)];left;rw[n _ (by decide)];left;rw[n _ (by decide)];left;rw[n _ (by decide)];left;rw[n _ (by decide)];left;rw[n _ (by decide)];left;rw[n _ (by decide)];left;rw[b _ (by decide)];left;rw[n _ (by decide)];left;rw[n _ (by decide)];left;rw[n _ (by decide)];exact VL Y z h0 a h
end
end
section
open PySem
noncomputable def Z.L(z w:Z):Z:={z with A:=w.A,bU:=w.bU,bt:=w.bt,E:=w.E,aF:=w.aF,x:=w.x}
theorem Cy(z w:Z)(c):(z.L w).aN c=(z.aN c).L w:=by show(if z.R=0 then _ else _)=(if z.R=0 then _ else _:Z).L w;split<;>rfl
theorem Jn(z w:Z)(c):(z.L w).bf c=(z.bf c).L w:=by show(if z.ad<c then _ else _)=(if z.ad<c then _ else _:Z).L w;split<;>rfl
theorem vJ(z w:Z):(z.L w).M=z.M.L w:=by show(if z.ask=H then _ else _)=(if z.ask=H then _ else _:Z).L w;split<;>rfl
theorem Jo(z w:Z)(p')(b):(z.L w).aQ p' b=(z.aQ p' b).L w:=Cy ((z.a4 p' b).aL) w _
theorem Jp(z w:Z)(K):(z.L w).dm K=(z.dm K).L w:=by show(((z.L w).M.a3 _ _).s 1).aR _=_;rw[vJ];rfl
theorem V3(z w:Z):(z.L w).bd=z.bd.L w:=by show(if z.R=0/\z.ad<ir z.G z.o then((z.L w).bf _).aR _ else z.L w)=(if z.R=0/\z.ad<ir _ _ then _ else _:Z).L w;rw[Jn];split<;>rfl
theorem V4(z w:Z):(z.L w).dP=z.dP.L w:=by show((((z.L w).bd).ab _).aM.s 1).aR _=_;rw[V3];rfl
theorem V5(z w:Z)(k):(z.L w).d5 k=(z.d5 k).L w:=by
 haveI:(z.L w).bB k=(z.bB k).L w:=by show(if z.R=0/\z.ad<ir z.G _ then _ else(z.L w).br k)=(if z.R=0/\z.ad<ir _ _ then _ else z.br k).L w;haveI e:(z.L w).br k=(z.br k).L w:=rfl;haveI a:((z.br k).L w).bf (ir (z.L w).G k.pos)=((z.br k).bf<|ir z.G k.pos).L w:=Jn _ _ _;rw[a];split<;>rfl
 unfold Z.d5;rw[this];rfl
theorem Jq(z w:Z)(K n):(z.L w).dn K n=(z.dn K n).L w:=by unfold Z.dn;rw[vJ];rfl
theorem V6(z w:Z)(n):(z.L w).d6 n=(z.d6 n).L w:=by unfold Z.d6;rw[vJ];rfl
theorem V7(z w:Z)(n):(z.L w).d7 n=(z.d7 n).L w:=by unfold Z.d7;rw[vJ];rfl
theorem V8(z w:Z)(n t)(nl):(z.L w).dp n t nl=(z.dp n t nl).L w:=by unfold Z.dp;rw[vJ];rfl
theorem Jr(z w:Z)(K):(z.L w).cs K=(z.cs K).L w:=by unfold Z.cs;rw[Cy];rfl
theorem V9(z w:Z):(z.L w).dO=z.dO.L w:=by unfold Z.dO;rw[Cy];rfl
theorem h6.L(a:h6 z)(w):h6<|z.L w:=⟨a.a3,a.ad,a.dy,a.b9,a.bv,a.cU⟩
theorem lI.L{nl}(T:lI z p t nl):lI (z.L w) p t nl:=by induction T with|d8 a=>exact .d8 a|d9 a b c=>exact .d9 a b c|cV a b=>exact .cV a b|sign a b c f=>exact .sign a b c f|d_ a b c aC f=>exact .d_ a b c aC f|doc a b c aC f=>exact .doc a b c aC f|dQ a b c aC f=>exact .dQ a b c aC f|dR a b c aC f d=>exact .dR a b c aC f d|dS a b f=>exact .dS a b f
noncomputable def NR(z:Z):Prop:=∀k,iK z.R z.J=U k->k.bH=g
inductive Act (z:Z):Nat->Z->Prop|en:NR z->z.o+1<z.G.length->Act z 91 (z.dm 239)|mp:NR z->z.o+1<z.G.length->Act z 123 (z.dm 251)|eC:0<z.R->NR z->z.o+1<z.G.length->Act z 93 (z.dz 263)|eD:0<z.R->NR z->z.o+1<z.G.length->Act z 125 (z.dz 275)|b1:NR z->z.o+1<z.G.length->Act z 44 z.e1|ask:0<z.R->NR z->z.o+1<z.G.length->Act z 63 z.e2|ct {e:Nat}:(z.R=0->z.ask=H)->NR z->z.G[z.o]?=U 45->z.G[z.o+1]?=U e->jn e->Act z 45 z.dP|col {k:SK} {e:Nat}:iK z.R z.J=U k->z.aG<=k.num/\k.num - z.aG<=z.I.length->z.G[z.o+1]?=U e->(0<z.R\/jn e)->Act z 58 (z.d5 k)|eE {e:Nat}:iK z.R z.J=V->0<z.R->z.G[z.o+1]?=U e->Act z 58 z.e3|bI {n e:Nat}:NR z->z.G[z.o]?=U 42->0<n->Wd z.G (z.o+1) n->jn e->z.G[z.o+1+n]?=U e->Act z 42 (z.dn 342 n)|cB {n e:Nat}:NR z->z.G[z.o]?=U 38->0<n->Wd z.G (z.o+1) n->jn e->z.G[z.o+1+n]?=U e->Act z 38 (z.dn 361 n)|cC {n e:Nat}:NR z->0<n->n<=1000->Wd z.G (z.o+1) n->jn e->z.G[z.o+(n+1)]?=U e->Act z 33 (z.d6 n)|dB {n e:Nat}:NR z->0<n->n<=1000->z.G[z.o]?=U 39->Wd z.G (z.o+1) n->z.G[z.o+(n+1)]?=U 39->z.G[z.o+(n+2)]?=U e->e≠39->Act z 39 (z.d7 n)|c_ {n t c:Nat} {nl:Bool}:NR z->0<n->n<=1000->z.G[z.o]?=U c->97<=c/\c<=122->Wd z.G z.o n->lI z (z.o+n) t nl->Act z c (z.dp n t nl)|doc {e:Nat}:NR z->ir z.G z.o=0->(z.G.drop z.o).take 3=[45,45,45]->z.G[z.o+3]?=U e->jn e->Act z 45 (z.cs 147)|eF {e:Nat}:NR z->ir z.G z.o=0->(z.G.drop z.o).take 3=[46,46,46]->z.G[z.o+3]?=U e->jn e->Act z 46 (z.cs 159)
noncomputable def mK(z:Z)(p':Nat):Prop:=∀q∈z.J,fresh z.G p' q=g->q.2.bH=g
inductive kQ (z:Z):Z->Prop|mk {p' c:Nat} {b:Bool} {a:Z}:jG z.G z.o p' b->z.G[p']?=U c->mK z p'->Act (z.aQ p' b) c a->kQ z a
set_option genCtorIdx true in
inductive pA where
 |ok (z:Z)
 |done (z:Z)
 |c0 (a b:AV)
noncomputable def pB(z:Z)(o:pA):Prop:=∀{C:Nat->PC} (_:Sys C) {d:Nat} {Q:AV->St->Prop} {X:h5->St->Prop} (w:Z),(match o with| .ok a=>∀m,w.x.le m->Q .none ((a.L w).p m).h| .done a=>∀m pk,w.x.le m->Q .none (((a.L w).p m).aW H pk)| .c0 b e=>∀(a:Z) (c f:AV),w.x.le a.x->X ⟨744,[c,b,f,e,.none]⟩ a.h)->C (d+12) 820 [hf] (z.L w).h Q X
theorem Js(z:Z)(p')(b):(z.aQ p' b).G=z.G/\(z.aQ p' b).o=p'/\(z.aQ p' b).R=z.R/\(z.aQ p' b).J=z.J.filter (fresh z.G p')/\(z.aQ p' b).aG=z.aG:=lD (q8 ((z.a4 p' b).aL)<|ir z.G p') λa c d e f h=>oi d e c a
theorem h6.aQ(j:h6 z)(k:jG z.G z.o p' b):h6<|z.aQ p' b:=by
 refine lD (q8 ((z.a4 p' b).aL)<|ir z.G p') λc e a d f h i=>⟨?_,?_,?_,?_,?_,?_⟩;.rw[c];exact(Ep.map _).nodup j.a3
 .show nW (((z.a4 p' b).aL).aN _).ad (((z.a4 p' b).aL).aN _).aS;unfold Z.aN;split;.exact I5 _ _ _ _ _ j.ad
  .exact j.ad
 .show(((z.a4 p' b).aL).aN _).I.length+(((z.a4 p' b).aL).aN _).aS.length+(((z.a4 p' b).aL).aN _).J.length+8*((((z.a4 p' b).aL).aN _).G.length - (((z.a4 p' b).aL).aN _).o)<=9000;rw[(ym ((z.a4 p' b).aL)<|ir z.G p'),c,a,d];exact f1 (h9 (hJ (ML _ _) _)<|jY 8<|Er k.le _) j.dy
 .rw[a];exact j.b9
 .rw[a];exact j.bv
 .show(((z.a4 p' b).aL).aN _).o<(((z.a4 p' b).aL).aN _).G.length;rw[a,d];exact k.lt
theorem h6.p(a:h6 z)(m):h6<|z.p m:=⟨a.a3,a.ad,a.dy,a.b9,a.bv,a.cU⟩
theorem Jt(z w:Z)(m):(z.L w).p m=z.L (w.p m):=rfl
set_option tactic.hygienic true in
theorem Ju(r:h6 z)(F:kQ z p):pB z<|.ok p:=by intro C Y d Q X w h;obtain⟨s,o,hs,A⟩:=F;rename_i p' c b;refine Jl Y _ (r.L w) s o hs λm hm=>?_;rw[Jo,Jt];have i:=(r.aQ s).L<|w.p m;haveI h':∀m',m.le m'->Q _ ((p.L<|w.p m).p m').h:=λm' l=>h m'<|hm.trans l;haveI h1:=h' m<|g2.le.refl m;generalize q:z.aQ p' b=y at A i;clear h q;clear o;induction A with|en e a=>exact VO Y _<|U_ Y _ i e a (by rw[Jp];exact h1)|mp e a=>exact VP Y _<|U' Y _ i e a (by rw[Jp];exact h1)|eC k e a=>exact VQ Y _<|Va Y _ i k e a h1|eD k e a=>exact VR Y _<|Vb Y _ i k e a h1|b1 e a=>exact VS Y _<|Vc Y _ i e a h1|ask k e a=>exact V0 Y _ k<|Vh Y _ i k e a h1|ct k e a a3 f=>exact VX Y _ a a3 f<|Vg Y _ i k e (i2.mp a3).1 (by rw[V4];exact h1)|col e a a3 f=>exact Jm Y _ a3 f<|Vk Y _ i e a (i2.mp a3).1 (by rw[V5];exact h1)|eE e a a3=>exact Jm Y _ a3 (.inl a)<|Vl Y _ i e a (i2.mp a3).1 h1|bI e a a3 f j a6=>exact VT Y _<|Ja Y _ (.inl ⟨rfl,rfl⟩) i e a (.inl O) a3 f j a6 (by rw[Jq];exact h1)|cB e a a3 f j a6=>exact VU Y _<|Ja Y _ (.inr ⟨rfl,rfl⟩) i e a (.inr O) a3 f j a6 (by rw[Jq];exact h1)|cC e a a3 f j a6=>exact VV Y _<|Vs Y _ i e a a3 f j a6 λm' l=>by rw[V6];exact h' m' l|dB e a a3 f j a6 n a8=>exact VW Y _<|Vw Y _ i e a a3 f j a6 n a8 λm' l=>by rw[V7];exact h' m' l|c_ e a a3 f j a6 n=>exact V1 Y _ f j<|VC Y _ i e a a3 a6 n.L λm' l=>by rw[V8];exact h' m' l|doc e a a3 f j=>exact VY Y _ a a3 f j<|U8 Y _ i e (i2.mp f).1 (by rw[Jr];exact h1)|eF e a a3 f j=>exact VZ Y _ a a3 f j<|U9 Y _ i e (i2.mp f).1 (by rw[Jr];exact h1)
end
section
open PySem
class inductive l5:Z->pA->Prop
 |now {z:Z} {t:Tk} {l:List Tk}:h6 z->z.I=t::l->mK z z.o->kP V z.aL.J≠U z.aG->l5 z (.ok z.aL)
 |fz {z a:Z} {o:pA}:z.I=[]->pB z (.ok a)->l5 a o->l5 z o
 |fA {z a:Z} {t:Tk} {l:List Tk} {o:pA}:h6 z->z.I=t::l->mK z z.o->kP V z.aL.J=U z.aG->pB z.aL (.ok a)->l5 a o->l5 z o
 |fQ {z a:Z}:z.I=[]->pB z (.done a)->l5 z (.done a)
 |fR {z a:Z} {t:Tk} {l:List Tk}:h6 z->z.I=t::l->mK z z.o->kP V z.aL.J=U z.aG->pB z.aL (.done a)->l5 z (.done a)
 |gi {z:Z} {b c:AV}:z.I=[]->pB z (.c0 b c)->l5 z (.c0 b c)
 |gj {z:Z} {t:Tk} {l:List Tk} {b c:AV}:h6 z->z.I=t::l->mK z z.o->kP V z.aL.J=U z.aG->pB z.aL (.c0 b c)->l5 z (.c0 b c)
noncomputable def pA.post(o:pA)(w:Z)(N:St->Prop)(E:h5->St->Prop):Prop:=match o with| .ok a=>∀m,w.x.le m->N ((a.L w).p m).h| .done a=>∀m pk,w.x.le m->N (((a.L w).p m).aW H pk)| .c0 b e=>∀(a:Z) (c f:AV),w.x.le a.x->E ⟨744,[c,b,f,e,.none]⟩ a.h
theorem pA.gk{o:pA}{w}(h:o.post w N E)(l:w.x.le m):o.post (w.p m) N E:=by induction o with|ok b=>exactλm' a=>h m'<|l.trans a|done b=>exactλm' pk a=>h m' pk<|l.trans a|c0 f i=>exactλb c e a=>h b c e<|l.trans a
theorem V_(a)(n:Nat)(st):k7 g3 st .eq (yl a) (.int n)=U (decide (a=U n)):=by
 induction a with|none=>exact congrArg _ (decide_eq_false (by intro q;cases q)).symm|some k=>
  show U _=_;rw[sx];by_cases h:k=n;.simp
  .rw[decide_eq_false h,decide_eq_false λq=>h<|io q]
section
variable{C:Nat->PC}(Y:Sys C){Q:AV->St->Prop}{X:h5->St->Prop}{d:Nat}
include Y
theorem Cz(z:Z)(a)(h:Q (.bool g)<|z.aW H a):C (d+1) 813 [hf] (z.aW H a) Q X:=Y.c O O h
theorem CA(z:Z)(a:z.I=[])(h:Q (.bool H) z.h):C (d+1) 813 [hf] z.h Q X:=by refine Y.c O O ?_;left;rw[a];exact h
theorem yq(z)(c:h6 z)(b:z.I=t::l)(hs:mK z z.o)(h:∀m,z.x.le m->Q (if kP V z.aL.J=U z.aG then .bool H else .none) (z.aL.p m).h):C (d+3) 813 [hf] z.h Q X:=by
 refine Y.c O O ?_;left;rw[b];refine I1 Y z c.a3 (f1 (iN c.cU) c.b9) hs λm hm=>U4 Y (z.aL.p m) ((Ep.map _).nodup c.a3) ?_;haveI h':=h m hm;left;rw[show k7 _ _ _ _ _=U (decide (kP _ z.aL.J=U _))from V_ _ _ _];by_cases a:kP V z.aL.J=U z.aG;.rw[decide_eq_true a];rw[if_pos a]at h';exact h'
 .rw[decide_eq_false a];rw[if_neg a]at h';exact h'
set_option tactic.hygienic true in
theorem CB{k:KS}{ρ}(a:ρ[(0:Nat)]?=U (U hf)){z}{o}(y:l5 z o):∀w,o.post w (k.n ρ) (k.aK ρ)->j0 (WE g3 (C (d+12))<|.bX 813 (.j 0) .nil) (WS g3 (C (d+12))<|.y<|.bX 820 (.j 0) .nil) k ρ (z.L w).h:=by
 induction y with
 |now s e hs j=>intro w h;refine .turn (λb b=>False) (λb b x=>x.elim) ?_;left;rw[a];refine yq Y (d:=d+9) (Z.L _ w) (s.L w) e hs λm hm=>?_;rw[if_neg (show ¬kP _ (Z.L _ w).aL.J=U (Z.L _ w).aG from j)];exact h m hm|fz e D y q=>
  intro w h;rename_i z f o;refine .turn (λaj st=>aj=ρ/\∃m,w.x.le m/\st=((f.L w).p m).h) (λaj st ⟨n,m,hm,p⟩=>?_) ?_;.subst n p;exact q _<|pA.gk h hm
  .left;rw[a];refine CA Y _ e ?_;left;rw[a];exact D Y w λm hm=>⟨rfl,m,hm,rfl⟩
 |fA s e hs j D y q=>
  intro w h;rename_i z f t l o;refine .turn (λaj st=>aj=ρ/\∃m,w.x.le m/\st=((f.L w).p m).h) (λaj st ⟨n,m,hm,p⟩=>?_) ?_;.subst n p;exact q _<|pA.gk h hm
  .left;rw[a];refine yq Y _ (s.L w) e hs λm hm=>?_;rw[if_pos (show kP _ (Z.L _ w).aL.J=U (Z.L _ w).aG from j)];left;rw[a];exact D Y (w.p m) λm' i=>⟨rfl,m',hm.trans i,rfl⟩
 |fQ e D=>
  intro w h;rename_i z f;refine .turn (λaj st=>aj=ρ/\∃m pk,w.x.le m/\st=((f.L w).p m).aW H pk) (λaj st ⟨n,m,pk,hm,p⟩=>?_) ?_;.subst n p;refine .turn (λb b=>False) (λb b x=>x.elim) ?_;left;rw[a];exact Cz Y _ _<|h m pk hm
  .left;rw[a];refine CA Y _ e ?_;left;rw[a];exact D Y w λm pk hm=>⟨rfl,m,pk,hm,rfl⟩
 |fR s e hs j D=>
  intro w h;rename_i z f t l;refine .turn (λaj st=>aj=ρ/\∃m pk,w.x.le m/\st=((f.L w).p m).aW H pk) (λaj st ⟨n,m,pk,hm,p⟩=>?_) ?_;.subst n p;refine .turn (λb b=>False) (λb b x=>x.elim) ?_;left;rw[a];exact Cz Y _ _<|h m pk hm
  .left;rw[a];refine yq Y _ (s.L w) e hs λm hm=>?_;rw[if_pos (show kP _ (Z.L _ w).aL.J=U (Z.L _ w).aG from j)];left;rw[a];exact D Y (w.p m) λm' pk i=>⟨rfl,m',pk,hm.trans i,rfl⟩
 |gi e D=>refineλw h=>.turn (λb b=>False) (λb b x=>x.elim) ?_;left;rw[a];refine CA Y _ e ?_;left;rw[a];exact D Y w h|gj s e hs j D=>refineλw h=>.turn (λb b=>False) (λb b x=>x.elim) ?_;left;rw[a];refine yq Y _ (s.L w) e hs λm hm=>?_;rw[if_pos (show kP _ (Z.L _ w).aL.J=U (Z.L _ w).aG from j)];left;rw[a];exact D Y (w.p m) λf c r l=>h f c r<|hm.trans l
end
end
section
open PySem
@[elab_as_elim]theorem oS {P:Nat->Prop} {c} (h:c∈([91,123,93,125,44,63,45,58,42,38,33,119]:List _)) (b:P 91) (p2:P 123) (e:P 93) (f:P 125) (i:P 44) (j:P 63) (k:P 45) (l:P 58) (m:P 42) (n:P 38) (o:P 33) (p:P 119):P c:=by
 have q:∀a∈([91,123,93,125,44,63,45,58,42,38,33,119]:List _),P a:=by simp only[Es];exact⟨b,p2,e,f,i,j,k,l,m,n,o,p,λr h=>nomatch h⟩
 exact q c h
@[elab_as_elim]theorem c6 {P:Nat->Prop} {c} (h:c∈([91,123,93,125,44,63])) (b:P 91) (p2:P 123) (e:P 93) (f:P 125) (i:P 44) (j:P 63):P c:=(by simp only[Es];exact⟨b,p2,e,f,i,j,λk h=>nomatch h⟩:∀a∈([91,123,93,125,44,63]),P a) c h
@[elab_as_elim]theorem c3 {P:Nat->Prop} {c} (h:c∈([42,38,33])) (b:P 42) (p2:P 38) (e:P 33):P c:=(by simp only[Es];exact⟨b,p2,e,λf h=>nomatch h⟩:∀a∈([42,38,33]),P a) c h
noncomputable def Z.go(w:Z)(a:AV):Z:={w with bt:=a}
noncomputable def Z.bj(w:Z)(l:List Nat):Z:={w with E:=l}
noncomputable def Z.e4(w:Z)(l:List Nat):Z:={w with aF:=l}
noncomputable def Z.cU(w:Z)(a:AV)(l:List Nat):Z:={w with bt:=a,E:=l}
noncomputable def Z.dC(w:Z)(a:AV)(l r:List Nat):Z:={w with bt:=a,E:=l,aF:=r}
inductive TS where
 |nil
 |c0 (a b:AV)
 |cons (t:Tk) (r:TS)
noncomputable def Z.eG(z:Z)(l:List Tk):Z:={z with I:=l,aG:=z.aG+1}
noncomputable def ql:TS->Z->Bool->Prop| .nil,_,_=>True| .c0 b e,z,c=>c=g/\l5 z (.c0 b e)| .cons t r,z,g=>(∃a l,l5 z (.ok a)/\a.G=z.G/\a.I=t::l/\ql r (a.eG l) g)\/(∃a l,l5 z (.done a)/\a.G=z.G/\a.I=t::l/\ql r (a.eG l) H)| .cons t r,z,H=>∃l,z.I=t::l/\ql r (z.eG l) H
theorem Jv(z:Z):z.aL.aL=z.aL:=by unfold Z.aL;dsimp only;rw[MM];congr 1;exact MN λx a=>by simp
theorem V'(z:Z):mK z.aL z.aL.o:=λq e c=>by have b:=(rM.mp e).2;haveI a:=c;rw[b]at a;cases a
theorem h6.aL(a:h6 z):h6 z.aL:=⟨(Ep.map _).nodup a.a3,a.ad,(by show z.I.length+z.aS.length+(z.J.filter _).length+8*(z.G.length - z.o)<=9000;exact f1 (iq (hJ (ML _ _) _) _) a.dy),a.b9,a.bv,a.cU⟩
theorem Wa(i:l5 z o)(h:o=.ok b):l5 b<|.ok b:=by
 induction i with
 |now f e hs c=>cases h;haveI:=l5.now f.aL e (V' _) (by rw[Jv];exact c);rw[Jv]at this;exact this
 |fz _ _ _ a=>exact a h|fA _ _ _ _ _ _ a=>exact a h|fQ=>cases h
 |fR=>cases h
 |gi=>cases h
 |gj=>cases h
noncomputable def yr(t:AV)(m:g2):Prop:=t=.val (.ref 1304)\/∃n a,t=.mut (.j n)/\n<m.f/\m.j n=U (.bK a)/\r0 [33] a=H/\xc [33] a=U (.str [33])
theorem yr.aP(h:yr t a)(l:a.le b):yr t b:=by
 rcases h with h|⟨n,e,h1,c,f,i⟩
 .exact .inl h
 .exact .inr ⟨n,e,h1,hy c l.1,l.at c f,i⟩
noncomputable def TS.len:TS->Nat| .nil=>0| .c0 _ _=>0| .cons _ r=>r.len+1
structure qm (T:TS)(w:Z)(m:g2)(z:Z)(m':g2)(a:Bool)(eo:AV):Prop where
 e5:ql T z a
 bg:m.le m'
 eo:a=g->eo=.mut .cN
 b5:z.G=w.G
 fB:w.o=1->yr w.bU m'
 a8:w.E.length+w.aF.length+4*T.len<=100000
inductive At (T:TS)(w:Z)(m:g2):St->Prop|mk (z:Z) (m':g2) (a:Bool) (pk:AV) (P:qm T w m z m' a pk):At T w m (((z.L w).p m').aW a pk)
theorem At.dX(z)(m')(a)(b)(h:st=((z.L w).p m').aW a b)(P:qm T w m z m' a b):At T w m st:=by subst h;exact⟨z,m',a,b,P⟩
theorem At.aP(A:At T w b st)(l:a.le b):At T w a st:=by obtain⟨z,m',e,pk,c⟩:=A;exact⟨z,m',e,pk,c.e5,l.trans c.bg,c.eo,c.b5,c.fB,c.a8⟩
theorem qm.a6{w w'}{pk}(P:qm T w m z m' a pk)(h1:w'.G=w.G:=by rfl) (b:w'.o=w.o:=by rfl) (c:w'.bU=w.bU:=by rfl) (hl:w'.E.length+w'.aF.length+4*T.len<=100000):qm T w' m z m' a pk:=⟨P.e5,P.bg,P.eo,P.b5.trans h1.symm,λq=>c▸P.fB (b▸q),hl⟩
noncomputable def Tk.id(i:List Nat):Tk->Prop| .a' _=>g3.be 179 46=U (.str i)| .k C _ _=>g3.be C 46=U (.str i)| .val C _ _ _=>g3.be C 46=U (.str i)| .aU .. =>g3.be 400 46=U (.str i)
theorem ys(st)(i)(l):k7 g3 st .cg (.str i) (.av l)=lF i l:=by induction i with|nil=>rfl|cons x r=>induction r<;>rfl
section
variable{C:Nat->PC}(Y:Sys C){Q:AV->St->Prop}{X:h5->St->Prop}{d:Nat}
include Y
theorem CC(e:ρ[(0)]?=U (U hf))(A:At (.cons t r) w m st)(h:∀z m' n pk l,qm (.cons t r) w m z m' n pk->z.I=t::l->qm r w m (z.eG l) m' n pk->WS g3 (C (d+12)) al ρ (((z.L w).p m').aW n pk) k):WS g3 (C (d+12)) (.seq (.bs (.bX 813 (.j 0) .nil)<|.y<|.bX 820 (.j 0) .nil) al) ρ st k:=by
 exists D;obtain⟨z,m',n,pk,P⟩:=A;have y:=P.a8;have f:=(f1 (hJ (jY 4<|iA _) _) y);obtain⟨E,j,c,i,a,_⟩:=P;induction n with
 |true=>obtain⟨l,h1,b⟩:=E;refine D<|.turn (λs s=>False) (λs s x=>x.elim) ?_;left;rw[e];exact Cz Y _ _<|h z m' _ pk l ⟨⟨l,h1,b⟩,j,c,i,a,y⟩ h1 ⟨b,j,c,i,a,f⟩
 |false=>
  cases c O;rcases E with⟨B,l,h1,b,o,p⟩|⟨B,l,h1,b,o,p⟩
  .exact D<|CB Y e h1 (w.p m') λm2 l2=>h B m2 _ _ l ⟨.inl ⟨B,l,Wa h1 O,rfl,o,p⟩,j.trans l2,λs=>rfl,b.trans i,λq=>(a q).aP l2,y⟩ o ⟨p,j.trans l2,λs=>rfl,b.trans i,λq=>(a q).aP l2,f⟩
  .exact D<|CB Y e h1 (w.p m') λm2 pk l2=>h B m2 _ pk l ⟨⟨l,o,p⟩,j.trans l2,(λq=>absurd q (by decide)),b.trans i,λq=>(a q).aP l2,y⟩ o ⟨p,j.trans l2,(λq=>absurd q (by decide)),b.trans i,λq=>(a q).aP l2,f⟩
theorem hO(A:At (.cons t r) w m st)(f:t.id i)(c:lF i (a::j)=U b)(h:∀ac,At (.cons t r) w m ac->Q (.bool b) ac):C (d+13) 792 [hf,.av (a::j)] st Q X:=by
 refine Y.c O O<|CC Y O A λz m' n pk l P o p=>?_;haveI h':=h (((z.L w).p m').aW n pk) ⟨z,m',n,pk,P⟩;obtain⟨I,au,zf,D,zn,L,s,G,M,J,E,B,y,T,x⟩:=z;clear P p h A;cases(show D=t::l from o);clear o;induction t with
 |a' k=>haveI e:=(xh<|io f).symm;subst e;left;rw[ys,c];induction b with|true=>exact h'|false=>exact h'
 |k K k q=>left;rw[show g3.be K _=U _ from f];left;rw[ys,c];induction b with|true=>exact h'|false=>exact h'
 |val K v k q=>left;rw[show g3.be K _=U _ from f];left;rw[ys,c];induction b with|true=>exact h'|false=>exact h'
 |aU=>haveI e:=(xh<|io f).symm;clear zz3 e c;left;rw[ys,c];induction b with|true=>exact h'|false=>exact h'
theorem kR(A:At (.cons t r) w m st)(h:∀ac,At (.cons t r) w m ac->Q (t.bo w.G) ac):C (d+13) 799 [hf] st Q X:=by refine Y.c O O<|CC Y O A λz m' a pk l P c b=>?_;haveI h':=h (((z.L w).p m').aW a pk) ⟨z,m',a,pk,P⟩;rw[<-P.b5]at h';obtain⟨p,B,zf,k,zn,s,e,o,x,q,n,j,i,y,f⟩:=z;clear P b;cases(show k=t::l from c);exact h'
theorem jf(A:At (.cons t r) w m st)(h:∀ac,At r w m ac->Q (t.bo w.G) ac):C (d+13) 806 [hf] st Q X:=by refine Y.c O O<|CC Y O A λz m' b pk l P c a=>?_;haveI h':=h ((((z.eG l).L w).p m').aW b pk) ⟨_,m',b,pk,a⟩;rw[<-P.b5]at h';obtain⟨p,B,zf,k,zn,s,e,o,x,q,n,j,i,y,f⟩:=z;clear a P;cases(show k=t::l from c);exact h'
end
end
section
open PySem
inductive Ev where
 |d'|cS
 |dD (x:Bool)
 |c1 (x:Bool)
 |bI (a:AV)
 |aU (a t:AV) (i j:Bool) (v:List Nat) (s:AV)
 |ea (a t:AV) (i:Bool) (f:AV)
 |dT
 |dF (a t:AV) (i:Bool) (f:AV)
 |dG
noncomputable def Ev.is(v:AV):Ev->Prop| .d'=>∃m n,v=.obj 501 [26,27,8] [m,n,.none]| .cS=>∃m n,v=.obj 513 [26,27] [m,n]| .dD x=>∃m n,v=.obj 533 [26,27,38,39,40] [m,n,.bool x,.none,.none]| .c1 x=>∃m n,v=.obj 553 [26,27,38] [m,n,.bool x]| .bI a=>∃m n,v=.obj 565 [34,26,27] [a,m,n]| .aU a t i j x s=>∃m n,v=.obj 585 [34,35,36,28,26,27,30] [a,t,.av [.bool i,.bool j],.str x,m,n,s]| .ea a t i f=>∃m n,v=.obj 597 [34,35,36,26,27,37] [a,t,.bool i,m,n,f]| .dT=>∃m n,v=.obj 609 [26,27] [m,n]| .dF a t i f=>∃m n,v=.obj 621 [34,35,36,26,27,37] [a,t,.bool i,m,n,f]| .dG=>∃m n,v=.obj 633 [26,27] [m,n]
inductive PR where
 |A (e:Ev) (T:TS) (w:Z)
 |e6 (e:Ev) (T:TS) (W:AV->Z)
 |c' (a b:AV)
 |fC (a b:AV)
noncomputable def PR.post(r:PR)(m:g2)(Q:AV->St->Prop)(X:h5->St->Prop):Prop:=match r with| .A e T' w'=>∀(ac:St) (v:AV),e.is v->At T' w' m ac->Q v ac| .e6 e T' W=>∀(ac:St) (v i:AV),e.is v->At T' (W i) m ac->Q v ac| .c' a b=>∀(z:Z) (h:Bool) (pk c f:AV),m.le z.x->X ⟨1293,[c,a,f,b,.none]⟩ (z.aW h pk)| .fC a b=>∀(z:Z) (c f:AV),m.le z.x->X ⟨744,[c,a,f,b,.none]⟩ z.h
noncomputable def Gives(N:Nat)(f:Nat)(args:List AV)(T:TS)(w:Z)(r:PR):Prop:=∀{C:Nat->PC} (_:Sys C) {d:Nat} {Q:AV->St->Prop} {X:h5->St->Prop} {m:g2} {st:St},At T w m st->r.post m Q X->C (d+N) f (hf::args) st Q X
theorem lJ(Y:Sys C){Q}(h:∀v,(Ev.aU .none .none H g [] .none).is v->Q v st):C (d+1) 1518 [hf,mk] st Q X:=by refine Y.c O O ⟨rfl,?_⟩;exact h _ ⟨_,_,rfl⟩
noncomputable def Tk.l(t:Tk):List Nat:=match(match t with| .a' _=>g3.be 179 46| .k C _ _=>g3.be C 46| .val C _ _ _=>g3.be C 46| .aU .. =>g3.be 400 46)with|U (.str i)=>i|_=>[]
noncomputable def Tk.Good(t:Tk):Prop:=t.id t.l
noncomputable def Tk.bj:Tk->Nat| .a' a=>a| .k _ a _=>a| .val _ _ a _=>a| .aU _ _ _ a _=>a
theorem jt(i a:List Nat):lF i [.str a]=U (ha i a):=by show U (match ha i a with|true=>H|false=>g)=_;induction ha i a<;>rfl
noncomputable def Not(t:Tk)(l:List (List Nat)):Prop:=∀a∈l,ha t.l a=g
noncomputable abbrev q_:List Nat:=[60,115,99,97,108,97,114,62]
noncomputable abbrev Jx:List Nat:=[60,98,108,111,99,107,32,115,101,113,117,101,110,99,101,32,115,116,97,114,116,62]
noncomputable abbrev Jy:List Nat:=[60,98,108,111,99,107,32,109,97,112,112,105,110,103,32,115,116,97,114,116,62]
noncomputable abbrev oU:List Nat:=[60,98,108,111,99,107,32,101,110,100,62]
noncomputable abbrev sy:List Nat:=[60,97,108,105,97,115,62]
noncomputable abbrev qn:List Nat:=[60,97,110,99,104,111,114,62]
noncomputable abbrev qo:List Nat:=[60,116,97,103,62]
noncomputable abbrev yt:List Nat:=[60,100,105,114,101,99,116,105,118,101,62]
noncomputable abbrev vK:List Nat:=[60,100,111,99,117,109,101,110,116,32,115,116,97,114,116,62]
noncomputable abbrev yu:List Nat:=[60,100,111,99,117,109,101,110,116,32,101,110,100,62]
noncomputable abbrev vL:List Nat:=[60,115,116,114,101,97,109,32,101,110,100,62]
noncomputable def on:List (List Nat):=match yg with|(_,l)::_=>l|[]=>[]
noncomputable def CD(a b:Bool)(t:Tk):Prop:=Not t [q_,[91],[123]]/\(b=H->ha t.l [45]=g)/\(a=H->Not t [Jx,Jy])
noncomputable def tT(a:AV):Prop:=a=.none\/∃s,a=.str s
noncomputable abbrev Wb:List Nat:=[101,120,112,101,99,116,101,100,32,116,104,101,32,110,111,100,101,32,99,111,110,116,101,110,116,44,32,98,117,116,32,102,111,117,110,100,32,37,114]
theorem Wc:∀i∈on,g3.dV Wb i=true:=by decide+kernel
noncomputable def We(t:AV):Prop:=t=.none\/∃c s,t=.str (33::c::s)
noncomputable def iB:AV->Bool| .none=>H|_=>g
theorem Jz(h:iB a=H):a=.none:=by cases a<;>first|rfl|exact iG h
inductive kS (h i:Bool)(w:Z)(e c start:AV):TS->PR->Prop|aU {v:List Nat} {j:Bool} {ar:AV} {a b f:Nat} {r:TS} {ss:List Nat}:w.E=f::ss->kS h i w e c start (.cons (.aU v j ar a b) r) (.A (.aU e c (j&&iB c) (!j&&iB c) v ar) r (w.cU (.au f) ss))|seq {a b:Nat} {r:TS}:kS h i w e c start (.cons (.k 239 a b) r) (.A (.ea e c (iB c) (.bool H)) (.cons (.k 239 a b) r) (w.go (.au 1453)))|map {a b:Nat} {r:TS}:kS h i w e c start (.cons (.k 251 a b) r) (.A (.dF e c (iB c) (.bool H)) (.cons (.k 251 a b) r) (w.go (.au 1489)))|fS {a b:Nat} {r:TS}:h=H->kS h i w e c start (.cons (.k 203 a b) r) (.A (.ea e c (iB c) (.bool g)) (.cons (.k 203 a b) r) (w.go (.au 1411)))|fT {a b:Nat} {r:TS}:h=H->kS h i w e c start (.cons (.k 215 a b) r) (.A (.dF e c (iB c) (.bool g)) (.cons (.k 215 a b) r) (w.go (.au 1432)))|gl {a b:Nat} {r:TS}:i=H->kS h i w e c start (.cons (.k 311 a b) r) (.A (.ea e c (iB c) .none) (.cons (.k 311 a b) r) (w.go (.au 1425)))|eb {t:Tk} {r:TS} {f:Nat} {ss:List Nat}:iB e=g\/iB c=g->t.Good->CD h i t->w.E=f::ss->kS h i w e c start (.cons t r) (.A (.aU e c (iB c) g [] .none) (.cons t r) (w.cU (.au f) ss))|aE {t:Tk} {r:TS}:iB e=H->iB c=H->t.Good->CD h i t->t.l∈on->kS h i w e c start (.cons t r) (.c' start (h3 w.G t.bj))
noncomputable def Wf:DS:=yd.fst.a5.snd.snd.snd.snd.snd.snd
noncomputable def nY:DS:=Wf.snd.snd
noncomputable abbrev nR(b e:Bool)(a f start c:AV)(a3 a8 a9 ak ap ao:Option AV):Loc:=[U hf,U (.bool b),U (.bool e),a3,U .none,U a,U f,U start,a8,a9,U c,ak,ap,ao]
section
variable{C:Nat->PC}(Y:Sys C){Q:AV->St->Prop}{X:h5->St->Prop}{d:Nat}
include Y
theorem sA{b e start c}(A:At (.cons t r) w m st)(aC:t.Good)(j:a=H->ha t.l [45]=g)(h:∀ac,At (.cons t r) w m ac->WS g3 (C (d+14)) nY.a5 (nR f a b e start c a3 a8 a9 ak ap ao) ac k):WS g3 (C (d+14)) nY (nR f a b e start c a3 a8 a9 ak ap ao) st k:=by
 induction a with
 |false=>
  conv=>(whnf)
  exact h st A
 |true=>refine hO Y A aC (by rw[jt,j O]) λac i=>?_;exact h _ i
theorem tU{a c start b}(A:At (.cons t r) w m st)(aC:t.Good)(j:ha t.l q_=g)(h:∀ac,At (.cons t r) w m ac->WS g3 (C (d+14)) nY.a5.a5 (nR e f a c start b a3 a8 a9 ak ap ao) ac k):WS g3 (C (d+14)) nY.a5 (nR e f a c start b a3 a8 a9 ak ap ao) st k:=by refine hO Y A aC (by rw[jt,j]) λac i=>?_;exact h _ i
theorem vO{a c start b}(A:At (.cons t r) w m st)(aC:t.Good)(j:ha t.l [91]=g)(h:∀ac,At (.cons t r) w m ac->WS g3 (C (d+14)) nY.a5.a5.a5 (nR e f a c start b a3 a8 a9 ak ap ao) ac k):WS g3 (C (d+14)) nY.a5.a5 (nR e f a c start b a3 a8 a9 ak ap ao) st k:=by refine hO Y A aC (by rw[jt,j]) λac i=>?_;exact h _ i
theorem yv{a c start b}(A:At (.cons t r) w m st)(aC:t.Good)(j:ha t.l [123]=g)(h:∀ac,At (.cons t r) w m ac->WS g3 (C (d+14)) nY.a5.a5.a5.a5 (nR e f a c start b a3 a8 a9 ak ap ao) ac k):WS g3 (C (d+14)) nY.a5.a5.a5 (nR e f a c start b a3 a8 a9 ak ap ao) st k:=by refine hO Y A aC (by rw[jt,j]) λac i=>?_;exact h _ i
theorem CE{b e start c}(A:At (.cons t r) w m st)(aC:t.Good)(j:a=H->ha t.l Jx=g)(h:∀ac,At (.cons t r) w m ac->WS g3 (C (d+14)) nY.a5.a5.a5.a5.a5 (nR a f b e start c a3 a8 a9 ak ap ao) ac k):WS g3 (C (d+14)) nY.a5.a5.a5.a5 (nR a f b e start c a3 a8 a9 ak ap ao) st k:=by
 induction a with
 |false=>
  conv=>(whnf)
  exact h st A
 |true=>refine hO Y A aC (by rw[jt,j O]) λac i=>?_;exact h _ i
theorem JA{b e start c}(A:At (.cons t r) w m st)(aC:t.Good)(j:a=H->ha t.l Jy=g)(h:∀ac,At (.cons t r) w m ac->WS g3 (C (d+14)) nY.a5.a5.a5.a5.a5.a5 (nR a f b e start c a3 a8 a9 ak ap ao) ac k):WS g3 (C (d+14)) nY.a5.a5.a5.a5.a5 (nR a f b e start c a3 a8 a9 ak ap ao) st k:=by induction a with|false=>exact h st A|true=>refine hO Y A aC (by rw[jt,j O]) λac i=>?_;exact h _ i
noncomputable abbrev nK(C:PC)(Q:AV->St->Prop)(X:h5->St->Prop):KS:=⟨λρ st=>WS g3 C (.ret (.j 4)) ρ st ⟨λa st=>Q .none st,Q,λa a=>False,λa=>X⟩,Q,λa a=>False,λa=>X⟩
set_option tactic.hygienic true in
theorem CF{D o start}(aH:We o)(av:tT D)(A:At T w m st)(B:kS au aL w D o start T R)(h:R.post m Q X)(hl:∀t r,T=.cons t r->t.Good):WS g3 (C (d+14)) nY (nR au aL D o start (.bool<|iB o) a3 (U a8) a9 ak ap ao) st<|nK (C (d+14)) Q X:=by
 induction B with
 |seq=>refine sA Y A (hl _ _ O) (λaE=>rfl) λst A=>tU Y A (hl _ _ O) O λst A=>hO Y A O O λst A=>kR Y A λst A=>kf λaI=>?_;obtain⟨z,m',i,pk,P⟩:=A;refine aI ⟨rfl,?_⟩;exact h _ _ ⟨_,_,rfl⟩ ⟨z,m',i,pk,P.a6 (hl:=P.a8)⟩
 |map=>refine sA Y A (hl _ _ O) (λaE=>rfl) λst A=>tU Y A (hl _ _ O) O λst A=>vO Y A (hl _ _ O) O λst A=>hO Y A O O λst A=>kR Y A λst A=>?_;obtain⟨z,m',i,pk,P⟩:=A;refine⟨rfl,?_⟩;exact h _ _ ⟨_,_,rfl⟩ ⟨z,m',i,pk,P.a6 (hl:=P.a8)⟩
 |fS aJ=>subst aJ;refine sA Y A (hl _ _ O) (λaE=>rfl) λst A=>tU Y A (hl _ _ O) O λst A=>vO Y A (hl _ _ O) O λst A=>yv Y A (hl _ _ O) O λst A=>hO Y A O O λst A=>kR Y A λst A=>kf λaI=>?_;obtain⟨z,m',i,pk,P⟩:=A;refine aI ⟨rfl,?_⟩;exact h _ _ ⟨_,_,rfl⟩ ⟨z,m',i,pk,P.a6 (hl:=P.a8)⟩
 |fT aJ=>subst aJ;refine sA Y A (hl _ _ O) (λaE=>rfl) λst A=>tU Y A (hl _ _ O) O λst A=>vO Y A (hl _ _ O) O λst A=>yv Y A (hl _ _ O) O λst A=>CE Y A (hl _ _ O) (λaE=>rfl) λst A=>hO Y A O O λst A=>kR Y A λst A=>?_;obtain⟨z,m',i,pk,P⟩:=A;refine⟨rfl,?_⟩;exact h _ _ ⟨_,_,rfl⟩ ⟨z,m',i,pk,P.a6 (hl:=P.a8)⟩
 |gl hi=>subst hi;refine hO Y A O O λst A=>kR Y A λst A=>?_;obtain⟨z,m',i,pk,P⟩:=A;refine⟨rfl,?_⟩;exact h _ _ ⟨_,_,rfl⟩ ⟨z,m',i,pk,P.a6 (hl:=P.a8)⟩
 |aU hs=>
  rename_i v pl ar a b f r ss;refine sA Y A (hl _ _ O) (λaE=>rfl) λst A=>hO Y A O O λst A=>jf Y A λst A=>?_;obtain⟨z,m',i,pk,P⟩:=A;haveI ln:=P.a8;rw[hs]at ln;have e:Q (.obj 585 [34,35,36,28,26,27,30] [D,o,.av _,.str v,start,h3 w.G b,ar])<|((z.L _).p m').aW i pk:=h _ _ ⟨_,_,rfl⟩ ⟨z,m',i,pk,P.a6 (hl:=by show ss.length+w.aF.length+4*r.len<=100000;exact f1 (iq (iq (ih _ _) _) _) ln)⟩;rcases aH with p|⟨c,s,y⟩;clear zz3 p e;rotate_left 1;clear zz3 y e;. induction pl with|true=>refine⟨rfl,?_⟩;left;rw[show((z.L w).p m').E=f::ss from hs,la];left;rw[lb];exact e|false=>refine⟨rfl,?_⟩;left;rw[show((z.L w).p m').E=f::ss from hs,la];left;rw[lb];exact e
  .induction pl with|true=>refine⟨rfl,?_⟩;left;rw[show((z.L w).p m').E=f::ss from hs,la];left;rw[lb];exact e|false=>refine⟨rfl,?_⟩;left;rw[show((z.L w).p m').E=f::ss from hs,la];left;rw[lb];exact e
 |eb he aC aG hs=>
  rename_i t r f ss;refine i5 aG λG aM aD=>sA Y A aC aM λst A=>tU Y A aC (G _<|.head _) λst A=>vO Y A aC (G _<|.tail _<|.head _) λst A=>yv Y A aC (G _<|.tail _<|.tail _ (.head _)) λst A=>CE Y A aC (λq=>aD q _<|.head _) λst A=>JA Y A aC (λq=>aD q _<|.tail _<|.head _) λst A=>?_;obtain⟨z,m',i,pk,P⟩:=A;haveI ln:=P.a8;rw[hs]at ln;have e:∀x,Q (.obj 585 [34,35,36,28,26,27,30] [D,o,.av _,.str _,start,x,.none])<|((z.L _).p m').aW i pk:=λx=>h _ _ ⟨_,_,rfl⟩ ⟨z,m',i,pk,P.a6 (hl:=by show ss.length+w.aF.length+4*(TS.cons t r).len<=100000;exact f1 (iq (iq (ih _ _) _) _) ln)⟩;rcases av with j|⟨as,k⟩;clear zz3 j he e;rotate_left 1;clear zz3 k e;rotate_right 1
  .rcases aH with l|⟨c,s,n⟩;clear zz3 l he;rotate_left 1;clear zz3 n e;rotate_right 1
   .rcases he with he|he<;>cases he
   .refine⟨rfl,?_⟩;left;rw[show((z.L w).p m').E=f::ss from hs,la];rw[lb];exact e _
  .rcases aH with L|⟨c,s,M⟩;rotate_right 1
   .refine⟨rfl,?_⟩;left;rw[show((z.L w).p m').E=f::ss from hs,la];rw[lb];exact e _
   .refine⟨rfl,?_⟩;left;rw[show((z.L w).p m').E=f::ss from hs,la];rw[lb];exact e _
 |aE aN aK aC aG aO=>
  rename_i t r;refine i5 aG λG aM aD=>?_;clear aG;refine sA Y A aC aM λst A=>tU Y A aC (G _<|.head _) λst A=>vO Y A aC (G _<|.tail _<|.head _) λst A=>yv Y A aC (G _<|.tail _<|.tail _ (.head _)) λst A=>CE Y A aC (λq=>aD q _<|.head _) λst A=>JA Y A aC (λq=>aD q _<|.tail _<|.head _) λst A=>?_;haveI e1:=Jz aN;haveI e2:=Jz aK;clear aH;subst e1 e2;haveI aF:=Wc _ aO;induction au with
  |true=>refine kR Y A λst A=>?_;obtain⟨z,m',i,pk,P⟩:=A;induction t with|a' a=>exactλI h1=>λJ E=>h _ _ _ _ _ P.bg|k K a b=>intro I h1;left;rw[show g3.be K _=U _ from aC];left;rw[aF];exactλJ E=>h _ _ _ _ _ P.bg|val K v a b=>intro I h1;left;rw[show g3.be K _=U _ from aC];left;rw[aF];exactλJ E=>h _ _ _ _ _ P.bg|aU=>exactλI h1=>λJ E=>h _ _ _ _ _ P.bg
  |false=>refine kR Y A λst A=>?_;obtain⟨z,m',i,pk,P⟩:=A;induction t with|a' a=>exactλI h1=>λJ E=>h _ _ _ _ _ P.bg|k K a b=>intro I h1;left;rw[show g3.be K _=U _ from aC];left;rw[aF];exactλJ E=>h _ _ _ _ _ P.bg|val K v a b=>intro I h1;left;rw[show g3.be K _=U _ from aC];left;rw[aF];exactλJ E=>h _ _ _ _ _ P.bg|aU=>exactλI h1=>λJ E=>h _ _ _ _ _ P.bg
end
end
section
set_option maxHeartbeats 4000000
open PySem
noncomputable abbrev tV(c:Nat)(s:List Nat):AV:=.av [.str [33],.str (c::s)]
inductive jI (e h:Bool)(w:Z):TS->PR->Prop|bI {v:AV} {a b f:Nat} {r:TS} {ss:List Nat}:w.E=f::ss->jI e h w (.cons (.val 342 v a b) r) (.A (.bI v) r (w.cU (.au f) ss))|ep {t:Tk} {r:TS} {R:PR}:t.Good->Not t [sy,qn,qo]->kS e h w .none .none (h3 w.G t.bj) (.cons t r) R->jI e h w (.cons t r) R|cB {v:AV} {a b:Nat} {t:Tk} {r:TS} {R:PR}:tT v->t.Good->ha t.l qo=g->kS e h w v .none (h3 w.G a) (.cons t r) R->jI e h w (.cons (.val 361 v a b) (.cons t r)) R|cC {c:Nat} {s:List Nat} {a b:Nat} {t:Tk} {r:TS} {R:PR}:w.o=1->s.length<=1000->t.Good->ha t.l qn=g->kS e h w .none (.str (33::c::s)) (h3 w.G a) (.cons t r) R->jI e h w (.cons (.val 380 (tV c s) a b) (.cons t r)) R|gm {v:AV} {c:Nat} {s:List Nat} {a b i j:Nat} {t:Tk} {r:TS} {R:PR}:tT v->w.o=1->s.length<=1000->t.Good->kS e h w v (.str (33::c::s)) (h3 w.G a) (.cons t r) R->jI e h w (.cons (.val 361 v a b) (.cons (.val 380 (tV c s) i j) (.cons t r))) R|gn {v:AV} {c:Nat} {s:List Nat} {a b i j:Nat} {t:Tk} {r:TS} {R:PR}:tT v->w.o=1->s.length<=1000->t.Good->kS e h w v (.str (33::c::s)) (h3 w.G a) (.cons t r) R->jI e h w (.cons (.val 380 (tV c s) a b) (.cons (.val 361 v i j) (.cons t r))) R
noncomputable def yw:DS:=yd.fst.a5.snd.snd.snd.snd
section
variable{C:Nat->PC}(Y:Sys C){Q:AV->St->Prop}{X:h5->St->Prop}{d:Nat}
include Y
theorem Wg{b start}(hs:iB start=g)(f:∃K ks k,start=.obj K ks k)(a:tT b)(aC:t.Good)(A:At (.cons t r) w m st)(B:kS j i w b .none start (.cons t r) R)(h:R.post m Q X):WS g3 (C (d+14)) yw [U hf,U<|.bool j,U<|.bool i,a3,V,U b,U .none,U start,U a8,a9,V,V,V,V] st<|nK (C (d+14)) Q X:=by
 refine nh f λK ks k c=>?_;clear f;clear hs;subst c;haveI:=CF Y (d:=d) (a3:=a3) (a8:=a8) (a9:=a9) (ak:=V) (ap:=V) (ao:=V) (.inl O) a A B h λt r e=>by cases e;exact aC
 clear a;induction i with|true=>exact this|false=>exact this
theorem CG{j b}{i start:AV}{a3 a9:Option AV}{a8}{w:Z}{m}{st}{t:Tk}{r}{R}{c}{s:List Nat}(p:∃K ks y,start=.obj K ks y)(f:tT i)(x:w.o=1)(hl:s.length<=1000)(aC:t.Good)(A:At (.cons t r) w m st)(B:kS j b w i (.str (33::c::s)) start (.cons t r) R)(h:R.post m Q X):WS g3 (C (d+14)) yw [U hf,U<|.bool j,U<|.bool b,a3,V,U i,U<|tV c s,U start,U a8,a9,V,V,V,V] st<|nK (C (d+14)) Q X:=by
 exists o;obtain⟨K,ks,y,rfl⟩:=p;haveI a:=CF Y (d:=d) (a3:=a3) (a8:=a8) (a9:=a9) (ak:=U<|.str [33]) (ap:=U<|.str (c::s)) (ao:=V) (.inr ⟨c,s,rfl⟩) f A B h (λt r e=>by cases e;exact aC);obtain⟨z,m',l,pk,P⟩:=A;rcases P.fB x with k|⟨n,q,k,I,h1,D,E⟩
 .refine o ?_;left;rw[show((z.L w).p m').bU=.val (.ref _)from k];left;rw[show((z.L w).p m').bU=.val (.ref _)from k];refine iW (by simp;exact f1 (h9 (g' _)<|h9 hl<|g' _) (by decide)) ?_;clear P h B aC hl x f;induction b with
  |true=>
   conv at a=>whnf
   exact a
  |false=>
   conv at a=>whnf
   exact a
 .haveI G:k7 _ (((z.L w).p m').aW l pk) .cj (.str [33]) (.mut<|.j n)=U _:=by
   show Option.map (!·) (match(((z.L w).p m').aW l pk).cell<|.j n with
    |some<|.bK q=>U<|r0 [33] q
    |_=>V)=U g
   rw[show(((z.L w).p m').aW l pk).cell (.j n)=U _ from h1]
   show U _=U _
   rw[D];rfl
  refine o ?_;left
  rw[show((z.L w).p m').bU=.mut _ from k]
  rw[G]
  left
  rw[show((z.L w).p m').bU=.mut _ from k]
  left
  rw[show(((z.L w).p m').aW l pk).cell (.j n)=U _ from h1]
  left
  rw[E]
  refine iW (f1 (h9 (g' _)<|h9 hl<|g' _) (by decide)) ?_
  clear o;induction b with
  |true=>
   exact a
  |false=>
   exact a
end
end
section
set_option maxHeartbeats 1000000
open PySem
noncomputable def tW:DS:=yd.fst.a5.snd.snd.snd.fst
noncomputable abbrev q'(a b:Bool):Loc:=[U hf,U (.bool a),U (.bool b),V,V,U .none,U .none,U .none,U .none,U .none,V,V,V,V]
section
variable{C:Nat->PC}(Y:Sys C){Q:AV->St->Prop}{X:h5->St->Prop}{d:Nat}
include Y
theorem vP(A:At (.cons t r) w m st)(aC:t.Good)(e:ha t.l sy=g)(h:∀ac,At (.cons t r) w m ac->WS g3 (C (d+14)) tW (q' a b) ac ⟨λρ st=>WS g3 (C (d+14)) yw ρ st<|nK (C (d+14)) Q X,Q,λc c=>False,λc=>X⟩):C (d+15) 1404 [hf,.bool a,.bool b] st Q X:=by refine Y.c O O<|hO Y A aC (by rw[jt,e]) λst A=>?_;exact h st A
theorem Wh(A:At (.cons t r) w m st)(aC:t.Good)(h1:ha t.l qn=g)(c:ha t.l qo=g)(h:∀ac,At (.cons t r) w m ac->k.n (q' a b) ac):WS g3 (C (d+14)) tW (q' a b) st k:=by refine hO Y A aC (by rw[jt,h1]) λst A=>?_;refine hO Y A aC (by rw[jt,c]) λst A=>?_;exact h st A
theorem Wi(A:At (.cons (.val 361 v a b)<|.cons t r) w m st)(aC:t.Good)(f:ha t.l qo=g)(h:∀ac,At (.cons t r) w m ac->k.n [U hf,U<|.bool c,U<|.bool e,U<|(Tk.val 361 v a b).bo w.G,V,U v,U .none,U<|h3 w.G a,U<|h3 w.G b,U .none,V,V,V,V] ac):WS g3 (C (d+14)) tW (q' c e) st k:=by refine hO Y (b:=H) A O O λst A=>jf Y A λst A=>hO Y A aC (by rw[jt,f]) λst A=>?_;exact h st A
theorem Wj(A:At (.cons (.val 380 v a b)<|.cons t r) w m st)(aC:t.Good)(i:ha t.l qn=g)(h:∀ac,At (.cons t r) w m ac->k.n [U hf,U<|.bool c,U<|.bool e,U<|(Tk.val 380 v a b).bo w.G,V,U .none,U v,U<|h3 w.G a,U<|h3 w.G b,U<|h3 w.G a,V,V,V,V] ac):WS g3 (C (d+14)) tW (q' c e) st k:=by haveI f:(Tk.val 380 v a b).id _:=rfl;refine hO Y (b:=g) A f O λst A=>hO Y (b:=H) A f O λst A=>jf Y A λst A=>hO Y A aC (by rw[jt,i]) λst A=>?_;exact h st A
theorem Wk(A:At (.cons (.val 361 v a b)<|.cons (.val 380 u f i) r) w m st)(h:∀ac,At r w m ac->k.n [U hf,U<|.bool c,U<|.bool e,U<|(Tk.val 380 u f i).bo w.G,V,U v,U u,U<|h3 w.G a,U<|h3 w.G i,U<|h3 w.G f,V,V,V,V] ac):WS g3 (C (d+14)) tW (q' c e) st k:=hO Y (b:=H) A O O λst A=>jf Y A λst A=>hO Y (b:=H) A O O λst A=>jf Y A h
theorem Wm(A:At (.cons (.val 380 u a b)<|.cons (.val 361 v j f) r) w m st)(h:∀ac,At r w m ac->k.n [U hf,U<|.bool c,U<|.bool e,U<|(Tk.val 361 v j f).bo w.G,V,U v,U u,U<|h3 w.G a,U<|h3 w.G f,U<|h3 w.G a,V,V,V,V] ac):WS g3 (C (d+14)) tW (q' c e) st k:=by haveI i:(Tk.val 380 u a b).id _:=rfl;exact hO Y (b:=g) A i O λst A=>hO Y (b:=H) A i O λst A=>jf Y A λst A=>hO Y (b:=H) A O O λst A=>jf Y A h
end
end
section
set_option maxHeartbeats 1000000
open PySem
section
variable{C:Nat->PC}(Y:Sys C){Q:AV->St->Prop}{X:h5->St->Prop}{d:Nat}
include Y
theorem Wn(aC:t.Good)(A:At (.cons t r) w m st)(B:kS c b w .none .none (h3 w.G t.bj) (.cons t r) R)(h:R.post m Q X):WS g3 (C (d+14)) yw (q' c b) st<|nK (C (d+14)) Q X:=by
 refine kR Y A λst A=>?_;haveI a:=CF Y (d:=d) (a3:=V) (a8:=h3 w.G t.bj) (a9:=U .none) (ak:=V) (ap:=V) (ao:=V) (.inl O) (.inl O) A B h λt r e=>by cases e;exact aC
 clear B;induction t with
 |a'=>
  induction b with|true=>exact a|false=>
   conv at a=>whnf
   exact a
 |k=>
  induction b with|true=>exact a|false=>
   conv at a=>whnf
   exact a
 |val=>
  induction b with|true=>exact a|false=>
   conv at a=>whnf
   exact a
 |aU=>
  induction b with|true=>exact a|false=>
   conv at a=>whnf
   exact a
end
theorem Wo(hs:w.E=f::ss):Gives 15 1404 [.bool e,.bool j] (.cons (.val 342 v a b) r) w<|.A (.bI v) r<|w.cU (.au f) ss:=by intro C Y d Q X m st A h;refine Y.c O O<|hO Y (b:=H) A O O λst A=>jf Y A λst A=>?_;obtain⟨z,m',i,pk,P⟩:=A;haveI c:=P.a8;rw[hs]at c;refine⟨rfl,?_⟩;left;rw[show((z.L w).p m').E=f::ss from hs,la];rw[lb];exact h _ _ ⟨_,_,rfl⟩ ⟨z,m',i,pk,P.a6 (hl:=by show ss.length+w.aF.length+4*r.len<=100000;exact f1 (iq (iq (ih _ _) _) _) c)⟩
theorem CH(N:jI e f w T R):Gives 15 1404 [.bool e,.bool f] T w R:=by induction N with|bI hs=>exact Wo hs|ep aC a B=>intro C Y d Q X m st A h;exact vP Y A aC (a _<|.head _) λst A=>Wh Y A aC (a _<|.tail _<|.head _) (a _<|.tail _<|.tail _ (.head _)) λst A=>Wn Y aC A B h|cB c aC a B=>intro C Y d Q X m st A h;exact vP Y A O O λst A=>Wi Y A aC a λst A=>Wg Y O ⟨_,_,_,rfl⟩ c aC A B h|cC b hl aC a B=>intro C Y d Q X m st A h;exact vP Y A O O λst A=>Wj Y A aC a λst A=>CG Y ⟨_,_,_,rfl⟩ (.inl O) b hl aC A B h|gm c b hl aC B=>intro C Y d Q X m st A h;exact vP Y A O O λst A=>Wk Y A λst A=>CG Y ⟨_,_,_,rfl⟩ c b hl aC A B h|gn c b hl aC B=>intro C Y d Q X m st A h;exact vP Y A O O λst A=>Wm Y A λst A=>CG Y ⟨_,_,_,rfl⟩ c b hl aC A B h
theorem Gives.up(G:Gives N f args T w r):Gives (N+k) f args T w r:=by intro C Y d Q X m st A h;haveI:=@G C Y (d+k) Q X m st A h;rwa [show d+k+N=d+(N+k)by exact k6 (kD<|jL<|g' _)<|lE<|hJ (jM (g' _)) _]at this
theorem tX(N:jI g g w T R):Gives 16 1389 [] T w R:=by intro C Y d Q X m st A h;exact Y.c O O<|CH N Y A h
theorem tY(N:jI H g w T R):Gives 16 1382 [] T w R:=by intro C Y d Q X m st A h;exact Y.c O O<|CH N Y A h
theorem JB(N:jI H H w T R):Gives 16 1396 [] T w R:=by intro C Y d Q X m st A h;exact Y.c O O<|CH N Y A h
end
section
set_option maxHeartbeats 1000000
open PySem
noncomputable abbrev yx(Q:AV->St->Prop)(X:h5->St->Prop):KS:=⟨λa st=>Q .none st,Q,λa a=>False,λa=>X⟩
theorem pC{f n:Nat}(z)(m')(a)(b)(c:qm T w m z m' a b)(hl:w.E.length+1+w.aF.length+4*T.len<=100000)(h:qm T (w.bj (f::w.E)) m z m' a b->P):mF ((((z.L w).p m').E.reverse.map AV.au).length+1) P:=by refine iW ?_<|h<|c.a6 (hl:=by assumption);rw[ig,s7];exact f1 (l_<|ih _ _)<|f1 hl (by decide)
theorem mY(w z:Z)(m')(a)(b)(f):(((z.L w).p m').aW a b).ba .E (.m (((z.L w).p m').E.reverse.map AV.au++[.au f]))=((z.L<|w.bj (f::w.E)).p m').aW a b:=by unfold Z.aW;rw[z6,k4];rfl
noncomputable def kz:Ev:=.aU .none .none H g [] .none
theorem ra{i a b:List _}{x}(h:(ha i a||ha i b)=x):lF i [.str a,.str b]=U x:=by subst h;show(match lF i [.str b]with|some y=>U (match ha i a with|true=>H|false=>y)|hR=>hR)=_;rw[jt];induction ha i a<;>rfl
theorem oV(h:(ha i a||(ha i b||ha i c))=x):lF i [.str a,.str b,.str c]=U x:=by subst h;show(match lF i [.str b,.str c]with|some y=>U (match ha i a with|true=>H|false=>y)|hR=>hR)=_;rw[ra O];induction ha i a<;>rfl
noncomputable abbrev Wq:List Nat:=[101,120,112,101,99,116,101,100,32,39,44,39,32,111,114,32,39,93,39,44,32,98,117,116,32,103,111,116,32,37,114]
noncomputable abbrev Ws:List Nat:=[101,120,112,101,99,116,101,100,32,39,44,39,32,111,114,32,39,125,39,44,32,98,117,116,32,103,111,116,32,37,114]
theorem Wt:∀i∈on,g3.dV Wq i=true:=by decide+kernel
theorem Wu:∀i∈on,g3.dV Ws i=true:=by decide+kernel
theorem yy{α:Type}(aC:Nat->α)(j)(r):placeOf (-1) (oh aC (j::r).reverse).length=U (oh aC (j::r).reverse).length.pred:=by unfold placeOf;rw[if_neg (by decide),if_pos O,if_neg (by simp)];rfl
theorem yz{α:Type}(aC:Nat->α)(j)(r):(oh aC (j::r).reverse)[(oh aC (j::r).reverse).length.pred]?=U (aC j):=by simp
theorem yB(w z:Z)(m')(b)(c)(a):(((z.L w).p m').aW b c).ba .aF (.m (((z.L w).p m').aF.reverse.map (h3 ((z.L w).p m').G)++[h3 ((z.L w).p m').G a]))=((z.L<|w.e4 (a::w.aF)).p m').aW b c:=by unfold Z.aW;rw[z6,k4];rfl
inductive pD (w:Z):TS->PR->Prop|dH {a b s:Nat} {r:TS} {ss ms:List Nat} {m0:Nat}:w.E=s::ss->w.aF=m0::ms->pD w (.cons (.k 263 a b) r) (.A .dT r (w.dC (.au s) ss ms))|key {a b:Nat} {r:TS}:pD w (.cons (.k 287 a b) r) (.A (.dF .none .none H (.bool H)) (.cons (.k 287 a b) r) (w.go (.au 1468)))|node {t:Tk} {r:TS} {R:PR}:t.Good->ha t.l [93]=g->ha t.l [63]=g->w.E.length+1+w.aF.length+4*(TS.cons t r).len<=100000->jI g g (w.bj (1461::w.E)) (.cons t r) R->pD w (.cons t r) R
section
variable{C:Nat->PC}(Y:Sys C){Q:AV->St->Prop}{X:h5->St->Prop}{d:Nat}
include Y
theorem JC(hs:w.E=s::ss)(hm:w.aF=m0::ms)(A:At (.cons (.k 263 a b) r) w m st)(h:(PR.A .dT r<|w.dC (.au s) ss ms).post m Q X):WS g3 (C (d+16)) ye.snd [U hf,U i,f,a3] st<|yx Q X:=by refine jf Y A λst A=>?_;obtain⟨z,m',e,pk,P⟩:=A;haveI c:=P.a8;rw[hs,hm]at c;refine⟨rfl,?_⟩;left;rw[show((z.L w).p m').E=s::ss from hs,la];left;rw[show((z.L w).p m').aF=m0::ms from hm,la];rw[lb,lb];exact h _ _ ⟨_,_,rfl⟩ ⟨z,m',e,pk,P.a6 (hl:=by show ss.length+ms.length+4*r.len<=100000;exact f1 (iq (h9 (ih _ _)<|ih _ _) _) c)⟩
theorem JD{T}{R}(I:pD w T R)(A:At T w m st)(h:R.post m Q X):WS g3 (C (d+16)) ye.fst.dl.snd [U hf,U p,o,V] st ⟨λρ st=>WS g3 (C (d+16)) ye.snd ρ st<|yx Q X,Q,λe e=>False,λe=>X⟩:=by
 exists a;induction I with
 |dH hs hm=>have l:lF [93] [.str [93]]=U true:=rfl;exact a<|hO Y (b:=g) A O O λst A=>hO Y A O l λst A=>JC Y hs hm A h|key=>have k:lF [63] [.str [63]]=U true:=rfl;refine a<|hO Y A O k λst A=>kR Y A λst A=>kf λa=>?_;obtain⟨z,m',c,pk,P⟩:=A;refine a ⟨rfl,?_⟩;exact h _ _ ⟨_,_,rfl⟩ ⟨z,m',c,pk,P.a6 (hl:=P.a8)⟩
 |node aC h1 j hl N=>refine a<|hO Y A aC (by rw[jt,j]) λst A=>?_;refine hO Y A aC (by rw[jt,h1]) λst A=>?_;obtain⟨z,m',c,pk,P⟩:=A;refine pC (f:=1461) (n:=0) z m' c pk P hl λi=>?_;rw[mY];exact tX N Y ⟨z,m',c,pk,i⟩ h
end
inductive SeqAt (w:Z):Bool->TS->PR->Prop
 |dH {f:Bool} {a b s:Nat} {r:TS} {ss ms:List Nat} {m0:Nat}:w.E=s::ss->w.aF=m0::ms->SeqAt w f (.cons (.k 263 a b) r) (.A .dT r (w.dC (.au s) ss ms))|fe {a b:Nat} {T:TS} {R:PR}:pD w T R->SeqAt w g (.cons (.k 323 a b) T) R|first {t:Tk} {r:TS} {R:PR}:t.Good->ha t.l [93]=g->pD w (.cons t r) R->SeqAt w H (.cons t r) R
 |aE {t:Tk} {r:TS} {m0:Nat} {ms:List Nat}:t.Good->ha t.l [93]=g->ha t.l [44]=g->t.l∈on->w.aF=m0::ms->SeqAt w g (.cons t r) (.c' (h3 w.G m0) (h3 w.G t.bj))
set_option tactic.hygienic true in
theorem JE(I:SeqAt w f T R):Gives 17 1461 [.bool f] T w R:=by
 intro C Y d Q X m st A h;refine Y.c O O<|kf λe=>?_;induction I with
 |dH hs hm=>exact e<|hO Y (b:=H) A O O λst A=>JC Y hs hm A h|fe I=>exact e<|hO Y (b:=g) A O O λst A=>hO Y (b:=H) A O O λst A=>jf Y A λst A=>JD Y I A h|first aC h1 I=>refine e<|hO Y A aC (by rw[jt,h1]) λst A=>?_;exact JD Y I A h
 |aE aC h1 c k hm=>rename_i t r m0 ms;refine e<|hO Y A aC (by rw[jt,h1]) λst A=>?_;refine hO Y A aC (by rw[jt,c]) λst A=>?_;refine kR Y A λst A=>?_;obtain⟨z,m',l,pk,P⟩:=A;haveI j:=Wt _ k;left;rw[show((z.L w).p m').aF=m0::ms from hm,yy];left;rw[yz];rw[show((z.L w).p m').G=w.G from P.b5];clear A;induction t with|a' a=>exactλi c=>h _ _ _ _ _ P.bg|k K a b=>left;rw[show g3.be K _=U _ from aC];left;rw[j];exactλi c=>h _ _ _ _ _ P.bg|val K v a b=>left;rw[show g3.be K _=U _ from aC];left;rw[j];exactλi c=>h _ _ _ _ _ P.bg|aU=>exactλi c=>h _ _ _ _ _ P.bg
theorem Wv(hl:w.E.length+(w.aF.length+1)+4*T.len<=100000)(I:SeqAt (w.e4 (a::w.aF)) H T R):Gives 18 1453 [] (.cons (.k 239 a b) T) w R:=by
 intro C Y d Q X m st A h;refine Y.c O O<|jf Y A λst A=>?_;obtain⟨z,m',c,pk,P⟩:=A;refine iW ?_ ?_;.rw[ig,s7];exact f1 (l_<|jv _ _)<|f1 hl (by decide)
 rw[show h3 _ a=h3 ((z.L w).p m').G a from by rw[show((z.L w).p m').G=w.G from P.b5]];rw[yB];exact JE I Y ⟨z,m',c,pk,P.a6 (hl:=by assumption)⟩ h
end
section
set_option maxHeartbeats 1000000
open PySem
inductive nZ (w:Z):TS->PR->Prop|dH {a b s:Nat} {r:TS} {ss ms:List Nat} {m0:Nat}:w.E=s::ss->w.aF=m0::ms->nZ w (.cons (.k 275 a b) r) (.A .dG r (w.dC (.au s) ss ms))|gp {a b:Nat} {t:Tk} {r:TS}:t.Good->(ha t.l [58]||(ha t.l [44]||ha t.l [125]))=H->nZ w (.cons (.k 287 a b) (.cons t r)) (.A kz (.cons t r) (w.go (.au 1504)))|gq {a b:Nat} {t:Tk} {r:TS} {R:PR}:t.Good->(ha t.l [58]||(ha t.l [44]||ha t.l [125]))=g->w.E.length+1+w.aF.length+4*(TS.cons t r).len<=100000->jI g g (w.bj (1504::w.E)) (.cons t r) R->nZ w (.cons (.k 287 a b) (.cons t r)) R|node {t:Tk} {r:TS} {R:PR}:t.Good->ha t.l [125]=g->ha t.l [63]=g->w.E.length+1+w.aF.length+4*(TS.cons t r).len<=100000->jI g g (w.bj (1511::w.E)) (.cons t r) R->nZ w (.cons t r) R
section
variable{C:Nat->PC}(Y:Sys C){Q:AV->St->Prop}{X:h5->St->Prop}{d:Nat}
include Y
theorem JF(hs:w.E=s::ss)(hm:w.aF=m0::ms)(A:At (.cons (.k 275 a b) r) w m st)(h:(PR.A .dG r<|w.dC (.au s) ss ms).post m Q X):WS g3 (C (d+16)) yf.snd [U hf,U i,f,a3] st<|yx Q X:=by refine jf Y A λst A=>?_;obtain⟨z,m',e,pk,P⟩:=A;haveI c:=P.a8;rw[hs,hm]at c;refine⟨rfl,?_⟩;left;rw[show((z.L w).p m').E=s::ss from hs,la];left;rw[show((z.L w).p m').aF=m0::ms from hm,la];rw[lb,lb];exact h _ _ ⟨_,_,rfl⟩ ⟨z,m',e,pk,P.a6 (hl:=by show ss.length+ms.length+4*r.len<=100000;exact f1 (iq (h9 (ih _ _)<|ih _ _) _) c)⟩
theorem JG{T}{R}(I:nZ w T R)(A:At T w m st)(h:R.post m Q X):WS g3 (C (d+16)) yf.fst.dl.snd [U hf,U o,l,V] st ⟨λρ st=>WS g3 (C (d+16)) yf.snd ρ st<|yx Q X,Q,λi i=>False,λi=>X⟩:=by
 exists a;induction I with
 |dH hs hm=>exact a<|hO Y (b:=g) A O O λst A=>hO Y (b:=H) A O O λst A=>JF Y hs hm A h|gp aC h1=>refine a<|hO Y (b:=H) A O O λst A=>jf Y A λst A=>hO Y A aC (oV h1) λst A=>kf λa=>?_;obtain⟨z,m',c,pk,P⟩:=A;exact a<|lJ Y λv k=>h _ _ k ⟨z,m',c,pk,P.a6 (hl:=P.a8)⟩
 |gq aC h1 hl N=>refine a<|hO Y (b:=H) A O O λst A=>jf Y A λst A=>hO Y A aC (oV h1) λst A=>kf λa=>?_;obtain⟨z,m',c,pk,P⟩:=A;refine a<|pC (f:=1504) (n:=0) z m' c pk P hl λe=>?_;rw[mY];exact tX N Y ⟨z,m',c,pk,e⟩ h
 |node aC h1 j hl N=>refine a<|hO Y A aC (by rw[jt,j]) λst A=>?_;refine hO Y A aC (by rw[jt,h1]) λst A=>kf λa=>?_;obtain⟨z,m',c,pk,P⟩:=A;refine a<|pC (f:=1511) (n:=0) z m' c pk P hl λe=>?_;rw[mY];exact tX N Y ⟨z,m',c,pk,e⟩ h
end
inductive oW (w:Z):Bool->TS->PR->Prop
 |dH {f:Bool} {a b s:Nat} {r:TS} {ss ms:List Nat} {m0:Nat}:w.E=s::ss->w.aF=m0::ms->oW w f (.cons (.k 275 a b) r) (.A .dG r (w.dC (.au s) ss ms))|fe {a b:Nat} {T:TS} {R:PR}:nZ w T R->oW w g (.cons (.k 323 a b) T) R|first {t:Tk} {r:TS} {R:PR}:t.Good->ha t.l [125]=g->nZ w (.cons t r) R->oW w H (.cons t r) R
 |aE {t:Tk} {r:TS} {m0:Nat} {ms:List Nat}:t.Good->ha t.l [125]=g->ha t.l [44]=g->t.l∈on->w.aF=m0::ms->oW w g (.cons t r) (.c' (h3 w.G m0) (h3 w.G t.bj))
set_option tactic.hygienic true in
theorem JH(I:oW w f T R):Gives 17 1497 [.bool f] T w R:=by
 intro C Y d Q X m st A h;refine Y.c O O<|kf λe=>?_;induction I with
 |dH hs hm=>exact e<|hO Y (b:=H) A O O λst A=>JF Y hs hm A h|fe I=>exact e<|hO Y (b:=g) A O O λst A=>hO Y (b:=H) A O O λst A=>jf Y A λst A=>JG Y I A h|first aC h1 I=>refine e<|hO Y A aC (by rw[jt,h1]) λst A=>?_;exact JG Y I A h
 |aE aC h1 c k hm=>rename_i t r m0 ms;refine e<|hO Y A aC (by rw[jt,h1]) λst A=>?_;refine hO Y A aC (by rw[jt,c]) λst A=>?_;refine kR Y A λst A=>?_;obtain⟨z,m',l,pk,P⟩:=A;haveI j:=Wu _ k;left;rw[show((z.L w).p m').aF=m0::ms from hm,yy];left;rw[yz];rw[show((z.L w).p m').G=w.G from P.b5];clear A;induction t with|a' a=>exactλi c=>h _ _ _ _ _ P.bg|k K a b=>left;rw[show g3.be K _=U _ from aC];left;rw[j];exactλi c=>h _ _ _ _ _ P.bg|val K v a b=>left;rw[show g3.be K _=U _ from aC];left;rw[j];exactλi c=>h _ _ _ _ _ P.bg|aU=>exactλi c=>h _ _ _ _ _ P.bg
theorem Ww(hl:w.E.length+(w.aF.length+1)+4*T.len<=100000)(I:oW (w.e4 (a::w.aF)) H T R):Gives 18 1489 [] (.cons (.k 251 a b) T) w R:=by
 intro C Y d Q X m st A h;refine Y.c O O<|jf Y A λst A=>?_;obtain⟨z,m',c,pk,P⟩:=A;refine iW ?_ ?_;.rw[ig,s7];exact f1 (l_<|jv _ _)<|f1 hl (by decide)
 rw[show h3 _ a=h3 ((z.L w).p m').G a from by rw[show((z.L w).p m').G=w.G from P.b5]];rw[yB];exact JH I Y ⟨z,m',c,pk,P.a6 (hl:=by assumption)⟩ h
theorem Wx(aC:t.Good)(h1:(ha t.l [58]||(ha t.l [44]||ha t.l [93]))=H):Gives 17 1468 [] (.cons (.k 287 a b)<|.cons t r) w<|.A kz (.cons t r)<|w.go (.au 1475):=by intro C Y d Q X m st A h;refine Y.c O O<|jf Y A λst A=>hO Y A aC (oV h1) λst A=>?_;obtain⟨z,m',c,pk,P⟩:=A;exact lJ Y λv e=>h _ _ e ⟨z,m',c,pk,P.a6 (hl:=P.a8)⟩
theorem Wy(aC:t.Good)(h1:(ha t.l [58]||(ha t.l [44]||ha t.l [93]))=g)(hl:w.E.length+1+w.aF.length+4*(TS.cons t r).len<=100000)(N:jI g g (w.bj (1475::w.E)) (.cons t r) R):Gives 17 1468 [] (.cons (.k 287 a b)<|.cons t r) w R:=by intro C Y d Q X m st A h;refine Y.c O O<|jf Y A λst A=>hO Y A aC (oV h1) λst A=>?_;obtain⟨z,m',c,pk,P⟩:=A;refine pC (f:=1475) (n:=0) z m' c pk P hl λe=>?_;rw[mY];exact tX N Y ⟨z,m',c,pk,e⟩ h
theorem Wz(aC:t.Good)(h1:(ha t.l [44]||ha t.l [93])=H):Gives 17 1475 [] (.cons (.k 299 a b)<|.cons t r) w<|.A kz (.cons t r)<|w.go (.au 1482):=by intro C Y d Q X m st A h;refine Y.c O O<|hO Y (b:=H) A O O λst A=>jf Y A λst A=>hO Y A aC (ra h1) λst A=>?_;obtain⟨z,m',c,pk,P⟩:=A;exact lJ Y λv e=>h _ _ e ⟨z,m',c,pk,P.a6 (hl:=P.a8)⟩
theorem WA(aC:t.Good)(h1:(ha t.l [44]||ha t.l [93])=g)(hl:w.E.length+1+w.aF.length+4*(TS.cons t r).len<=100000)(N:jI g g (w.bj (1482::w.E)) (.cons t r) R):Gives 17 1475 [] (.cons (.k 299 a b)<|.cons t r) w R:=by intro C Y d Q X m st A h;refine Y.c O O<|hO Y (b:=H) A O O λst A=>jf Y A λst A=>hO Y A aC (ra h1) λst A=>?_;obtain⟨z,m',c,pk,P⟩:=A;refine pC (f:=1482) (n:=0) z m' c pk P hl λe=>?_;rw[mY];exact tX N Y ⟨z,m',c,pk,e⟩ h
theorem WB(aC:t.Good)(h1:ha t.l [58]=g):Gives 17 1475 [] (.cons t r) w<|.A kz (.cons t r)<|w.go (.au 1482):=by intro C Y d Q X m st A h;refine Y.c O O<|hO Y A aC (by rw[jt,h1]) λst A=>?_;obtain⟨z,m',b,pk,P⟩:=A;refine kR Y (w:=(w.go<|.au _)) ⟨z,m',b,pk,P.a6 (hl:=P.a8)⟩ λst A=>?_;clear P h1 aC;induction t with|a'=>exact lJ Y λv a=>h _ _ a A|k=>exact lJ Y λv a=>h _ _ a A|val=>exact lJ Y λv a=>h _ _ a A|aU=>exact lJ Y λv a=>h _ _ a A
theorem WC(aC:t.Good)(h1:(ha t.l [44]||ha t.l [125])=H):Gives 17 1504 [] (.cons (.k 299 a b)<|.cons t r) w<|.A kz (.cons t r)<|w.go (.au 1497):=by intro C Y d Q X m st A h;refine Y.c O O<|hO Y (b:=H) A O O λst A=>jf Y A λst A=>hO Y A aC (ra h1) λst A=>?_;obtain⟨z,m',c,pk,P⟩:=A;exact lJ Y λv e=>h _ _ e ⟨z,m',c,pk,P.a6 (hl:=P.a8)⟩
theorem WD(aC:t.Good)(h1:(ha t.l [44]||ha t.l [125])=g)(hl:w.E.length+1+w.aF.length+4*(TS.cons t r).len<=100000)(N:jI g g (w.bj (1497::w.E)) (.cons t r) R):Gives 17 1504 [] (.cons (.k 299 a b)<|.cons t r) w R:=by intro C Y d Q X m st A h;refine Y.c O O<|hO Y (b:=H) A O O λst A=>jf Y A λst A=>hO Y A aC (ra h1) λst A=>?_;obtain⟨z,m',c,pk,P⟩:=A;refine pC (f:=1497) (n:=0) z m' c pk P hl λe=>?_;rw[mY];exact tX N Y ⟨z,m',c,pk,e⟩ h
theorem WF(aC:t.Good)(h1:ha t.l [58]=g):Gives 17 1504 [] (.cons t r) w<|.A kz (.cons t r)<|w.go (.au 1497):=by intro C Y d Q X m st A h;refine Y.c O O<|hO Y A aC (by rw[jt,h1]) λst A=>?_;obtain⟨z,m',b,pk,P⟩:=A;refine kR Y (w:=(w.go<|.au _)) ⟨z,m',b,pk,P.a6 (hl:=P.a8)⟩ λst A=>?_;clear P h1 aC;induction t with|a'=>exact lJ Y λv a=>h _ _ a A|k=>exact lJ Y λv a=>h _ _ a A|val=>exact lJ Y λv a=>h _ _ a A|aU=>exact lJ Y λv a=>h _ _ a A
theorem WG:Gives 17 1482 [] (.cons t r) w<|.A .dG (.cons t r)<|w.go (.au 1461):=by intro C Y d Q X m st A h;obtain⟨z,m',a,pk,P⟩:=A;refine Y.c O O<|kR Y (w:=(w.go<|.au _)) ⟨z,m',a,pk,P.a6 (hl:=P.a8)⟩ λst A=>?_;clear P;induction t with|a'=>exact⟨rfl,h _ _ ⟨_,_,rfl⟩ A⟩|k=>exact⟨rfl,h _ _ ⟨_,_,rfl⟩ A⟩|val=>exact⟨rfl,h _ _ ⟨_,_,rfl⟩ A⟩|aU=>exact⟨rfl,h _ _ ⟨_,_,rfl⟩ A⟩
theorem WH:Gives 17 1511 [] (.cons t r) w<|.A kz (.cons t r)<|w.go (.au 1497):=by intro C Y d Q X m st A h;obtain⟨z,m',b,pk,P⟩:=A;refine Y.c O O<|kR Y (w:=(w.go<|.au _)) ⟨z,m',b,pk,P.a6 (hl:=P.a8)⟩ λst A=>?_;clear P;induction t with|a'=>exact lJ Y λv a=>h _ _ a A|k=>exact lJ Y λv a=>h _ _ a A|val=>exact lJ Y λv a=>h _ _ a A|aU=>exact lJ Y λv a=>h _ _ a A
end
section
set_option maxHeartbeats 1000000
open PySem
theorem CI(h:(ha i a||(ha i b||(ha i c||ha i e)))=x):lF i [.str a,.str b,.str c,.str e]=U x:=by subst h;show(match lF i [.str b,.str c,.str e]with|some y=>U (match ha i a with|true=>H|false=>y)|hR=>hR)=_;rw[oV O];induction ha i a<;>rfl
theorem WJ(aC:t.Good)(h1:(ha t.l [45]||ha t.l oU)=g)(hl:w.E.length+1+w.aF.length+4*(TS.cons t r).len<=100000)(N:jI H g (w.bj (1418::w.E)) (.cons t r) R):Gives 17 1418 [] (.cons (.k 311 a b)<|.cons t r) w R:=by intro C Y d Q X m st A h;refine Y.c O O<|hO Y (b:=H) A O O λst A=>jf Y A λst A=>hO Y A aC (ra h1) λst A=>kf λi=>?_;obtain⟨z,m',c,pk,P⟩:=A;refine i<|pC (f:=1418) (n:=0) z m' c pk P hl λe=>?_;rw[mY];exact tY N Y ⟨z,m',c,pk,e⟩ h
theorem WK(hs:w.E=s::ss)(hm:w.aF=m0::ms):Gives 17 1418 [] (.cons (.k 227 a b) r) w<|.A .dT r<|w.dC (.au s) ss ms:=by intro C Y d Q X m st A h;refine Y.c O O<|hO Y (b:=g) A O O λst A=>hO Y (b:=H) A O O λst A=>jf Y A λst A=>?_;obtain⟨z,m',e,pk,P⟩:=A;haveI c:=P.a8;rw[hs,hm]at c;refine⟨rfl,?_⟩;left;rw[show((z.L w).p m').E=s::ss from hs,la];left;rw[show((z.L w).p m').aF=m0::ms from hm,la];rw[lb,lb];exact h _ _ ⟨_,_,rfl⟩ ⟨z,m',e,pk,P.a6 (hl:=by show ss.length+ms.length+4*r.len<=100000;exact f1 (iq (h9 (ih _ _)<|ih _ _) _) c)⟩
theorem WL(hl:w.E.length+(w.aF.length+1)+4*T.len<=100000)(G:Gives 17 1418 [] T (w.e4 (a::w.aF)) R):Gives 18 1411 [] (.cons (.k 203 a b) T) w R:=by
 intro C Y d Q X m st A h;refine Y.c O O<|jf Y A λst A=>?_;obtain⟨z,m',c,pk,P⟩:=A;refine iW ?_ ?_;.rw[ig,s7];exact f1 (l_<|jv _ _)<|f1 hl (by decide)
 rw[show h3 _ a=h3 ((z.L w).p m').G a from by rw[show((z.L w).p m').G=w.G from P.b5]];rw[yB];exact G Y ⟨z,m',c,pk,P.a6 (hl:=by assumption)⟩ h
theorem WM(aC:t.Good)(h1:(ha t.l [63]||(ha t.l [58]||ha t.l oU))=g)(hl:w.E.length+1+w.aF.length+4*(TS.cons t r).len<=100000)(N:jI H H (w.bj (1446::w.E)) (.cons t r) R):Gives 17 1439 [] (.cons (.k 287 a b)<|.cons t r) w R:=by intro C Y d Q X m st A h;refine Y.c O O<|hO Y (b:=H) A O O λst A=>jf Y A λst A=>hO Y A aC (oV h1) λst A=>kf λi=>?_;obtain⟨z,m',c,pk,P⟩:=A;refine i<|pC (f:=1446) (n:=0) z m' c pk P hl λe=>?_;rw[mY];exact JB N Y ⟨z,m',c,pk,e⟩ h
theorem WN(hs:w.E=s::ss)(hm:w.aF=m0::ms):Gives 17 1439 [] (.cons (.k 227 a b) r) w<|.A .dG r<|w.dC (.au s) ss ms:=by intro C Y d Q X m st A h;refine Y.c O O<|hO Y (b:=g) A O O λst A=>hO Y (b:=H) A O O λst A=>jf Y A λst A=>?_;obtain⟨z,m',e,pk,P⟩:=A;haveI c:=P.a8;rw[hs,hm]at c;refine⟨rfl,?_⟩;left;rw[show((z.L w).p m').E=s::ss from hs,la];left;rw[show((z.L w).p m').aF=m0::ms from hm,la];rw[lb,lb];exact h _ _ ⟨_,_,rfl⟩ ⟨z,m',e,pk,P.a6 (hl:=by show ss.length+ms.length+4*r.len<=100000;exact f1 (iq (h9 (ih _ _)<|ih _ _) _) c)⟩
theorem WO(hl:w.E.length+(w.aF.length+1)+4*T.len<=100000)(G:Gives 17 1439 [] T (w.e4 (a::w.aF)) R):Gives 18 1432 [] (.cons (.k 215 a b) T) w R:=by
 intro C Y d Q X m st A h;refine Y.c O O<|jf Y A λst A=>?_;obtain⟨z,m',c,pk,P⟩:=A;refine iW ?_ ?_;.rw[ig,s7];exact f1 (l_<|jv _ _)<|f1 hl (by decide)
 rw[show h3 _ a=h3 ((z.L w).p m').G a from by rw[show((z.L w).p m').G=w.G from P.b5]];rw[yB];exact G Y ⟨z,m',c,pk,P.a6 (hl:=by assumption)⟩ h
theorem WP(aC:t.Good)(h1:(ha t.l [63]||(ha t.l [58]||ha t.l oU))=g)(hl:w.E.length+1+w.aF.length+4*(TS.cons t r).len<=100000)(N:jI H H (w.bj (1439::w.E)) (.cons t r) R):Gives 17 1446 [] (.cons (.k 299 a b)<|.cons t r) w R:=by intro C Y d Q X m st A h;refine Y.c O O<|hO Y (b:=H) A O O λst A=>jf Y A λst A=>hO Y A aC (oV h1) λst A=>?_;obtain⟨z,m',c,pk,P⟩:=A;refine pC (f:=1439) (n:=0) z m' c pk P hl λe=>?_;rw[mY];exact JB N Y ⟨z,m',c,pk,e⟩ h
end
section
set_option maxHeartbeats 1000000
open PySem
theorem WQ:Gives 17 1340 [] (.cons (.a' a) r) w<|.A .d' r<|w.go (.au 1347):=by intro C Y d Q X m st A h;refine Y.c O O<|jf Y A λst A=>?_;obtain⟨z,m',b,pk,P⟩:=A;refine⟨rfl,?_⟩;exact h _ _ ⟨_,_,rfl⟩ ⟨z,m',b,pk,P.a6 (hl:=P.a8)⟩
theorem WR(aC:t.Good)(h1:(ha t.l yt||(ha t.l vK||ha t.l vL))=g)(hl:w.E.length+1+w.aF.length+4*(TS.cons t r).len<=100000):Gives 17 1347 [] (.cons t r) w<|.A (.dD g) (.cons t r) {w with bU:=.val<|.ref 1304,o:=1,E:=1361::w.E,bt:=.au 1382}:=by
 intro C Y d Q X m st A h;refine Y.c O O<|hO Y A aC (oV h1) λst A=>?_;obtain⟨z,m',c,pk,P⟩:=A;refine kR Y (w:={w with bU:=.val _,o:=1}) ⟨z,m',c,pk,P.e5,P.bg,P.eo,P.b5,λe=>.inl O,P.a8⟩ λst A=>?_;obtain⟨z,m',c,pk,P⟩:=A;have a:∀x y,Q (.obj 533 [26,27,38,39,40] [x,y,.bool _,.none,.none])<|((z.L _).p m').aW c pk:=λx y=>h _ _ ⟨_,_,rfl⟩ ⟨z,m',c,pk,P.a6 (hl:=by assumption)⟩;have b:(((z.L {w with bU:=.val<|.ref 1304,o:=1}).p m').E.reverse.map AV.au).length+1<=1000000:=by rw[ig,s7];exact f1 (l_<|ih _ _)<|f1 hl (by decide)
 clear P h A hl h1 aC;induction t with|a'=>refine⟨rfl,?_⟩;refine iW b ?_;rw[mY];exact a _ _|k=>refine⟨rfl,?_⟩;refine iW b ?_;rw[mY];exact a _ _|val=>refine⟨rfl,?_⟩;refine iW b ?_;rw[mY];exact a _ _|aU=>refine⟨rfl,?_⟩;refine iW b ?_;rw[mY];exact a _ _
theorem WT(aC:t.Good)(h1:(ha t.l yt||(ha t.l vK||ha t.l vL))=H)(G:Gives 17 1354 [] (.cons t r) w R):Gives 18 1347 [] (.cons t r) w R:=by intro C Y d Q X m st A h;exact Y.c O O<|hO Y A aC (oV h1) λst A=>G Y A h
theorem WU{C:Nat->PC}(Y:Sys C){d}{Q:AV->St->Prop}{X:h5->St->Prop}{w}{t}{r}{m}{st}(A:At (.cons t r) w m st)(aC:t.Good)(h1:ha t.l yt=g)(h:∀ac tg,At (.cons t r) {w with bU:=tg,o:=1} m ac->Q (.av [.none,.none]) ac):C (d+14) 1375 [hf] st Q X:=by
 obtain⟨z,m',B,pk,P⟩:=A;refine Y.c O O ?_;obtain⟨w1,p⟩:∃w1:Z,w1={w with bU:=.mut<|.j m'.f,o:=0}:=⟨_,rfl⟩;haveI o:w1.bU=.mut (.j _):=by rw[p]
 haveI I:At (.cons t r) w1 (m'.add<|.bK [])<|((z.L w1).p<|m'.add (.bK [])).aW B pk:=⟨z,_,B,pk,by rw[p];exact⟨P.e5,g2.le.refl _,P.eo,P.b5,(λq=>by cases q),P.a8⟩⟩;haveI f:(((z.L {w with bU:=.mut<|.j _}).p<|m'.add<|.bK []).aW B pk)=(((z.L w1).p<|m'.add<|.bK []).aW B pk):=by rw[p];rfl
 refine .turn (λD D=>False) (λD D x=>x.elim)<|hO Y (d:=d) (b:=g) (by haveI n:=I;rw[<-f]at n;exact n) aC (by rw[jt,h1]) λst J=>?_;obtain⟨e,m2,j,l,y⟩:=J;haveI E:m2.j m'.f=U (.bK []):=y.bg.at (kY _)<|g2.bu _ _;haveI T:m'.f<m2.f:=hy (kY _) y.bg.1;haveI tr:∀(m3:g2) f,m3.j _=U (.bK f)->nS (((e.L w1).p m3).aW _ _) (.mut<|.j m'.f)=U (!f.isEmpty):=by intro m3 f c;show w_ ((((e.L w1).p m3).aW j l).cell<|.j m'.f)=_;rw[show(((e.L w1).p m3).aW _ _).cell (.j _)=U (.bK f)from c];rfl
 haveI s:∀(m3:g2) f k,m3.j _=U (.bK f)->k7 _ (((e.L w1).p m3).aW _ _) _ (.str k) (.mut<|.j _)=U (!r0 k f):=by
  intro m3 f k c;haveI L:tw (((e.L w1).p m3).aW j l) (.j _) (.str k)=U (r0 k f):=by show(match(((e.L w1).p m3).aW _ _).cell<|.j _ with|some<|.bK f=>U<|r0 k f|_=>V)=_;rw[show(((e.L w1).p m3).aW _ _).cell (.j m'.f)=U _ from c]
  haveI M:k7 g3 _ .cj (.str k) (.mut<|.j m'.f)=(tw (((e.L w1).p m3).aW j l) _<|.str k).map _:=by induction k with|nil=>rfl|cons a r=>induction r<;>rfl
  rw[M,L];rfl
 left;rw[show((e.L w1).p m2).bU=.mut _ from o];rw[tr m2 _ E];refine⟨trivial,?_⟩;left;rw[show((e.L w1).p m2).bU=.mut _ from o,s m2 _ _ E];left;rw[show((e.L w1).p m2).bU=.mut _ from o];left;rw[show(((e.L w1).p m2).aW _ _).cell (.j _)=U _ from E];haveI G:(m2.set _<|.bK [([33],.str [33])]).j m'.f=U (.bK [([33],.str [33])]):=g2.bp _ _ _;refine⟨trivial,?_⟩;left;rw[show((e.L w1).p _).bU=.mut _ from o,s _ _ _ G];left;rw[show((e.L w1).p _).bU=.mut _ from o];left;rw[show(((e.L w1).p<|m2.set _ _).aW _ _).cell (.j _)=U _ from G];refine⟨trivial,?_⟩;refine h _ (.mut<|.j m'.f)<|.dX e ((m2.set m'.f<|.bK [([33],.str [33])]).set m'.f<|.bK [([33],.str [33]),([33,33],.str [116,97,103,58,121,97,109,108,46,111,114,103,44,50,48,48,50,58])]) j l ?_ ?_;.rw[p];rfl
 .haveI l1:=(P.bg.trans<|g2.le.add _ _).trans y.bg;haveI lW:=P.bg.1;haveI i:=y;rw[p]at i;exact⟨i.e5,(l1.set _ lW).set _ lW,i.eo,i.b5,λD=>.inr ⟨_,_,rfl,T,g2.bp _ _ _,rfl,rfl⟩,i.a8⟩
theorem JJ(hl:w.E.length+1+w.aF.length+4*r.len<=100000):Gives 17 1354 [] (.cons (.k 147 a b) r) w<|.e6 (.dD H) r λe=>{w with bU:=e,o:=1,E:=1361::w.E,bt:=.au 1368}:=by
 intro C Y d Q X m st A h;haveI c:(Tk.k 147 a b).id _:=rfl;refine Y.c O O<|.turn (λf f=>False) (λf f x=>x.elim)<|hO Y A c O λst A=>hO Y (b:=g) A c O λst A=>kR Y A λst A=>WU Y A O O λst e A=>hO Y (b:=H) A c O λst A=>jf Y A λst A=>?_;obtain⟨z,m',i,pk,P⟩:=A;refine⟨rfl,?_⟩;refine iW ?_ ?_;.rw[ig,s7];exact f1 (l_<|ih _ _)<|f1 hl (by decide)
 rw[mY];exact h _ _ e ⟨_,_,rfl⟩ ⟨z,m',i,pk,P.a6 (hl:=by assumption)⟩
theorem JK(h1:w.E=[])(i:w.aF=[]):Gives 17 1354 [] (.cons (.k 191 a b) r) w<|.A .cS r<|w.go (.none):=by intro C Y d Q X m st A h;haveI e:(Tk.k 191 a b).id _:=rfl;refine Y.c O O<|.turn (λc c=>False) (λc c x=>x.elim)<|hO Y (b:=g) A e O λst A=>hO Y (b:=H) A e O λst A=>jf Y A λst A=>?_;obtain⟨z,m',f,pk,P⟩:=A;refine⟨rfl,?_⟩;left;rw[show((z.L w).p m').E=[]from h1];left;rw[show((z.L w).p m').aF=[]from i];refine h _ _ ⟨_,_,rfl⟩<|.dX z m' f pk ?_<|P.a6 (hl:=P.a8);rfl
theorem WV:Gives 17 1361 [] (.cons (.k 159 a b) r) w<|.A (.c1 H) r<|w.go (.au 1354):=by intro C Y d Q X m st A h;refine Y.c O O<|kR Y A λst A=>hO Y (b:=H) A O O λst A=>jf Y A λst A=>?_;obtain⟨z,m',c,pk,P⟩:=A;refine⟨rfl,?_⟩;exact h _ _ ⟨_,_,rfl⟩ ⟨z,m',c,pk,P.a6 (hl:=P.a8)⟩
theorem JL(aC:t.Good)(h1:ha t.l yu=g):Gives 17 1361 [] (.cons t r) w<|.A (.c1 g) (.cons t r)<|w.go (.au 1354):=by
 intro C Y d Q X m st A h;refine Y.c O O<|kR Y A λst A=>?_;induction t with
 |a'=>refine hO Y A aC (by rw[jt,h1]) λst A=>kf λb=>?_;obtain⟨z,m',a,pk,P⟩:=A;refine b ⟨rfl,?_⟩;exact h _ _ ⟨_,_,rfl⟩ ⟨z,m',a,pk,P.a6 (hl:=P.a8)⟩
 |k=>refine hO Y A aC (by rw[jt,h1]) λst A=>kf λb=>?_;obtain⟨z,m',a,pk,P⟩:=A;refine b ⟨rfl,?_⟩;exact h _ _ ⟨_,_,rfl⟩ ⟨z,m',a,pk,P.a6 (hl:=P.a8)⟩
 |val=>refine hO Y A aC (by rw[jt,h1]) λst A=>kf λb=>?_;obtain⟨z,m',a,pk,P⟩:=A;refine b ⟨rfl,?_⟩;exact h _ _ ⟨_,_,rfl⟩ ⟨z,m',a,pk,P.a6 (hl:=P.a8)⟩
 |aU=>refine hO Y A aC (by rw[jt,h1]) λst A=>?_;obtain⟨z,m',a,pk,P⟩:=A;refine⟨rfl,?_⟩;exact h _ _ ⟨_,_,rfl⟩ ⟨z,m',a,pk,P.a6 (hl:=P.a8)⟩
theorem JM(aC:t.Good)(h1:(ha t.l yt||(ha t.l vK||(ha t.l yu||ha t.l vL)))=g)(N:jI H g w (.cons t r) R):Gives 17 1368 [] (.cons t r) w R:=by intro C Y d Q X m st A h;exact Y.c O O<|hO Y A aC (CI h1) λst A=>tY N Y A h
end
section
set_option maxHeartbeats 1000000
open PySem
theorem CJ{e:Ev}{v}(h:e.is v):∃K ks a,v=.obj K ks a:=by induction e<;>exact jj h λb b e=>⟨_,_,_,e⟩
noncomputable def PR.gZ(r:PR)(m:g2)(Q:AV->St->Prop)(X:h5->St->Prop):Prop:=match r with| .A e T' w'=>∀(ac:St) (v:AV),e.is v->At T' {w' with A:=v} m ac->Q v ac| .e6 e T' W=>∀(ac:St) (v i:AV),e.is v->At T' {W i with A:=v} m ac->Q v ac| .c' a b=>∀(z:Z) (h:Bool) (pk c f:AV),m.le z.x->X ⟨1293,[c,a,f,b,.none]⟩ (z.aW h pk)| .fC a b=>∀(z:Z) (c f:AV),m.le z.x->X ⟨744,[c,a,f,b,.none]⟩ z.h
section
variable{C:Nat->PC}(Y:Sys C){Q:AV->St->Prop}{X:h5->St->Prop}{d:Nat}
include Y
theorem CK(G:Gives 18 f o T w r)(hs:w.bt=.au f)(he:w.A=.none)(hm:g3.bW f=U o)(A:At T w m st)(h:r.gZ m Q X):C (d+19) 1326 [hf] st Q X:=by
 refine Y.c O O ?_;haveI l:=A;obtain⟨z,m',s,pk,P⟩:=A;left;rw[show((z.L w).p m').A=.none from he];left;rw[show((z.L w).p m').bt=.au f from hs];left;rw[show((z.L w).p m').bt=.au f from hs];left;rw[hm];refine G Y l ?_;clear G;induction r with
 |A e T' w'=>intro ac v k j;obtain⟨i,m2,a,b,c⟩:=j;exact(h (((i.L _).p m2).aW a b) v k ⟨i,m2,a,b,c.a6 (hl:=c.a8)⟩)
 |e6 e T' W=>intro ac v q k j;obtain⟨i,m2,a,b,c⟩:=j;exact(h (((i.L _).p m2).aW a b) v q k ⟨i,m2,a,b,c.a6 (hl:=c.a8)⟩)
 |c' n p=>exact h|fC n p=>exact h
theorem WW(hs:w.bt=.none)(he:w.A=.none)(A:At T w m st)(h:Q .none st):C (d+19) 1326 [hf] st Q X:=by refine Y.c O O ?_;obtain⟨z,m',a,pk,P⟩:=A;left;rw[show((z.L w).p m').A=.none from he];left;rw[show((z.L w).p m').bt=.none from hs];left;rw[show((z.L w).p m').A=.none from he];exact h
theorem WX{w:Z}(c:∃K ks a,v=.obj K ks a)(A:At T {w with A:=v} m st) (h:∀ac,At T {w with A:=.none} m ac->Q v ac):C (d+1) 1333 [hf] st Q X:=by obtain⟨K,ks,a,rfl⟩:=c;refine Y.c O O ?_;obtain⟨z,m',b,pk,P⟩:=A;exact h _ ⟨z,m',b,pk,P.a6 (hl:=P.a8)⟩
noncomputable def kJ(c:Nat):Prop:=c=9\/c=10\/(32<=c/\c<=126)
theorem WY(b:kJ c)(h:Q (.bool H) st):C (d+1) 668 [.str [c]] st Q X:=by
 refine Y.c O O ?_;rcases b with rfl|rfl|⟨h1,a⟩
 .exact h
 .exact h
 .left;rw[mc (mg h1 O)<|mc (mg h1 O)<|mc (mg h1 O)<|mc (mz (wW a) O) O];left;rw[nA,decide_eq_true h1];left;rw[nA,decide_eq_true a];exact h
theorem WZ(h:∀ρ,k.n ρ st):∀l i a a3 b,(∀c∈l,kJ c)->ll (WS g3 (C (d+1)) Iy.bE) [2,3] (λm=>True) k (xi i l) [f,j,a,a3,b] st:=by intro l;induction l with|nil=>exactλi a a3 b hl=>⟨trivial,h _⟩|cons c l e=>refineλi a a3 b hl=>⟨trivial,?_⟩;exact WY Y (hl c<|.head _)<|e _ _ _ _ λx hx=>hl x<|.tail _ hx
theorem W0(hl:∀c∈l,kJ c)(h:Q .none st):C (d+2) 720 [hf,.str l] st Q X:=Y.c O O<|WZ Y (λa=>h) l 0 _ _ _ hl
noncomputable def rb(l:List Nat)(m:g2)(a:AV):Z:={G:=l++[0],o:=0,R:=0,I:=[.a' 0],aG:=0,ad:= -1,aS:=[],ask:=H,J:=[],A:=.none,bU:=a,bt:=.au 1340,E:=[],aF:=[],x:=m}
theorem W1(hl:∀c∈l,kJ c)(b:l.length<=100000){m:g2}(h:∀m' a,m.le m'->Q .none (rb l m' a).h):C (d+6) 1312 [hf,.str l] ⟨U ([],[]),V,V,V,V,V,m.j,m.f⟩ Q X:=by refine Y.c O O<|Y.c O O<|Y.c O O<|W0 Y hl<|iW (by simp;apply f1<;>right)<|Y.c O O<|Y.c O O ⟨rfl,?_⟩;refine⟨rfl,?_⟩;exact h (m.add<|.bK _) (.mut<|.j m.f)<|g2.le.add _ _
end
end
section
set_option maxHeartbeats 1000000
open PySem
structure El where
 d:List Nat
 o:Nat
 aH:List Nat
 b_:AV
noncomputable abbrev qp:List Nat:=[101,110,100]
noncomputable def JN:AV:=.str [118,97,108,117,101]
noncomputable def W2:AV:=.str [108,105,115,116]
noncomputable def W3:AV:=.str [109,97,112]
noncomputable def iw:Ev->AV| .d'=>.av [.str [115,116,114,101,97,109]]| .cS=>.av [.str [115,116,114,101,97,109,32,101,110,100]]| .dD x=>.av [.str [100,111,99,117,109,101,110,116],.bool x,.none,.none]| .c1 x=>.av [.str [100,111,99,117,109,101,110,116,32,101,110,100],.bool x]| .bI a=>.av [.str [97,108,105,97,115],a]| .aU a t i j v s=>.av [JN,a,t,.av [.bool i,.bool j],.str v,s]| .ea a t i f=>.av [W2,a,t,.bool i,f]| .dT=>.av [.str [108,105,115,116,32,101,110,100]]| .dF a t i f=>.av [W3,a,t,.bool i,f]| .dG=>.av [.str [109,97,112,32,101,110,100]]
class inductive Pr:List El->AV->AV->List El->Prop
 |n {e:El} {R:List El}:e.d≠[38]->e.d≠[33]->Pr (e::R) .none .none (e::R)
 |aZ {e f:El} {R:List El}:e.d=[38]->f.d≠[33]->Pr (e::f::R) (.str e.aH) .none (f::R)
 |bc {e f:El} {R:List El}:e.d=[33]->f.d≠[38]->Pr (e::f::R) .none (.str (33::e.aH)) (f::R)
 |at{e f:El} {R:List El}:e.d=[38]->f.d=[33]->Pr (e::f::R) (.str e.aH) (.str (33::f.aH)) R
 |fD {e f:El} {R:List El}:e.d=[33]->f.d=[38]->Pr (e::f::R) (.str f.aH) (.str (33::e.aH)) R
inductive Md where
 |node
 |loop (cl op:Nat) (f:Bool)
 |b1 (cl op:Nat)
 |key (cl op:Nat)
 |val (cl op:Nat)
noncomputable def rc(cl:Nat):Ev:=if cl=93 then .dT else .dG
noncomputable def qq(cl:Nat):List Ev:=if cl=93 then[.dF .none .none H (.bool H)]else[]
noncomputable def lv(cl:Nat):List Ev:=if cl=93 then[.dG]else[]
noncomputable def pE(cl:Nat):List Ev:=if cl=125 then[kz]else[]
noncomputable def tZ(c:List Nat):Nat:=if c=[91]then 93 else 125
noncomputable def sB(c:List Nat)(a t:AV):Ev:=if c=[91]then .ea a t (iB t) (.bool H)else .dF a t (iB t) (.bool H)
class inductive RD:Md->List El->List Ev->Option (Nat×Nat)->List El->Prop
 |bI {e:El} {R:List El}:e.d=[42]->RD .node (e::R) [.bI (.str e.aH)] V R
 |dI {R0 R:List El} {a t:AV} {e:El}:(∀x i,R0=x::i->x.d≠[42])->Pr R0 a t (e::R)->e.d=[119]->RD .node R0 [.aU a t (iB e.b_&&iB t) (!(iB e.b_)&&iB t) e.aH e.b_] V R
 |eH {R0 R R':List El} {a t:AV} {e:El} {D:List Ev} {x:Option (Nat×Nat)}:(∀x i,R0=x::i->x.d≠[42])->Pr R0 a t (e::R)->(e.d=[91]\/e.d=[123])->RD (.loop (tZ e.d) e.o H) R D x R'->RD .node R0 (sB e.d a t::D) x R'
 |aE {R:List El} {e:El}:e.d≠[42]->e.d≠[38]->e.d≠[33]->e.d≠[119]->e.d≠[91]->e.d≠[123]->RD .node (e::R) [] (U (e.o,e.o)) (e::R)
 |eb {R0 R:List El} {a t:AV} {e:El}:(∀x i,R0=x::i->x.d≠[42])->Pr R0 a t (e::R)->(iB a=g\/iB t=g)->e.d≠[119]->e.d≠[91]->e.d≠[123]->RD .node R0 [.aU a t (iB t) g [] .none] V (e::R)
 |dq {cl op:Nat} {f:Bool} {e:El} {R:List El}:e.d=[cl]->RD (.loop cl op f) (e::R) [rc cl] V R
 |fg {cl op:Nat} {e:El} {R:List El}:e.d≠[cl]->e.d≠[44]->RD (.loop cl op g) (e::R) [] (U (e.o,op)) (e::R)
 |fh {cl op:Nat} {e:El} {R R':List El} {D:List Ev} {x:Option (Nat×Nat)}:e.d=[44]->cl≠44->RD (.b1 cl op) R D x R'->RD (.loop cl op g) (e::R) D x R'
 |fst {cl op:Nat} {e:El} {R R':List El} {D:List Ev} {x:Option (Nat×Nat)}:e.d≠[cl]->RD (.b1 cl op) (e::R) D x R'->RD (.loop cl op H) (e::R) D x R'
 |ask {cl op:Nat} {e:El} {R R':List El} {D:List Ev} {x:Option (Nat×Nat)}:e.d=[63]->RD (.key cl op) R D x R'->RD (.b1 cl op) (e::R) (qq cl++D) x R'
 |eB {cl op:Nat} {e:El} {R R':List El} {D:List Ev} {x:Option (Nat×Nat)}:e.d=[cl]->cl≠63->RD (.loop cl op g) (e::R) D x R'->RD (.b1 cl op) (e::R) D x R'
 |fi {cl op:Nat} {e:El} {R c h:List El} {b d:List Ev} {x:Option (Nat×Nat)}:e.d≠[63]->e.d≠[cl]->RD .node (e::R) b V c->RD (.loop cl op g) c d x h->RD (.b1 cl op) (e::R) (b++(pE cl++d)) x h
 |fj {cl op:Nat} {e:El} {R c:List El} {b:List Ev} {x:Nat×Nat}:e.d≠[63]->e.d≠[cl]->RD .node (e::R) b (U x) c->RD (.b1 cl op) (e::R) b (U x) c
 |fk {cl op:Nat} {e:El} {R R':List El} {D:List Ev} {x:Option (Nat×Nat)}:(e.d=[58]\/e.d=[44]\/e.d=[cl])->RD (.val cl op) (e::R) D x R'->RD (.key cl op) (e::R) (kz::D) x R'
 |fl {cl op:Nat} {e:El} {R c h:List El} {b d:List Ev} {x:Option (Nat×Nat)}:¬(e.d=[58]\/e.d=[44]\/e.d=[cl])->RD .node (e::R) b V c->RD (.val cl op) c d x h->RD (.key cl op) (e::R) (b++d) x h
 |fm {cl op:Nat} {e:El} {R c:List El} {b:List Ev} {x:Nat×Nat}:¬(e.d=[58]\/e.d=[44]\/e.d=[cl])->RD .node (e::R) b (U x) c->RD (.key cl op) (e::R) b (U x) c
 |fo {cl op:Nat} {e:El} {R R':List El} {D:List Ev} {x:Option (Nat×Nat)}:e.d≠[58]->RD (.loop cl op g) (e::R) D x R'->RD (.val cl op) (e::R) (kz::(lv cl++D)) x R'
 |fp {cl op:Nat} {e f:El} {R R':List El} {D:List Ev} {x:Option (Nat×Nat)}:e.d=[58]->(f.d=[44]\/f.d=[cl])->RD (.loop cl op g) (f::R) D x R'->RD (.val cl op) (e::f::R) (kz::(lv cl++D)) x R'
 |fq {cl op:Nat} {e f:El} {R c h:List El} {b d:List Ev} {x:Option (Nat×Nat)}:e.d=[58]->¬(f.d=[44]\/f.d=[cl])->RD .node (f::R) b V c->RD (.loop cl op g) c d x h->RD (.val cl op) (e::f::R) (b++(lv cl++d)) x h
 |fr {cl op:Nat} {e f:El} {R c:List El} {b:List Ev} {x:Nat×Nat}:e.d=[58]->¬(f.d=[44]\/f.d=[cl])->RD .node (f::R) b (U x) c->RD (.val cl op) (e::f::R) b (U x) c
noncomputable def pF:Nat->Nat|91=>239|123=>251|93=>263|125=>275|44=>323|63=>287|_=>299
noncomputable def vQ(c:Nat):Bool:=c==91||(c==123||(c==93||(c==125||(c==44||(c==63||c==58)))))
inductive ml:El->Tk->Prop|k {e:El} {c b:Nat}:e.d=[c]->vQ c=H->ml e (.k (pF c) e.o b)|bI {e:El} {b:Nat}:e.d=[42]->ml e (.val 342 (.str e.aH) e.o b)|cB {e:El} {b:Nat}:e.d=[38]->ml e (.val 361 (.str e.aH) e.o b)|cC {e:El} {x b:Nat} {s:List Nat}:e.d=[33]->e.aH=x::s->s.length<=1000->ml e (.val 380 (tV x s) e.o b)|dI {e:El} {b:Nat}:e.d=[119]->ml e (.aU e.aH (iB e.b_) e.b_ e.o b)
noncomputable def sC(e:El)(t:Tk):Prop:=e.d=qp/\t.Good/\t.bj=e.o/\(t.l=vL\/t.l=yu\/t.l=vK\/t.l=oU)
class inductive RT (W:TS):List El->TS->Prop
 |fU {e:El} {t:Tk} {r:TS}:sC e t->W=.cons t r->RT W [e] (.cons t r)
 |ct {e:El} {R:List El} {b:Nat} {r:TS}:e.d=[45]->R≠[]->RT W (e::R) (.cons (.k 311 e.o b) r)
 |cons {e:El} {t:Tk} {R:List El} {r:TS}:ml e t->RT W R r->RT W (e::R) (.cons t r)
end
section
set_option maxHeartbeats 1000000
open PySem
variable{W:TS}
class inductive Run:TS->Z->List Ev->TS->Z->Prop
 |refl {T:TS} {w:Z}:Run T w [] T w
 |step {T a b:TS} {w w1 w2:Z} {f:Nat} {c:List AV} {e:Ev} {d:List Ev}:w.bt=.au f->w.A=.none->g3.bW f=U c->Gives 18 f c T w (.A e a w1)->Run a w1 d b w2->Run T w (e::d) b w2
class inductive qr:TS->Z->List Ev->AV->AV->Prop
 |stop {T:TS} {w:Z} {f:Nat} {b:List AV} {a c:AV}:w.bt=.au f->w.A=.none->g3.bW f=U b->Gives 18 f b T w (.c' a c)->qr T w [] a c
 |step {T d:TS} {w w1:Z} {f:Nat} {b:List AV} {e:Ev} {h:List Ev} {a c:AV}:w.bt=.au f->w.A=.none->g3.bW f=U b->Gives 18 f b T w (.A e d w1)->qr d w1 h a c->qr T w (e::h) a c
theorem Run.trans{w1 w2 w3}{c d}(a:Run e w1 c f w2)(b:Run f w2 d h w3):Run e w1 (c++d) h w3:=by induction a with|refl=>exact b|step h1 i j k _ l=>exact .step h1 i j k<|l b
theorem Run.gr(a:Run c w1 f d n)(b:qr d n h e m):qr c w1 (f++h) e m:=by induction a with|refl=>exact b|step h1 i j k _ l=>exact .step h1 i j k<|l b
noncomputable def mm(B:List Nat)(T:TS)(w:Z)(D:List Ev)(x:Option (Nat×Nat))(T':TS)(w':Z):Prop:=match x with|V=>Run T w D T' w'|U (p,q)=>qr T w D (h3 B q) (h3 B p)
noncomputable def nB(B:List Nat)(F:PR->Prop)(D:List Ev)(x:Option (Nat×Nat))(T':TS)(w':Z):Prop:=(∃e b a w1,D=e::b/\F (.A e a w1)/\mm B a w1 b x T' w')\/∃p q,x=U (p,q)/\D=[]/\F (.c' (h3 B q) (h3 B p))
theorem nB.map(h:nB B F D x T' w')(k:∀r,F r->G r):nB B G D x T' w':=by
 exists c;rcases h with⟨e,f,d,w1,h1,a,b⟩|⟨p,q,h1,a,b⟩
 .exact c<|.inl ⟨e,f,d,w1,h1,k _ a,b⟩
 .exact c<|.inr ⟨p,q,h1,a,k _ b⟩
theorem nB.ec(h:nB B (Gives 18 f c T w) D x T' w')(h1:w.bt=.au f)(a:w.A=.none)(b:g3.bW f=U c):mm B T w D x T' w':=by
 rcases h with⟨e,i,d,w1,rfl,k2,k3⟩|⟨p,q,rfl,rfl,k3⟩
 .induction x with|none=>exact .step h1 a b k2 k3|some y=>exact .step h1 a b k2 k3
 .exact .stop h1 a b k3
theorem nB.andThen(h:nB B F c V d w1)(k:mm B d w1 a x T' w'):nB B F (c++a) x T' w':=by
 exists b;rcases h with⟨e,i,f,w2,rfl,k2,k3⟩|⟨p,q,h1,_⟩
 .refine b<|.inl ⟨e,i++a,f,w2,rfl,k2,?_⟩;clear b;induction x with|none=>exact Run.trans k3 k|some y=>exact Run.gr k3 k
 .cases h1
theorem mm.cons(h1:w.bt=.au f)(a:w.A=.none)(b:g3.bW f=U h)(c:Gives 18 f h T w<|.A e d w1)(k:mm B d w1 D x T' w'):mm B T w (e::D) x T' w':=by induction x with|none=>exact .step h1 a b c k|some y=>exact .step h1 a b c k
theorem mm.aD(h:mm B T w a V c w1)(k:mm B c w1 b x T' w'):mm B T w (a++b) x T' w':=by induction x with|none=>exact Run.trans h k|some y=>exact Run.gr h k
structure Bd (w:Z)(R:List El)(T:TS):Prop where
 n:w.E.length+w.aF.length+4*R.length<=2000
 bc:T.len<=20000
 e:w.A=.none
 o:w.o=1
structure Bn (w:Z)(R:List El)(T:TS):Prop where
 n:w.E.length+w.aF.length+4*R.length<=2001
 bc:T.len<=20000
 e:w.A=.none
 o:w.o=1
noncomputable def rd(W:TS)(R:List El)(T:TS)(x:Option (Nat×Nat))(R':List El)(T':TS):Prop:=x=V->RT W R' T'/\R'.length<R.length/\T'.len<=T.len
inductive nC (W:TS)(a:Md)(R:List El)(T:TS)(K:List Ev->Option (Nat×Nat)->TS->Prop):Prop|mk {D:List Ev} {x:Option (Nat×Nat)} {R':List El} {T':TS} (d:RD a R D x R') (b:rd W R T x R' T') (c:K D x T')
theorem nC.aY(h:nC W d R T K){B:Prop}(k:∀D x R' T',RD d R D x R'->rd W R T x R' T'->K D x T'->B):B:=by induction h with|mk a b c=>exact k _ _ _ _ a b c
noncomputable def pG(W:TS)(R:List El)(T:TS):Prop:=nC W .node R T λD x T'=>∀(w:Z) s ss,w.E=s::ss->Bn w R T->nB w.G (jI g g w T) D x T' (w.cU (.au s) ss)
noncomputable def oX(R:List El)(T:TS)(op:Nat)(F:Z->PR->Prop)(D:List Ev)(x:Option (Nat×Nat))(T':TS):Prop:=∀(w:Z) s ss ms,w.E=s::ss->w.aF=op::ms->Bd w R T->nB w.G (F w) D x T' (w.dC (.au s) ss ms)
theorem lK:∀{a b:List _},ha a b=H↔a=b|[],[]=>⟨λc=>rfl,λc=>rfl⟩|[],_::_=>⟨(λh=>iG h),λh=>by cases h⟩|_::_,[]=>⟨(λh=>iG h),λh=>by cases h⟩|x::r,y::s=>by show(match iE x y with|true=>ha r s|false=>g)=H↔_;induction q:iE x y with|true=>clear zz3 (nL q);rw[lK];exact⟨λh=>by rw[h],λh=>(rC h).2⟩|false=>exact⟨(iG),λh=>absurd (rC h).1<|n7 q⟩
structure Hd (e:El)(t:Tk):Prop where
 g:t.Good
 bj:t.bj=e.o
 gs:t.l∈on
 cI:∀x,x∈([44,93,125,63,58,91,123,45]:List Nat)->(ha t.l [x]=H↔e.d=[x])
 bI:ha t.l sy=H↔e.d=[42]
 cB:ha t.l qn=H↔e.d=[38]
 cC:ha t.l qo=H↔e.d=[33]
 dI:ha t.l q_=H↔e.d=[119]
theorem mL(aC:t.Good)(sp:t.bj=e.o){i c}(f:on.elem i=H)(b:t.l=i)(d:e.d=c)(h:(([44,93,125,63,58,91,123,45]).all λx=>decide (i=[x])==decide (c=[x]))&&(decide (i=sy)==decide (c=[42]))&&(decide (i=qn)==decide (c=[38]))&&(decide (i=qo)==decide (c=[33]))&&(decide (i=q_)==decide (c=[119]))=H):Hd e t:=by
 simp only[iX,beq_iff_eq,decide_eq_decide]at h;refine hv h λa m=>hv a λa l=>hv a λa k=>hv a λh1 j=>⟨aC,sp,by rw[b];exact List.mem_of_elem_eq_true f,λx hx=>?_,?_,?_,?_,?_⟩;.haveI:=mC.mp h1 x hx;simp only[beq_iff_eq,decide_eq_decide]at this;rw[lK,b,d];exact this
 .rw[lK,b,d];exact j
 .rw[lK,b,d];exact k
 .rw[lK,b,d];exact l
 .rw[lK,b,d];exact of_decide_eq_true m
theorem W4{P:Nat->Prop}(h:vQ c=H)(a:P 91)(p2:P 123)(b:P 93)(d:P 125)(e:P 44)(f:P 63)(i:P 58):P c:=by unfold vQ at h;simp only[wQ,beq_iff_eq]at h;rcases h with rfl|rfl|rfl|rfl|rfl|rfl|rfl<;>assumption
theorem rf(h:RT W (e::R) T):∃t r,T=.cons t r/\Hd e t/\((ml e t/\RT W R r)\/((∃b,t=.k 311 e.o b)/\e.d=[45])\/(sC e t/\R=[])):=by
 cases h with
 |fU h=>
  refine p5 h λh1 d f a=>l' _ _ O ?_<|.inr<|.inr ⟨⟨h1,d,f,a⟩,rfl⟩;rcases a with a|a|a|a
  .exact mL (i:=vL) d f jk a h1 jk
  .exact mL (i:=yu) d f jk a h1 jk
  .exact mL (i:=vK) d f jk a h1 jk
  .exact mL (i:=oU) d f jk a h1 jk
 |ct h1 d=>exact⟨_,_,rfl,mL (i:=[45]) O O jk O h1 jk,.inr<|.inl ⟨⟨_,rfl⟩,h1⟩⟩|cons h1 d=>refine l' _ _ O ?_<|.inl ⟨h1,d⟩;induction h1 with|k h k=>exact W4 (P:=λc=>e.d=[c]->Hd e (.k _ _ _)) k (mL (i:=[91]) O O jk O · jk) (mL (i:=[123]) O O jk O · jk) (mL (i:=[93]) O O jk O · jk) (mL (i:=[125]) O O jk O · jk) (mL (i:=[44]) O O jk O · jk) (mL (i:=[63]) O O jk O · jk) (mL (i:=[58]) O O jk O · jk) h|bI h=>exact mL (i:=sy) O O jk O h jk|cB h=>exact mL (i:=qn) O O jk O h jk|cC h=>exact mL (i:=qo) O O jk O h jk|dI h=>exact mL (i:=q_) O O jk O h jk
noncomputable def ml.P(e:El)(t:Tk):Prop:=(∀C,e.d=[C]->C∈([91,123,93,125,44,63,58]:List Nat)->∃b,t=.k (pF C) e.o b)/\
 (e.d=[42]->∃b,t=.val 342 (.str e.aH) e.o b)/\(e.d=[38]->∃b,t=.val 361 (.str e.aH) e.o b)/\(e.d=[33]->∃x s b,e.aH=x::s/\s.length<=1000/\t=.val 380 (tV x s) e.o b)/\(e.d=[119]->∃b,t=.aU e.aH (iB e.b_) e.b_ e.o b)
theorem oq{c i j:List Nat}{P:Prop}(h:c=i)(n:(i==j)=g)(k:c=j):P:=by subst h;subst k;rw[beq_self_eq_true]at n;cases n
theorem yC{l:List Nat}{P:Prop}(h:c=i)(n:(l.any λC=>i==[C])=g)(k:c=[C])(m:C∈l):P:=by subst h;haveI:=List.any_eq_false.mp n C m;rw[k,beq_self_eq_true]at this;exact absurd O this
theorem yD{P:Prop}(h:c=[d])(k:vQ d=H)(n:vQ j=g)(q:c=[j]):P:=by cases h.symm.trans q;exact iG<|n.symm.trans k
theorem sD(h:ml e t):ml.P e t:=by induction h with|k h k=>exact⟨λC a b=>by cases h.symm.trans a;exact⟨_,rfl⟩,yD h k O,yD h k O,yD h k O,yD h k O⟩|bI h=>exact⟨λC a hm=>yC h O a hm,λb=>⟨_,rfl⟩,oq h O,oq h O,oq h O⟩|cB h=>exact⟨λC a hm=>yC h O a hm,oq h O,λb=>⟨_,rfl⟩,oq h O,oq h O⟩|cC h c d=>exact⟨λC a hm=>yC h O a hm,oq h O,oq h O,λb=>⟨_,_,_,c,d,rfl⟩,oq h O⟩|dI h=>exact⟨λC a hm=>yC h O a hm,oq h O,oq h O,oq h O,λb=>⟨_,rfl⟩⟩
end
section
set_option maxHeartbeats 1000000
open PySem
variable{W:TS}
theorem mZ(h:ha a b=H↔P)(n:¬P):ha a b=false:=by induction q:ha a b with|true=>exact absurd (h.mp q) n|false=>rfl
theorem rg(h:RT W R T):∃e R',R=e::R':=by induction h<;>exact rV _ _ O
theorem sE(h:(ml e t/\RT W R r)\/((∃b,t=.k 311 e.o b)/\e.d=[45])\/(sC e t/\R=[]))(h1:e.d≠[45])(a:e.d≠qp):ml e t/\RT W R r:=by
 exists c;rcases h with h|⟨_,h⟩|⟨⟨h,_⟩,_⟩
 .exact c h
 .exact absurd h h1
 .exact absurd h a
theorem W5(h:RT W (e::R) T)(aN:e.d≠[42]){G:Prop}(k:∀a aJ E o aM,Pr (e::R) a aJ (E::o)->RT W (E::o) aM->o.length<=R.length->aM.len<=T.len->(iB a=H->iB aJ=H->E=e/\o=R/\e.d≠[38]/\e.d≠[33])->((iB a=g\/iB aJ=g)->o.length<R.length)->(∀w X,w.o=1->kS g g w a aJ (h3 w.G e.o) aM X->jI g g w T X)->G):G:=by
 refine i0 (rf h) λt r I aT aQ=>?_;clear zz3 I k h;by_cases j:e.d=[38]
 .refine hv (sE aQ (by rw[j];decide) (by rw[j];decide)) λaP n=>hE ((sD aP).2.2.1 j) λb J=>?_;clear zz3 J k;refine jj (rg n) λf aL L=>?_;clear zz3 L k n;refine i0 (rf n) λt2 aR M aH aD=>?_;clear zz3 M k n;by_cases c:f.d=[33];.refine hv (sE aD (by rw[c];decide) (by rw[c];decide)) λaF d=>oI ((sD aF).2.2.2.1 c) λx s b2 aI hl Q=>?_;clear zz3 Q k;refine jj (rg d) λE o Y=>?_;clear zz3 Y k d;refine i0 (rf d) λt3 aS au aK aO=>?_;clear zz3 au k d;refine k _ _ E o _ (.at j c) d (by apply iN<;>right) (by apply iN<;>right) (iG) (λaG=>by apply rO<;>right) λw X aE B=>?_;rw[aI]at B;exact .gm (.inr ⟨_,rfl⟩) aE hl aK.g B
  .exact k _ _ f aL _ (.aZ j c) n (by simp) (by apply rO<;>right) (iG) (λaG=>by simp) λw X aE=>.cB (.inr ⟨_,rfl⟩) aH.g<|mZ aH.cC c
 by_cases c:e.d=[33]
 .refine hv (sE aQ (by rw[c];decide) (by rw[c];decide)) λaP n=>oI ((sD aP).2.2.2.1 c) λx s b aI hl p=>?_;clear zz3 p k;refine jj (rg n) λf aL y=>?_;clear zz3 y k n;refine i0 (rf n) λt2 aR z aH aD=>?_;clear zz3 z k n;by_cases i:f.d=[38];.refine hv (sE aD (by rw[i];decide) (by rw[i];decide)) λaF d=>hE ((sD aF).2.2.1 i) λb2 A=>?_;clear zz3 A k;refine jj (rg d) λE o C=>?_;clear zz3 C k d;refine i0 (rf d) λt3 aS D aK aO=>?_;clear zz3 D k d;refine k _ _ E o _ (.fD c i) d (by apply iN<;>right) (by apply iN<;>right) (iG) (λaG=>by apply rO<;>right) λw X aE B=>?_;rw[aI]at B;exact .gn (.inr ⟨_,rfl⟩) aE hl aK.g B
  .refine k _ _ f aL _ (.bc c i) n (by simp) (by apply rO<;>right) (λaG=>iG) (λaG=>by simp) λw X aE B=>?_;rw[aI]at B;exact .cC aE hl aH.g (mZ aH.cB i) B
 .refine k .none .none e R _ (.n j c) h (g' _) (g' _) (λaG aG=>⟨rfl,rfl,j,c⟩) (λq=>q.elim (iG) iG) λw X aE B=>?_;rw[<-aT.bj]at B;refine .ep aT.g (λa av=>?_) B;rcases h7.mp av with rfl|av
  .exact mZ aT.bI aN
  rcases h7.mp av with l|av;clear zz3 l
  .exact mZ aT.cB j
  rcases h7.mp av with m|av;clear zz3 m
  .exact mZ aT.cC c
  .cases av
theorem W6(f:Hd e t)(h1:e.d≠[119])(c:e.d≠[91])(d:e.d≠[123]):CD g g t:=by
 refine⟨λa b=>?_,(λq=>absurd q (by decide)),λq=>absurd q (by decide)⟩;rcases h7.mp b with rfl|b
 .exact mZ f.dI h1
 rcases h7.mp b with rfl|b
 .exact mZ (f.cI _ (by decide)) c
 rcases h7.mp b with rfl|b
 .exact mZ (f.cI _ (by decide)) d
 .cases b
end
section
set_option maxHeartbeats 1000000
open PySem
variable{W:TS}
theorem g1(h:Gives 17 f c T w r):Gives 18 f c T w r:=Gives.up (k:=1) h
noncomputable def jN(q:Bool):Nat:=cond q 93 125
noncomputable def bL(q:Bool):Nat:=cond q 1461 1497
noncomputable def bV(q:Bool):Nat:=cond q 1475 1504
noncomputable def bG(q:Bool):Nat:=cond q 1482 1497
noncomputable def bN(q:Bool):Nat:=cond q 1461 1511
noncomputable def sF(q:Bool)(w:Z)(T:TS)(R:PR):Prop:=cond q (pD w T R) (nZ w T R)
noncomputable def rh(q:Bool)(w:Z)(f:Bool)(T:TS)(R:PR):Prop:=cond q (SeqAt w f T R) (oW w f T R)
noncomputable def vR(q:Bool)(w:Z)(a b:Nat)(T:TS)(R:PR):Prop:=cond q (Gives 18 1468 [] (.cons (.k 287 a b) T) w R) (nZ w (.cons (.k 287 a b) T) R)
section
variable{q:Bool}{w:Z}{T r:TS}{t:Tk}{R:PR}{a b:Nat}
theorem CL(I:rh q w g T R):Gives 18 (bL q) [.bool g] T w R:=by
 induction q;.exact g1<|JH I
 .exact g1<|JE I
section
variable{s m0:Nat}{ss ms:List Nat}(hs:w.E=s::ss)(hm:w.aF=m0::ms)
include hs hm
theorem JO:rh q w f (.cons (.k (pF<|jN q) a b) r)<|.A (rc<|jN q) r<|w.dC (.au s) ss ms:=by
 induction q;.exact oW.dH hs hm
 .exact SeqAt.dH hs hm
theorem W7:sF q w (.cons (.k (pF<|jN q) a b) r)<|.A (rc<|jN q) r<|w.dC (.au s) ss ms:=by
 induction q;.exact nZ.dH hs hm
 .exact pD.dH hs hm
end
theorem W8(I:sF q w T R):rh q w g (.cons (.k 323 a b) T) R:=by
 induction q;.exact oW.fe I
 .exact SeqAt.fe I
theorem W9(aC:t.Good)(h:ha t.l [jN q]=g)(I:sF q w (.cons t r) R):rh q w H (.cons t r) R:=by
 induction q;.exact oW.first aC h I
 .exact SeqAt.first aC h I
theorem W_(aC:t.Good)(h1:ha t.l [jN q]=g)(c:ha t.l [44]=g)(d:t.l∈on)(hm:w.aF=m0::ms)(e:t.bj=p):rh q w g (.cons t r)<|.c' (h3 w.G m0)<|h3 w.G p:=by
 subst e;induction q;.exact oW.aE aC h1 c d hm
 .exact SeqAt.aE aC h1 c d hm
section
variable(hl:w.E.length+1+w.aF.length+4*(TS.cons t r).len<=100000)(aC:t.Good)
include hl aC
theorem W'(h1:ha t.l [jN q]=g)(c:ha t.l [63]=g)(N:jI g g (w.bj (bN q::w.E)) (.cons t r) R):sF q w (.cons t r) R:=by
 induction q;.exact nZ.node aC h1 c hl N
 .exact pD.node aC h1 c hl N
theorem Xa(h:(ha t.l [58]||(ha t.l [44]||ha t.l [jN q]))=g)(N:jI g g (w.bj (bV q::w.E)) (.cons t r) R):vR q w a b (.cons t r) R:=by
 induction q;.exact nZ.gq aC h hl N
 .exact g1<|Wy aC h hl N
theorem Xb(h:(ha t.l [44]||ha t.l [jN q])=g)(N:jI g g (w.bj (bG q::w.E)) (.cons t r) R):Gives 18 (bV q) [] (.cons (.k 299 a b)<|.cons t r) w R:=by
 induction q;.exact g1<|WD aC h hl N
 .exact g1<|WA aC h hl N
end
theorem Xd(aC:t.Good)(h:(ha t.l [58]||(ha t.l [44]||ha t.l [jN q]))=H):vR q w a b (.cons t r)<|.A kz (.cons t r)<|w.go (.au (bV q)):=by
 induction q;.exact nZ.gp aC h
 .exact g1<|Wx aC h
theorem Xe(aC:t.Good)(h:(ha t.l [44]||ha t.l [jN q])=H):Gives 18 (bV q) [] (.cons (.k 299 a b)<|.cons t r) w<|.A kz (.cons t r)<|w.go (.au (bG q)):=by
 induction q;.exact g1<|WC aC h
 .exact g1<|Wz aC h
theorem Xf(aC:t.Good)(h:ha t.l [58]=g):Gives 18 (bV q) [] (.cons t r) w<|.A kz (.cons t r)<|w.go (.au (bG q)):=by
 induction q;.exact g1<|WF aC h
 .exact g1<|WB aC h
end
theorem JP(h:RT W R T):∃t r,T=.cons t r:=by induction h<;>exact rV _ _ O
section
variable{q:Bool}{w w':Z}{B:List Nat}{T T':TS}{R:List El}{D:List Ev}{x:Option (Nat×Nat)}(m:RT W R T)(he:w.A=.none)(k:mm B T (w.go (.au (bL q))) D x T' w')
include m he k
theorem CM:mm B T (w.go<|.au<|bG q) (lv (jN q)++D) x T' w':=by
 induction q;.exact k
 .refine jj (JP m) λt r e=>?_;subst e;exact mm.cons (w1:=(w.go _)) O he O (g1 WG) k
theorem Xg:mm B T (w.go<|.au<|bN q) (pE (jN q)++D) x T' w':=by
 induction q;.refine jj (JP m) λt r e=>?_;subst e;exact mm.cons (w1:=(w.go _)) O he O (g1 WH) k
 .exact k
end
theorem JQ{A B}(h1:a=H↔A)(c:b=H↔B):(a||b)=H↔A\/B:=by rw[wQ,h1,c]
theorem Xh{A B C}(h1:a=H↔A)(d:b=H↔B)(e:c=H↔C):(a||(b||c))=H↔A\/B\/C:=by rw[wQ,h1,JQ d e]
theorem JR(h:a=H↔A)(n:¬A):a=false:=ws.mpr λq=>n<|h.mp q
theorem yE(h:rd W R T x R' T'):rd W (e::R) (.cons t T) x R' T':=λz=>i5 (h z) λm1 m2 m3=>⟨m1,qH m2,jw m3⟩
theorem CN(h1:c.length<R.length)(h:e.len<=T.len)(i:rd W c e x d f):rd W R T x d f:=λz=>i5 (i z) λm1 m2 m3=>⟨m1,pW m2 h1,f1 m3 h⟩
theorem CO(h:RT W R r):rd W (e::R) (.cons t r) x R r:=λc=>⟨h,kY _,iA _⟩
theorem Xi{s m r c:Nat}(h:s+m+4*r<=2000)(k:c<=r):s+1+m+4*c<=2001:=iU s 1 m▸iU (s+m) 1 _▸lC (f1 (hJ (jY 4 k) _) h)
theorem JS{s m t r:Nat}(h:s+m+4*r<=2001)(k:t<=20000):s+1+m+4*t<=100000:=f1 (h9 (iU s 1 m▸lC (f1 (ih _ _) h):s+1+m<=2002)<|jY 4 k) (by decide)
theorem yF:rd W R T (U v) R' T':=λz=>hH z.symm
section
variable{w:Z}{R R':List El}{T T':TS}(B:Bd w R T)
include B
theorem Bd.dr(c:R'.length<=R.length)(d:T'.len<=T.len):Bd (w.go v) R' T':=⟨f1 (hJ (jY 4 c) _) B.n,f1 d B.bc,B.e,B.o⟩
theorem Bd.gu(c:R'.length<=R.length)(d:T'.len<=T.len):Bd w R' T':=B.dr c d
theorem Bd.node(c:R'.length<=R.length)(d:T'.len<=T.len):Bn (w.bj (f::w.E)) R' T':=⟨Xi B.n c,f1 d B.bc,B.e,B.o⟩
theorem Bd.len(c:T'.len<=T.len):w.E.length+1+w.aF.length+4*T'.len<=100000:=JS (jw B.n)<|f1 c B.bc
end
theorem sG(h:(ml e t/\RT W R r)\/((∃b,t=.k 311 e.o b)/\e.d=[45])\/(sC e t/\R=[])){C}(q:e.d=[C])(m:C∈([91,123,93,125,44,63,58])){P:Prop}(k:∀b,t=.k (pF C) e.o b->RT W R r->P):P:=hv (sE h (λz=>by cases q.symm.trans z;simp at m) λz=>by cases q.symm.trans z) λd c=>hE ((sD d).1 C q m) λb e=>k b e c
theorem t0(h:RT W R T){P:List El->TS->Prop}(k:∀e R t r,RT W (e::R) (.cons t r)->Hd e t->((ml e t/\RT W R r)\/((∃b,t=.k 311 e.o b)/\e.d=[45])\/(sC e t/\R=[]))->P (e::R) (.cons t r)):P R T:=by refine jj (rg h) λe R' c=>?_;subst c;refine i0 (rf h) λt r d i f=>?_;subst d;exact k _ _ _ _ h i f
noncomputable def CP(W:TS)(q:Bool)(R:List El)(T:TS):Prop:=∀op,nC W (.loop (jN q) op g) R T (oX R T op λw=>Gives 18 (bL q) [.bool g] T w)
noncomputable def JT(W:TS)(q:Bool)(R:List El)(T:TS):Prop:=∀op,nC W (.loop (jN q) op H) R T (oX R T op λw=>rh q w H T)
noncomputable def vU(W:TS)(q:Bool)(R:List El)(T:TS):Prop:=∀op,nC W (.b1 (jN q) op) R T (oX R T op λw=>sF q w T)
noncomputable def CQ(W:TS)(q:Bool)(R:List El)(T:TS):Prop:=∀op,nC W (.key (jN q) op) R T λD x T'=>∀a b,oX R T op (λw=>vR q w a b T) D x T'
noncomputable def JU(W:TS)(q:Bool)(R:List El)(T:TS):Prop:=∀op,nC W (.val (jN q) op) R T (oX R T op λw=>Gives 18 (bV q) [] T w)
noncomputable def bO(q:Bool):Nat:=cond q 91 123
noncomputable def bF(q:Bool):Nat:=cond q 1453 1489
theorem Xj:bO q∈([91,123,93,125,44,63,58]):=by induction q<;>decide
theorem Xk:tZ [bO q]=jN q:=by induction q<;>rfl
theorem Xl:g3.bW (bF q)=U []:=by induction q<;>rfl
theorem Xm(hl:w.E.length+(w.aF.length+1)+4*T.len<=100000)(I:rh q (w.e4 (a::w.aF)) H T R):Gives 18 (bF q) [] (.cons (.k (pF<|bO q) a b) T) w R:=by
 induction q;.exact Ww hl I
 .exact Wv hl I
theorem Xn{w}{a t m}:kS g g w a t m (.cons (.k (pF<|bO q) p b) r)<|.A (sB [bO q] a t) (.cons (.k (pF<|bO q) p b) r)<|w.go (.au (bF q)):=by
 induction q;.exact .map
 .exact .seq
theorem Xo(aM:∀q R T,R.length<n->RT W R T->JT W q R T){R}{T}(aP:R.length<=n)(h:RT W R T):pG W R T:=by
 refine jj (rg h) λe R j=>?_;subst j;by_cases f:e.d=[42];.refine i0 (rf h) λt r l aR aO=>?_;subst l;refine hv (sE aO (by rw[f];decide) (by rw[f];decide)) λaF Y=>hE ((sD aF).2.1 f) λb o=>?_;clear zz3 o;exact .mk (.bI f) (λaL=>⟨Y,kY _,iA _⟩) λw s ss hs B=>.inl ⟨_,[],r,_,rfl,.bI hs,.refl⟩
 refine W5 h f λa aK C aD aQ hP au l1 l2 hN hL hB=>?_;have z:∀x aS,e::R=x::aS->x.d≠[42]:=λx aS q=>(rC q).1▸f;refine i0 (rf au) λt2 E p M I=>?_;clear h;subst p;haveI aG:E.len+1<=T.len:=l2;have lf:∀{R' T'},RT W R' T'->R'.length<=aD.length->T'.len<=E.len->RT W R' T'/\R'.length<(e::R).length/\T'.len<=T.len:=λa b c=>⟨a,wW<|f1 b l1,f1 c<|s9 aG⟩;by_cases d:C.d=[119];.refine hv (sE I (by rw[d];decide) (by rw[d];decide)) λaF Y=>hE ((sD aF).2.2.2.2 d) λb y=>?_;clear zz3 y hB;exact .mk (.dI z hP d) (λaL=>lf Y (g' _)<|g' _) λw s ss hs B=>.inl ⟨_,[],E,_,rfl,hB _ _ B.o<|.aU hs,.refl⟩
 haveI bd:∀{w} {s ss} {st},w.E=s::ss->Bn w (e::R) T->Bd {w with bt:=st,aF:=C.o::w.aF} aD E:=λhs B=>⟨by haveI:=B.n;show _+(_+1)+_<=_;rw[mT,Nat.mul_succ]at this;exact jL<|f1 (Nat.succ_le_succ<|jL<|f1 (hJ (jY 4 l1) _)<|Nat.le_of_add_le_add_right (b:=4) (c:=1997) (je this)) (by decide),by haveI:=B.bc;exact f1 (ih _ _)<|f1 aG this,B.e,B.o⟩;haveI bl:∀{w},Bn w (e::R) T->w.E.length+(w.aF.length+1)+4*E.len<=100000:=λB=>iU _ 1 _▸JS B.n (s9<|f1 aG B.bc);have L:∀q,C.d=[bO q]->pG W (e::R) T:=λq av=>sG I av Xj λb et Y=>by exists aN;clear I;subst et;refine aN<|(aM q aD E (lB l1 aP) Y C.o).aY λD x R' T' k1 k2 k3=>.mk (.eH z hP (by induction q;exact .inr av;exact .inl av) (by rw[av,Xk];exact k1)) (λq=>i5 (k2 q) λm1 m2=>lf m1<|iN m2) λw s ss hs B=>?_;haveI aC:=(k3 {w with bt:=.au _,aF:=C.o::w.aF} s ss w.aF hs O<|bd hs B).map (G:=Gives _ _ _ (.cons (.k _ _ b) E) _) λX=>Xm (w:=(w.go<|.au<|bF q))<|bl (w:=w) B;rw[av];exact .inl ⟨_,D,_,(w.go _),rfl,hB _ _ B.o Xn,aC.ec O B.e Xl⟩
 by_cases A:C.d=[91];.exact L H A
 by_cases i:C.d=[123];.exact L g i
 haveI aJ:=W6 M d A i;have Q:iB a=g\/iB aK=g->pG W (e::R) T:=λJ=>.mk (.eb z hP J d A i) (λaL=>⟨au,wR<|hL J,l2⟩) λw s ss hs B=>.inl ⟨_,[],_,_,rfl,hB _ _ B.o<|.eb J M.g aJ hs,.refl⟩;clear hL hP L bl bd lf z;induction aE:iB a with
 |true=>induction J:iB aK with|true=>refine p5 (hN aE J) λe1 e3 aI aH=>?_;clear hN;subst e1 e3;refine .mk (T':=.nil) (.aE f aI aH d A i) (λq=>hH q.symm) λw s ss hs B=>.inr ⟨_,_,rfl,rfl,hB _ _ B.o ?_⟩;haveI:=kS.aE (w:=w) (start:=h3 w.G C.o) (r:=E) aE J M.g aJ M.gs;rw[M.bj]at this;exact this|false=>exact Q<|.inr J
 |false=>exact Q<|.inl aE
end
section
set_option maxHeartbeats 1000000
open PySem
variable{W:TS}
variable{q:Bool}
theorem bm:jN q∈([91,123,93,125,44,63,58]):=by induction q<;>decide
theorem vV:jN q∈([44,93,125,63,58,91,123,45]):=by induction q<;>decide
theorem Xp:jN q≠44:=by induction q<;>decide
theorem Xq:jN q≠63:=by induction q<;>decide
theorem yG:g3.bW (bL q)=U [.bool g]:=by induction q<;>rfl
theorem JV:g3.bW (bV q)=U []:=by induction q<;>rfl
theorem Xr(i:∀R T,R.length<n->RT W R T->vU W q R T){R}{T}(d:R.length<=n)(h:RT W R T):CP W q R T:=by
 intro op;revert d;refine t0 (P:=λR T=>R.length<=n->nC W _ R T (oX R T op λw=>Gives _ _ _ T w)) h λe R t r h j f d=>?_;by_cases c1:e.d=[jN q];.refine sG f c1 bm λb a c=>?_;clear zz3 a;exact .mk (.dq c1) (CO c) λw s ss ms hs hm B=>.inl ⟨_,[],r,_,rfl,CL<|JO hs hm,.refl⟩
 by_cases c2:e.d=[44];.refine sG f c2 (by decide) λb a c=>?_;clear zz3 a;exact(i R r d c op).aY λD x R' T' k1 k2 k3=>.mk (.fh c2 Xp k1) (yE k2) λw s ss ms hs hm B=>(k3 w s ss ms hs hm<|B.gu (iA _)<|iA _).map λX I=>CL<|W8 I
 .exact .mk (T':=.nil) (.fg c1 c2) yF λw s ss ms hs hm B=>.inr ⟨_,_,rfl,rfl,CL<|W_ j.g (mZ (j.cI _ vV) c1) (mZ (j.cI _ (by decide)) c2) j.gs hm j.bj⟩
theorem Xs(k:∀R T,R.length<n->RT W R T->pG W R T)(i:∀R T,R.length<=n->RT W R T->CP W q R T){R}{T}(a:R.length<=n)(h:RT W R T):JU W q R T:=by
 intro op;revert a;refine t0 (P:=λR T=>R.length<=n->nC W _ R T (oX R T op λw=>Gives _ _ _ T w)) h λe R t r h I y a=>?_;by_cases c1:e.d=[58]
 .refine sG y c1 (by decide) λb p c=>?_;clear zz3 p;revert a;refine t0 (P:=λR r=>(e::R).length<=n->nC W _ (e::R) (.cons _ r) (oX (e::R) (.cons _ r) op λw=>Gives _ _ _ (.cons _ r) w)) c λf m t2 G c d z a=>?_;haveI J:=JQ (d.cI 44 (by decide))<|d.cI (jN q) vV;by_cases c2:f.d=[44]\/f.d=[jN q];.exact(i _ _ (s9 a) c op).aY λD x R' T' k1 k2 k3=>.mk (.fp c1 c2 k1) (yE k2) λw s ss ms hs hm B=>.inl ⟨_,lv _++D,_,(w.go _),rfl,Xe d.g<|J.mpr c2,CM c B.e<|(k3 (w.go<|.au _) s ss ms hs hm<|B.dr (iA _) (iA _)).ec O B.e yG⟩
  .refine(k _ _ a c).aY λj x R' T' k1 k2 k3=>?_;haveI F:∀w,Bd w (e::f::m) (.cons (.k (pF 58) e.o b) _)->nB w.G (Gives _ _ _ (.cons (.k (pF 58) e.o b) _) w) j x T' (w.go<|.au _):=λw B=>(k3 _ _ _ O<|B.node (iA _)<|iA _).map λX=>Xb (B.len<|iA _) d.g<|JR J c2;induction x with|some x=>exact .mk (T':=T') (.fr c1 c2 k1) yF λw s ss ms hs hm=>F w|none=>exact i5 (k2 O) λm1 m2 m3=>(i R' T' (f1 (iN m2)<|s9 a) m1 op).aY λD x l o A C E=>.mk (.fq c1 c2 k1 A) (yE<|CN m2 m3 C) λw s ss ms hs hm B=>(F w B).andThen<|CM m1 B.e<|(E (w.go (.au _)) s ss ms hs hm (B.dr (jw (iN m2)) (jw m3))).ec O B.e yG
 .exact(i _ _ a h op).aY λD x R' T' k1 k2 k3=>.mk (.fo c1 k1) k2 λw s ss ms hs hm B=>.inl ⟨_,lv _++D,_,(w.go _),rfl,Xf I.g<|mZ (I.cI _ (by decide)) c1,CM h B.e<|(k3 (w.go<|.au _) s ss ms hs hm<|B.dr (g' _) (g' _)).ec O B.e yG⟩
theorem Xt(i:∀R T,R.length<=n->RT W R T->pG W R T)(d:∀R T,R.length<=n->RT W R T->JU W q R T){R}{T}(c:R.length<=n)(h:RT W R T):CQ W q R T:=by
 intro op;revert c;refine t0 (P:=λR T=>R.length<=n->nC W _ R T λD x T'=>∀a b,oX R T op (λw=>vR q w a b T) D x T') h λe R t r h y p c=>?_;haveI z:=Xh (y.cI 58 (by decide)) (y.cI 44 (by decide))<|y.cI (jN q) vV;by_cases c1:e.d=[58]\/e.d=[44]\/e.d=[jN q];.exact(d _ _ c h op).aY λD x R' T' k1 k2 k3=>.mk (.fk c1 k1) k2 λa b w s ss ms hs hm B=>.inl ⟨_,D,_,(w.go _),rfl,Xd y.g<|z.mpr c1,(k3 (w.go<|.au _) s ss ms hs hm<|B.dr (g' _)<|g' _).ec O B.e JV⟩
 .refine(i _ _ c h).aY λf x R' T' k1 k2 k3=>?_;haveI F:∀a b w,Bd w _ _->nB w.G (vR q w a b _) f x T' (w.go _):=λa b w B=>(k3 _ _ _ O<|B.node (g' _)<|g' _).map λX=>Xa (B.len<|g' _) y.g<|JR z c1;clear k3;induction x with|some x=>exact .mk (T':=T') (.fm c1 k1) yF λa b w s ss ms hs hm=>F a b w|none=>exact i5 (k2 O) λm1 m2 m3=>(d R' T' (f1 (iN m2) c) m1 op).aY λD x j k l m o=>.mk (.fl c1 k1 l) (CN m2 m3 m) λa b w s ss ms hs hm B=>(F a b w B).andThen<|(o (w.go<|.au _) s ss ms hs hm<|B.dr (iN m2) m3).ec O B.e JV
theorem Xu(l:∀R T,R.length<=n->RT W R T->pG W R T)(k:∀R T,R.length<=n->RT W R T->CP W q R T)(f:∀R T,R.length<n->RT W R T->CQ W q R T){R}{T}(a:R.length<=n)(h:RT W R T):vU W q R T:=by
 intro op;revert a;refine t0 (P:=λR T=>R.length<=n->nC W _ R T (oX R T op λw=>sF q w T)) h λe R t r h A i a=>?_;by_cases c1:e.d=[63]
 .refine sG i c1 (by decide) λb c d=>?_;subst c;refine(f R r a d op).aY λD x R' T' k1 k2 k3=>.mk (.ask c1 k1) (yE k2) λw s ss ms hs hm B=>?_;clear f;induction q;.exact k3 _ b w s ss ms hs hm<|B.gu (iA _)<|iA _
  .exact .inl ⟨_,D,_,_,rfl,pD.key,(k3 _ b (w.go<|.au _) s ss ms hs hm<|B.dr (iA _)<|iA _).ec O B.e O⟩
 by_cases c2:e.d=[jN q];.refine sG i c2 bm λb c d=>?_;clear zz3 c;exact .mk (.eB c2 Xq<|.dq c2) (CO d) λw s ss ms hs hm B=>.inl ⟨_,_,r,_,rfl,W7 hs hm,.refl⟩
 .refine(l _ _ a h).aY λj x R' T' k1 k2 k3=>?_;have F:∀w,Bd w _ _->nB w.G (sF q w _) j x T' (w.go _):=λw B=>(k3 _ (bN q) w.E O<|B.node (g' _)<|g' _).map λX=>W' (B.len<|g' _) A.g (mZ (A.cI _ vV) c2)<|mZ (A.cI _ (by decide)) c1;clear k3;induction x with|some x=>exact .mk (T':=T') (.fj c1 c2 k1) yF λw s ss ms hs hm=>F w|none=>exact i5 (k2 O) λm1 m2 m3=>(k R' T' (f1 (iN m2) a) m1 op).aY λD x m o p y z=>.mk (.fi c1 c2 k1 p) (CN m2 m3 y) λw s ss ms hs hm B=>(F w B).andThen<|Xg m1 B.e<|(z (w.go (.au _)) s ss ms hs hm (B.dr (iN m2) m3)).ec O B.e yG
theorem Xv(a:vU W q R T)(h:RT W R T):JT W q R T:=by
 intro op;revert a;refine t0 (P:=λR T=>vU W q R T->nC W _ R T (oX R T op λw=>rh q w _ T)) h λe R t r h i f a=>?_;by_cases c1:e.d=[jN q];.refine sG f c1 bm λb c d=>?_;clear zz3 c;exact .mk (.dq c1) (CO d) λw s ss ms hs hm B=>.inl ⟨_,[],r,_,rfl,JO hs hm,.refl⟩
 .exact(a op).aY λD x R' T' k1 k2 k3=>.mk (.fst c1 k1) k2 λw s ss ms hs hm B=>(k3 w s ss ms hs hm B).map λX=>W9 i.g<|mZ (i.cI _ vV) c1
structure Xw (W:TS)(R:List El)(T:TS):Prop where
 b0:pG W R T
 dk:∀q,vU W q R T
 cL:∀q,CQ W q R T
theorem Xx(n):∀R T,R.length<=n->RT W R T->Xw W R T:=
 n.rec (λR T a h=>jj (rg h) λe R e=>by subst e;cases a) λn c R T a h=>
  have b:=λR T hl=>c R T<|td hl;have N:∀R T,R.length<=n+1->RT W R T->pG W R T:=λR T=>Xo λq R T hl h=>Xv ((b R T hl h).dk q) h;have L:=λq R T=>Xr λR T hl h=>(b R T hl h).dk q;haveI d:=λq R T=>Xs (λR T hl h=>(b R T hl h).b0)<|L q
  ⟨N R T a h,λq=>Xu N (L q) (λR T hl h=>(b R T hl h).cL q) a h,λq=>Xt N (d q) a h⟩
theorem Xy(h:RT W R T):pG W R T:=(Xx R.length R T (g' _) h).b0
end
section
set_option backward.match.sparseCases true
end
section
open PySem
noncomputable def Z.aJ(z:Z)(j:Nat):Z:={z with I:=z.I.drop j,aG:=z.aG+j}
theorem mn{z:Z}(h:j<=z.I.length)(t):(z.aJ j).aR t=(z.aR t).aJ j:=by unfold Z.aJ Z.aR;rw[Et h]
theorem JW:∀l i t,j<=t.length->lu c mk i l (t.drop j)=((lu c mk i l t).1,(lu c mk i l t).2.1,(lu c mk i l t).2.2.drop j)/\t.length<=(lu c mk i l t).2.2.length/\∀n,n<t.length->(lu c mk i l t).2.2[n]?=t[n]?:=by
 intro l;induction l with|nil=>exactλi t h=>⟨rfl,g' _,λa a=>rfl⟩|cons x r d=>
  intro i t h;dsimp only[vD];split;.haveI:=d x (t++[mk]) (by rw[hz];exact f1 h<|ih _ _);rw[Et h]at this;rw[hz]at this;refine jZ this.1 (f1 (ih _ _) this.2.1) λn b=>?_;rw[this.2.2 n (by apply jw<;>right),qF b]
  .exact jZ O (g' _) λa a=>rfl
theorem yH{z:Z}(h:j<=z.I.length)(c):(z.aJ j).aN c=(z.aN c).aJ j:=by
 unfold Z.aN;show(if z.R=0 then _ else _)=_;split;.haveI:=(JW (c:=c) (mk:=.k 227 z.o z.o) z.aS z.ad _ h).1;rw[this];rfl
 .rfl
structure kA (z a:Z):Prop where
 aT:z.I.length<=a.I.length
 aY:∀n,n<z.I.length->a.I[n]?=z.I[n]?
theorem kA.refl(z):kA z z:=⟨g' _,λa a=>rfl⟩
theorem kA.trans(x:kA a b)(y:kA b c):kA a c:=⟨f1 x.aT y.aT,λn h=>(y.aY n<|hy h x.aT).trans<|x.aY n h⟩
theorem kA.aR(z)(t):kA z<|z.aR t:=⟨by unfold Z.aR;simp,λn=>qF⟩
theorem Xz(z:Z):z.I.length<=z.bd.I.length:=by
 unfold Z.bd;split;.exact f1 (im<|congrArg _ (q9 z _).2.2.2.1.symm) (kA.aR _ _).aT
 .exact g' _
theorem kA.aN(z)(c):kA z<|z.aN c:=by
 unfold Z.aN;split;.haveI:=JW (c:=c) (mk:=.k 227 z.o z.o) z.aS z.ad z.I<|jd _;exact⟨this.2.1,this.2.2⟩
 .exact .refl z
theorem t5{z:Z}(h:j<=z.I.length):(z.aJ j).M=z.M.aJ j:=by
 unfold Z.M;show(if z.ask=H then _ else _)=_;split
 .haveI:(z.aJ j).cZ=z.cZ:=by
   unfold Z.cZ Z.aJ
   rw[oC,show z.aG+j+(z.I.length - j)=z.aG+z.I.length by rw[oG,uG h]]
  rw[this]
  rfl
 .rfl
theorem JX{z:Z}(c):(z.aJ j).bf c=(z.bf c).aJ j:=by unfold Z.bf;show(if z.ad<c then _ else _)=_;split<;>rfl
theorem XA{z:Z}(h:j<=z.I.length):(z.aJ j).bd=z.bd.aJ j:=by
 unfold Z.bd;show(if z.R=0/\z.ad<ir z.G z.o then _ else _)=_;split;.rw[JX];exact mn (z:=z.bf<|ir z.G z.o) (by unfold Z.bf;split<;>exact h) _
 .rfl
theorem JY{α:Type}(l:List α)(x)(h:j<=n)(a:n<=l.length):(l.drop j).take (n - j)++x::(l.drop j).drop (n - j)=(l.take n++x::l.drop n).drop j:=by rw[Et (by rw[oD];exact Nat.le_min.mpr ⟨h,f1 h a⟩),D8,qI,uG h]
theorem XB{z:Z}(h:j<=z.I.length)(h1:z.aG+j<=k.num)(b:k.num - z.aG<=z.I.length):(z.aJ j).bB k=(z.bB k).aJ j:=by
 haveI e:k.num - (z.aG+j)=(k.num - z.aG) - j:=(zY _ _ _).symm;haveI c1:(z.aJ j).br k=(z.br k).aJ j:=by unfold Z.br Z.aJ;dsimp only;rw[e,JY _ _ (MO h1) b]
 unfold Z.bB;show(if z.R=0/\z.ad<ir z.G _ then _ else(z.aJ j).br k)=_;rw[c1];split
 .rw[JX,e];haveI a:k.num - z.aG<=((z.br k).bf _).I.length:=by rw[(by unfold Z.bf;split<;>rfl:((z.br k).bf<|ir z.G k.pos).I=(z.br k).I)];exact f1 (jw b)<|im (qN _ _ _).symm
  show({((z.br k).bf _).aJ j with I:=(((z.br k).bf _).I.drop j).take _++.k _ _ _::(((z.br k).bf _).I.drop j).drop _}:Z)=_;rw[JY _ _ (MO h1) a];rfl
 .rfl
end
section
open PySem
theorem sH(z:Z):z.M.I=z.I:=by unfold Z.M;split<;>rfl
theorem yI:∀{ks},iK l ks=U k->∃q∈ks,q.2=k:=by
 intro ks;induction ks with|nil=>exact hH|cons b r a=>
  obtain⟨j,q⟩:=b;intro h;dsimp only[py]at h;split at h;.cases io h;exact h_ _ (.head _) O
  .exact hc (a h) λx hx e=>h_ x (.tail _ hx) e
theorem yJ:∀{ks},q∈j4 l ks->q∈ks:=by
 intro ks;induction ks with|nil=>exactλh=>h|cons b r a=>
  obtain⟨j,k⟩:=b;intro h;dsimp only[sw]at h;split at h;.exact .tail _ h
  .cases h with|head=>exact .head _|tail _ h=>exact .tail _<|a h
set_option tactic.hygienic true in
theorem XC(A:Act z c p)(h:j<=z.I.length)(l:∀q∈z.J,z.aG+j<=q.2.num):Act (z.aJ j) c<|p.aJ j:=by
 haveI op:∀K,(z.aJ j).dm K=(z.dm K).aJ j:=λK=>by unfold Z.dm;rw[t5 h];exact mn (z:=(z.M.a3 _ _).s 1) (by rw[sH];exact h) _
 induction A with
 |en a b=>rw[<-op];exact .en a b|mp a b=>rw[<-op];exact .mp a b|eC a b c=>rw[show(z.dz _).aJ j=(z.aJ j).dz _ from(mn (z:=(z.aM.a3 _ _).s 1) h _).symm];exact .eC a b c|eD a b c=>rw[show(z.dz _).aJ j=(z.aJ j).dz _ from(mn (z:=(z.aM.a3 _ _).s 1) h _).symm];exact .eD a b c|b1 a b=>rw[show z.e1.aJ j=(z.aJ j).e1 from(mn (z:=(z.ab H).aM.s 1) h _).symm];exact .b1 a b|ask a b c=>rw[show z.e2.aJ j=(z.aJ j).e2 from(mn (z:=(z.ab g).aM.s 1) h _).symm];exact .ask a b c|ct a b c d e=>
  haveI:(z.aJ j).dP=z.dP.aJ j:=by unfold Z.dP;rw[XA h];refine mn (z:=(z.bd.ab H).aM.s 1) ?_ _;exact f1 h<|Xz z
  rw[<-this];exact .ct a b c d e
 |col a b c d=>
  refine hc (yI a) λq o k=>?_;clear zz3 (Eq.symm k) b a;haveI l:=l q o;haveI:(z.aJ j).d5 _=(z.d5 _).aJ j:=by unfold Z.d5;rw[XB h l b.2];refine mn (z:=((z.bB _).ab g).s 1) ?_ _;exact f1 h<|Vj z _
  rw[<-this];refine .col a ⟨l,?_⟩ c d;rw[oC,<-zY];exact MP b.2 j
 |eE a b c=>rw[show z.e3.aJ j=(z.aJ j).e3 from(mn (z:=(z.ab g).s 1) h _).symm];exact .eE a b c|bI a b c d e f=>
  rename_i n _;haveI:(z.aJ j).dn 342 n=(z.dn 342 n).aJ j:=by unfold Z.dn;rw[t5 h];exact mn (z:=(z.M.ab g).s _) (by rw[sH];exact h) _
  rw[<-this];exact .bI a b c d e f
 |cB a b c d e f=>
  rename_i n _;haveI:(z.aJ j).dn 361 n=(z.dn 361 n).aJ j:=by unfold Z.dn;rw[t5 h];exact mn (z:=(z.M.ab g).s _) (by rw[sH];exact h) _
  rw[<-this];exact .cB a b c d e f
 |cC a b c d e f=>
  rename_i n _;haveI:(z.aJ j).d6 n=(z.d6 n).aJ j:=by unfold Z.d6;rw[t5 h];exact mn (z:=(z.M.ab g).s _) (by rw[sH];exact h) _
  rw[<-this];exact .cC a b c d e f
 |dB a b c d e f aC i=>
  rename_i n _;haveI:(z.aJ j).d7 n=(z.d7 n).aJ j:=by unfold Z.d7;rw[t5 h];exact mn (z:=(z.M.ab g).s _) (by rw[sH];exact h) _
  rw[<-this];exact .dB a b c d e f aC i
 |@c_ n t _ nl a b c d e f aC=>
  haveI:(z.aJ j).dp n t nl=(z.dp n t nl).aJ j:=by unfold Z.dp;rw[t5 h];exact mn (z:=(z.M.ab nl).s _) (by rw[sH];exact h) _
  rw[<-this];exact .c_ a b c d e f (by induction aC with|d8 a=>exact .d8 a|d9 a b c=>exact .d9 a b c|cV a b=>exact .cV a b|sign a b c f=>exact .sign a b c f|d_ a b c aC f=>exact .d_ a b c aC f|doc a b c aC f=>exact .doc a b c aC f|dQ a b c aC f=>exact .dQ a b c aC f|dR a b c aC f m=>exact .dR a b c aC f m|dS a b f=>exact .dS a b f)
 |doc a b c d e=>
  haveI:(z.aJ j).cs 147=(z.cs 147).aJ j:=by unfold Z.cs;rw[yH h];exact mn (z:=((z.aN _).aM.ab _).s 3) (f1 h (kA.aN z _).aT) _
  rw[<-this];exact .doc a b c d e
 |eF a b c d e=>
  haveI:(z.aJ j).cs 159=(z.cs 159).aJ j:=by unfold Z.cs;rw[yH h];exact mn (z:=((z.aN _).aM.ab _).s 3) (f1 h (kA.aN z _).aT) _
  rw[<-this];exact .eF a b c d e
end
section
open PySem
structure iS (z a:Z):Prop where
 aR:a.aG=z.aG
 b5:a.G=z.G
 o:z.o<=a.o
 aT:z.I.length<=a.I.length
 aY:∀n,n<z.I.length->(∀q∈z.J,z.aG+n<q.2.num)->a.I[n]?=z.I[n]?
 cL:∀q∈a.J,q∈z.J\/(z.aG+z.I.length<=q.2.num/\q.2.pos=z.o)
theorem iS.refl(z):iS z z:=⟨rfl,rfl,g' _,g' _,λa a a=>rfl,λa=>.inl⟩
theorem iS.dX(h1:y.aG=z.aG)(b:y.G=z.G)(c:z.o<=y.o)(a:kA z y)(d:∀q∈y.J,q∈z.J\/(z.aG+z.I.length<=q.2.num/\q.2.pos=z.o)):iS z y:=⟨h1,b,c,a.aT,λn e f=>a.aY n e,d⟩
theorem iS.I(K:iS z y)(t):iS z<|y.aR t:=⟨K.aR,K.b5,K.o,f1 K.aT (kA.aR y t).aT,λn a b=>((kA.aR y t).aY n<|hy a K.aT).trans<|K.aY n a b,K.cL⟩
theorem iS.s(K:iS z y)(n):iS z<|y.s n:=⟨K.aR,K.b5,f1 K.o<|ih _ _,K.aT,K.aY,K.cL⟩
theorem iS.ab(K:iS z y)(b):iS z<|y.ab b:=⟨K.aR,K.b5,K.o,K.aT,K.aY,K.cL⟩
theorem iS.a3(K:iS z y)(f)(b):iS z<|y.a3 f b:=⟨K.aR,K.b5,K.o,K.aT,K.aY,K.cL⟩
theorem iS.aM(K:iS z y):iS z y.aM:=⟨K.aR,K.b5,K.o,K.aT,K.aY,λq a=>K.cL q<|yJ a⟩
theorem iS.M(z):iS z z.M:=by
 unfold Z.M;split
 .refine⟨rfl,rfl,g' _,g' _,λb b b=>rfl,λq a=>?_⟩;rcases li.mp a with a|a
  .exact .inl<|yJ a
  .cases iv.mp a;exact .inr ⟨g' _,rfl⟩
 .exact .refl z
theorem iS.aN(z)(c):iS z<|z.aN c:=lD (q8 z c) λb h d e i j f=>.dX f d (im e.symm) (kA.aN z c) λq a=>.inl (by rw[b]at a;exact a)
theorem iS.ct(z):iS z z.bd:=by
 unfold Z.bd;split;.exact lD (q9 z<|ir z.G z.o) λc d j a e k h=>i5 h λf l m=>iS.I ⟨f,d,im c.symm,by rw[a];exact g' _,λn i i=>by rw[a],λq b=>.inl (by rw[e]at b;exact b)⟩ _
 .exact .refl z
theorem JZ{α:Type}{l:List α}(x)(h:n<m)(a:n<l.length):(l.take m++x::l.drop m)[n]?=l[n]?:=by rw[qF (by rw[oD];exact Nat.lt_min.mpr ⟨h,a⟩),D3 h]
theorem iS.col{q}(e:q∈z.J)(b:z.aG<=q.2.num/\q.2.num - z.aG<=z.I.length):iS z<|z.bB q.2:=by
 have c1:iS z<|z.br q.2:=by refine⟨rfl,rfl,g' _,f1 (iA _)<|im (qN _ _ _).symm,λn c a=>?_,λx hx=>.inl<|yJ hx⟩;haveI:=a q e;exact JZ _ (MQ.mpr this) c
 unfold Z.bB;split
 .refine lD (q9 (z.br q.2)<|ir z.G q.2.pos) λf h l d i m k=>i5 k λj o p=>?_;haveI l1:=c1.aT;refine⟨j,h,im f.symm,?_,λn c a=>?_,λx hx=>?_⟩;.rw[qN,d];exact jw l1
  .haveI:=a q e;dsimp only;rw[d,JZ _ (MQ.mpr this)<|hy c l1];exact c1.aY n c a
  .rw[i]at hx;exact c1.cL x hx
 .exact c1
theorem XD(A:Act z c f):iS z f:=by induction A with|en=>exact(((iS.M z).a3 _ _).s 1).I _|mp=>exact(((iS.M z).a3 _ _).s 1).I _|eC=>exact(((iS.refl z).aM.a3 _ _).s 1).I _|eD=>exact(((iS.refl z).aM.a3 _ _).s 1).I _|b1=>exact((((iS.refl z).ab _).aM).s 1).I _|ask=>exact((((iS.refl z).ab _).aM).s 1).I _|ct=>exact((((iS.ct z).ab _).aM).s 1).I _|col a b=>refine hc (yI a) λq e d=>?_;clear zz3 (Eq.symm d) b;exact(((iS.col e b).ab _).s 1).I _|eE=>exact(((iS.refl z).ab _).s 1).I _|bI=>exact(((iS.M z).ab _).s _).I _|cB=>exact(((iS.M z).ab _).s _).I _|cC=>exact(((iS.M z).ab _).s _).I _|dB=>exact(((iS.M z).ab _).s _).I _|c_=>exact(((iS.M z).ab _).s _).I _|doc=>exact(((iS.aN z _).aM.ab _).s 3).I _|eF=>exact(((iS.aN z _).aM.ab _).s 3).I _
end
section
open PySem
theorem XE(q)(c):q.1<=(tQ q c).1:=by unfold tQ;split;exact iA _;exact g' _
theorem sI{B:List _}{p}:∀{p'},p<=p'->ij B p<=ij B p'
 |0,h=>by cases Nat.le_zero.mp h;exact g' _
 |p'+1,h=>by
  rcases nG p (p'+1)with h'|h'
  .refine f1 (sI<|td h') ?_;rcases nG p' _ with q|q
   .obtain⟨c,a⟩:∃c,B[p']?=U c:=⟨_,oe q⟩;unfold ij;rw[vy a];exact XE _ _
   .unfold ij;rw[Ea q,Ea<|jw q];exact g' _
  .cases k6 h h';exact g' _
noncomputable def Kp(z:Z):Prop:=∀q∈z.J,q.2.pos<=z.o
theorem XF(K:Kp z)(h:z.o<=p'):(z.J.filter<|fresh z.G z.o).filter (fresh z.G p')=z.J.filter (fresh z.G p'):=by rw[MM];refine MN λq a=>?_;induction e:fresh _ p' q with|false=>rfl|true=>haveI h1:=of_decide_eq_true e;exact decide_eq_true ((k6 (sI<|K q a)<|f1 (sI h)<|im h1.symm))
theorem J0(K:Kp z)(h:z.o<=p')(b):z.aL.aQ p' b=z.aQ p' b:=by
 haveI:(z.aL.a4 p' b).aL=(z.a4 p' b).aL:=by show({z.a4 p' b with J:=(z.J.filter<|fresh z.G z.o).filter<|fresh z.G p'})={z.a4 p' b with J:=z.J.filter<|fresh z.G p'};rw[XF K h]
 unfold Z.aQ;rw[this];rfl
theorem J1(h:mK z p'):mK z.aL p':=λq a=>h q (rM.mp a).1
set_option tactic.hygienic true in
theorem J2(K:Kp z)(F:kQ z d):kQ z.aL d:=by obtain⟨e,a,hs,A⟩:=F;rename_i p' c b;rw[<-J0 K e.le b]at A;exact .mk e a (J1 hs) A
theorem yK(z)(b)(h:z.o<=p'):kA z (z.aQ p' b)/\(z.aQ p' b).aG=z.aG/\(z.aQ p' b).G=z.G/\(z.aQ p' b).o=p'/\∀q∈(z.aQ p' b).J,q∈z.J:=by refine kL (Js z p' b) λc d i e f=>?_;haveI aC:=kA.aN ((z.a4 p' b).aL)<|ir z.G p';exact oi ⟨aC.aT,aC.aY⟩ f c d λq a=>by rw[e]at a;exact(rM.mp a).1
theorem CR{z:Z}(h:j<=z.I.length)(p')(b):(z.aJ j).aQ p' b=(z.aQ p' b).aJ j:=yH (z:=(z.a4 p' b).aL) h _
set_option tactic.hygienic true in
theorem J3(F:kQ z l)(h:j<=z.I.length)(i:∀q∈z.J,z.aG+j<=q.2.num):kQ (z.aJ j)<|l.aJ j:=by exists e;obtain⟨o,f,hs,A⟩:=F;rename_i p' c b;refine kL (yK z b o.le) λaC a m n d=>e<|.mk o f hs ?_;rw[CR h];exact XC A (f1 h aC.aT) λq k=>by rw[a];exact i q<|d q k
set_option tactic.hygienic true in
theorem J4(F:kQ z e)(K:Kp z):Kp e/\e.aG=z.aG/\e.G=z.G/\z.I.length<=e.I.length/\(∀n,n<z.I.length->(∀q∈z.J,z.aG+n<q.2.num)->e.I[n]?=z.I[n]?/\∀q∈e.J,z.aG+n<q.2.num)/\∀j,j<=z.I.length->(∀q∈z.J,z.aG+j<=q.2.num)->∀q∈e.J,z.aG+j<=q.2.num:=by
 exists a;obtain⟨w,t,hs,A⟩:=F;rename_i p' c b;refine kL (yK z b w.le) λaC f r p i=>?_;haveI k:=XD A;haveI o:=k.o;rw[p]at o;refine a ⟨λq d=>?_,k.aR.trans f,k.b5.trans r,f1 aC.aT k.aT,λn m l=>⟨((k.aY n (hy m aC.aT) λq d=>by rw[f];exact l q<|i q d).trans<|aC.aY n m),λq d=>?_⟩,λj s l q d=>?_⟩
 .exists a;rcases k.cL q d with h|⟨_,h⟩
  .exact a<|f1 (K q<|i q h)<|f1 w.le o
  .refine a ?_;rw[h,p];exact o
 .exists a;rcases k.cL q d with h|⟨h,_⟩
  .exact a<|l q<|i q h
  .rw[f]at h;exact a<|hy (Nat.add_lt_add_left (hy m aC.aT) _) h
 .exists a;rcases k.cL q d with h|⟨h,_⟩
  .exact a<|l q<|i q h
  .rw[f]at h;exact a<|f1 (hJ (f1 s aC.aT) _) h
inductive ri (z:Z):Z->Prop|mk {p':Nat} {b:Bool}:jG z.G z.o p' b->z.G[p']?=U 0->mK z p'->NR (z.aQ p' b)->ri z (z.aQ p' b).dO
set_option tactic.hygienic true in
theorem J5(c:h6 z)(F:ri z b):pB z<|.done b:=by intro C Y d Q X w h;obtain⟨e,a,hs,A⟩:=F;refine Jl Y _ (c.L w) e a hs λm hm=>?_;rw[Jo,Jt];refine VN Y _<|U7 Y _ ((c.aQ e).L<|w.p m) A λm' pk l=>?_;rw[V9];exact h m' pk<|hm.trans l
end
section
open PySem
class inductive n0:Z->Z->Prop
 |done {z F:Z}:h6 z->ri z F->n0 z F
 |step {z a F:Z}:h6 z->kQ z a->n0 a F->n0 z F
theorem h6.aJ(a:h6 z)(j):h6<|z.aJ j:=⟨a.a3,a.ad,(by haveI:=a.dy;show(z.I.drop j).length+z.aS.length+z.J.length+8*(z.G.length - z.o)<=9000;rw[oC];exact f1 (iq (iq (iq (D' _ _) _) _) _) this),a.b9,a.bv,a.cU⟩
set_option tactic.hygienic true in
theorem J6(K:Kp z)(h:ri z F):ri z.aL F:=by obtain⟨c,a,hs,A⟩:=h;rename_i p' b;rw[<-J0 K c.le b]at A ⊢;exact .mk c a (J1 hs) A
theorem XG{z:Z}(h:j<=z.I.length):(z.aJ j).dO=z.dO.aJ j:=by unfold Z.dO;rw[yH h];exact mn (z:=(z.aN _).aM.ab _) (f1 h (kA.aN z _).aT) _
set_option tactic.hygienic true in
theorem J7(h:ri z F)(a:j<=z.I.length):ri (z.aJ j)<|F.aJ j:=by exists c;obtain⟨l,d,hs,A⟩:=h;rename_i p' b;refine kL (yK z b l.le) λaC e f i k=>c ?_;rw[<-XG<|f1 a aC.aT,<-CR a];refine .mk l d hs ?_;rw[CR a];exact A
set_option tactic.hygienic true in
theorem yL(h:ri z F):F.G=z.G/\kA z F:=by exists d;obtain⟨r,k,hs,A⟩:=h;rename_i p' b;refine kL (yK z b r.le) λaC f a i j=>lD (q8 (z.aQ p' b) (-1)) λl m e n o p q=>?_;haveI c:=kA.aN (z.aQ p' b) (-1);exact d ⟨e.trans a,aC.trans<|c.trans ⟨(kA.aR ((((z.aQ p' b).aN _).aM).ab _) _).aT,(kA.aR ((((z.aQ p' b).aN _).aM).ab _) _).aY⟩⟩
theorem n0.aL(C:n0 z F)(K:Kp z):n0 z.aL F:=by exists a;induction C with|done b h=>exact a<|.done b.aL<|J6 K h|step b h c=>exact a<|.step b.aL (J2 K h) c
theorem n0.dc(C:n0 z F):Kp z->F.G=z.G/\z.I.length<=F.I.length/\∀n,n<z.I.length->(∀q∈z.J,z.aG+n<q.2.num)->F.I[n]?=z.I[n]?:=by induction C with|done o h=>exactλK=>⟨(yL h).1,(yL h).2.aT,λn a m=>(yL h).2.aY n a⟩|step o h c j=>refineλK=>kL (J4 h K) λk1 k2 k3 b k=>hv k λk5 l=>i5 (j k1) λe f i=>jZ (e.trans k3) (f1 b f) λn a d=>hv (k5 n a d) λm1 m2=>?_;rw[i n (hy a b) (by rw[k2];exact m2),m1]
theorem XH:∀ks n,j<=n->(∀q∈ks,j<=q.2.num)->(n=j\/∃q∈ks,q.2.num=j)->kP (U n) ks=U j:=by
 intro ks;induction ks with
 |nil=>
  refineλn _ _ h=>kf λd=>?_;rcases h with c|⟨q,f,_⟩;clear zz3 c d
  .refine d ?_;rfl
  .cases f
 |cons p r o=>
  obtain⟨i,k⟩:=p;intro n h1 l h;haveI m:j<=k.num:=l _<|.head _;refine o _ ?_ (λq f=>l q<|.tail _ f) ?_
  .split;.exact m
   .exact h1
  .exists d;rcases h with a|⟨q,f,e⟩;clear zz3 a d
   .exact d<|.inl (by split<;>first|exact O|exact absurd m (Nat.not_le.mpr (by assumption)))
   .rcases h7.mp f with b|f;clear zz3 b e
    .exact d<|.inl (by split<;>first|exact e|exact Nat.le_antisymm (f1 (j9.mp (by assumption)) (im e)) h1)
    .exact d<|.inr ⟨q,f,e⟩
theorem J8{j}:∀(ks:lq),(∀q∈ks,j<=q.2.num)->(∃q∈ks,q.2.num=j)->kP V ks=U j:=by
 intro ks;induction ks with
 |nil=>intro _ ⟨q,b,_⟩;cases b
 |cons d r f=>
  obtain⟨i,k⟩:=d;intro c ⟨q,b,e⟩;refine XH r _ (c _<|.head _) (λq b=>c q<|.tail _ b) ?_;rcases h7.mp b with a|b;clear zz3 a e
  .exact .inl e
  .exact .inr ⟨q,b,e⟩
theorem J9(K:Kp z)(h:z.o<=p')(e:mK z p'):mK z z.o:=λq a b=>by refine e q a<|decide_eq_false ?_;haveI h1:=of_decide_eq_false b;haveI c:ij z.G q.2.pos<=ij z.G z.o:=sI<|K q a;haveI d:ij z.G _<=ij z.G p':=sI h;exact λe=>h1 (Nat.le_antisymm c (f1 d (im e.symm)))
theorem n0.here(C:n0 z F)(K:Kp z):h6 z/\mK z z.o:=by
 exists a;induction C with
 |done d h=>obtain⟨e,b,hs,A⟩:=h;exact a ⟨d,J9 K e.le hs⟩
 |step d h c=>obtain⟨e,b,hs,A⟩:=h;exact a ⟨d,J9 K e.le hs⟩
structure sJ (z F:Z)(j:Nat):Prop where
 d:n0 z F
 aY:Kp z
 bc:z.aG=0
 aT:j<=z.I.length
 n:∀q∈z.J,j<=q.2.num
theorem sJ.aL(W:sJ z F j):sJ z.aL F j:=⟨W.d.aL W.aY,λq a=>W.aY q (rM.mp a).1,W.bc,W.aT,λq a=>W.n q (rM.mp a).1⟩
set_option tactic.hygienic true in
theorem XI(C:n0 z F):∀{j},sJ z F j->(∃y,sJ y F (j+1)/\l5 (z.aJ j) (.ok<|y.aJ j)/\y.G=z.G)\/(l5 (z.aJ j) (.done<|F.aJ j)/\F.G=z.G/\j<=F.I.length):=by
 induction C with
 |done E h=>
  intro j W;rename_i z F;haveI hF:=yL h;exists a;induction d:z.I.drop j with|nil=>exact a<|.inr ⟨.fQ d<|J5 (E.aJ j)<|J7 h W.aT,hF.1,f1 W.aT hF.2.aT⟩|cons t l=>
   haveI n:=by haveI:=congrArg uB d;rw[oC]at this;exact zX this
   haveI hs:=(W.d.here W.aY).2;by_cases i:kP V z.aL.J=U j;.exact a<|.inr ⟨.fR (E.aJ j) d hs (by rw[show(z.aJ j).aG=j from by show z.aG+j=j;rw[W.bc];apply nJ<;>right];exact i)<|J5 ((E.aL).aJ j)<|J7 (J6 W.aY h) W.aT,hF.1,f1 W.aT hF.2.aT⟩
   .refine a<|.inl ⟨_,⟨W.aL.d,W.aL.aY,W.bc,n,λq b=>?_⟩,.now (E.aJ j) d hs (by rw[show(z.aJ j).aG=j from by show z.aG+j=j;rw[W.bc];apply nJ<;>right];exact i),rfl⟩;exists a;rcases nG j _ with f|f
    .exact a f
    .exact absurd (J8 _ W.aL.n ⟨q,b,(k6 f<|W.aL.n q b)⟩) i
 |step E h c r=>
  intro j W;rename_i z s F;refine kL (J4 h W.aY) λk1 k2 k3 x B=>hv B λk5 A=>?_;have o:sJ s F j:=⟨c,k1,k2.trans W.bc,f1 W.aT x,λq b=>by haveI:=A j W.aT (λq b=>by rw[W.bc,Nat.zero_add];exact W.n q b) q b;exact f1 (jv _ _) this⟩;have p:∀q∈z.J,z.aG+j<=q.2.num:=λq b=>by rw[W.bc,Nat.zero_add];exact W.n q b
  exists a;induction d:z.I.drop j with
  |nil=>
   have D:pB _<|.ok _:=Ju (E.aJ j)<|J3 h W.aT p;rcases r o with⟨y,w,G,e⟩|⟨G,e,m⟩
   .exact a<|.inl ⟨y,w,.fz d D G,e.trans k3⟩
   .exact a<|.inr ⟨.fz d D G,e.trans k3,m⟩
  |cons t l=>
   have n:=by have:=congrArg uB d;rw[oC]at this;exact zX this
   have hs:=(W.d.here W.aY).2;by_cases i:kP V z.aL.J=U j
   .have D:pB _<|.ok<|s.aJ j:=Ju (E.aL.aJ j)<|J3 (J2 W.aY h) W.aT λq b=>p q (rM.mp b).1;have k:kP V (z.aJ j).aL.J=U (z.aJ j).aG:=by rw[show(z.aJ j).aG=j from by show z.aG+j=j;rw[W.bc];apply nJ<;>right];exact i
    rcases r o with⟨y,w,G,e⟩|⟨G,e,m⟩
    .exact a<|.inl ⟨y,w,.fA (E.aJ j) d hs k D G,e.trans k3⟩
    .exact a<|.inr ⟨.fA (E.aJ j) d hs k D G,e.trans k3,m⟩
   .refine a<|.inl ⟨_,⟨W.aL.d,W.aL.aY,W.bc,n,λq b=>?_⟩,.now (E.aJ j) d hs (by rw[show(z.aJ j).aG=j from by show z.aG+j=j;rw[W.bc];apply nJ<;>right];exact i),rfl⟩;exists a;rcases nG j _ with f|f
    .exact a f
    .exact absurd (J8 _ W.aL.n ⟨q,b,(k6 f<|W.aL.n q b)⟩) i
noncomputable def mo:List Tk->TS|[]=>.nil|t::l=>.cons t (mo l)
theorem J_:∀l z,z.I=l->ql (mo l) z H|[],_,_=>trivial|t::l,z,h=>⟨l,h,J_ l _ O⟩
theorem J'{F:Z}:∀n {z} {j},F.I.length - j=n->sJ z F j->ql (mo<|F.I.drop j) (z.aJ j) g
 |0,z,j,a,W=>by rw[MR<|Ei a];exact trivial|n+1,z,j,a,W=>by
  haveI b:=s4<|zX a;rw[b];rcases XI W.d W with⟨y,w,h,e⟩|⟨h,e,f⟩
  .haveI hl:=w.aT;haveI c:=(w.d.dc w.aY).2.2 j hl λq d=>by rw[w.bc];haveI:=w.n q d;exact iy<|jL<|jM (f1 (hJ (by decide) _) this)
   rw[oe,oe]at c;refine .inl ⟨_,y.I.drop (j+1),h,e,?_,(J' n ((zY _ j 1).symm.trans<|congrArg (· - 1) a) w)⟩;.show y.I.drop j=_;rw[(s4 hl),(io c)]
  .exact .inr ⟨_,_,h,e,b,J_ _ _ O⟩
end
section
open PySem
theorem XJ(l):∀ks,(j4 l ks).Sublist ks:=by
 intro ks;induction ks with|nil=>exact .slnil|cons b r a=>
  obtain⟨j,k⟩:=b;dsimp only[sw];split;.exact .cons _<|.refl _
  .exact .cons₂ _ (a)
theorem CS(l)(h:lG ks):lG<|j4 l ks:=((XJ l ks).map _).nodup h
theorem zf(s:T+I+K<=c+5)(d:a<b)(o:c+8*b<=m):T+1+I+K+8*a<=m:=by rw[iU T 1 I,iU _ 1 K];exact f1 (iq (lC s) _)<|f1 (im<|oG c 6 _)<|f1 (hJ (f1 (im (nJ 6 _)) (f1 (hJ (by decide) _) (jY 8 d))) c) o
theorem z5(h:a<=b+n)(k:c<=d)(e:n<=5):a+c<=b+d+5:=f1 (h9 h k)<|f1 (im<|iU b n d)<|hJ e _
theorem mM{z y:Z}(d:h6 z)(a:y.G=z.G)(c:y.o=z.o)(l:lG y.J)(i:nW y.ad y.aS)(s:y.I.length+y.aS.length+y.J.length<=z.I.length+z.aS.length+z.J.length+5)(b:0<n)(h:((y.s n).aR t).o<((y.s n).aR t).G.length):h6<|(y.s n).aR t:=by
 refine⟨l,i,?_,?_,?_,h⟩;.show(y.I++[t]).length+y.aS.length+y.J.length+8*(y.G.length - (y.o+n))<=9000;rw[a,c,hz];exact zf s (Nat.sub_lt_sub_left d.cU<|zP b) d.dy
 .rw[a];exact d.b9
 .rw[a];exact d.bv
theorem CT(z:Z):z.aM.J.length<=z.J.length:=Ci
theorem XK(aG:h6 z)(A:Act z c p)(h:p.o<p.G.length):h6 p:=by
 refine lD (pz z) λf i Y M Q T au=>?_;haveI sl:=(I' z aG g).1;haveI j:=(I' z aG g).2.1;haveI ss:z.M.I.length+z.M.aS.length+z.M.J.length<=z.I.length+z.aS.length+z.J.length+5:=by rw[M,T];exact f1 (hJ Q _)<|hJ (by decide:1<=5) _
 haveI l:lG z.aM.J:=CS _ aG.a3;haveI w:=CT z;haveI o:z.aM.I.length+z.aM.aS.length+z.aM.J.length<=z.I.length+z.aS.length+z.J.length+5:=f1 (hJ w _)<|ih _ 5;refine lD (q8 z (-1)) λx av B C aD aE aF=>?_;haveI D:nW (z.aN (-1)).ad (z.aN (-1)).aS:=by
  unfold Z.aN;split;.exact I5 _ _ _ _ _ aG.ad
  .exact aG.ad
 haveI us:=f1 (h9 (im<|ym z (-1)) (by haveI:=CT<|z.aN (-1);rw[x]at this;exact this))<|ih _ 5;haveI m:lG (z.aN _).aM.J:=CS _ (by rw[x];exact aG.a3);induction A with
 |en=>exact mM (y:=z.M.a3 _ H) aG i f sl j ss (by apply g'<;>right) h|mp=>exact mM (y:=z.M.a3 _ H) aG i f sl j ss (by apply g'<;>right) h|eC=>exact mM (y:=z.aM.a3 _ g) aG O O l aG.ad o (by apply g'<;>right) h|eD=>exact mM (y:=z.aM.a3 _ g) aG O O l aG.ad o (by apply g'<;>right) h|b1=>exact mM (y:=(z.ab H).aM) aG O O l aG.ad o (by apply g'<;>right) h|ask=>exact mM (y:=(z.ab g).aM) aG O O l aG.ad o (by apply g'<;>right) h|ct=>
  haveI d:z.bd.G=z.G/\z.bd.o=z.o/\z.bd.J=z.J/\nW z.bd.ad z.bd.aS/\z.bd.I.length+z.bd.aS.length<=z.I.length+z.aS.length+2:=by
   unfold Z.bd;split
   .unfold Z.bf Z.aR;split;.exact oi O O O aG.ad (by simp;exact lE<|je<|hJ (jM (je (hJ (by decide) _))) _)
    .exact oi O O O aG.ad (by simp;exact jL<|hJ (by decide) _)
   .exact oi O O O aG.ad (by apply jw<;>right)
  refine kL d λG I s J L=>mM (y:=(z.bd.ab H).aM) aG G I (CS _ (by rw[s];exact aG.a3)) J ?_ (by apply g'<;>right) h;haveI:=CT<|z.bd.ab H;haveI:(z.bd.ab _).aM.J.length<=z.J.length:=by rw[<-s];exact this
  exact z5 L this (by decide)
 |@col k e a b c d=>
  refine kL (I9 z k) λc1 c2 c3 q E=>?_;haveI r:nW (z.bB k).ad (z.bB k).aS/\(z.bB k).aS.length<=z.aS.length+1:=by
   unfold Z.bB Z.bf Z.br;split
   .dsimp only;split;.exact⟨aG.ad,g' _⟩
    .exact⟨aG.ad,iA _⟩
   .exact⟨aG.ad,iA _⟩
  refine mM (y:=(z.bB k).ab g) aG c2 c1 (by rw[q];exact l) r.1 ?_ (by apply g'<;>right) h;exact z5 (f1 (h9 E r.2)<|im<|congrArg _ (iU _ 2 _)) (by rw[q];exact w) (by decide:3<=5)
 |eE=>exact mM (y:=z.ab g) aG O O aG.a3 aG.ad (ih _ _) (by apply g'<;>right) h|bI=>exact mM (y:=z.M.ab g) aG i f sl j ss (by apply jw<;>right) h|cB=>exact mM (y:=z.M.ab g) aG i f sl j ss (by apply jw<;>right) h|cC=>exact mM (y:=z.M.ab g) aG i f sl j ss (by apply jw<;>right) h|dB=>exact mM (y:=z.M.ab g) aG i f sl j ss (by apply hy<;>right) h|@c_ n t _ nl=>exact mM (y:=z.M.ab nl) aG i f sl j ss (by apply hy<;>right) h|doc=>exact mM (y:=(z.aN _).aM.ab g) aG B C m D us (by apply iN<;>right) h|eF=>exact mM (y:=(z.aN _).aM.ab g) aG B C m D us (by apply iN<;>right) h
theorem rj(c:h6 z)(F:kQ z a)(h:a.o<a.G.length):h6 a:=by obtain⟨d,b,hs,A⟩:=F;exact XK (c.aQ d) A h
end
section
open PySem
structure Lv where
 pre:List Tk
 key:Option (Nat×List Tk)
noncomputable def Lv.post(v:Lv):List Tk:=match v.key with|V=>[]|U (_,l)=>l
noncomputable def Lv.toks(v:Lv):List Tk:=v.pre++v.post
noncomputable def Lv.add(v:Lv)(t:Tk):Lv:=match v.key with|V=>⟨v.pre++[t],V⟩|U (p,l)=>⟨v.pre,U (p,l++[t])⟩
noncomputable def Lv.ed(v:Lv):Lv:=⟨v.toks,V⟩
noncomputable def Lv.fresh(B:List Nat)(p:Nat)(v:Lv):Lv:=match v.key with|V=>v|U (q,_)=>if ij B q=ij B p then v else v.ed
noncomputable def jS:List Lv->List Tk|[]=>[]|v::r=>jS r++v.toks
noncomputable def Lv.cL(v:Lv)(n m:Nat):lq:=match v.key with|V=>[]|U (p,_)=>[(n,⟨m+v.pre.length,g,p⟩)]
noncomputable def lL:List Lv->lq|[]=>[]|v::r=>lL r++v.cL r.length (jS r).length
theorem XM:lL (v::r)=lL r++v.cL r.length (jS r).length:=rfl
theorem XN(v:Lv)(t):(v.add t).toks=v.toks++[t]:=by
 obtain⟨ag,_|⟨p,l⟩⟩:=v;.show(ag++[t])++[]=(ag++[])++[t];rw[iL,iL]
 .exact(h2 ..).symm
theorem CU(v:Lv):v.ed.toks=v.toks:=iL _
theorem XO(B)(p)(v:Lv):(v.fresh B p).toks=v.toks:=by
 obtain⟨ag,_|⟨q,l⟩⟩:=v;.rfl
 .unfold Lv.fresh;dsimp only;by_cases h:ij B q=ij B p;.rw[if_pos h]
  .rw[if_neg h];exact CU _
theorem Ka(B)(p):∀L,jS (L.map<|Lv.fresh B p)=jS L:=by intro L;induction L with|nil=>exact O|cons v r a=>show jS _++(v.fresh B p).toks=jS r++v.toks;rw[a,XO]
theorem XQ(B)(p):∀L,lL (L.map<|Lv.fresh B p)=(lL L).filter (Mine.Internal.fresh B p):=by
 intro L;induction L with|nil=>exact O|cons v r a=>
  rw[XM,List.filter_append];rw[Ka,ig];congr 1;obtain⟨ag,_|⟨q,l⟩⟩:=v;.rfl
  .unfold Lv.fresh;dsimp only;by_cases h:ij B q=ij B p;.rw[if_pos h,MJ (by exact decide_eq_true h)];rfl
   .rw[if_neg h,MK (by unfold Mine.Internal.fresh;simpa using h)];rfl
theorem XR:∀L,∀q∈lL L,q.1<L.length:=by
 intro L;induction L with
 |nil=>intro q h;cases h
 |cons v r a=>
  intro q h;rcases li.mp h with h|h
  .exact qH<|a q h
  .obtain⟨ag,_|⟨p,l⟩⟩:=v;.cases h
   .cases iv.mp h;exact kY _
theorem yM(r:List Lv):r.length∉(lL r).map (·.1):=λh=>by refine hc (zA.mp h) λq h1 a=>?_;haveI:=XR r q h1;apply iI<;>right
theorem Kc{l}:∀{ks:lq},l∉ks.map (·.1)->iK l ks=none:=by intro ks;induction ks with|nil=>exactλ_=>rfl|cons b r a=>obtain⟨j,k⟩:=b;intro h;dsimp only[py];rw[if_neg λz=>h (by clear zz3 z;exact .head _)];exact a λz=>h<|.tail _ z
theorem Ke(v)(r):iK r.length (lL (v::r))=v.key.map λq=>⟨(jS r).length+v.pre.length,g,q.1⟩:=by
 obtain⟨ag,_|⟨p,l⟩⟩:=v;.show iK _ (lL r++[])=V;rw[iL];exact Kc<|yM r
 .exact IW<|yM r
theorem CV(v)(r):j4 r.length (lL (v::r))=lL r:=by
 obtain⟨ag,_|⟨p,l⟩⟩:=v;.show j4 _ (lL r++[])=_;rw[iL];exact Ch<|Kc<|yM r
 .exact(IX<|yM r).trans<|iL _
end
section
open PySem
structure iT (E:Z)(B:List Nat)(L:List Lv)(o:Nat)(a:Bool):Prop where
 G:E.G=B
 I:E.I=jS L
 J:E.J=lL L
 R:E.R+1=L.length
 aG:E.aG=0
 o:E.o=o
 ask:E.ask=a
theorem iT.c2{p}(A:iT E B L p a):∀q∈E.J,q.2.bH=false:=by
 rw[A.J];clear A;induction L with
 |nil=>intro q h;cases h
 |cons v r b=>
  intro q h;rcases li.mp h with h|h
  .exact b q h
  .obtain⟨ag,_|⟨p,l⟩⟩:=v;.cases h
   .cases iv.mp h;rfl
theorem iT.ds{p}(A:iT E B L p a):NR E/\∀p',mK E p':=by refine⟨λk d=>?_,λp' q c e=>A.c2 q c⟩;refine hc (yI d) λq c b=>?_;subst b;exact A.c2 q c
theorem iT.aQ{p}(A:iT E B L p a)(c:0<E.R)(b):iT (E.aQ p' b) B (L.map<|Lv.fresh B p') p' a:=by
 haveI e:E.aQ p' b=(E.a4 p' b).aL:=if_neg (show ¬((E.a4 p' b).aL).R=0 from iP c);rw[e];refine⟨A.G,?_,?_,?_,A.aG,rfl,?_⟩;.rw[Ka];exact A.I
 .rw[XQ,<-A.J,<-A.G];rfl
 .rw[ig];exact A.R
 .show((b&&decide _)||E.ask)=a;rw[decide_eq_false<|iP c,uw];exact A.ask
end
section
open PySem
noncomputable def Lv.dt(v:Lv)(p:Nat)(a:Bool):Lv:=if a then⟨v.toks,U (p,[])⟩else v
noncomputable def Lv.du(v:Lv)(l:List Tk):Lv:=match v.key with|V=>⟨v.pre++l,V⟩|U (p,m)=>⟨v.pre,U (p,m++l)⟩
noncomputable def Lv.ee(v:Lv):Lv:=match v.key with|V=>v|U (p,l)=>⟨v.pre++.k 287 p p::l,V⟩
theorem XS(v:Lv)(l):(v.du l).toks=v.toks++l:=by
 obtain⟨ag,_|⟨p,m⟩⟩:=v;.simp[Lv.du,Lv.toks,Lv.post]
 .simp[Lv.du,Lv.toks,Lv.post]
section
variable{E:Z}{B:List Nat}{v:Lv}{r:List Lv}{p:Nat}{a:Bool}
theorem iT.fs(A:iT E B (v::r) p a):E.R=r.length:=by haveI:=A.R;exact Nat.succ.inj this
theorem iT.aR(A:iT E B (v::r) p a)(t):iT (E.aR t) B (v.add t::r) p a:=by
 refine⟨A.G,?_,?_,A.R,A.aG,A.o,A.ask⟩;.show E.I++[t]=jS r++(v.add t).toks;rw[XN,A.I,<-h2];rfl
 .rw[A.J];clear A;obtain⟨ag,_|⟨q,l⟩⟩:=v<;>rfl
theorem iT.s(A:iT E B (v::r) p a)(n):iT (E.s n) B (v::r) (p+n) a:=⟨A.G,A.I,A.J,A.R,A.aG,congrArg (· +n) A.o,A.ask⟩
theorem iT.ab(A:iT E B (v::r) p a)(b):iT (E.ab b) B (v::r) p b:=⟨A.G,A.I,A.J,A.R,A.aG,A.o,rfl⟩
theorem iT.aM(A:iT E B (v::r) p a):iT E.aM B (v.ed::r) p a:=by
 refine⟨A.G,?_,?_,A.R,A.aG,A.o,A.ask⟩;.show E.I=jS r++v.ed.toks;rw[CU];exact A.I
 .show j4 _ _=_;rw[A.J,A.fs,CV];exact(iL _).symm
theorem iT.M(A:iT E B (v::r) p a)(b:0<E.R):iT E.M B (v.dt p a::r) p a:=by
 induction a with|false=>unfold Z.M;rw[if_neg (by rw[A.ask];exact lS)];exact A|true=>
  unfold Z.M;rw[if_pos A.ask];refine⟨A.G,?_,?_,A.R,A.aG,A.o,A.ask⟩;.show E.I=jS r++(v.toks++[]);rw[iL];exact A.I
  .show j4 _ _++[(E.R,E.cZ)]=lL r++[(r.length,⟨(jS r).length+v.toks.length,_,p⟩)];haveI:E.cZ=⟨(jS r).length+v.toks.length,_,p⟩:=by unfold Z.cZ;rw[decide_eq_false<|iP b,z9,A.aG,A.I,A.o,mU];congr 1;exact hz
   rw[this,A.J,A.fs,CV]
theorem iT.eH(A:iT E B (v::r) p a)(b):iT (E.a3 (E.R+1) b) B (⟨[],V⟩::v::r) p b:=by
 refine⟨A.G,?_,?_,?_,A.aG,A.o,rfl⟩;.show E.I=jS _++([]++[]);rw[iL];exact A.I
 .show E.J=lL _++[];rw[iL];exact A.J
 .show E.R+1+1=(v::r).length+1;rw[A.R]
theorem iT.cls(A:iT E B (⟨v.toks,V⟩::u::r) p a)(b):iT (E.a3 (E.R - 1) b) B (u.du v.toks::r) p b:=by
 refine⟨A.G,?_,?_,?_,A.aG,A.o,rfl⟩;.show E.I=jS r++(u.du _).toks;rw[XS,A.I,<-h2];show jS r++u.toks++(v.toks++[])=_;rw[iL]
 .rw[A.J];show lL _++[]=_;rw[iL];clear A;obtain⟨ag,_|⟨q,l⟩⟩:=u<;>rfl
 .show E.R - 1+1=r.length+1;rw[A.fs];rfl
theorem iT.ee(A:iT E B (v::r) p a)(d:0<E.R)(b:iK E.R E.J=U k):(E.aG<=k.num/\k.num - E.aG<=E.I.length)/\iT (E.bB k) B (v.ee::r) p a:=by
 haveI f:=A.fs;rw[A.J,f,Ke]at b;obtain⟨ag,_|⟨q,l⟩⟩:=v;.exact hH b
 .cases b;haveI c:E.I=jS r++ag++l:=by rw[A.I];show jS r++(ag++l)=_;rw[h2]
  haveI hl:(jS r).length+ag.length=(jS r++ag).length:=hz.symm;rw[A.aG];refine⟨⟨jd _,?_⟩,?_⟩;.show(jS r).length+ag.length - 0<=_;rw[c,hz,hl];exact ih _ _
  .unfold Z.bB;rw[if_neg λz=>absurd z.1<|iP d];refine⟨A.G,?_,?_,A.R,A.aG,A.o,A.ask⟩
   .show E.I.take ((jS r).length+ag.length - E.aG)++.k _ q q::E.I.drop ((jS r).length+ag.length - E.aG)=jS r++(ag++.k _ q q::l++[]);rw[A.aG,c,hl,List.take_left',s8,iL,h2];.rfl
    .rfl
   .show j4 _ _=lL r++[];rw[A.J,f,CV,iL]
end
end
section
open PySem
structure Sg where
 d:Nat
 aK:Nat
 bv:Bool
noncomputable def Sg.I(B:List Nat)(s:Sg)(p:Nat):Tk:=match s.d with|91=>.k 239 p (p+1)|123=>.k 251 p (p+1)|93=>.k 263 p (p+1)|125=>.k 275 p (p+1)|44=>.k 323 p (p+1)|63=>.k 287 p (p+1)|58=>.k 299 p (p+1)|45=>.k 311 p (p+1)|42=>.val 342 (.str [s.aK]) p (p+2)|38=>.val 361 (.str [s.aK]) p (p+2)|33=>.val 380 (.av [.str [33],.str [s.aK]]) p (p+2)|_=>if s.bv then .aU [119,s.aK] H .none p (p+2)else .aU [119,s.aK] g (.str [39]) p (p+4)
inductive nD (B:List Nat)(s:Sg)(p:Nat):Nat->Prop|k:s.d∈([91,123,93,125,44,63]:List Nat)->B[p]?=U s.d->p+1<B.length->nD B s p (p+1)|ct {e:Nat}:s.d=45->B[p]?=U 45->B[p+1]?=U e->jn e->nD B s p (p+1)|col {e:Nat}:s.d=58->B[p]?=U 58->B[p+1]?=U e->nD B s p (p+1)|fV {e:Nat}:s.d∈([42,38,33]:List Nat)->B[p]?=U s.d->B[p+1]?=U s.aK->97<=s.aK/\s.aK<=122->B[p+2]?=U e->jn e->nD B s p (p+2)|dB {e:Nat}:s.d=119->s.bv=g->B[p]?=U 39->B[p+1]?=U 119->B[p+2]?=U s.aK->97<=s.aK/\s.aK<=122->B[p+3]?=U 39->B[p+4]?=U e->e≠39->nD B s p (p+4)|c_ {t:Nat} {nl:Bool}:s.d=119->s.bv=H->B[p]?=U 119->B[p+1]?=U s.aK->97<=s.aK/\s.aK<=122->(∀z:Z,z.G=B->0<z.R->lI z (p+2) t nl)->p+2+t<B.length->nD B s p (p+2+t)
noncomputable def mN(B:List Nat)(s:Sg)(p:Nat)(a:Bool):List Lv->List Lv
 |[]=>[]|v::r=>match s.d with
  |91=>Lv.add ⟨[],V⟩ (s.I B p)::v.dt p a::r|123=>Lv.add ⟨[],V⟩ (s.I B p)::v.dt p a::r|93=>match r with|u::r=>(u.du v.toks).add (s.I B p)::r|[]=>[]
  |125=>match r with|u::r=>(u.du v.toks).add (s.I B p)::r|[]=>[]
  |44=>v.ed.add (s.I B p)::r|63=>v.ed.add (s.I B p)::r|45=>v.ed.add (s.I B p)::r|58=>v.ee.add (s.I B p)::r|_=>(v.dt p a).add (s.I B p)::r
noncomputable def n2(s:Sg):Bool:=s.d==91||s.d==123||s.d==44||s.d==45
end
section
open PySem
theorem CW(h:B[p]?=U x)(r:97<=x/\x<=122):Wd B p 1:=λi a=>by cases oF.mp a;exact h_ x h r
theorem Kf(h:B[p]?=U x)(hx:97<=x/\x<=122)(a:B[p+1]?=U y)(c:97<=y/\y<=122):Wd B p 2:=λi b=>by cases i with|zero=>exact h_ x h hx|succ i=>cases oF.mp<|MS b;exact h_ y a c
theorem yN{B:List Nat}(h:B[p]?=U x):(B.drop p).take 1=[x]:=by refine hE (i2.mp h) λhl he=>?_;rw[s4 hl,he];rfl
theorem Kg{B:List Nat}(h:B[p]?=U x)(c:B[p+1]?=U y):(B.drop p).take 2=[x,y]:=by refine hE (i2.mp h) λhl he=>hE (i2.mp c) λb a=>?_;rw[s4 hl,s4 b,he,a];rfl
set_option tactic.hygienic true in
theorem XT(A:iT y B (v::r) p a)(f:0<y.R){q}(au:nD B s p q):∃c G D,B[p]?=U c/\Act y c G/\iT G B (mN B s p a (v::r)) q D/\(s.d=119/\s.bv=H\/D=n2 s):=by
 haveI N:=A.ds.1;haveI M:=A.G;haveI Q:=A.o;subst M Q;haveI C:=A.fs;haveI o:=(A.M f).eH H;rw[(pz y).2.2.1]at o;obtain⟨sp,E,Y,st,_⟩:=pz y;obtain⟨c,x,T⟩:=s;induction au with
 |k h h1 b=>
  revert h1;refine c6 (c:=c) h (λh1=>(pi _ _ _ h1 (.en N b) ((o.s 1).aR _)<|.inr O)) (λh1=>(pi _ _ _ h1 (.mp N b) ((o.s 1).aR _)<|.inr O)) (λh1=>?_) (λh1=>?_) (λh1=>(pi _ _ _ h1 (.b1 N b) ((((A.ab _).aM).s 1).aR _)<|.inr O)) λh1=>(pi _ _ _ h1 (.ask f N b) ((((A.ab _).aM).s 1).aR _)<|.inr O)
  .obtain _|⟨u,r⟩:=r;.exact absurd C<|iP f
   .exact pi _ _ _ h1 (.eC f N b) (((A.aM.cls _).s 1).aR _)<|.inr O
  .obtain _|⟨u,r⟩:=r;.exact absurd C<|iP f
   .exact pi _ _ _ h1 (.eD f N b) (((A.aM.cls _).s 1).aR _)<|.inr O
 |ct h h1 b i=>cases h;haveI d:y.bd=y:=if_neg λz=>absurd z.1<|iP f;exact⟨_,_,_,h1,.ct (λz=>absurd z<|iP f) N h1 b i,(by unfold Z.dP;rw[d]:y.dP=(((y.ab _).aM).s 1).aR _)▸((((A.ab _).aM).s 1).aR _),.inr O⟩
 |col h h1 b=>
  clear o;cases h;induction n:iK _ _ with
  |none=>
   refine pi _ _ _ h1 (.eE n f b) ?_<|.inr O;haveI e:v.ee=v:=by
    rw[A.J,C,Ke]at n;obtain⟨ag,_|⟨q,l⟩⟩:=v;.rfl
    .cases n
   show iT _ _ (v.ee.add _::r) _ _;rw[e];exact((A.ab _).s 1).aR _
  |some k=>obtain⟨aC,I⟩:=A.ee f n;exact pi _ _ _ h1 (.col n aC b<|.inl f) (((I.ab _).s 1).aR _)<|.inr O
 |fV h h1 b i j m=>
  haveI w:=((A.M f).ab g).s 2;revert h1;refine c3 (c:=c) h (λh1=>?_) (λh1=>?_) λh1=>?_;.refine⟨_,_,_,h1,.bI N h1 (by decide) (CW b i) m j,?_,.inr O⟩;haveI:=w.aR<|.val 342 (.str [x]) y.o (y.o+2);show iT ((((y.M.ab _).s 2)).aR<|.val _ _ _ _) _ _ _ _;rw[sp,E,yN b];exact this
  .refine⟨_,_,_,h1,.cB N h1 (by decide) (CW b i) m j,?_,.inr O⟩;haveI:=w.aR<|.val 361 (.str [x]) y.o (y.o+2);show iT ((((y.M.ab _).s 2)).aR<|.val _ _ _ _) _ _ _ _;rw[sp,E,yN b];exact this
  .refine⟨_,_,_,h1,.cC N (by decide) (by decide) (CW b i) m j,?_,.inr O⟩;haveI:=w.aR<|.val 380 (.av [.str [33],.str [x]]) y.o (y.o+2);unfold Z.d6 Co;rw[yN b];exact this
 |dB h h0 h1 b i j m J L=>cases h;cases h0;refine⟨_,_,_,h1,.dB N (by decide) (by decide) h1 (Kf b (by decide) i j) m J L,?_,.inr O⟩;haveI:=(((A.M f).ab g).s 4).aR<|.aU [119,x] g (.str [39]) y.o (y.o+4);unfold Z.d7;rw[Kg b i];exact this
 |c_ h h0 h1 b i j m=>rename_i t nl;cases h;cases h0;refine⟨_,_,nl,h1,.c_ N (by decide) (by decide) h1 (by decide) (Kf h1 (by decide) b i)<|j y O f,?_,.inl ⟨rfl,rfl⟩⟩;haveI:=(((A.M f).ab nl).s (2+t)).aR<|.aU [119,x] H .none y.o (y.o+2);unfold Z.dp;rw[Kg h1 b,oG];exact this
end
section
open PySem
class inductive Txt (B:List Nat):Nat->List (Sg×Nat)->Nat->Prop
 |nil {q:Nat}:Txt B q [] q
 |cons {q p a e:Nat} {b:Bool} {s:Sg} {l:List (Sg×Nat)}:jG B q p b->nD B s p a->Txt B a l e->Txt B q ((s,p)::l) e
theorem XU(A:iT E B L t a)(k:0<E.R)(y:jG B t p b)(w:nD B s p q)(o:q<B.length)(x:h6 E):∃f d,kQ E f/\iT f B (mN B s p a<|L.map<|Lv.fresh B p) q d/\(s.d=119/\s.bv=H\/d=n2 s)/\h6 f:=by
 haveI e:=A.aQ k (p':=p) b;haveI j:=A.G;obtain⟨v,r,hL⟩:∃v r,L.map (Lv.fresh B p)=v::r:=by
  induction h:L.map _ with
  |nil=>haveI:=e.R;rw[h]at this;cases this
  |cons v r=>exact rV v r O
 rw[hL]at e ⊢;refine lV (XT e (by rw[(Js E p b).2.2.1];exact k) w) λc l d h1 m i n=>?_;haveI F:kQ E l:=.mk (by rw[j,A.o];exact y) (by rw[j];exact h1) (A.ds.2 p) m;exact ts l d F i n<|rj x F (by rw[i.G,i.o];exact o)
noncomputable def vW(s:Sg):Prop:=s.d=93\/s.d=125\/s.d=44\/s.d=63\/s.d=45\/s.d=58
theorem XV(h:vW s):mN B s p a L=mN B s p b L:=by obtain⟨c,x,d⟩:=s;cases L with|nil=>rfl|cons v r=>rcases h with h|h|h|h|h|h<;>(subst h;rfl)
noncomputable def yO(B:List Nat):Bool->List (Sg×Nat)->List Lv->List Lv|_,[],L=>L|a,(s,p)::l,L=>yO B (n2 s) l (mN B s p a (L.map (Lv.fresh B p)))
noncomputable def yP(B:List Nat):Bool->List (Sg×Nat)->List Lv->Prop|_,[],_=>True|a,(s,p)::l,L=>2<=L.length/\(∀b p2 l2,l=(b,p2)::l2->s.d=119/\s.bv=H->vW b)/\yP B (n2 s) l (mN B s p a (L.map (Lv.fresh B p)))
theorem XW(T:Txt B q l e):q<=e:=by induction T with|nil=>exact g' _|cons c b T a=>have:=c.le;clear T;induction b<;>first|exact f1 this (lW a)|exact f1 this (lW (lW a))
theorem Kh(z:Z):z.M.ad=z.ad/\z.M.aS=z.aS:=by unfold Z.M;split<;>exact⟨rfl,rfl⟩
theorem XX(A:Act y c z)(f:0<y.R):z.ad=y.ad/\z.aS=y.aS:=by haveI n:=iP f;haveI u:y.aN (-1)=y:=if_neg n;haveI d:y.bd=y:=if_neg λz=>absurd z.1 n;induction A with|en|mp|bI|cB|cC|dB|c_=>exact(Kh y)|eC|eD|b1|ask|eE=>exact⟨rfl,rfl⟩|ct=>unfold Z.dP;rw[d];exact⟨rfl,rfl⟩|@col k e a b aC h=>haveI e:y.bB k=y.br k:=if_neg λz=>absurd z.1 n;unfold Z.d5;rw[e];exact⟨rfl,rfl⟩|doc|eF=>unfold Z.cs;rw[u];exact⟨rfl,rfl⟩
set_option tactic.hygienic true in
theorem XY(F:kQ y z)(a:0<y.R):z.ad=y.ad/\z.aS=y.aS:=by exists d;obtain⟨h,f,hs,A⟩:=F;rename_i p' c b;haveI e:y.aQ p' b=(y.a4 p' b).aL:=if_neg (show ¬((y.a4 p' b).aL).R=0 from iP a);rw[e]at A;exact d<|XX (y:=(y.a4 p' b).aL) A a
theorem XZ{f:Z->Prop}(Y:∀z x,h6 z->kQ z x->f x->f z){i}{w}{e}(he:e<B.length):∀{l} {q} {E} {L} {d a},Txt B q l e->iT E B L q d->(d=a\/∀s p l2,l=(s,p)::l2->vW s)->yP B a l L->h6 E->E.ad=i/\E.aS=w->(∀c n,iT c B (yO B a l L) e n->h6 c->c.ad=i/\c.aS=w->f c)->f E:=by
 intro l;induction l with
 |nil=>intro q E L d a T A j D aF m k;cases T;exact k E d A aF m
 |cons aD l au=>
  intro q E L d a T A j D aF m k;cases T with|cons aG aE T=>
   refine i5 D λy C G=>?_;haveI t:0<E.R:=Nat.le_of_succ_le_succ<|f1 y<|im A.R.symm;refine mV (XU A t aG aE (lB (XW T) he) aF) λc n o r J M=>?_;haveI I:mN B s p d (L.map<|Lv.fresh B p)=mN B s p a (L.map<|Lv.fresh B p):=by
    rcases j with b|j;clear zz3 b
    .rfl
    .exact XV<|j s p l O
   rw[I]at r;refine hv (XY o t) λg1 Q=>Y E c aF o<|au T r ?_ G M ⟨g1.trans m.1,Q.trans m.2⟩ k;rcases J with h|h
   .exact .inr λav p2 l2 hl=>C av p2 l2 hl h
   .exact .inl h
end
section
open PySem
noncomputable def jg(c:Nat):Bool:=c==91||c==123
noncomputable def jh(c:Nat):Bool:=c==93||c==125
noncomputable def il(B:List Nat)(k:Nat):List (Sg×Nat)->Nat->Bool|[],_=>g|(s,p)::l,0=>if s.d=58 then decide (ij B k=ij B p)else if s.d=44\/jh s.d=H\/s.d=63\/s.d=45 then g else if jg s.d=H then il B k l 1 else il B k l 0|(s,p)::l,d+1=>if jg s.d=H then il B k l (d+2)else if jh s.d=H then il B k l d else il B k l (d+1)
theorem X0:il B k ((s,p)::l) 0=if s.d=58 then decide (ij B k=ij B p)else if s.d=44\/jh s.d=H\/s.d=63\/s.d=45 then g else if jg s.d=H then il B k l 1 else il B k l 0:=rfl
theorem X1:il B k ((s,p)::l) (d+1)=if jg s.d=H then il B k l (d+2)else if jh s.d=H then il B k l d else il B k l (d+1):=rfl
noncomputable def jo(B:List Nat)(l:List (Sg×Nat))(d:Nat)(v:Lv):List Tk:=v.pre++match v.key with|V=>[]|U (k,aq)=>(if il B k l d=H then[.k 287 k k]else[])++aq
noncomputable def jW(B:List Nat)(l:List (Sg×Nat)):Nat->List Lv->List Tk|_,[]=>[]|d,v::r=>jW B l (d+1) r++jo B l d v
noncomputable def ly(c:Nat):Bool:=jg c||c==119||c==42||c==38||c==33
theorem vY{P:Prop}(h:(a||b)=H)(x:a=H->P)(y:b=H->P):P:=(s_.mp h).elim x y
theorem t6{P:Nat->Prop}(p:P n)(h:(c==n)=H):P c:=(beq_iff_eq.mp h).symm▸p
theorem X2{P:Nat->Prop}{c}(h:ly c=H)(a:P 91)(p2:P 123)(b:P 119)(d:P 42)(e:P 38)(f:P 33):P c:=vY h (λh=>vY h (λh=>vY h (λh=>vY h (λh=>vY h (t6 a)<|t6 p2)<|t6 b)<|t6 d)<|t6 e)<|t6 f
noncomputable def pH(B:List Nat):Bool->List (Sg×Nat)->List Tk|_,[]=>[]|a,(s,p)::l=>(if(a&&ly s.d&&il B p l (if jg s.d=H then 1 else 0))=H then[.k 287 p p]else[])++s.I B p::pH B (n2 s) l
theorem Ki:pH B a ((s,p)::l)=(if(a&&ly s.d&&il B p l (if jg s.d=H then 1 else 0))=H then[.k 287 p p]else[])++s.I B p::pH B (n2 s) l:=rfl
end
section
open PySem
theorem yQ{B:List _}{k}:∀{l:List (Sg×Nat)} {d},(∀q∈l,ij B k≠ij B q.2)->il B k l d=g
 |[],_,_=>rfl|(s,p)::l,0,h=>by
  rw[X0];split;.exact decide_eq_false<|h _<|.head _
  .split;.rfl
   .split<;>exact yQ λq a=>h q<|.tail _ a
 |(s,p)::l,d+1,h=>by
  rw[X1];haveI t:=λq a=>h q<|.tail _ a;split;.exact yQ t
  .split<;>exact yQ t
noncomputable def Kb(p:Nat)(L:List Lv):Prop:=∀v∈L,∀k l,v.key=U (k,l)->k<=p
theorem X3(hl:∀q∈l,p<=q.2):∀{L} {d},Kb p L->jW B l d (L.map<|Lv.fresh B p)=jW B l d L:=by
 intro L;induction L with|nil=>intro _ _;exact O|cons v r c=>
  intro d h;show jW B l _ _++jo B l d _=jW B l _ r++jo B l d v;rw[c λu b=>h u<|.tail _ b];obtain⟨ag,_|⟨k,m⟩⟩:=v;.rfl
  .unfold Lv.fresh;dsimp only;by_cases e:ij B k=ij B p;.rw[if_pos e]
   .rw[if_neg e];haveI:il B k l d=false:=yQ λq a=>by haveI h1:ij B k<=ij B p:=sI<|h _ (.head _) k m O;haveI f:ij B p<=ij B q.2:=sI<|hl q a;exact λh=>e (Nat.le_antisymm h1 (f1 f (im h.symm)))
    unfold jo Lv.ed Lv.toks Lv.post;dsimp only;rw[this];simp
end
section
open PySem
theorem CX:∀{L} {a b},(∀k i,il B k c (a+i)=il B k d (b+i))->jW B c a L=jW B d b L:=by
 intro L;induction L with|nil=>intro _ _ _;exact O|cons v r f=>
  intro a b h;haveI e:=f λk i=>by haveI:=h k (i+1);rwa [show a+(i+1)=a+1+i by exact k6 (lE<|hJ (jM<|g' _) _)<|kD<|jL (g' _),show b+(i+1)=b+1+i by exact k6 (lE<|hJ (jM<|g' _) _)<|kD<|jL (g' _)]at this
  show jW B c _ r++jo B c a v=jW B d _ r++jo B d b v;congr 1;unfold jo;obtain⟨ag,_|⟨k,m⟩⟩:=v;.rfl
  .dsimp only;rw[show il B k c a=il B k d b from h k 0]
theorem X4(h:jg s.d=H)(L):jW B ((s,p)::l) (d+1) L=jW B l (d+2) L:=CX λk i=>by rw[show d+1+i=d+i+1 by apply iU<;>right,show d+2+i=d+i+2 by apply iU<;>right];show(if jg _=H then _ else _)=_;rw[if_pos h]
theorem X5(h0:jg s.d=g)(h:jh s.d=H)(L):jW B ((s,p)::l) (d+1) L=jW B l d L:=CX λk i=>by rw[show d+1+i=d+i+1 by exact k6 (jL<|g' _)<|jL<|g' _];show(if jg _=H then _ else _)=_;rw[if_neg (by rw[h0];exact lS),if_pos h]
theorem CY(h0:jg s.d=g)(h:jh s.d=g)(L):jW B ((s,p)::l) (d+1) L=jW B l (d+1) L:=CX λk i=>by rw[show d+1+i=d+i+1 by exact k6 (jL<|g' _)<|jL<|g' _];show(if jg _=H then _ else _)=_;rw[if_neg (by rw[h0];exact lS),if_neg (by rw[h];exact lS)]
theorem yR(v)(t):jo B l d (v.add t)=jo B l d v++[t]:=by
 obtain⟨ag,_|⟨k,m⟩⟩:=v;.simp[jo,Lv.add]
 .simp[jo,Lv.add]
theorem X6(v)(t):jo B l d (v.du t)=jo B l d v++t:=by
 obtain⟨ag,_|⟨k,m⟩⟩:=v;.simp[jo,Lv.du]
 .simp[jo,Lv.du]
theorem yS(h:∀k m,v.key=U (k,m)->il B k l d=g):jo B l d v=v.toks:=by
 obtain⟨ag,_|⟨k,m⟩⟩:=v;.simp[jo,Lv.toks,Lv.post]
 .unfold jo Lv.toks Lv.post;dsimp only;rw[h k m O];simp
theorem X7(h:∀k,il B k c a=il B k d b):jo B c a v=jo B d b v:=by
 obtain⟨ag,_|⟨k,m⟩⟩:=v;.rfl
 .unfold jo;dsimp only;rw[h]
end
section
open PySem
theorem Kj(b:nD B s p q):s.d∈([91,123,93,125,44,63,45,58,42,38,33,119]):=by induction b with|k h=>exact(by decide:∀a∈([91,123,93,125,44,63]),a∈([91,123,93,125,44,63,45,58,42,38,33,119])) _ h|ct h=>rw[h];decide|col h=>rw[h];decide|fV h=>exact(by decide:∀a∈([42,38,33]),a∈([91,123,93,125,44,63,45,58,42,38,33,119])) _ h|dB h=>rw[h];decide|c_ h=>rw[h];decide
theorem rk:il B k ((s,p)::l) 0=if s.d=58 then decide (ij B k=ij B p)else if s.d=44\/jh s.d=H\/s.d=63\/s.d=45 then g else if jg s.d=H then il B k l 1 else il B k l 0:=rfl
structure CZ (p:Nat)(a:Bool)(L:List Lv):Prop where
 gv:Kb p L
 ek:a=H->∀v r,L=v::r->v.key=V
theorem X8{p i}(h:Kb i L)(n:i<=p):Kb p (L.map<|Lv.fresh B p)/\∀v∈L.map<|Lv.fresh B p,∀k m,v.key=U (k,m)->ij B k=ij B p:=by
 haveI e:∀v∈L.map<|Lv.fresh B p,∀k m,v.key=U (k,m)->k<=p/\ij B k=ij B p:=by
  refineλv d k m b=>kf λj=>hc (zA.mp d) λu f c=>?_;subst c;haveI:=h u f;obtain⟨ag,_|⟨q,l⟩⟩:=u;.cases b
  .unfold Lv.fresh at b;dsimp only at b;split at b;.clear f;cases b;exact j ⟨f1 (this k m O) n,by assumption⟩
   .cases b
 exact⟨λv d k m b=>(e v d k m b).1,λv d k m b=>(e v d k m b).2⟩
theorem X9{v:Lv}{k}{m}(h:(v.add t).key=U (k,m)):∃m',v.key=U (k,m'):=by
 obtain⟨ag,_|⟨q,l⟩⟩:=v;.cases h
 .cases h;exact⟨_,rfl⟩
theorem Kk{v:Lv}{k}{m}(h:(v.du t).key=U (k,m)):∃m',v.key=U (k,m'):=by
 obtain⟨ag,_|⟨q,l⟩⟩:=v;.cases h
 .cases h;exact⟨_,rfl⟩
theorem X_{v:Lv}{k}{m}(h:v.ee.key=U (k,m)):False:=by obtain⟨ag,_|⟨q,l⟩⟩:=v<;>cases h
theorem Kl{p q}(K:Kb p L)(y:nD B s p q):CZ p (n2 s)<|mN B s p a L:=by
 obtain _|⟨v,r⟩:=L;.exact⟨λd h=>(by cases h),λd d d h=>(by cases h)⟩
 have e:Kb p r:=λu i=>K u<|.tail _ i;have ks:∀k m,(v.dt p a).key=U (k,m)->k<=p:=λk m h=>by induction a with|false=>exact(K v<|.head _) k m h|true=>cases h;exact g' _
 have b:∀{x} {R},(∀k m,x.key=U _->k<=p)->Kb p R->Kb p (x::R):=λhx n u i=>by
  rcases h7.mp i with rfl|i
  .exact hx
  .exact n u i
 have f:∀{x:Lv} {t},(∀k m,x.key=U (k,m)->k<=p)->∀k m,(x.add t).key=U (k,m)->k<=p:=λhx k m h=>by obtain⟨m',h'⟩:=X9 h;exact hx _ _ h'
 obtain⟨c,x,o⟩:=s;refine oS (c:=c) (Kj y) ?_ ?_ ?_ ?_ ?_ ?_ ?_ ?_ ?_ ?_ ?_ ?_;.exact⟨b (λk m h=>by cases h)<|b ks e,λd d d h=>by cases h;rfl⟩
 .exact⟨b (λk m h=>by cases h)<|b ks e,λd d d h=>by cases h;rfl⟩
 .obtain _|⟨u,r⟩:=r;.exact⟨λd h=>(by cases h),λd d d h=>(by cases h)⟩
  .exact⟨b (f λk m h=>(Kk h).elim λm'=>e u (.head _) _ _) λw j=>e w<|.tail _ j,λh=>by cases h⟩
 .obtain _|⟨u,r⟩:=r;.exact⟨λd h=>(by cases h),λd d d h=>(by cases h)⟩
  .exact⟨b (f λk m h=>(Kk h).elim λm'=>e u (.head _) _ _) λw j=>e w<|.tail _ j,λh=>by cases h⟩
 .exact⟨b (f λk m h=>by cases h) e,λd d d h=>by cases h;rfl⟩
 .exact⟨b (f λk m h=>by cases h) e,λh=>by cases h⟩
 .exact⟨b (f λk m h=>by cases h) e,λd d d h=>by cases h;rfl⟩
 .exact⟨b (f λk m h=>(X_ h).elim) e,λh=>by cases h⟩
 all_goals exact⟨b (f ks) e,λh=>by cases h⟩
theorem X':∀{L} {d},jW B [] d L=jS L:=by intro L;induction L with|nil=>exact O|cons v r c=>intro d;show jW B _ _ r++jo B _ d v=jS r++v.toks;rw[c,yS λb b b=>rfl]
noncomputable def rl(B:List Nat)(a:Bool)(s:Sg)(p:Nat)(l:List (Sg×Nat)):List Tk:=if(a&&ly s.d&&il B p l (if jg s.d=H then 1 else 0))=H then[.k 287 p p]else[]
theorem Km(b:a=H->v.key=V)(hl:∀k,il B k l d=il B k c 0):jo B l d (v.dt p a)=jo B c 0 v++(if(a&&il B p l d)=H then[.k 287 p p]else[]):=by induction a with|false=>exact(X7 hl).trans (iL _).symm|true=>obtain⟨ag,k⟩:=v;cases b O;simp[jo,Lv.dt,Lv.toks,Lv.post]
section
variable{B:List Nat}{s:Sg}{p:Nat}{a:Bool}{l:List (Sg×Nat)}{v:Lv}{r:List Lv}
noncomputable def pI(B:List Nat)(s:Sg)(p:Nat)(a:Bool)(l:List (Sg×Nat))(v:Lv)(r:List Lv):List Tk:=jW B ((s,p)::l) 1 r++jo B ((s,p)::l) 0 v++(rl B a s p l++[s.I B p])
theorem C0(h:(c==44||jh c||c==63||c==45)=g):¬(c=44\/jh c=H\/c=63\/c=45):=λq=>iG<|h.symm.trans (by simpa [or_assoc]using q:(c==44||jh c||c==63||c==45)=H)
theorem C1(o:jg s.d=g)(z:jh s.d=g)(k0:ly s.d=g)(h:s.d≠58)(h':s.d=44\/jh s.d=H\/s.d=63\/s.d=45):jW B l 1 r++jo B l 0 (v.ed.add<|s.I B p)=pI B s p a l v r:=by
 unfold pI rl;rw(occs:=.all) [CY o z r,yR,yS (v:=v) λk m b=>?_,yS λk m h=>by cases h];.rw(occs:=.all) [CU,k0,uw,z9,if_neg lS,ur,h2]
 .rw(occs:=.all) [rk,if_neg h,if_pos h']
theorem Ya(b:a=H->v.key=V)(o:jg s.d=g)(z:jh s.d=g)(k0:ly s.d=H)(h:¬s.d=58)(h':¬(s.d=44\/jh s.d=H\/s.d=63\/s.d=45)):jW B l 1 r++jo B l 0 ((v.dt p a).add<|s.I B p)=pI B s p a l v r:=by
 unfold pI rl;rw(occs:=.all) [CY o z r,yR,Km b λk=>?_];.rw(occs:=.all) [k0,o,Bool.and_true,if_neg lS,h2,h2]
 .rw(occs:=.all) [rk,if_neg h,if_neg h',if_neg (by rw[o];exact lS)]
theorem Kn(b:a=H->v.key=V)(o:jg s.d=H)(k0:ly s.d=H)(h:¬s.d=58)(h':¬(s.d=44\/jh s.d=H\/s.d=63\/s.d=45)):jW B l 2 r++jo B l 1 (v.dt p a)++[s.I B p]=pI B s p a l v r:=by
 unfold pI rl;rw(occs:=.all) [X4 o r,Km b λk=>?_];.rw(occs:=.all) [k0,o,Bool.and_true,if_pos O,h2,h2,h2]
 .rw(occs:=.all) [rk,if_neg h,if_neg h',if_pos o]
theorem Ko(o:jg s.d=g)(z:jh s.d=H)(k0:ly s.d=g)(h:¬s.d=58)(u)(b)(c:r=u::b):jW B l 1 b++jo B l 0 ((u.du v.toks).add<|s.I B p)=pI B s p a l v r:=by
 unfold pI rl;rw(occs:=.all) [X5 o z r,c,yR,X6,yS (v:=v) λk m d=>?_];.show _=jW B l 1 b++jo B l 0 u++v.toks++_;rw(occs:=.all) [k0,uw,z9,if_neg lS,ur,h2,h2];simp only[h2]
 .rw(occs:=.all) [rk,if_neg h,if_pos<|.inr<|.inl z]
end
theorem Yb(n:nD B s p q)(e:a=H->∀v r,L=v::r->v.key=V)(hl:∀v∈L,∀k m,v.key=U (k,m)->ij B k=ij B p)(b:2<=L.length):jW B l 0 (mN B s p a L)=jW B ((s,p)::l) 0 L++(rl B a s p l++[s.I B p]):=by
 haveI f:=Kj n;obtain _|⟨v,r⟩:=L;.cases b
 have d:=λh=>e h v r O;have i:=hl v<|.head _;clear e hl n;show _=pI B s p a l v r;obtain⟨c,x,j⟩:=s;refine oS (c:=c) f ?_ ?_ ?_ ?_ ?_ ?_ ?_ ?_ ?_ ?_ ?_ ?_;.exact Kn d O O (n7 O)<|C0 O
 .exact Kn d O O (n7 O)<|C0 O
 .obtain _|⟨u,r⟩:=r;.exact absurd b<|jP _
  .exact Ko O O O (n7 O) u r O
 .obtain _|⟨u,r⟩:=r;.exact absurd b<|jP _
  .exact Ko O O O (n7 O) u r O
 .exact C1 O O O (n7 O)<|.inl O
 .exact C1 O O O (n7 O)<|.inr<|.inr (.inl O)
 .exact C1 O O O (n7 O)<|.inr<|.inr (.inr O)
 .clear b d;show jW B l 1 r++jo B l 0 _=_;unfold pI;rw[CY O O r,yR];obtain⟨ag,_|⟨k,m⟩⟩:=v;.simp[jo,Lv.ee,Lv.toks,Lv.post,rl,ly,jg]
  .simp[jo,Lv.ee,Lv.toks,Lv.post,rl,ly,jg,rk,(i k m O)]
 all_goals exact Ya d O O O (n7 O)<|C0 O
theorem Kq(b:nD B s p q):p<q:=by induction b<;>first|exact zP (by decide)|exact hy (zP (by decide))<|ih _ _
theorem Yc(T:Txt B q l e)(h:x∈l):q<=x.2:=by
 induction T with
 |nil=>cases h
 |cons f d T c=>
  rcases h7.mp h with b|h;clear zz3 b
  .exact f.le
  .exact f1 f.le<|f1 (iN<|Kq d)<|c h
theorem Yd:∀{l} {a} {L} {f q e},Txt B q l e->f<=q->CZ f a L->yP B a l L->jS (yO B a l L)=jW B l 0 L++pH B a l:=by
 intro l;induction l with|nil=>intro a L f q e T n K D;rw[X'];exact(iL _).symm|cons C l y=>
  intro a L f q e T n K D;cases T with|cons G E T=>
   refine i5 D λo z i=>?_;haveI j:=f1 n G.le;refine hv (X8 (B:=B) K.gv j) λk1 k2=>?_;haveI d:=Kq E;haveI:=y T (iN d) (Kl k1 E) i;rw[this,Yb E (λh v r hL=>?_) k2 (by rw[ig];exact o),X3 (λA c=>?_) λv x k m t=>f1 (K.gv v x k m t) j];.simp only[h2];rfl
   .rcases h7.mp c with b|c;clear zz3 b
    .exact g' _
    .exact iN<|hy d<|Yc T c
   .obtain _|⟨u,L⟩:=L;.cases hL
    .haveI w:=K.ek h u L O;clear i;cases hL;obtain⟨ag,k⟩:=u;cases w;rfl
end
section
open PySem
noncomputable def Sg.bR(s:Sg):List Nat:=match s.d with|119=>if s.bv then[119,s.aK]else[39,119,s.aK,39]|42=>[42,s.aK]|38=>[38,s.aK]|33=>[33,s.aK]|c=>[c]
noncomputable def tb(sp:Nat->List Nat):Nat->List Sg->List Nat->List Nat|_,[],M=>M|i,s::r,M=>sp i++(s.bR++tb sp (i+1) r M)
noncomputable def m7(sp:Nat->List Nat):Nat->Nat->List Sg->List (Sg×Nat)|_,_,[]=>[]|q,i,s::r=>(s,q+(sp i).length)::m7 sp (q+(sp i).length+s.bR.length) (i+1) r
noncomputable def qs(sp:Nat->List Nat):Nat->Nat->List Sg->Nat|q,_,[]=>q|q,i,s::r=>qs sp (q+(sp i).length+s.bR.length) (i+1) r
noncomputable def Sep(x:List Nat):Prop:=x=[32]\/x=[10]\/x=[10,32,32]\/x=[32,35,32,99,10]
noncomputable def j7(s:Sg):Prop:=s.d∈([91,123,93,125,44,63,45,58,42,38,33,119]:List Nat)/\97<=s.aK/\s.aK<=122
noncomputable def t7:List Sg->Prop|[]=>True|s::r=>(s.d=119->s.bv=H->∀a b,r=a::b->a.d∈([44,93,125,58,63]:List Nat))/\t7 r
inductive Mk:List Nat->Nat->Prop|aZ:Mk [0] 0|b:Mk [10,0] 1|d:Mk [10,46,46,46,10,0] 1|di:Mk [10,45,45,45,32,122,10,0] 1
theorem dg{B a:List Nat}(h:B.drop q=a)(i):B[q+i]?=a[i]?:=by rw[<-h,MT]
theorem kj{B a:List Nat}(h:B.drop q=a):B[q]?=a[0]?:=dg h 0
theorem rn{B X a:List Nat}(h:B.drop q=X++a):B.drop (q+X.length)=a:=by rw[<-qI,h,s8];rfl
structure yT (B:List Nat)(q a:Nat)(wd:Prop):Prop where
 gw:∃b,jG B q a b
 cq:wd->∃t nl b,(∀z:Z,z.G=B->0<z.R->lI z q t nl)/\jG B (q+t) a b/\q+t<B.length
noncomputable def lM(c:Nat):Prop:=c<127/\c≠32/\c≠35/\c≠10/\c≠13
theorem l6(h:B[p]?=U c)(a:lM c):jG B p p false:=.here (λb h=>absurd h<|p3 _) h a
theorem t8(h:B[p]?=U 10)(c:jG B (p+1) p' b):jG B p p' true:=.line (λa h=>absurd h<|p3 _) h c
theorem Kr:Quiet 32/\Quiet 99:=by unfold Quiet;decide
theorem Ye(hx:Sep x)(h:B.drop q=x++c::I)(n:lM c)(t:wd->(c=44\/c=93\/c=125\/c=63)\/c=58/\∃e s,I=e::s/\jn e):yT B q (q+x.length) wd:=by
 rcases hx with rfl|rfl|rfl|rfl
 .have h0:=kj h;have h1:=dg h 1;refine⟨⟨_,.here (λi r=>by cases oF.mp r;exact h0) h1 n⟩,λw=>⟨1,g,g,λz o l=>?_,l6 h1 n,(i2.mp h1).1⟩⟩;exists m;subst o;rcases t w with h'|⟨j,e,s,k,he⟩;rotate_left 1;clear zz3 j h1;clear zz3 k h;rotate_right 1
  .exact m<|.sign h0 h1 h' l
  .exact m<|.d_ h0 h1 (dg h 2) he l
 .haveI h0:=kj h;have h1:=dg h 1;refine⟨⟨_,t8 h0<|l6 h1 n⟩,λw=>⟨1,H,g,λz o l=>?_,l6 h1 n,(i2.mp h1).1⟩⟩;exists m;subst o;rcases t w with h'|⟨a,e,s,b,he⟩;rotate_left 1;clear zz3 a h1;clear zz3 b h;rotate_right 1
  .exact m<|.dQ h0 (λG h=>absurd h<|p3 _) h1 h' l
  .exact m<|.dR h0 (λG h=>absurd h<|p3 _) h1 (dg h 2) he l
 .have h0:=kj h;have p:B[q+3]?=U c:=dg h 3;have sp:∀i,i<2->B[q+1+i]?=U _:=λi r=>by
   rcases nG i 1 with h'|h'
   .cases oF.mp h';exact dg h 1
   .cases k6 (td r) h';exact dg h 2
  haveI E:jG B _ _ _:=.here sp p n;refine⟨⟨_,t8 h0 E⟩,λw=>⟨_,H,_,λz o l=>?_,l6 p n,(i2.mp p).1⟩⟩;exists m;clear E;subst o;rcases t w with h'|⟨d,e,s,f,he⟩;rotate_left 1;clear zz3 d p;clear zz3 f h;rotate_right 1
  .exact m<|.dQ h0 sp p h' l
  .exact m<|.dR h0 sp p (dg h 4) he l
 .haveI h0:=kj h;haveI h1:B[q+1]?=U _:=dg h 1;haveI D:=dg h 5;have y:∀i,i<2->∃c,B[q+1+1+i]?=U c/\Quiet c:=λi r=>by
   rcases nG i 1 with h'|h'
   .cases oF.mp h';exact h_ _ (dg h 2) Kr.1
   .cases(Nat.le_antisymm (Nat.le_of_lt_succ r) (by assumption));exact h_ _ (dg h 3) Kr.2
  haveI A:=l6 D n;haveI C:=dg h 4;refine⟨⟨_,.cV (λi r=>by cases oF.mp r;exact h0) h1 y C A⟩,λw=>⟨1,g,H,λz o l=>?_,.cV (λG h=>absurd h<|p3 _) h1 y C A,(i2.mp h1).1⟩⟩;clear A y D;subst o;exact .cV h0 h1
theorem Yf(hM:Mk M d)(h:B.drop q=M):yT B q (q+d) wd:=by
 haveI v:lM 0/\lM 46/\lM 45:=by unfold lM;decide
 induction hM with|aZ=>haveI h0:=kj h;exact⟨⟨_,l6 h0 v.1⟩,λw=>⟨0,g,g,λz a b=>by clear zz3 (Eq.symm a) h0;exact .d8 h0,l6 h0 v.1,(i2.mp h0).1⟩⟩|b=>haveI h0:=kj h;haveI h1:=dg h 1;exact⟨⟨_,t8 h0<|l6 h1 v.1⟩,λw=>⟨1,H,g,λz a b=>by clear zz3 (Eq.symm a) h1 h0;exact .dS h0 h1<|.inr b,l6 h1 v.1,(i2.mp h1).1⟩⟩|d=>haveI h0:=kj h;haveI h1:=dg h 1;exact⟨⟨_,t8 h0<|l6 h1 v.2.1⟩,λw=>⟨1,H,_,λz a b=>by clear zz3 (Eq.symm a) h0 h;refine .doc h0 ?_ (.inr O) (dg h 4)<|.inr<|.inr O;rw[<-qI,h];rfl,l6 h1 v.2.1,(i2.mp h1).1⟩⟩|di=>haveI h0:=kj h;haveI h1:=dg h 1;exact⟨⟨_,t8 h0<|l6 h1 v.2.2⟩,λw=>⟨1,H,g,λz a b=>by clear zz3 (Eq.symm a) h0 h;refine .doc h0 ?_ (.inl O) (dg h 4)<|.inr<|.inl O;rw[<-qI,h];rfl,l6 h1 v.2.2,(i2.mp h1).1⟩⟩
theorem C2(hs:∀i,Sep<|sp i){M}{d}(hM:Mk M d)(i)(r):∃e a,tb sp i r M=e::a/\jn e:=by
 induction r with
 |nil=>
  induction hM;.exact lU _ _ O<|.inl O
  all_goals exact lU _ _ O<|.inr<|.inr O
 |cons s r=>
  show ∃e a,sp i++_=_/\_;rcases hs i with h|h|h|h<;>rw[h]
  .exact lU _ _ O<|.inr<|.inl O
  .exact lU _ _ O<|.inr<|.inr O
  .exact lU _ _ O<|.inr<|.inr O
  .exact lU _ _ O<|.inr<|.inl O
theorem Yg(h:j7 s):∃c b,s.bR=c::b/\lM c:=by obtain⟨c,x,a⟩:=s;unfold lM;refine oS (c:=c) (h.1) ?_ ?_ ?_ ?_ ?_ ?_ ?_ ?_ ?_ ?_ ?_ ?_;rotate_left 11;induction a;all_goals exact lU _ _ O (by dsimp only;decide)
theorem Yh(h:j7 s)(hB:B.drop p=s.bR++e::o)(he:jn e)(F:yT B (p+s.bR.length) n (s.d=119/\s.bv=H)):∃f b,nD B s p f/\jG B f n b:=by
 obtain⟨c,x,m⟩:=s;obtain⟨k,hx⟩:=h;obtain⟨b,a⟩:=F.gw;revert hB F a;refine oS (c:=c) k (λhB F a=>?_) (λhB F a=>?_) (λhB F a=>?_) (λhB F a=>?_) (λhB F a=>?_) (λhB F a=>?_) (λhB F a=>?_) (λhB F a=>?_) (λhB F a=>?_) (λhB F a=>?_) (λhB F a=>?_) λhB F a=>?_;rotate_left 11;.induction m with|false=>exact⟨_,b,.dB O O (kj hB) (dg hB 1) (dg hB 2) hx (dg hB 3) (dg hB 4) (by rcases he with h|h|h<;>exact iI<|iy<|f1 (h9 (im h) (g' _)) (by decide)),a⟩|true=>exists j;obtain⟨t,nl,i,T,d,l⟩:=F.cq ⟨rfl,rfl⟩;exact j<|lU _ i (.c_ O O (kj hB) (dg hB 1) hx T l) d
 all_goals first
  |exact⟨_,b,.k (by dsimp only;decide) (kj hB) (i2.mp<|dg hB 1).1,a⟩|exact lU _ b (.ct O (kj hB) (dg hB 1) he) a|exact lU _ b (.col O (kj hB)<|dg hB 1) a|exact⟨_,b,.fV (by simp) (kj hB) (dg hB 1) hx (dg hB 2) he,a⟩
noncomputable def vF(sp:Nat->List Nat)(d q i:Nat):List Sg->Nat|[]=>q+d|_::_=>q+(sp i).length
theorem Ks{B M}{sp}(hs:∀i,Sep<|sp i)(hM:Mk M d)(h:B.drop q=tb sp i r M)(o:∀s∈r,j7 s)(p:wd->∀n t,r=n::t->n.d∈([44,93,125,58,63])):yT B q (vF sp d q i r) wd:=by
 induction r with|nil=>exact Yf hM h|cons s r=>
  refine jC (Yg<|o s<|.head _) λc z h1 l=>?_;haveI h':B.drop q=sp i++c::(z++tb sp _ r M):=by rw[h];show sp i++(s.bR++_)=_;rw[h1];rfl
  refine Ye (hs i) h' l λw=>?_;haveI m:=p w s r O;obtain⟨k,x,y⟩:=s;simp only[h7,rP,or_false]at m;clear h' l;rcases m with a|b|e|f|j;clear zz3 a h1;rotate_left 1;clear zz3 b h1;rotate_right 1;rotate_left 2;clear zz3 e h1;rotate_right 2;rotate_left 3;clear zz3 f h1;rotate_right 3;rotate_left 4;clear zz3 j h1;all_goals
   obtain⟨rfl,rfl⟩:=rC h1
   first
    |exact .inl (by first|decide|(dsimp only;decide))|exact .inr ⟨rfl,C2 hs hM _ _⟩
theorem Yi{B M}{sp}(hs:∀i,Sep<|sp i){d}(hM:Mk M d):∀{r} {q i j} {b},B.drop q=tb sp i r M->(∀s∈r,j7 s)->t7 r->jG B j (vF sp d q i r) b->∃e p,Txt B j (m7 sp q i r) e/\jG B e (qs sp q i r+d) p:=by intro r;induction r with|nil=>intro q i j b h l k m;exact⟨j,b,.nil,m⟩|cons s r A=>intro q i j b h l k m;refine kf λz=>jC (C2 hs hM (i+1) r) λe E h1 y=>?_;haveI a:=rn h;haveI c:=a;rw[h1]at a;haveI f:∀s∈r,j7 s:=λs hs=>l s<|.tail _ hs;exact jC (Yh (l s<|.head _) a y<|Ks hs hM (rn c) f λw=>k.1 w.1 w.2) λC p D n=>jC (A (rn c) f k.2 n) λx t T o=>z<|lU x t (.cons m D T) o
end
section
open PySem
noncomputable def kl(d c:Nat):Nat:=if jg c=H then d+1 else if jh c=H then d - 1 else d
noncomputable def sK:Nat->List Sg->Prop|_,[]=>True|d,s::r=>1<=d/\sK (kl d s.d) r
noncomputable def t9(d:Nat)(r:List Sg):Nat:=r.foldl (λd s=>kl d s.d) d
theorem Yj(h:j7 s)(hL:L.length=d+1)(h1:1<=d):(mN B s p a L).length=kl d s.d+1:=by
 obtain⟨c,x,e⟩:=s;obtain _|⟨v,r⟩:=L;.cases hL
 have b:=rI hL;refine oS (c:=c) (h.1) ?_ ?_ ?_ ?_ ?_ ?_ ?_ ?_ ?_ ?_ ?_ ?_;.exact congrArg (· +2) b
 .exact congrArg (· +2) b
 .obtain _|⟨u,r⟩:=r;.exact absurd (f1 h1<|im b.symm) (by decide)
  .show r.length+1=(d - 1)+1;rw[MU h1];exact b
 .obtain _|⟨u,r⟩:=r;.exact absurd (f1 h1<|im b.symm) (by decide)
  .show r.length+1=(d - 1)+1;rw[MU h1];exact b
 all_goals exact congrArg _ b
theorem Yk(h:c∈([44,93,125,58,63])):vW ⟨c,x,a⟩:=by simp only[h7,rP,or_false]at h;unfold vW;dsimp only;exact h.elim (λe=>.inr<|.inr<|.inl e) λh=>h.elim .inl λh=>h.elim (λe=>.inr<|.inl e) λh=>h.elim (λe=>.inr<|.inr<|.inr<|.inr<|.inr e) λe=>.inr<|.inr<|.inr<|.inl e
theorem Yl:∀{r} {q i d} {a} {L},L.length=d+1->sK d r->t7 r->(∀s∈r,j7 s)->yP B a (m7 sp q i r) L/\(yO B a (m7 sp q i r) L).length=t9 d r+1:=by
 intro r;induction r with|nil=>intro q i d a L hL C P K;exact⟨trivial,hL⟩|cons s r f=>
  intro q i d a L hL C P K;refine hv (f (q:=q+(sp i).length+s.bR.length) (i:=i+1) (a:=n2 s) (Yj (B:=B) (p:=q+(sp i).length) (a:=a) (L:=L.map<|Lv.fresh B (q+(sp i).length)) (K s<|.head _) (by rw[ig];exact hL) C.1) C.2 P.2 λs hs=>K s<|.tail _ hs) λb c=>⟨⟨f1 (Nat.succ_le_succ C.1) (im hL.symm),λk p2 l2 e h=>?_,b⟩,c⟩;obtain _|⟨l,j⟩:=r;.cases e
  .clear b c;cases e;exact Yk<|P.1 h.1 h.2 _ _ O
theorem Ym:∀{r} {q i d},(∀s∈r,j7 s)->sK (d+1) r->il B k (m7 sp q i r) (d+1)=false:=by
 intro r;induction r with|nil=>intro _ _ _ _ _;exact O|cons s r c=>
  intro q i d K C;have a:=C.2;show(if jg _=H then il B k _ _ else if jh _=H then il B k _ d else il B k _ _)=g;unfold kl at a;have b:∀s∈r,j7 s:=λs hs=>K s<|.tail _ hs;split;.rename_i o;rw[if_pos o]at a;exact c b a
  .rename_i o;rw[if_neg o]at a;split;.rename_i z;rw[if_pos z]at a;induction d with|succ d=>exact c b a|zero=>induction r with|nil=>rfl|cons s r=>exact absurd a.1 (by decide)
   .rename_i z;rw[if_neg z]at a;exact c b a
end
section
open PySem
structure jz (E:Z)(B:List Nat)(T:List Tk)(o f:Nat)(i:Int)(a:List Int):Prop where
 G:E.G=B
 I:E.I=T
 o:E.o=o
 R:E.R=f
 ad:E.ad=i
 aS:E.aS=a
 c2:∀q∈E.J,q.2.bH=g
noncomputable def pJ(i:Int)(a:List Int):Prop:=i= -1/\a=[]\/i=0/\a=[-1]
theorem pJ.le(h:pJ i a):i<=0:=by rcases h with⟨rfl,_⟩|⟨rfl,_⟩<;>decide
noncomputable def nE(f:Nat)(i:Int)(p:Nat):List Tk:=if f=0/\i=0 then[.k 227 p p]else[]
theorem Kt{c i}(h:i<=c):lu c mk i l t=(i,l,t):=by induction l with|nil=>rfl|cons j r=>exact if_neg (Int.not_lt.mpr h)
theorem jz.ds{p f}(A:jz E B T p f i d):NR E:=λk b=>by refine hc (yI b) λq c a=>?_;subst a;exact A.c2 q c
theorem jz.aL{p f}(A:jz E B T p f i b)(p'):mK E p':=λq a c=>A.c2 q a
theorem jz.aQ{p f}{i}{a}(A:jz E B T p f i a)(d:i<=0)(p')(b):jz (E.aQ p' b) B T p' f i a/\(E.aQ p' b).ask=(E.a4 p' b).ask:=by
 haveI e:E.aQ p' b=(E.a4 p' b).aL:=by unfold Z.aQ Z.aN;rw[Kt (by rw[A.ad];exact wF d (mB _))];split<;>rfl
 rw[e];exact⟨⟨A.G,A.I,rfl,A.R,A.ad,A.aS,λq c=>A.c2 q (rM.mp c).1⟩,rfl⟩
theorem jz.aN{p f}(A:jz E B T p f i n)(m:pJ i n):∃l k,jz (E.aN (-1)) B (T++nE f i p) p f l k/\(f=0->l= -1)/\pJ l k:=by
 by_cases j:f=0
 .haveI e:E.aN (-1)={E with ad:=(lu (-1) _ _ _ _).1,aS:=(lu (-1) _ _ _ _).2.1,I:=(lu (-1) _ _ _ _).2.2}:=if_pos<|A.R.trans j;rw[A.ad,A.aS,A.I,A.o]at e;rw[e];rcases m with⟨a,b⟩|⟨c,d⟩;clear zz3 a;clear zz3 b;rotate_left 1;clear zz3 c;clear zz3 d;rotate_right 1
  .refine⟨_,_,⟨A.G,?_,rfl,A.R,rfl,rfl,A.c2⟩,λo=>rfl,.inl ⟨rfl,rfl⟩⟩;unfold nE;rw[if_neg λh=>absurd h.2 (by decide),iL];rfl
  .refine⟨_,_,⟨A.G,?_,rfl,A.R,rfl,rfl,A.c2⟩,λo=>rfl,.inl ⟨rfl,rfl⟩⟩;unfold nE;rw[if_pos ⟨j,rfl⟩];rfl
 .haveI e:E.aN (-1)=E:=if_neg λh=>j<|A.R.symm.trans h;rw[e];refine⟨_,_,⟨A.G,?_,A.o,A.R,A.ad,A.aS,A.c2⟩,λh=>absurd h j,m⟩;unfold nE;rw[if_neg λh=>j h.1,iL];exact A.I
theorem jz.aM{p f}(A:jz E B T p f i b):jz E.aM B T p f i b:=⟨A.G,A.I,A.o,A.R,A.ad,A.aS,λq a=>A.c2 q<|yJ a⟩
theorem jz.ab{p f}(A:jz E B T p f i a)(b):jz (E.ab b) B T p f i a:=⟨A.G,A.I,A.o,A.R,A.ad,A.aS,A.c2⟩
theorem jz.s{p f}(A:jz E B T p f i a)(n):jz (E.s n) B T (p+n) f i a:=⟨A.G,A.I,congrArg (· +n) A.o,A.R,A.ad,A.aS,A.c2⟩
theorem jz.aR{p f}(A:jz E B T p f i a)(t):jz (E.aR t) B (T++[t]) p f i a:=⟨A.G,congrArg (· ++[t]) A.I,A.o,A.R,A.ad,A.aS,A.c2⟩
noncomputable def Fin(T:List Tk)(z:Z):Prop:=∃F,n0 z F/\F.I=T
theorem Fin.step(z a)(b:h6 z)(F:kQ z a)(h:Fin T a):Fin T z:=hc h λG C e=>h_ G (.step b F C) e
theorem jz.dq{p f}(A:jz E B T p f i j)(n:h6 E)(d:pJ i j)(o:jG B p p' b)(h:B[p']?=U 0):Fin (T++nE f i p'++[.k 191 p' p']) E:=by haveI a:=(A.aQ d.le p' b).1;refine jC (a.aN d) λl k e m=>?_;haveI c:=(e.aM.ab g).aR<|.k 191 p' p';rw[<-(by unfold Z.dO;rw[a.o]:(E.aQ p' b).dO=(((E.aQ p' b).aN _).aM.ab _).aR _)]at c;exact⟨_,.done n<|.mk (by rw[A.G,A.o];exact o) (by rw[A.G];exact h) (A.aL p') a.ds,c.I⟩
theorem jz.doc{p f}(A:jz E B T p f i D)(G:h6 E)(w:pJ i D)(I:jG B p p' b)(hK:K=147/\c=45\/K=159/\c=46)(h0:ir B p'=0)(o:(B.drop p').take 3=[c,c,c])(he:B[p'+3]?=U e)(hs:jn e)(k:∀r q n,h6 r->jz r B (T++nE f i p'++[.k K p' (p'+3)]) (p'+3) f q n->(f=0->q= -1)->pJ q n->r.ask=g->Fin W r):Fin W E:=by
 have a:=(A.aQ w.le p' b).1;refine i0 (a.aN w) λq n x y z=>?_;have s:=((x.aM.ab g).s 3).aR<|.k K p' (p'+3);have C:=by haveI:=congrArg (λl=>l[0]?) o;rw[D3 (by decide),MT]at this;exact this
 haveI F:kQ E<|(E.aQ p' b).cs K:=by
  refine .mk (by rw[A.G,A.o];exact I) (by rw[A.G];exact C) (A.aL p') ?_;rcases hK with⟨d,h⟩|⟨j,m⟩;clear zz3 d;clear zz3 h o;rotate_left 1;clear zz3 j;clear zz3 m o;rotate_right 1
  .exact .doc a.ds (by rw[a.G,a.o];exact h0) (by rw[a.G,a.o];exact o) (by rw[a.G,a.o];exact he) hs
  .exact .eF a.ds (by rw[a.G,a.o];exact h0) (by rw[a.G,a.o];exact o) (by rw[a.G,a.o];exact he) hs
 refine .step _ _ G F ?_;haveI t:=rj G F (by rw[s.o,s.G];exact(i2.mp he).1);rw[(by unfold Z.cs;rw[a.o]:(E.aQ p' b).cs K=((((E.aQ p' b).aN (-1)).aM.ab g).s 3).aR (.k K p' (p'+3)))]at t ⊢;exact k _ q _ t s y z O
theorem jz.g0{p f}(A:jz E B T p f i n)(x:h6 E)(r:pJ i n)(q:E.ask=g)(y:jG B p p' g)(b:B[p']?=U c)(m:97<=c/\c<=122)(hT:∀z,z.G=B->z.ad=i->z.R=f->lI z (p'+1) t nl)(hl:p'+1+t<B.length)(k:∀e,h6 e->jz e B (T++[.aU [c] H .none p' (p'+1)]) (p'+(1+t)) f i n->Fin W e):Fin W E:=by
 refine hv (A.aQ r.le p' g) λa o=>?_;haveI w:(E.aQ p' _).M=E.aQ p' _:=by unfold Z.M;rw[if_neg (by rw[o];rw[q];simp)]
 haveI l:(E.aQ p' _).dp 1 t nl=(((E.aQ p' _).ab nl).s _).aR (.aU [c] _ _ p' _):=by unfold Z.dp;rw[w,a.G,a.o];rw[yN b]
 haveI d:=((a.ab nl).s (1+t)).aR<|.aU [c] H .none p' (p'+1);haveI F:kQ E<|(E.aQ p' _).dp 1 t nl:=by refine .mk (by rw[A.G,A.o];exact y) (by rw[A.G];exact b) (A.aL p')<|.c_ a.ds (by decide) (by decide) (by rw[a.G,a.o];exact b) m (by rw[a.G,a.o];exactλj s=>by cases oF.mp s;exact h_ _ b m) ?_;rw[a.o];exact hT _ a.G a.ad a.R
 refine .step _ _ x F ?_;haveI h:=rj x F (by rw[l,d.o,d.G];exact iy<|f1 (iq (lE<|g' _) _)<|jD hl);rw[l]at h ⊢;exact k _ h d
noncomputable def t_(M:List Nat)(pe:Nat):List Tk:=match M with|[10,46,46,46,10,0]=>[.k 159 pe (pe+3),.k 191 (pe+4) (pe+4)]|[10,45,45,45,32,122,10,0]=>[.k 147 pe (pe+3),.aU [122] H .none (pe+4) (pe+5),.k 191 (pe+6) (pe+6)]|_=>[.k 191 pe pe]
theorem jz.tail{p f}(A:jz E B T p f i C)(J:h6 E)(a:pJ i C)(hM:Mk M d)(hB:B.drop q=M)(L:jG B p (q+d) b):Fin (T++nE f i (q+d)++t_ M (q+d)) E:=by
 haveI v:lM 0/\lM 122:=by unfold lM;decide
 induction hM with
 |aZ=>exact A.dq J a L<|kj hB|b=>exact A.dq J a L<|dg hB 1|d=>
  refine A.doc J a L (.inr ⟨rfl,rfl⟩) (sv<|kj hB) (by rw[<-qI,hB];rfl) (dg hB 4) (.inr<|.inr O) λo l m j e h1 c I=>?_;haveI:=e.dq j c (t8 (dg hB 4)<|l6 (dg hB 5) v.1)<|dg hB 5;haveI k:nE f l (q+1+3+1)=[]:=if_neg λh=>by lia
  rw[k,iL,h2]at this;exact this
 |di=>
  refine A.doc J a L (.inl ⟨rfl,rfl⟩) (sv<|kj hB) (by rw[<-qI,hB];rfl) (dg hB 4) (.inr<|.inl O) λo l m j e h1 c s=>e.g0 j c s (t:=1) (nl:=H) (.here (λi a=>by cases oF.mp a;exact dg hB 4) (dg hB 5) v.2) (dg hB 5) (by decide) (λz w x G=>?_) (i2.mp<|dg hB 7).1 λD r n=>?_
  .clear zz3 (Eq.symm w) hB;refine .dS (dg hB 6) (dg hB 7) ?_;by_cases y:f=0;.exact .inl<|x.trans<|h1 y
   .exact .inr (by lia)
  .haveI:=n.dq r c (l6 (dg hB 7) v.1)<|dg hB 7;haveI k:nE f l (q+1+3+1+(1+1))=[]:=if_neg λh=>by lia
   rw[k,iL,h2,h2]at this;exact this
end
section
open PySem
structure lN (E:Z)(B:List Nat)(T:List Tk)(o:Nat)(a:Bool)(i:Int)(b:List Int):Prop where
 G:E.G=B
 I:E.I=T
 o:E.o=o
 R:E.R=0
 ad:E.ad=i
 aS:E.aS=b
 J:E.J=[]
 aG:E.aG=0
 ask:E.ask=a
theorem lN.aQ{p}(A:lN E B T p a i b)(c:i<=0)(p'):lN (E.aQ p' g) B T p' a i b:=by
 haveI e:E.aQ p' g=(E.a4 p' g).aL:=by unfold Z.aQ Z.aN;rw[Kt (by rw[A.ad];lia)];split<;>rfl
 rw[e];refine⟨A.G,A.I,rfl,A.R,A.ad,A.aS,?_,A.aG,?_⟩;.show E.J.filter _=[];rw[A.J];rfl
 .show((g&&decide (E.R=0))||E.ask)=a;exact A.ask
theorem lN.ds{p}(A:lN E B T p a i d):NR E/\∀p',mK E p':=⟨λk b=>(by rw[A.J]at b;cases b),λp' q c=>(by rw[A.J]at c;cases c)⟩
theorem lN.first{p}(A:lN E B T p a i l)(y:h6 E)(r:i<=0)(z:jG B p p' g){s}(hs:s.d=91\/s.d=123)(hB:B[p']?=U s.d)(hl:p'+1<B.length)(q:a=H->i≠ir B p'):∃d,kQ E d/\iT d B (mN B s p' a [⟨T,V⟩]) (p'+1) H/\(d.ad=i/\d.aS=l)/\h6 d:=by
 haveI b:=A.aQ r p';haveI n:=pz<|E.aQ p' g;haveI m:=Kh<|E.aQ p' g;haveI ks:(E.aQ p' _).M.J=lL [(Lv.mk T V).dt p' a]:=by
  unfold Z.M;induction a with|false=>rw[if_neg (by rw[b.ask];exact lS)];exact b.J|true=>
   rw[if_pos b.ask];show j4 _ _++[((E.aQ p' _).R,(E.aQ p' _).cZ)]=[(0,⟨0+(T++[]).length,_,p'⟩)];haveI:(E.aQ p' _).cZ=⟨0+(T++[]).length,_,p'⟩:=by unfold Z.cZ;rw[b.aG,b.I,b.ad,b.G,b.o,decide_eq_false<|q O,uw,iL]
   rw[this,b.J,b.R];rfl
 haveI k:∀K,iT ((E.aQ p' _).dm K) B _ _ _:=λK=>by
  haveI t:jS [Lv.add ⟨[],V⟩<|.k K p' (p'+1),(Lv.mk T V).dt p' a]=T++[.k K p' _]:=by show([]++Lv.toks _)++_=_;rw[show Lv.toks _=T by cases a with|false=>exact iL T|true=>exact(iL _).trans<|iL T];rfl
  refine⟨n.2.1.trans b.G,?_,?_,?_,?_,?_,rfl⟩;.rw[t];show(E.aQ p' _).M.I++[.k K _ _]=_;rw[sH,b.I,b.o]
  .show(E.aQ p' _).M.J=lL _++[];rw[ks,iL]
  .show(E.aQ p' _).R+1+1=2;rw[b.R]
  .refine Eq.trans ?_ b.aG;show(E.aQ p' _).M.aG=_;unfold Z.M;split<;>rfl
  .show(E.aQ p' _).M.o+1=p'+1;rw[n.1,b.o]
 obtain⟨c,x,w⟩:=s;haveI f:∀{K},Act (E.aQ p' _) c _->iT _ B _ _ _->_:=λ{K} o j=>by haveI F:kQ E<|(E.aQ p' g).dm K:=.mk (by rw[A.G,A.o];exact z) (by rw[A.G];exact hB) (A.ds.2 p') o;exact(⟨_,F,j,⟨m.1.trans b.ad,m.2.trans b.aS⟩,rj y F (by rw[j.o,j.G];exact hl)⟩:∃d,kQ E d/\iT d B (mN B ⟨c,x,w⟩ p' a [⟨T,V⟩]) _ H/\(d.ad=i/\d.aS=l)/\h6 d)
 haveI e:(E.aQ p' _).o+1<(E.aQ p' _).G.length:=by rw[b.o,b.G];exact hl
 rcases hs with h|h
 .clear hB;cases h;exact f (.en b.ds.1 e)<|k _
 .clear hB;cases h;exact f (.mp b.ds.1 e)<|k _
inductive ot:List Nat->List Tk->Nat->Bool->Int->List Int->Prop|aZ:ot [] [.a' 0] 0 H (-1) []|b:ot [45,45,45,32] [.a' 0,.k 147 0 3] 3 g (-1) []|d:ot [45,32] [.a' 0,.k 203 0 0,.k 311 0 1] 1 H 0 [-1]|di:ot [107,58,32] [.a' 0,.k 215 0 0,.k 287 0 0,.aU [107] H .none 0 1,.k 299 1 2] 2 g 0 [-1]
theorem Yn(h:ot P T p a i b):pJ i b:=by
 induction h;.exact .inl ⟨rfl,rfl⟩
 .exact .inl ⟨rfl,rfl⟩
 .exact .inr ⟨rfl,rfl⟩
 .exact .inr ⟨rfl,rfl⟩
theorem lN.aY{p}{a}{P:Z->Prop}(A:lN E B T p a i L)(h:∀w c b e d m,P ⟨B,p,0,T,0,i,L,a,[],w,c,b,e,d,m⟩):P E:=by obtain⟨C,p,I,G,f,D,x,z,y,w,c,b,e,d,m⟩:=E;obtain⟨j,k,l,n,o,q,r,s,t⟩:=A;dsimp only at j k l n o q r s t;subst j k l n o q r s t;exact h _ _ _ _ _ _
theorem lN.dX{p}:lN ⟨B,p,0,T,0,i,d,a,[],h,c,b,f,e,m⟩ B T p a i d:=⟨rfl,rfl,rfl,rfl,rfl,rfl,rfl,rfl,rfl⟩
theorem lN.dr(j:h6 z)(A:lN z B [.a' 0] 0 H (-1) [])(f:B[0]?=U c)(v:lM c)(k:∀i b a e d m,(∀{E},Act ⟨B,0,0,[.a' 0],0, -1,[],H,[],i,b,a,e,d,m⟩ c E->kQ z E)->Fin l z):Fin l z:=(A.aQ (by decide) 0).aY (P:=λy=>(∀{E},Act y c E->kQ z E)->Fin l z) k λh=>.mk (by rw[A.G,A.o];exact l6 f v) (by rw[A.G];exact f) (A.ds.2 0) h
theorem Yo(h:ot P T p a i B){R}(t:R≠[]){z}(D:h6 z)(A:lN z (P++R) [.a' 0] 0 H (-1) []){W}(k:∀E,lN E (P++R) T p a i B->h6 E->Fin W E):Fin W z:=by
 haveI v:lM 45/\lM 107/\lM 58:=by unfold lM;decide
 haveI o:∀n,n<=P.length->n<(P++R).length:=λn x=>by haveI:=List.length_pos_iff.mpr t;rw[hz];exact iy<|h9 x<|f1 (by decide) (jD this)
 induction h with|aZ=>exact k z A D|b=>refine A.dr D O v.1 λf c b e d m l=>?_;have F:=l (E:=⟨[45,45,45,32]++R,3,0,[.a' 0,.k _ 0 3],0, -1,[],g,[],f,c,b,e,d,m⟩)<|.doc (λk=>hH) O O O<|.inr (.inl O);exact .step _ _ D F<|k _ .dX<|rj D F (o 3 (by decide))|d=>refine A.dr D O v.1 λf c b e d m l=>?_;have F:=l (E:=⟨[45,32]++R,1,0,[.a' 0,.k _ 0 0,.k _ 0 1],0,0,[-1],H,[],f,c,b,e,d,m⟩)<|.ct (λC=>rfl) (λk=>hH) O O<|.inr (.inl O);exact .step _ _ D F<|k _ .dX<|rj D F (o 1 (by decide))|di=>refine A.dr D O v.2.1 λf c b e d m l=>?_;have F:=l<|.c_ (n:=1) (λk=>hH) (by decide) (by decide) O (by decide) (λj w=>by cases oF.mp w;exact h_ _ O (by decide))<|.d9 O O (.inr (.inl O));have s:=rj D F<|o 1 (by decide);have r:kQ (⟨_,1,0,[.a' 0,.aU [107] H .none 0 1],0, -1,[],g,[(0,⟨1,_,0⟩)],f,_,_,_,_,m⟩) ⟨[107,58,32]++R,2,0,[.a' 0,.k _ 0 0,.k _ 0 0,.aU [107] H .none 0 1,.k _ 1 2],0,0,[-1],g,[],f,c,b,e,d,m⟩:=.mk (l6 O v.2.2) O (λq y C=>by cases iv.mp y;rfl)<|.col (k:=⟨1,_,0⟩) O ⟨jd _,iA _⟩ rfl<|.inr (.inr (.inl O));exact .step _ _ D F<|.step _ _ s r<|k _ .dX (rj s r (o 2 (by decide)))
end
section
open PySem
theorem Yp(h:ot P T p a i f){R}{c}(d:lM c):jG (P++c::R) p P.length g/\(a=H->i≠ir (P++c::R) P.length)/\p<=P.length:=by induction h with|aZ=>exact⟨l6 O d,λe=>(show(-1)≠((ir (c::R) 0):Int)by lia),g' _⟩|b=>exact⟨.here (λi b=>by cases oF.mp b;rfl) O d,λh=>(absurd h (by decide)),by decide⟩|d=>exact⟨.here (λi b=>by cases oF.mp b;rfl) O d,λe=>(show(0)≠((2:Nat):Int)by decide),by decide⟩|di=>exact⟨.here (λi b=>by cases oF.mp b;rfl) O d,λh=>(absurd h (by decide)),by decide⟩
theorem Yq(hs:s.d=91\/s.d=123)(hl:il B p l 1=g):jW B l 0 (mN B s p a [⟨T,V⟩])=T++[s.I B p]/\(mN B s p a [⟨T,V⟩]).length=2/\n2 s=true:=by
 have b:jo B l 1 (Lv.dt ⟨T,V⟩ p a)=T:=by cases a with|false=>exact iL T|true=>show(T++[])++((if il B p l 1=H then _ else[])++[])=T;rw[hl];exact(iL _).trans<|iL T
 obtain⟨c,x,d⟩:=s;rcases hs with h|h
 all_goals
  cases h
  refine jZ ?_ rfl O
  show([]++jo B l 1 _)++_=_
  rw[b];rfl
theorem Yr{B M:List _}:∀{r} {q i},B.drop q=tb sp i r M->B.drop (qs sp q i r)=M:=by intro r;induction r with|nil=>intro _ _ h;exact h|cons s r a=>intro q i h;exact a<|rn<|rn h
theorem Ys(h:ot P T p a i is){f:Sg}(h0:f.d=91\/f.d=123)(hs:∀i,Sep<|sp i)(hM:Mk M d)(w:∀s∈r,j7 s)(L:t7 r)(I:sK 1 r)(hB:B=P++f.d::tb sp 1 r M)(aO:h6 z)(A:lN z B [.a' 0] 0 H (-1) []):Fin (T++[f.I B P.length]++pH B H (m7 sp (P.length+1) 1 r)++nE (t9 1 r) i (qs sp (P.length+1) 1 r+d)++t_ M (qs sp (P.length+1) 1 r+d)) z:=by
 haveI y:B.drop _=f.d::tb sp 1 r M:=by rw[hB,s8];rfl
 haveI c:B.drop (P.length+1)=tb sp 1 r M:=by rw[<-qI,y];rfl
 haveI v:lM f.d:=by unfold lM;rcases h0 with h|h<;>rw[h]<;>decide
 refine jC (C2 hs hM 1 r) λe aN t1 t2=>?_;haveI j:=(i2.mp (show B[P.length+1]?=U e by rw[kj c,t1];rfl)).1;refine i5 (Yp h (R:=tb sp 1 r M) v) λk1 k2 k3=>?_;haveI J:=Yn h;subst hB;refine Yo h (z_ _ _) aO A λE Q C=>kf λx=>ph (Q.first C J.le k1 h0 (kj y) j k2) λaM aF aG f3 f4=>x<|.step _ _ C aF ?_;generalize aJ:P++f.d::tb sp 1 r M=B at*;refine kf λx=>hE ((Ks hs hM (wd:=False) c w λh=>h.elim).gw) λb sk=>jC (Yi hs hM c w L sk) λen b' G n=>i5 (Yq (a:=a) (T:=T) h0 (Ym w I:il B P.length (m7 sp (P.length+1) 1 r) 1=g)) λg1 aH aI=>hv (Yl (B:=B) (sp:=sp) (q:=P.length+1) (i:=1) (a:=H) aH I L w) λD Y=>?_;haveI av:CZ _ _<|mN B f _ a [⟨T,V⟩]:=aI▸Kl (λv aL k m aK=>by cases iv.mp aL;cases aK) (.k (by rcases h0 with h|h<;>rw[h]<;>decide) (kj y) j);haveI l:=Yd G (iA _) av D;rw[g1]at l;refine x<|XZ Fin.step (lB n.le n.lt) G aG (.inl O) D f4 f3 λau a2 o aD t=>?_;haveI aE:jz au B (T++[f.I B P.length]++pH B H (m7 sp _ 1 r)) en (t9 1 r) i is:=⟨o.G,o.I.trans l,o.o,rI<|o.R.trans Y,t.1,t.2,o.c2⟩;exact aE.tail aD J hM (Yr c) n
end
section
open PySem
theorem Yt{e}(h:RT W [e] T):T=W:=by cases h with|fU _ h=>exact h.symm|ct _ h=>exact absurd O h|cons _ h=>cases h
noncomputable def Sg.bJ(s:Sg)(p:Nat):El:=⟨[s.d],p,match s.d with|119=>[119,s.aK]|42=>[s.aK]|38=>[s.aK]|33=>[s.aK]|_=>[],if s.d=119/\s.bv=g then .str [39]else .none⟩
noncomputable def oY(s:Sg):Bool:=s.d==91||s.d==123||s.d==44
noncomputable def m8(B:List Nat)(eE:El):Bool->List (Sg×Nat)->List El|_,[]=>[eE]|a,(s,p)::l=>(if(a&&ly s.d&&il B p l (if jg s.d=H then 1 else 0))=H then[⟨[63],p,[],.none⟩]else[])++s.bJ p::m8 B eE (oY s) l
theorem vZ:m8 B eE a ((s,p)::l)=(if(a&&ly s.d&&il B p l (if jg s.d=H then 1 else 0))=H then[⟨[63],p,[],.none⟩]else[])++s.bJ p::m8 B eE (oY s) l:=rfl
theorem Yu:m8 B eE a l≠[]:=by induction l with|nil=>exact z_ _ _|cons q l=>obtain⟨s,p⟩:=q;dsimp only[vZ];simp
theorem Yv(h:j7 s)(h1:s.d≠45):ml (s.bJ p)<|s.I B p:=by
 obtain⟨c,x,b⟩:=s;revert h1;refine oS (c:=c) (h.1) ?_ ?_ ?_ ?_ ?_ ?_ (absurd O) ?_ (λa=>.bI O) (λa=>.cB O) (λa=>.cC O O<|jd _) λa=>by induction b<;>exact ml.dI O
 all_goals exactλa=>.k (e:=Sg.bJ _ p) O jk
theorem Yw(e:sC eE t):∀{l} {a},(∀q∈l,j7 q.1)->RT (mo (t::al)) (m8 B eE a l) (mo (pH B a l++t::al)):=by
 intro l;induction l with|nil=>intro a K;exact .fU e O|cons j l i=>
  obtain⟨s,p⟩:=j;intro a K;haveI d:RT _ (s.bJ p::m8 B eE _ l)<|mo (s.I B p::(pH B (n2 s) l++t::al)):=by
   by_cases h:s.d=45;.obtain⟨c,x,k⟩:=s;cases h;exact .ct O Yu
   .haveI:n2 s=oY s:=by unfold n2 oY;simp[h]
    rw[this];exact .cons (Yv (K (s,p)<|.head _) h)<|i λq f=>K q<|.tail _ f
  dsimp only[vZ,Ki];generalize (a&&ly _&&il B p l _)=b;induction b with|true=>exact .cons (.k (c:=63) O jk) d|false=>exact d
noncomputable def n3(d:Nat)(e:El):Nat:=if e.d=[91]\/e.d=[123]then d+1 else if e.d=[93]\/e.d=[125]then d - 1 else d
noncomputable def nF(d:Nat)(R:List El):Nat:=R.foldl n3 d
theorem C3(d)(R a):nF d (R++a)=nF (nF d R) a:=MI
theorem Ku(d)(s:Sg)(p):n3 d (s.bJ p)=kl d s.d:=by unfold n3 kl jg jh Sg.bJ;simp
theorem row_pre{B:List _}{eE}:∀{l:List (Sg×Nat)} {a} {d} {C R':List El},(d=0->l=[])->sK d (l.map (·.1))->m8 B eE a l=C++R'->R'≠[]->nF d C=0->R'=[eE]/\t9 d (l.map (·.1))=0:=by
 intro l;induction l with
 |nil=>
  intro a d C R' h0 n e o hl;exists j;cases C with|nil=>exact j ⟨e.symm,hl⟩|cons c C=>
   induction r:C with
   |nil=>subst r;cases e;exact absurd O o
   |cons z y=>subst r;cases e
 |cons x l w=>
  obtain⟨s,p⟩:=x;intro a d C R' h0 n e o hl;have t:=n.1;have f:∀{C},s.bJ p::m8 B eE (oY s) l=C++R'->nF d C=0->R'=[eE]/\t9 d (((s,p)::l).map (·.1))=0:=by
   intro C e hl;induction C with|nil=>exact absurd hl<|iP t|cons c C=>
    injection e with k m
    subst k;change nF _ C=0 at hl;rw[Ku]at hl;haveI i:=n.2;refine w (λh=>?_) i m o hl;haveI:=i;rw[show kl d _=0 from h]at this;clear i;induction l with|nil=>rfl|cons q l=>exact absurd this.1 (by decide)
  dsimp only[vZ]at e;generalize (a&&ly _&&il B p l _)=b at e;exists j;induction b with
  |true=>
   induction C with|nil=>exact absurd hl<|iP t|cons c C=>
    injection e with k m
    clear zz3 (Eq.symm k) hl;exact j<|f m hl
  |false=>exact j<|f e hl
noncomputable def Md.up:Md->Nat| .node=>0|_=>1
noncomputable def Md.ok:Md->Prop| .node=>True| .loop cl _ _| .b1 cl _| .key cl _| .val cl _=>cl=93\/cl=125
theorem C4(h:Pr R a t R'):∃C,R=C++R'/\∀d,nF d C=d:=by
 haveI k:∀{e} {d},e.d=[38]\/e.d=[33]->n3 d e=d:=λh=>by unfold n3;rcases h with h|h<;>rw[h]<;>rfl
 induction h with|n=>exact h_ [] rfl λc=>rfl|aZ h1 b=>exact h_ [_] rfl λc=>k<|.inl h1|bc h1 b=>exact h_ [_] rfl λc=>k<|.inr h1|«at» h1 b=>exact h_ [_,_] rfl λd=>(show n3 _ _=d by rw[k<|.inl h1,k<|.inr b])|fD h1 b=>exact h_ [_,_] rfl λd=>(show n3 _ _=d by rw[k<|.inr h1,k<|.inl b])
noncomputable def oZ(m:Md)(R R':List El):Prop:=∃C,R=C++R'/\∀d,nF (d+m.up) C=d
theorem oZ.cons(h:oZ m R R')(he:∀d,n3 d e=d)(hm:m'.up=m.up):oZ m' (e::R) R':=by obtain⟨C,rfl,h⟩:=h;exact h_ (e::C) O λd=>(show nF _ C=d by rw[he,hm];exact h d)
theorem oZ.same(h:oZ m R R')(hm:m'.up=m.up):oZ m' R R':=hc h λC h1 a=>h_ C h1 λd=>by rw[hm];exact a d
theorem oZ.aD(h:oZ .node R b)(k:oZ m b R')(hm:m'.up=m.up):oZ m' R R':=by obtain⟨C,rfl,h⟩:=h;obtain⟨a,rfl,k⟩:=k;refine h_ (C++a) ((h2 _ _ _).symm) λd=>?_;rw[C3,show nF _ C=d+m'.up from h _,hm];exact k d
theorem Yx{D}{x}(h:RD m R D x R'):m.ok->x=V->oZ m R R':=by
 haveI j:∀{e} {c},e.d=[c]->c≠91->c≠123->c≠93->c≠125->∀d,n3 d e=d:=λh h1 B E G d=>by
  unfold n3;rw[h,if_neg,if_neg];.intro h;rcases h with h|h<;>(lia)
  .intro h;rcases h with h|h<;>(lia)
 induction h with
 |bI h=>exactλw w=>⟨[_],rfl,j h (by decide) (by decide) (by decide) (by decide)⟩|dI h0 p h=>refineλ_ _=>hc (C4 p) λC q k=>?_;subst q;exact h_ (C++[_]) (List.append_cons _ _ _) λd=>by rw[C3,show nF _ C=d from k d];exact j h (by decide) (by decide) (by decide) (by decide) d|@eH R0 R R' a t e D x h0 p h hl i=>refineλ_ hx=>hc (C4 p) λC r k=>?_;subst r;refine hc (i (show tZ _=93\/tZ _=125 by unfold tZ;split;exact .inl O;exact .inr O) hx) λA s k2=>?_;clear zz3 s;refine h_ (C++e::A) ((h2 C (e::A) _).symm) λd=>?_;rw[C3,show nF _ C=d from k d];show nF _ A=d;unfold n3;rw[if_pos h];exact k2 d|aE=>exactλw h=>hH<|Eq.symm h|eb h0 p=>refineλ_ _=>hc (C4 p) λC o k=>?_;clear zz3 o;exact h_ C O k|@dq cl op f e R h=>
  refineλb _=>h_ [e] rfl λd=>?_;show n3 _ e=d;unfold n3;rw[h,if_neg,if_pos];.rfl
  .rcases b with l|n;clear zz3 l;rotate_left 1;clear zz3 n;rotate_right 1
   .exact .inl O
   .exact .inr O
  .rcases b with rfl|rfl<;>decide
 |fg=>exactλw h=>hH<|Eq.symm h|fh h _ _ i=>exactλb hx=>(i b hx).cons (j h (by decide) (by decide) (by decide) (by decide)) O|fst _ _ i=>exactλb hx=>(i b hx).same O|ask h _ i=>exactλb hx=>(i b hx).cons (j h (by decide) (by decide) (by decide) (by decide)) O|eB _ _ _ i=>exactλb hx=>(i b hx).same O|fi _ _ _ _ y z=>exactλb hx=>(y trivial O).aD (z b hx) O|fj=>exactλw h=>hH<|Eq.symm h|fk _ _ i=>exactλb hx=>(i b hx).same O|fl _ _ _ y z=>exactλb hx=>(y trivial O).aD (z b hx) O|fm=>exactλw h=>hH<|Eq.symm h|fo _ _ i=>exactλb hx=>(i b hx).same O|fp h _ _ i=>exactλb hx=>((i b hx).same O).cons (j h (by decide) (by decide) (by decide) (by decide)) O|fq h _ _ _ y z=>exactλb hx=>((y trivial O).aD (z b hx) O).cons (j h (by decide) (by decide) (by decide) (by decide)) O|fr=>exactλw h=>hH<|Eq.symm h
end
section
open PySem
class inductive km (B:List Nat):TS->Z->List Ev->Option (Nat×Nat)->Prop
 |nil {T:TS} {w:Z}:w.bt=.none->w.A=.none->km B T w [] V
 |step {T b:TS} {w w1:Z} {f:Nat} {a:List AV} {e:Ev} {D:List Ev} {x:Option (Nat×Nat)}:w.bt=.au f->w.A=.none->g3.bW f=U a->Gives 18 f a T w (.A e b w1)->km B b w1 D x->km B T w (e::D) x
 |fW {T b:TS} {w:Z} {W:AV->Z} {f:Nat} {a:List AV} {e:Ev} {D:List Ev} {x:Option (Nat×Nat)}:w.bt=.au f->w.A=.none->g3.bW f=U a->Gives 18 f a T w (.e6 e b W)->(∀c,km B b (W c) D x)->km B T w (e::D) x
 |stop {T:TS} {w:Z} {f:Nat} {a:List AV} {p q:Nat}:w.bt=.au f->w.A=.none->g3.bW f=U a->Gives 18 f a T w (.c' (h3 B q) (h3 B p))->km B T w [] (U (p,q))
theorem Run.ft(h:Run T w D T' w')(k:km B T' w' a x):km B T w (D++a) x:=by induction h with|refl=>exact k|step h1 b c d _ e=>exact .step h1 b c d<|e k
theorem qr.ft{T}{w}{D}{p q}(h:qr T w D (h3 B q)<|h3 B p):km B T w D<|U (p,q):=by generalize e:h3 B q=j at h;generalize d:h3 B p=i at h;induction h with|stop h1 a b c=>subst e d;exact .stop h1 a b c|step h1 a b c _ f=>exact .step h1 a b c<|f e d
theorem mm.ft{x}(h:mm B T w D x T' w')(k:x=V->km B T' w' a V):km B T w (D++if x=V then a else[]) x:=by induction x with|none=>exact Run.ft h<|k O|some y=>rw[iL];exact qr.ft h
noncomputable def Yy:TS->Prop| .cons t _=>t.l=[91]\/t.l=[123]|_=>True
theorem Yz{a b start}{T}{R}(f:kS g g w a b start T R):Yy T->kS i l w a b start T R:=by have d:∀{t},t.l=[91]\/t.l=[123]->Not t [q_,[91],[123]]->False:=λh n=>h.elim (λe=>absurd (n _<|.tail _<|.head _) (by rw[e];decide)) λe=>absurd (n _<|.tail _<|.tail _ (.head _)) (by rw[e];decide);induction f with|aU=>exactλh=>absurd (show q_=[91]\/q_=[123]from h) (by decide)|seq=>exactλm=>.seq|map=>exactλm=>.map|fS h=>exact iG h|fT h=>exact iG h|gl h=>exact iG h|eb h1 j c=>exactλh=>(d h c.1).elim|aE h1 j c k=>exactλh=>(d h k.1).elim
theorem yU(e:C=239\/C=251)(N:jI g g w (.cons (.k C a b) r) R):jI d f w (.cons (.k C a b) r) R:=by cases N with|ep aC n c=>exact .ep aC n<|Yz c<|e.imp (λh=>by rw[h];rfl) λh=>by rw[h];rfl
theorem up1(G:Gives 17 f args T w r):Gives 18 f args T w r:=@Gives.up 17 _ _ _ _ _ 1 G
noncomputable def pK(M:List Nat):List Ev:=match M with|[10,46,46,46,10,0]=>[.c1 H,.cS]|[10,45,45,45,32,122,10,0]=>[.c1 g,.dD H,.aU .none .none H g [122] .none,.c1 g,.cS]|_=>[.c1 g,.cS]
theorem C5(h1:w.bt=.au 1361)(a:w.A=.none)(b:w.E=[])(c:w.aF=[]):km B (mo [.k 191 p p]) w [.c1 g,.cS] none:=.step h1 a O (up1<|JL (t:=.k 191 p p) O O)<|.step O a O (up1<|JK (w:=(w.go (.au _))) b c)<|.nil O a
theorem yV(hM:Mk M d)(h1:w.bt=.au 1361)(a:w.A=.none)(b:w.E=[])(c:w.aF=[]):km B (mo<|t_ M pe) w (pK M) none:=by
 induction hM with|aZ=>exact C5 h1 a b c|b=>exact C5 h1 a b c|d=>exact .step h1 a O (up1 WV)<|.step O a O (up1<|JK (w:=(w.go (.au _))) b c)<|.nil O a|di=>
  refine .step h1 a O (up1<|JL (t:=.k 147 pe _) O O)<|.fW O a O (up1<|JJ (by show w.E.length+1+w.aF.length+4*2<=100000;rw[b,c];decide)) λf=>.step O a O (up1<|JM (t:=.aU _ _ _ _ _) O O<|.ep O (λi e=>?_) (.aU O)) ?_;.simp only[h7,rP,or_false]at e;rcases e with rfl|rfl|rfl<;>rfl
  .exact C5 O a b c
end
section
open PySem
noncomputable def Z.cA(z:Z)(b:AV)(a:List Nat)(st:AV)(ms:List Nat):Z:={z with bU:=b,o:=1,E:=a,bt:=st,aF:=ms}
noncomputable def pL(P:List Nat):List Ev:=match P with|[45,45,45,32]=>[.d',.dD H]|[45,32]=>[.d',.dD g,.ea .none .none H (.bool g)]|[107,58,32]=>[.d',.dD g,.dF .none .none H (.bool g),.aU .none .none H g [107] .none]|_=>[.d',.dD g]
noncomputable def ou(P:List Nat):List Ev:=match P with|[45,32]=>[.dT]|[107,58,32]=>[.dG]|_=>[]
theorem yW(h:nB B (Gives 18 f b T w) D x T' w')(h1:w.bt=.au f)(c:w.A=.none)(d:g3.bW f=U b)(k:x=V->km B T' w' a V):km B T w (D++if x=V then a else[]) x:=(h.ec h1 c d).ft k
theorem C6(G:Gives 16 f args T w r):Gives 18 f args T w r:=@Gives.up 16 _ _ _ _ _ 2 G
theorem C7{i}(h:t.l=i)(b:ha i sy=g/\ha i qn=g/\ha i qo=g):Not t [sy,qn,qo]:=λa c=>by
 rw[h];simp only[h7,rP,or_false]at c;rcases c with rfl|rfl|rfl
 .exact b.1
 .exact b.2.1
 .exact b.2.2
theorem YA(h:ot P T p a i is){B M}{d pe}(hM:Mk M d){W} {R} {C G J} {L} (E:C=239\/C=251) (aD:pG W R<|mo (.k C G J::L)) (aE:R.length<=100) (hN:(mo (.k C G J::L)).len<=1000) (av:∀D R' T',RD .node R D V R'->RT W R' T'->R'.length<R.length->T'=mo (nE 0 i pe++t_ M pe)):∃D x R',RD .node R D x R'/\∀z,z.bt=.au 1340->z.A=.none->z.E=[]->z.aF=[]->z.G=B->km B (mo (T++.k C G J::L)) z (pL P++(D++if x=V then ou P++pK M else[])) x:=by
 have gC:(Tk.k C G J).Good:=by rcases E with rfl|rfl<;>rfl
 have m:∀{i},ha [91] i=g->ha [123] i=g->ha (Tk.k C G J).l i=false:=λh1 f=>by rcases E with rfl|rfl;exact h1;exact f
 refine aD.aY λD x R' T' k1 k2 k3=>⟨D,x,R',k1,λz h1 f y A hB=>?_⟩;subst hB;have q:∀{a b c},a<=10->b<=10->c<=10->(z.E.length+a)+(z.aF.length+b)+4*((mo (.k C G J::L)).len+c)<=100000:=λ{a b c} x w u=>by rw[y,A];exact f1 (h9 (h9 (f1 (im<|Nat.zero_add a) x) (f1 (im<|Nat.zero_add b) w)) (jY 4 (h9 hN u))) (by decide)
 have Y:∀{a b} {ms} {tg} {au} {st},a<=10->b<=10->au.length=z.E.length+a->ms.length=z.aF.length+b->Bn (z.cA tg au st ms) R (mo _):=λ{a b ms tg au st} x w Q e2=>⟨by show au.length+ms.length+_<=_;rw[Q,e2,y,A];exact f1 (h9 (h9 (f1 (im<|Nat.zero_add a) x) (f1 (im<|Nat.zero_add b) w)) (jY 4 aE)) (by decide),f1 hN (by decide),f,rfl⟩;haveI o:x=V->T'=mo (nE 0 i pe++t_ M pe):=λe=>by clear zz3 e k1 k2;exact av _ _ _ k1 (k2 O).1 (k2 O).2.1
 haveI Q:∀{t} {r},t.Good->(ha _ _||(ha _ _||ha _ _))=g->z.E.length+1+z.aF.length+4*(TS.cons t r).len<=100000->∀{D x},km _ _ (z.cA _ (1361::z.E) _ z.aF) D x->km z.G _ (z.go _) (.dD _::D) x:=λaC k l D x=>.step O f O (up1<|WR (w:=(z.go<|.au _)) aC k l);haveI e0:∀{r} {D x},km z.G r (z.go _) D x->km z.G (.cons (.a' 0) r) z (.d'::D) x:=.step h1 f O<|up1 WQ;haveI n:(0)<=10:=jd _;haveI j:(1)<=10:=by decide
 haveI s:(2)<=10:=by decide
 clear av;induction h with
 |aZ=>
  refine e0<|Q gC (by rw[m O O,m O O,m O O];rfl) ?_<|yW ((k3 _ 1361 z.E O (Y j n O O)).map λX I=>C6 (tY (yU E I))) O f O λhx=>?_;.exact q j n n
  .rw[o hx];exact yV hM O f y A
 |b=>
  refine e0<|.fW O f O (WT (t:=.k 147 0 3) (r:=mo _) O O<|JJ ?_) λtg=>yW ((k3 (z.cA tg _ _ _) 1361 z.E O<|Y j n O O).map λX I=>up1<|JM gC ?_ (yU E I)) O f O λhx=>?_;.exact q j n n
  .rw[m O O,m O O,m O O,m O O];rfl
  .rw[o hx];exact yV hM O f y A
 |d=>
  refine e0<|Q (t:=.k 203 0 0) (r:=.cons _ _) O O ?_<|.step O f O (C6 (tY ((λr=>.ep O (C7 O ⟨rfl,rfl,rfl⟩)<|.fS O:∀{w} r,jI _ g w (.cons (.k 203 0 0) r)<|.A (.ea _ _ H _) _ _) _))) (yW ((k3 (z.cA (.val _) _ (.au _) (0::z.aF)) 1418 (1361::z.E) O (Y s j O O)).map λX I=>WL ?_ (WJ (w:=z.cA _ _ _ _) gC ?_ ?_ (yU E I))) O f O λhx=>?_);.exact q j n s
  .exact q j j j
  .rw[m O O,m O O];rfl
  .exact q s j n
  .rw[o hx];exact .step O f O (up1<|WK (w:=(z.cA (.val _) _ _ _)) O O)<|yV hM O f y A
 |di=>
  refine e0<|Q (t:=.k 215 0 0) O O ?_<|.step O f O (C6 (tY ((λr=>.ep O (C7 O ⟨rfl,rfl,rfl⟩)<|.fT O:∀{w} r,jI H g w (.cons (.k 215 0 0) r)<|.A (.dF _ _ H _) _ _) _))) (.step O f O (WO ?_ (WM (w:=z.cA _ _ _ _) (t:=.aU _ _ _ 0 1) O O ?_ ((λr=>.ep O (C7 O ⟨rfl,rfl,rfl⟩)<|.aU O:∀r,jI H H (z.cA _ _ (.au 1432) _) (.cons (.aU _ H _ 0 1) r)<|.A (.aU _ _ H g [107] .none) r (z.cA (.val (.ref 1304)) (1361::z.E) (.au 1446) (0::z.aF))) _))) (yW ((k3 (z.cA (.val _) _ (.au _) (0::z.aF)) 1439 (1361::z.E) O (Y s j O O)).map λX I=>up1 (WP (w:=(z.cA _ _ _ _)) gC ?_ ?_ (yU E I))) O f O λhx=>?_));.exact q (c:=4) j n (by decide)
  .exact q (c:=3) j j (by decide)
  .exact q s j s
  .rw[m O O,m O O,m O O];rfl
  .exact q (a:=2) (c:=0) s j n
  .rw[o hx];exact .step O f O (up1<|WN (w:=(z.cA (.val _) _ _ _)) O O)<|yV hM O f y A
end
section
open PySem
theorem C8{sp:Nat->List _}:∀{r:List Sg} {q i},(m7 sp q i r).map (·.1)=r:=by intro r;induction r with|nil=>exact O|cons s r a=>exact congrArg (s::·) (a)
theorem C9(h:∀s∈r,j7 s):∀x∈m7 sp q i r,j7 x.1:=λx hx=>h _ (by rw[<-C8 (sp:=sp) (r:=r) (q:=q) (i:=i)];exact wA hx)
theorem YB:∀{l} {a},(pH B a l).length<=2*l.length:=by
 intro l;induction l with|nil=>exact g' _|cons d l c=>
  obtain⟨s,p⟩:=d;intro a;haveI:=c (a:=n2 s);dsimp only[Ki];generalize (a&&ly _&&il B p l _)=b;rw[hz,];induction b;.show 0+_<=_;exact jM<|je<|h9 this (by decide)
  .show 1+_<=_;exact jM<|je<|h9 this (by decide)
theorem YC:∀{l} {a},(m8 B eE a l).length<=2*l.length+1:=by
 intro l;induction l with|nil=>exact g' _|cons d l c=>
  obtain⟨s,p⟩:=d;intro a;haveI:=c (a:=oY s);dsimp only[vZ];generalize (a&&ly _&&il B p l _)=b;rw[hz,];induction b;.show 0+_<=_;exact jM<|je<|uP (h9 this (by decide))
  .show 1+_<=_;exact jM<|je<|uP (h9 this (by decide))
theorem Kv:∀l,(mo l).len=l.length:=by intro l;induction l with|nil=>exact O|cons _ l a=>exact congrArg _ (a)
theorem YD(hM:Mk M d):∃t al,nE f i pe++t_ M pe=t::al/\sC ⟨qp,pe,nm,ar⟩ t/\al.length<=3:=by
 unfold nE;split
 .refine l' _ _ O ⟨rfl,rfl,rfl,.inr<|.inr<|.inr O⟩ ?_;haveI a:1<=3:=by decide
  induction hM;.exact a
  .exact a
  .exact(by decide:2<=3)
  .exact g' 3
 .induction hM;.exact l' _ _ O ⟨rfl,rfl,rfl,.inl O⟩<|jd 3
  .exact l' _ _ O ⟨rfl,rfl,rfl,.inl O⟩<|jd 3
  .exact l' _ _ O ⟨rfl,rfl,rfl,.inr<|.inl O⟩<|lC<|jd 2
  .exact l' _ _ O ⟨rfl,rfl,rfl,.inr<|.inr<|.inl O⟩<|lC<|lC (jd 1)
theorem YE(h:ot P T p a i is){e:Sg}(h0:e.d=91\/e.d=123)(hs:∀i,Sep<|sp i)(hM:Mk M d)(av:∀s∈r,j7 s)(aI:t7 r)(au:sK 1 r)(hl:r.length<=12)(hB:B=P++e.d::tb sp 1 r M):∃D x R',RD .node (e.bJ P.length::m8 B ⟨qp,qs sp (P.length+1) 1 r+d,[],.none⟩ H (m7 sp (P.length+1) 1 r)) D x R'/\∀z,z.G=B->h6 z->lN z z.G [.a' 0] 0 H (-1) []->z.bt=.au 1340->z.A=.none->z.E=[]->z.aF=[]->∃G,km z.G G z (pL P++(D++if x=V then ou P++pK M else[])) x/\ql G z g/\G.len<=1000:=by
 have b:=λz (L:z.G=B) aN A=>Ys h h0 hs hM av aI au (z:=z) (L.trans hB) aN A;generalize aJ:qs sp _ 1 r+d=pe at b ⊢;generalize o:m7 sp _ 1 r=l at b ⊢;have j:l.map (·.1)=r:=by rw[<-o];exact C8
 have w:l.length=r.length:=by rw[<-j,ig]
 refine i0 (YD (f:=t9 1 r) (i:=i) (pe:=pe) (nm:=[]) (ar:=.none) hM) λt al e1 e2 e3=>?_;obtain⟨m,k,aH⟩:∃m,e.I B P.length=.k m P.length (P.length+1)/\(m=239\/m=251):=by
  exists y;obtain⟨c,x,pl⟩:=e;clear hs;rcases h0 with h|h
  .cases h;exact y<|h_ _ O<|.inl O
  .cases h;exact y<|h_ _ O<|.inr O
 have Y:ml (e.bJ P.length)<|.k m P.length (P.length+1):=by
  obtain⟨c,x,pl⟩:=e;clear hs;rcases h0 with h|h
  .cases h;cases k;exact .k (c:=91) O jk
  .cases h;cases k;exact .k (c:=123) O jk
 haveI aM:=Yw (B:=B) (al:=al) e2 (a:=H) (by rw[<-o];exact C9 av:∀q∈l,j7 _);haveI aK:=YB (B:=B) (l:=l) (a:=H);haveI hT:T.length<=5:=by induction h<;>decide
 refine kM (YA (B:=B) h (pe:=pe) hM aH (Xy<|.cons Y aM) (f1 (h9 (f1 (YC (B:=B) (eE:=⟨qp,pe,[],.none⟩) (l:=l) (a:=H))<|h9 (jY _<|f1 (im w) hl)<|g' _)<|g' _) (by decide)) (by rw[Kv];simp only[mT,hz];exact f1 (h9 (h9 (f1 aK<|jY _<|f1 (im w) hl)<|h9 e3<|g' _)<|g' _) (by decide)) λD R' T' aL Q aD=>by
  refine hc (Yx aL trivial O) λE n b2=>?_;haveI b3:=b2 0;refine jj (rg Q) λee RR I=>?_;clear e2;induction E with|nil=>rw[ur]at n;rw[<-n]at aD;exact absurd aD<|jP _|cons cc E=>
   exists y;injection n with n b4
   clear zz3 (Eq.symm n) b3;haveI b5:=by haveI:nF _ E=0:=b3;rw[Ku]at this;rwa [(by rcases h0 with h|h<;>rw[h]<;>rfl:kl 0 e.d=1)]at this
   refine hv (row_pre (λh=>absurd h (by decide)) (by rw[j];exact au) b4 (by rw[I];exact z_ _ _) b5) λc1 c2=>?_;rw[j]at c2;rw[c1]at Q;refine y ?_;rw[Yt Q,<-e1,c2]) λD x R' k1 k2=>⟨D,x,R',k1,λz L aN A h1 aE aF aG=>?_⟩
 clear zz3 (Eq.symm L) b k2;refine hc (b z O aN A) λF C hF=>⟨_,k2 z h1 aE aF aG O,?_,?_⟩
 .rw[h2,e1,k]at hF;haveI aO:=J' _ O ⟨C,λq J=>(by rw[A.J]at J;cases J),A.aG,jd _,λq J=>jd _⟩;haveI:F.I.drop 0=T++.k m P.length (P.length+1)::(pH z.G H l++t::al):=by rw[List.drop_zero,hF];simp only[h2,zy,ur]
  rw[this]at aO;exact aO
 .rw[Kv];simp only[mT,hz];exact f1 (h9 hT (Nat.succ_le_succ (h9 (f1 (by rw[L];exact aK) (jY 2 (f1 (im w) hl))) (Nat.succ_le_succ e3)))) (by decide)
end
section
open PySem
noncomputable def C_:List (Nat×Nat×Nat×DS):=[(1532,1,1,UN),(1539,3,4,IN),(1546,4,7,yi),(1553,4,4,UO),(1560,1,4,IP),(1567,4,12,Ce),(1574,2,6,IQ),(1581,3,10,IR),(1588,5,7,IS),(1595,1,1,UP),(1602,1,1,UQ)]
structure kB (C:Nat->PC):Prop where
 eI:Sys C
 c:∀{d f a n:Nat} {e:DS} {args:List AV} {st:St} {Q:AV->St->Prop} {X:h5->St->Prop},lk f C_=U (a,n,e)->args.length=a->WS g3 (C d) e (args.map U++rG (n - a) V) st ⟨λb st=>Q .none st,Q,λb b=>False,λb=>X⟩->C (d+1) f args st Q X
noncomputable def g2.i(m:g2):St:=⟨V,V,V,V,V,V,m.j,m.f⟩
structure g2.A (c:List Nat)(a b:g2):Prop where
 n:a.f<=b.f
 aT:∀k,k<a.f->k∉c->b.j k=a.j k
theorem g2.A.refl(c)(a):g2.A c a a:=⟨g' _,λb b b=>rfl⟩
theorem g2.A.trans(x:g2.A e a b)(y:g2.A e b c):g2.A e a c:=⟨f1 x.n y.n,λk h h'=>(y.aT k (hy h x.n) h').trans<|x.aT k h h'⟩
theorem g2.A.set(x:g2.A l a b){n}(c)(h:n∈l\/a.f<=n):g2.A l a<|b.set n c:=⟨x.n,λk f hs=>by
 rw[g2.cr _ _ λe=>?_];.exact x.aT k f hs
 .subst e;rcases h with h|h
  .exact hs h
  .apply Ac<;>right⟩
theorem g2.A.add(x:g2.A h a b)(c):g2.A h a<|b.add c:=⟨f1 x.n<|iA _,λk e hs=>by rw[g2.fP _ _ (by haveI:=x.n;exact iI (hy e this))];exact x.aT k e hs⟩
theorem g2.A.sub{a b}(x:g2.A l a b)(h:∀n∈l,n∈c\/a.f<=n):g2.A c a b:=⟨x.n,λk f hs=>x.aT k f λe=>by
 rcases h k e with h|h
 .exact hs h
 .exact absurd f (j9.mpr h)⟩
theorem g2.A.at(x:g2.A k a b){n}(e:n<a.f)(hs:n∉k)(h:a.j n=U c):b.j n=U c:=(x.aT n e hs).trans h
noncomputable def ro(l:List Int):MC:=.m (l.map .int)
noncomputable def jb(c:Nat):AV:=.str [c]
noncomputable def iJ(l:List Nat):MC:=.m (l.map jb)
noncomputable def i_(c:Nat):Prop:=c∈([91,123,93,125,44,63,45,58,42,38,33,119]:List Nat)
theorem YF(h:st.j n=U (.m l)):nS st (.mut<|.j n)=U (!l.isEmpty):=by show w_ (st.j n)=_;rw[h];rfl
section
variable{C:Nat->PC}(Y:kB C){Q:AV->St->Prop}{X:h5->St->Prop}{d:Nat}
include Y
theorem yX(h:m.j t=U (ro l))(k:∀v m' a,g2.A [t] m m'->m'.j t=U (ro a)->Q (.int v) m'.i):C (d+1) 1532 [.mut<|.j t] m.i Q X:=by refine Y.c O O ?_;left;rw[YF h];induction l with|nil=>exact k 0 m _ (.refl _ _) h|cons v l=>left;rw[show m.i.cell (.j t)=U _ from h];exact k v (m.set t<|ro l) l ((g2.A.refl _ m).set _<|.inl<|.head _)<|g2.bp _ _ _
end
noncomputable def kT:Nat->Nat|0=>3|n+1=>2+(3+3*(3+2*kT n))
noncomputable def v0(n:Nat):Nat:=3+3*(3+2*kT n)
noncomputable def rp(C:Nat->PC)(d f:Nat)(args:List AV)(t r B:Nat)(b:Bool):Prop:=∀{Q:AV->St->Prop} {X:h5->St->Prop} {m:g2} {l:List Int} {am:List Nat},t≠r->t<m.f->r<m.f->m.j t=U (ro l)->m.j r=U (iJ am)->am.length+B<=100000->
 (∀m' e a,g2.A [t,r] m m'->m'.j t=U (ro e)->m'.j r=U (iJ (am++a))->a.length<=B->(∀c∈a,i_ c)->(b=H->2<=a.length/\∃c u,a=c::u/\(c=91\/c=123))->Q .none m'.i)->C d f args m.i Q X
theorem YG:iJ (am++[c])=.m (am.map jb++[jb c]):=by unfold iJ;rw[k4];rfl
noncomputable def DS.g4:DS->DE| .y e=>e|_=>.aE
theorem pM{k}(h:n=((k:Nat):Int))(b:0<k):∃j,j<k/\kW v n=((j:Nat)):=by haveI a:=h▸pd.mpr b;haveI h1:=(zI<|Int.fmod_nonneg_of_pos v a).symm;exact⟨_,pd.mp (h1▸h▸Int.fmod_lt_of_pos v a),h1⟩
theorem YH:∃j,j<7/\kW (qB v 6) 7=((j:Nat)):=pM O (by decide)
theorem sL{a b M:g2}(h:a.add c=b)(l:b.le M):M.j a.f=U c:=by subst h;exact l.at (kY _)<|g2.bu _ _
theorem ov{P:Nat->Prop}(h:n<k+1)(a:P 0)(b:∀m,m<k->P (m+1)):P n:=Nat.casesOn n (λc=>a) (λm h=>b m<|MS h) h
@[elab_as_elim]theorem mq {P:Nat->Prop} (h:n<4) (a:P 0) (b:P 1) (c:P 2) (d:P 3):P n:=ov h a λe h=>ov (P:=λm=>P (m+1)) h b λe h=>ov (P:=λm=>P (m+2)) h c λe h=>ov (P:=λm=>P (m+3)) h d λe h=>absurd h<|p3 _
@[elab_as_elim]theorem YI {P:Nat->Prop} {n} (h:n<7) (a:P 0) (b:P 1) (c:P 2) (d:P 3) (e:P 4) (f:P 5) (aC:P 6):P n:=ov h a λi h=>ov (P:=λm=>P (m+1)) h b λi h=>ov (P:=λm=>P (m+2)) h c λi h=>mq (P:=λm=>P (m+3)) h d e f aC
theorem YJ{K:St->Prop}(h:m.j r=U (iJ am))(aN:r<m.f)(hl:am.length<=100000)(k:∀m' lt,g2.A [r] m m'->m'.j r=U (iJ (am++lt))->lt.length<=2->(∀c∈lt,i_ c)->K m'.i)(y:m.add (iJ [])=l)(z:l.add (iJ [38])=w)(A:w.add (iJ [33])=o)(B:o.add (iJ [33,38])=p)(D:p.add (iJ [38,33])=s)(E:s.add (iJ [])=t)(I:t.add (iJ [])=T)(au:T.add (.m [.mut<|.j m.f,.mut<|.j l.f,.mut<|.j w.f,.mut<|.j o.f,.mut<|.j p.f,.mut<|.j s.f,.mut<|.j t.f])=f){G:Prop}(aC:oL (.mut<|.j r) (.mut<|.j m.f) f.i (λe st=>K st)->oL (.mut<|.j r) (.mut<|.j l.f) f.i (λe st=>K st)->oL (.mut<|.j r) (.mut<|.j w.f) f.i (λe st=>K st)->oL (.mut<|.j r) (.mut<|.j o.f) f.i (λe st=>K st)->oL (.mut<|.j r) (.mut<|.j p.f) f.i (λe st=>K st)->oL (.mut<|.j r) (.mut<|.j s.f) f.i (λe st=>K st)->oL (.mut<|.j r) (.mut<|.j t.f) f.i (λe st=>K st)->G):G:=by
 haveI l0:m.le l:=y▸ .add _ _;haveI l1:l.le w:=z▸ .add _ _;haveI l2:w.le o:=A▸ .add _ _;haveI aH:o.le p:=B▸ .add _ _;haveI aI:p.le s:=D▸ .add _ _;haveI aJ:s.le t:=E▸ .add _ _;haveI aO:t.le T:=I▸ .add _ _;haveI aF:=(au▸ .add _ _:T.le f);haveI g5:=aO.trans aF;haveI g4:=aJ.trans g5;haveI aE:=aI.trans g4;haveI aD:=aH.trans aE;haveI g1:=l2.trans aD;haveI g0:=l1.trans g1;haveI gm:=l0.trans g0;have b:∀x c,f.j x=U (iJ c)->m.f<=x->c.length<=2->(∀a∈c,i_ a)->oL (.mut<|.j r) (.mut<|.j x) f.i λe=>K:=λx c hx ne aG aL=>by refine IY (gm.at aN h) hx (λq=>iI (hy aN ne) (uT q)) (by rw[ig,ig];exact f1 (h9 hl aG) (by decide)) ?_;rw[<-k4];exact k _ c ((g2.A.mk gm.1 λn aM e=>gm.2 n aM).set _<|.inl<|.head _) (g2.bp _ _ _) aG aL
 haveI j:i_ 38:=by unfold i_;decide
 haveI i:i_ 33:=by unfold i_;decide
 haveI J:=l0.1;have L:=l1.1;have M:=l2.1;have av:=aH.1;haveI aK:=aI.1;haveI aP:=aJ.1;exact aC (b _ _ (sL y g0) (g' _) (jd _) λe h=>by cases h) (b l.f [38] (sL z g1) (by assumption) (iA _) λe h=>by cases iv.mp h;exact j) (b _ [33] (sL A aD) (by apply f1<;>right) (iA _) λe h=>by cases iv.mp h;exact i) (b o.f [33,38] (sL B aE) (by exact f1 (f1 J L) M) (g' _) λc h=>by rcases h7.mp h with rfl|h;exact i;cases iv.mp h;exact j) (b p.f [38,33] (sL D g4) (by exact f1 (f1 (f1 J L) M) av) (g' _) λc h=>by rcases h7.mp h with rfl|h;exact j;cases iv.mp h;exact i) (b s.f [] (sL E g5) (by exact f1 (f1 (f1 (f1 J L) M) av) aK) (jd _) λe h=>by cases h)<|b t.f [] (sL I aF) (by exact f1 (f1 (f1 (f1 (f1 J L) M) av) aK) aP) (jd _) λe h=>by cases h
theorem YK{K:St->Prop}(h:m.j r=U (iJ am))(s:r<m.f)(hl:am.length<=100000)(k:∀m' a,g2.A [r] m m'->m'.j r=U (iJ (am++a))->a.length<=2->(∀c∈a,i_ c)->K m'.i):WE g3 C IN.snd.snd.fst.g4 [t,w,U<|.mut<|.j r,U<|.int v] m.i (λx st=>K st) X:=by refine hc (YH (v:=v)) λj q e=>q6 h ?_;left;rw[Cj,e];exact YJ h s hl k O O O O O O O O λb f i l n o p=>YI q b f i l n o p
end
section
open PySem
theorem YL{m:g2}:m.i.ba (.j r) (.m (am.map jb++[jb c]))=(m.set r<|iJ (am++[c])).i:=by rw[YG];rfl
theorem v8{m:g2}{K:St->Prop}(h0:ρ[i]?=U (U<|.mut<|.j r))(h:m.j r=U (iJ am))(hl:am.length<1000000)(he:∀Q,Q (jb c) m.i->WE T C e ρ m.i Q X)(k:K (m.set r<|iJ (am++[c])).i):WE T C (.aD (.j i) e) ρ m.i (λa st=>K st) X:=pn (T:=T) (C:=C) (X:=X) h0<|q6 h<|he _<|qk h (by rw[ig];exact hl) (by rw[YL];exact k)
section
variable{C:Nat->PC}(Y:kB C){d:Nat}
include Y
theorem C'{t r n:Nat}(R:∀k,n=k+1->∀b,rp C (d+1) 1546 [.mut<|.j t,.int (k+1:Nat),.mut<|.j r,.bool b] t r (v0 k) H):rp C (d+2) 1539 [.mut<|.j t,.int n,.mut<|.j r] t r (kT n) false:=by
 intro Q X m l am j z w h1 o s k;have A:3<=kT n:=by cases n with|zero=>exact g' 3|succ k=>exact f1 (ih 3 _)<|jv _ 2
 refine Y.c O O<|yX Y h1 λv m1 l1 e h1=>?_;haveI o:=e.at w (λh=>j (iv.mp h).symm) o;have e:g2.A [t,r] m m1:=e.sub λn h=>.inl (by cases iv.mp h;exact .head _);left;induction L:decide (v.fmod 6=5)with|true=>exact v8 (ρ:=[U _,U _,U _,U _]) (i:=2) O o ((iy<|f1 (hJ (f1 (by decide) A) _)<|f1 s (by decide))) (λQ q=>q)<|k _ l1 [42] (e.set _<|.inl<|.tail _ (.head _)) (by rw[g2.cr _ _ j];exact h1) (g2.bp _ _ _) (by show 1<=_;exact f1 (by decide) A) (λc h=>by cases iv.mp h;unfold i_;decide) λh=>(iG h)|false=>
  refine YK o (hy w e.n) ((f1 (ih _ _) s)) λm2 J f x hl y=>?_;have h1:=f.at (hy z e.n) (λh=>j<|iv.mp h) h1;have f:=e.trans<|f.sub λn h=>.inl (by cases iv.mp h;exact .tail _<|.head _);haveI a:WS g3 (C (d+1)) (.y<|.aD (.j 2)<|.aI (.str [119])) [U<|.mut<|.j t,U<|.int n,U _,U<|.int v] _ ⟨λp=>Q _,Q,λp p=>False,λp=>X⟩:=v8 O x (by rw[hz];exact Nat.lt_of_le_of_lt (f1 (hJ (f1 hl<|f1 (by decide) A) _) s) (by decide)) (λQ q=>q)<|k _ l1 _ (f.set _<|.inl<|.tail _ (.head _)) (by rw[g2.cr _ _ j];exact h1) (by rw[<-h2];exact g2.bp _ _ _) (by rw[hz];apply lB<;>right) (λc h=>by
   rcases li.mp h with h|h
   .exact y c h
   .cases iv.mp h;unfold i_;decide) λh=>(iG h)
  induction n with|zero=>exact a|succ n=>
   left;induction M:decide (v.fmod 6<2)with|true=>exact a|false=>
    refine R n O _ j (hy z f.n) (hy w f.n) h1 x (by rw[hz];exact je<|f1 (hJ (iq hl _) _) s) λm3 I yY B g1 D E G p=>k m3 I (J++yY) (f.trans<|B.sub λn=>.inl) g1 (by rw[<-h2];exact D) (by rw[hz];exact h9 hl E) (λc h=>?_) λh=>(iG h);rcases li.mp h with h|h
    .exact y c h
    .exact G c h
end
end
section
open PySem
structure Pg (m0:g2)(bc aX:Nat)(am:List Nat)(B:Nat)(m:g2):Prop where
 e:g2.A [bc,aX] m0 m
 bc:∃l,m.j bc=U (ro l)
 aX:∃a,m.j aX=U (iJ (am++a))/\a.length<=B/\(∀c∈a,i_ c)/\(1<=B->∃c u,a=c::u/\(c=91\/c=123))
section
variable{C:Nat->PC}(Y:kB C){d:Nat}{m0:g2}{t r:Nat}{am:List Nat}
theorem v9{C}{i B c}{K:St->Prop}{X}{e}(x:t≠r)(P:Pg m0 t r am B m)(s:am.length+B<1000000)(w:i_ c)(h1:1<=B\/c=91\/c=123)(h0:ρ[i]?=U (U<|.mut<|.j r))(he:∀Q,Q (jb c) m.i->WE T C e ρ m.i Q X)(k:∀m',Pg m0 t r am (B+1) m'->K m'.i):WE T C (.aD (.j i) e) ρ m.i (λy st=>K st) X:=by
 refine kf λp=>hE P.bc λl hl=>ph P.aX λb f j n o=>p<|v8 h0 f (by rw[hz];exact iy<|f1 (iq (hJ j _) _)<|jD s) he<|k _ ⟨P.e.set _<|.inl (.tail _ (.head _)),⟨l,by rw[g2.cr _ _ x];exact hl⟩,b++[c],by rw[<-h2];exact g2.bp _ _ _,by rw[hz];apply lC<;>right,λa h=>?_,λy=>?_⟩
 .rcases li.mp h with h|h
  .exact n a h
  .cases iv.mp h;exact w
 .by_cases hB:1<=B;.exact jC (o hB) λa u e q=>⟨a,u++[c],by rw[e];rfl,q⟩
  .haveI:b=[]:=zK (Nat.le_zero.mp<|f1 j<|Nat.le_of_lt_succ<|Nat.not_le.mp hB);exact⟨c,_,by rw[this];rfl,h1.resolve_left hB⟩
include Y
theorem Kw(j:t≠r)(o:t<m0.f)(f:r<m0.f)(P:Pg m0 t r am B m)(k:∀v m',Pg m0 t r am B m'->Q (.int v) m'.i):C (d+1) 1532 [.mut<|.j t] m.i Q X:=kf λe=>hE P.bc λl hl=>hc P.aX λi b c=>e<|yX Y hl λv m1 l1 a h1=>k v m1 ⟨P.e.trans<|a.sub λn h=>.inl (by cases iv.mp h;exact .head _),⟨l1,h1⟩,i,a.at (hy f P.e.n) (λh=>j (iv.mp h).symm) b,c⟩
omit Y in
theorem Ky(E:t≠r)(z:t<m0.f)(y:r<m0.f)(R:rp C d f args t r N G)(hB:1<=B)(P:Pg m0 t r am B m)(x:am.length+B+N<=100000)(k:∀m',Pg m0 t r am (B+N) m'->Q .none m'.i):C d f args m.i Q X:=by
 refine hE P.bc λl hl=>ph P.aX λD p c q s=>R E (hy z P.e.n) (hy y P.e.n) hl p (by rw[hz];exact f1 (iq (hJ c _) _) x) λm' A b i g1 j n o I=>k m' ⟨P.e.trans i,⟨A,g1⟩,D++b,by rw[<-h2];exact j,by rw[hz];exact h9 c n,λa h=>?_,λI=>(jC (s hB) λa u e w=>⟨a,u++b,by rw[e];rfl,w⟩)⟩
 .rcases li.mp h with h|h
  .exact q a h
  .exact o a h
end
noncomputable def t':DS:=yi.snd.snd.fst.bE
theorem YM(v):∃j,j<5/\kW v 5=((j:Nat)):=pM O (by decide)
section
variable{C:Nat->PC}(Y:kB C){d:Nat}{m0:g2}{t r:Nat}{am:List Nat}
include Y
theorem YN{n:Nat}{b}{v}(f:t≠r)(o:t<m0.f)(l:r<m0.f)(R:rp C (d+1) 1539 [.mut<|.j t,.int n,.mut<|.j r] t r (kT n) g){B i:Nat}(hB:1<=B)(P:Pg m0 t r am B m)(c:am.length+(B+(3+2*kT n))<=100000)(K:∀a m' a6,a<=B+(3+2*kT n)->1<=a->Pg m0 t r am a m'->k.n [U<|.mut<|.j t,U<|.int (n+1:Nat),U<|.mut<|.j r,U<|.bool b,U<|.int v,U<|.int i,a6] m'.i):WS g3 (C (d+1)) t' [U<|.mut<|.j t,U<|.int (n+1:Nat),U<|.mut<|.j r,U<|.bool b,U<|.int v,U<|.int i,a6] m.i k:=by
 have e:i_ 44/\i_ 63/\i_ 58:=by unfold i_;decide
 have p:((n+1:Nat)) - 1=(n:Int):=Int.add_sub_cancel n 1;have s:∀B m,1<=B->am.length+(B+(2+2*kT n))<=100000->Pg m0 t r am B m->(∀a m' a6,a<=B+(2+2*kT n)->1<=a->Pg m0 t r am a m'->k.n [U<|.mut<|.j t,U<|.int (n+1),U<|.mut<|.j r,U<|.bool b,U<|.int v,U<|.int i,a6] m'.i)->WS g3 (C (d+1)) t'.snd [U<|.mut<|.j t,U<|.int (n+1:Nat),U<|.mut<|.j r,U<|.bool b,U<|.int v,U<|.int i,a6] m.i k:=by
  clear P c K;intro B m hB c P K;have z:∀B m (w:Nat),1<=B->am.length+(B+(1+kT n))<=100000->Pg m0 t r am B m->(∀a m' a6,a<=B+(1+kT n)->1<=a->Pg m0 t r am a m'->k.n [U<|.mut<|.j t,U<|.int (n+1:Nat),U<|.mut<|.j r,U<|.bool b,U<|.int v,U<|.int i,a6] m'.i)->WS g3 (C (d+1)) t'.snd.snd.snd.snd [U<|.mut<|.j t,U<|.int (n+1:Nat),U<|.mut<|.j r,U<|.bool b,U<|.int v,U<|.int i,U<|.int w] m.i k:=by
   clear P c K;intro B m w hB c P K;haveI j:WS _ _ t'.snd.snd.snd.snd.dl [U<|.mut<|.j t,U<|.int (n+1:Nat),U _,U<|.bool b,U<|.int v,U<|.int i,U<|.int w] _ k:=by refine v9 (T:=g3) (C:=C (d+1)) (ρ:=[U<|.mut<|.j t,U<|.int (n+1:Nat),U _,U<|.bool b,U<|.int v,U<|.int i,U<|.int w]) (i:=2) f P ((iy<|je<|f1 (hJ (hJ (ih _ _) _) _) (f1 c (by decide)))) e.2.2 (.inl hB) O (λQ q=>q) λm1 P=>?_;left;induction decide ((w:Int)=2)with|true=>exact K _ _ _ (by apply hJ<;>right) (by apply jw<;>right) P|false=>left;rw[p];exact Ky f o l R (by apply jw<;>right) P ((je<|f1 (hJ (kD<|g' _) _) c)) λm2=>K _ _ _ ((kD<|g' _)) (by apply pW<;>right)
   left;induction decide ((2)<(w:Int))with|true=>exact j|false=>induction b with|false=>exact K _ _ _ (by apply ih<;>right) hB P|true=>left;induction decide ((0)<(w:Int))with|true=>exact j|false=>exact K _ _ _ (by apply ih<;>right) hB P
  have x:∀B m (w:Nat),1<=B->am.length+(B+(1+2*kT n))<=100000->Pg m0 t r am B m->(∀a m' a6,a<=B+(1+2*kT n)->1<=a->Pg m0 t r am a m'->k.n [U<|.mut<|.j t,U<|.int (n+1:Nat),U<|.mut<|.j r,U<|.bool b,U<|.int v,U<|.int i,a6] m'.i)->WS g3 (C (d+1)) t'.snd.snd.snd [U<|.mut<|.j t,U<|.int (n+1:Nat),U<|.mut<|.j r,U<|.bool b,U<|.int v,U<|.int i,U<|.int w] m.i k:=by clear P c K;intro B m w hB c P K;left;rw[p];exact Ky f o l R hB P (je<|f1 (hJ (hJ (f1 (Nat.le_mul_of_pos_left _ (by decide)) (Nat.le_add_left _ 1)) B) _) c) λm2 P=>z _ m2 w (by apply hy<;>right) (f1 (hJ (im<|Zx4 ..) _) c) P λa m' a6 h=>K a m' a6 (f1 h (im<|Zx4 ..))
  refine Kw Y f o l P λu m1 P=>?_;left;refine hc (YM u) λw A y=>?_;rw[y];induction decide ((w:Int)=4)with|true=>exact v9 f P ((iy<|je<|f1 (hJ (hJ (l_ (by decide)) _) _) (f1 c (by decide)))) e.2.1 (.inl hB) O (λQ q=>q) λm2 P=>x _ m2 w (by apply jw<;>right) ((f1 (hJ (je<|hJ (qM<|iq (by decide) _) _) _) c)) P λa m' a6 h=>K a m' a6 ((f1 h<|je<|hJ (qM (iq (by decide) _)) _))|false=>exact x B m1 w hB ((f1 (hJ (hJ (iq (by decide) _) _) _) c)) P λa m' a6 h=>K a m' a6 ((f1 h<|hJ (iq (by decide) _) _))
 left;induction decide ((0)<(i:Int))with|true=>exact v9 f P ((iy<|je<|f1 (hJ (hJ (l_ (by decide)) _) _) (f1 c (by decide)))) e.1 (.inl hB) O (λQ q=>q) λm2 P=>s _ m2 (by apply jw<;>right) ((f1 (hJ (je<|hJ (qM<|iq (by decide) _) _) _) c)) P λa m' a6 h=>K a m' a6 ((f1 h<|je<|hJ (qM (iq (by decide) _)) _))|false=>exact s B m hB ((f1 (hJ (hJ (iq (by decide) _) _) _) c)) P λa m' a6 h=>K a m' a6 ((f1 h<|hJ (iq (by decide) _) _))
end
end
section
open PySem
theorem YO(v):∃j,j<4/\kW v 4=((j:Nat)):=pM O (by decide)
section
variable{C:Nat->PC}(Y:kB C){d:Nat}{m0:g2}{t r:Nat}{am:List Nat}
include Y
theorem YQ{n:Nat}{b}{v}(s:t≠r)(p:t<m0.f)(o:r<m0.f)(R:rp C (d+1) 1539 [.mut<|.j t,.int n,.mut<|.j r] t r (kT n) g){k}:∀(j i B:Nat) a a6 m,1<=B->Pg m0 t r am B m->am.length+(B+j*(3+2*kT n))<=100000->(∀c m' a a6,c<=B+j*(3+2*kT n)->1<=c->Pg m0 t r am c m'->k.n [U<|.mut<|.j t,U<|.int (n+1:Nat),U<|.mut<|.j r,U<|.bool b,U<|.int v,a,a6] m'.i)->ll (WS g3 (C (d+1)) t') [5] (λw=>True) k (p7 i j) [U<|.mut<|.j t,U<|.int (n+1:Nat),U<|.mut<|.j r,U<|.bool b,U<|.int v,a,a6] m.i:=by intro j;induction j with|zero=>exactλi B a a6 m hB P e K=>⟨trivial,K B m a a6 (by apply ih<;>right) hB P⟩|succ j q=>intro i B a a6 m hB P e K;rw[Nat.succ_mul]at e K;refine⟨trivial,?_⟩;exact YN Y s p o R hB P ((f1 (hJ (hJ (jv _ _) _) _) e)) λc m' a6 h1 h P=>q _ c _ a6 m' h P ((f1 (hJ (kD<|uP<|iq h1 _) _) e)) λf m2 a a6 l=>K f m2 a a6 ((kD<|f1 l<|uP (iq h1 _)))
theorem Db{n:Nat}(R:rp C (d+1) 1539 [.mut<|.j t,.int n,.mut<|.j r] t r (kT n) g):rp C (d+2) 1546 [.mut<|.j t,.int (n+1:Nat),.mut<|.j r,.bool b] t r (v0 n) true:=by
 intro Q X m l am y E D h1 au A k;unfold v0 at A k;haveI w:i_ (bif b then 123 else 91)/\i_ (bif b then 125 else 93)/\i_ 44:=by induction b<;>(unfold i_;decide)
 haveI P:Pg m t r am 0 m:=⟨.refl _ _,⟨l,h1⟩,_,by rw[iL];exact au,g' _,(λp h=>by cases h),λh=>absurd h (by decide)⟩;refine Y.c O O<|v9 (ρ:=[U _,U _,U _,U _,V,V,V]) (i:=2) (e:=.cc _ _ _) y P ((iy<|je<|f1 (hJ (l_ (by decide)) _) (f1 A (by decide)))) w.1 (.inr (by induction b;exact .inl O;exact .inr O)) O (λQ q=>by induction b<;>exact q) λm1 P=>Kw Y y E D P λv m1 P=>?_;have s:∀B m1 o a6,B<=2+3*(3+2*kT n)->1<=B->Pg m t r am B m1->WS g3 (C (d+1)) (.y<|.aD (.j 2)<|.cc (.j 3) (.aI (.str [125])) (.aI (.str [93]))) [U<|.mut<|.j t,U<|.int (n+1:Nat),U<|.mut<|.j r,U<|.bool b,U<|.int v,o,a6] m1.i ⟨λp=>Q .none,Q,λp p=>False,λp=>X⟩:=by
  refineλB m1 o a6 hB f P=>hE P.bc λl1 hl=>ph P.aX λG L aE M T=>jC (T f) λa u e aD=>v8 (c:=bif b then 125 else 93) O L (by rw[hz];exact Nat.lt_of_le_of_lt (f1 (hJ (f1 (f1 aE hB) (iq (by decide) _)) _) A) (by decide)) (λQ q=>by induction b<;>exact q) ?_;refine k _ l1 (G++[bif b then 125 else 93]) (P.e.set _<|.inl<|.tail _ (.head _)) (by rw[g2.cr _ _ y];exact hl) (by rw[<-h2];exact g2.bp _ _ _) (by rw[hz];exact f1 (Nat.succ_le_succ<|f1 aE hB) (im (Nat.succ_add 2 _).symm)) (λc h=>?_) λp=>⟨by rw[e];simp,a,_,by rw[e];rfl,aD⟩;rcases li.mp h with h|h
  .exact M c h
  .cases iv.mp h;exact w.2.1
 haveI z:∀B m1 o a6,B<=1+3*(3+2*kT n)->1<=B->Pg m t r _ B m1->WS _ _ yi.snd.snd.snd [U _,U _,U<|.mut _,U _,U<|.int v,o,a6] _ _:=by intro B m1 o a6 hB f P;left;induction decide ((0)<v.fmod 4)with|false=>exact s B m1 o a6 ((f1 hB<|iq (by decide) _)) f P|true=>left;induction decide ((v.fdiv 4).fmod 4=1)with|false=>exact s B m1 o a6 ((f1 hB<|iq (by decide) _)) f P|true=>exact v9 y P (Nat.lt_of_le_of_lt (f1 (hJ (f1 hB (iq (by decide) _)) _) A) (by decide)) w.2.2 (.inl f) O (λQ q=>q) λm2=>s _ m2 o a6 (f1 (Nat.succ_le_succ hB) (im (Nat.succ_add 1 _).symm)) (by apply jw<;>right)
 refine kf λav=>hc (YO v) λj aF J=>?_;haveI go:=by
  haveI:0<=kW v 4/\kW v 4<=1000/\ll _ _ _ ⟨λρ st=>WS _ _ yi.snd.snd.snd ρ st _,Q,λp p=>False,λp=>X⟩ (p7 0 (kW v 4).toNat) [U _,U _,U _,U _,U _,V,V] _:=by rw[J];refine⟨by apply mB<;>right,wD.mpr (f1 (iN aF) (by decide:4<=1000)),?_⟩;have x:j*(3+2*kT n)<=3*(3+2*kT n):=Nat.mul_le_mul_right _ (by apply td<;>right);exact YQ Y y E D R j 0 1 V V m1 (g' _) P ((f1 (hJ (h9 (by decide) x) _) A)) λI m' o a6 h=>z I m' o a6 ((f1 h<|hJ x _))
  exact this
 exact av go
theorem YR:rp C (d+8) 1546 [.mut<|.j t,.int 3,.mut<|.j r,.bool b] t r (v0 2) true:=Db Y<|C' Y λk a b=>by cases a;exact Db Y<|C' Y λk a b=>by cases a;exact Db Y (C' Y λk a b=>by cases a)
end
end
section
open PySem
noncomputable def Wl(C:PC)(ρ:Loc)(r:Nat)(R0:List Nat)(e:DE)(R:List Nat):Prop:=∀(m:g2) (K:AV->St->Prop) (X:h5->St->Prop),m.j r=U (iJ R0)->r<m.f->(∀m' x,g2.A [] m m'->x<m'.f->m'.j x=U (iJ R)->K (.mut (.j x)) m'.i)->WE g3 C e ρ m.i K X
noncomputable def Wp(C:PC)(ρ:Loc)(r:Nat)(R0:List Nat)(e:DE)(a:AV):Prop:=∀(m:g2) (K:AV->St->Prop) (X:h5->St->Prop),m.j r=U (iJ R0)->K a m.i->WE g3 C e ρ m.i K X
theorem YS:iJ (R++a)=.m (R.map jb++a.map jb):=by unfold iJ;rw[k4]
section
variable{C:PC}{ρ:Loc}{r:Nat}{R0:List Nat}
theorem YT{R o}(h:Wl C ρ r R0 a R)(k:Wl C ρ r R0 b o)(hl:R.length+o.length<=1000000):Wl C ρ r R0 (.a0 .add a b) (R++o):=λm K X h1 e q=>by refine h m _ X h1 e λm1 x c l1 g1=>k m1 _ X (c.at e lR h1) (hy e c.n) λm2 y f l2 j=>oK (P:=λn l=>lY _ _ λn i=>mF (l.length+i.length)<|K _<|m2.i.new (.m (l++i))) (f.at l1 lR g1)<|oK j<|iW (by rw[ig,ig];exact hl) ?_;rw[<-YS];exact q _ _ ((c.trans f).add _) (kY _)<|g2.bu _ _
theorem v_(h0:ρ[(0)]?=U (U<|.mut<|.j r))(c:Wp C ρ r R0 a h)(e:Wp C ρ r R0 b i)(f:oj (R0.map jb) h i=U (R.map jb)):Wl C ρ r R0 (.cd (.j 0) a b) R:=λm K X h1 j q=>(pn (T:=g3) (C:=C) (X:=X) h0<|c m _ X h1<|e m _ X h1 (AC h1 O f (q _ _ ((g2.A.refl _ _).add _) (kY _) (g2.bu _ _))))
theorem Kz(b:Wp C ρ r R0 a<|jb c):Wl C ρ r R0 (.m<|.cons a .nil) [c]:=λm K X h1 e q=>b m _ X h1<|q (m.add<|iJ _) _ ((g2.A.refl _ _).add _) (kY _)<|g2.bu _ _
theorem v'(h:ρ[i]?=U (U a)):Wp C ρ r R0 (.j i) a:=λm K X h1=>pn h
theorem yZ:Wp C ρ r R0 .ch .none:=λm K X h1 q=>q
theorem KA{p j:Nat}(h:ρ[i]?=U (U<|.int p)):Wp C ρ r R0 (.a0 .add (.j i)<|.aI<|.int j)<|.int (p+j:Nat):=λm K X h1 q=>by refine v' (C:=C) h m _ X h1 ?_;haveI:=q;exact this
theorem YU{p c:Nat}(h0:ρ[(0)]?=U (U<|.mut<|.j r))(h:ρ[(1)]?=U (U<|.int p))(a:R0[p]?=U c):Wp C ρ r R0 (.sub (.j 0)<|.j 1)<|jb c:=λm K X h1 q=>v' (C:=C) h0 m _ X h1<|v' h m _ X h1<|E7 h1<|uV (if_pos<|mB p) (by rw[oa,a];rfl) q
end
theorem YV{R:List Nat}:oj (R.map jb) .none (.int (p:Nat))=U ((R.take p).map jb):=by rw[z'];unfold oj;rfl
theorem Dc{R:List Nat}:oj (R.map jb) (.int (p:Nat)) .none=U ((R.drop p).map jb):=by rw[Eu];unfold oj;rfl
theorem YW{R:List Nat}:oj (R.map jb) (.int (p:Nat)) (.int (q:Nat))=U (((R.take q).drop p).map jb):=by rw[Eu,z'];unfold oj;rfl
structure y0 (R:List Nat)(n:Nat):Prop where
 aT:R.length<=n
 aY:∀c∈R,i_ c
 fu:∃c u,R=c::u/\(c=91\/c=123)
structure Wr (C:PC)(ρ:Loc)(r:Nat)(R0:List Nat)(e:DE)(R:List Nat)(b:Nat):Prop where
 w:b<=1000000->Wl C ρ r R0 e R
 aT:R.length<=b
 aY:∀c∈R,i_ c
theorem Wr.add{R0 R l}(h:Wr C ρ r R0 e R b)(k:Wr C ρ r R0 f l i):Wr C ρ r R0 (.a0 .add e f) (R++l) (b+i):=⟨λa=>YT (h.w<|f1 (ih _ _) a) (k.w<|f1 (jv _ _) a)<|f1 (h9 h.aT k.aT) a,by rw[hz];exact h9 h.aT k.aT,λc j=>(li.mp j).elim (h.aY c)<|k.aY c⟩
structure Fk (r p d:Nat)(ρ:Loc):Prop where
 aZ:ρ[(0:Nat)]?=U (U (.mut (.j r)))
 b:ρ[(1:Nat)]?=U (U (.int (p:Nat)))
 d:ρ[(3:Nat)]?=U (U (jb d))
theorem YX{P:Nat->Prop}{w}(h:w<6)(a:P 0)(b:P 1)(c:P 2)(d:P 3)(e:P 4)(f:P 5):P w:=ov h a λi h=>ov (P:=λm=>P (m+1)) h b λi h=>mq (P:=λm=>P (m+2)) h c d e f
theorem KC{α:Type}(l:List α)(p):(l.take p).length<=p:=by rw[oD];exact wS _ _
theorem y1{α:Type}(l:List α){n}(p)(h:l.length<=n):(l.drop p).length<=n - p:=by rw[oC];exact MP h p
section
variable{C:Nat->PC}(Y:kB C){d:Nat}{Q:AV->St->Prop}{X:h5->St->Prop}
include Y
theorem YY(h:m.j r=U (iJ R))(J:r<m.f)(aE:y0 R n)(au:n<=1000)(av:1<=p)(B:p<R.length)(aD:w<6)(A:i_ c)(k:∀m' x W,g2.A [] m m'->x<m'.f->m'.j x=U (iJ W)->y0 W (n+1)->Q (.mut<|.j x) m'.i):C (d+1) 1553 [.mut<|.j r,.int p,.int (w:Nat),jb c] m.i Q X:=by
 refine Y.c O O ?_;have t:=aE.aT;haveI i:=hy B t;haveI z:=uG<|iN i;have y:∀q,∀c∈R.drop q,i_ c:=λq c h=>aE.aY c<|D4 h;haveI l0:∀{ρ},Fk r p c ρ->Wp (C d) ρ r R (.j 1) (.int p):=λF=>v' F.b;haveI D:∀{ρ},Fk r p c ρ->Wp (C d) ρ r R _ _:=λF=>KA (j:=1) F.b;haveI p2:∀{ρ},Fk r p c ρ->Wp (C d) ρ r R _ _:=λF=>KA (j:=2) F.b;have s:∀{ρ},Fk r p c ρ->Wr (C d) ρ r R _ (R.take p) p:=λF=>⟨λo=>v_ F.aZ yZ (l0 F) YV,KC _ _,λc h=>aE.aY c<|Ew h⟩;have E:∀{ρ},Fk r p c ρ->Wr (C d) ρ r R _ (R.drop p) (n - p):=λF=>⟨λo=>v_ F.aZ (l0 F) yZ Dc,y1 _ _ t,y _⟩;have G:∀{ρ},Fk r p c ρ->Wr _ ρ r R _ _ (n - (p+1)):=λF=>⟨λo=>v_ F.aZ (D F) yZ Dc,y1 _ _ t,y _⟩;have L:∀{ρ},Fk r p c ρ->Wr (C d) ρ r R _ _ 1:=λF=>⟨λo=>Kz<|v' F.d,g' _,λa h=>iv.mp h▸A⟩;have M:∀{ρ},Fk r p c ρ->Wr (C d) ρ r R _ [R[p]] 1:=λF=>⟨λo=>Kz<|YU F.aZ F.b<|oe _,g' _,λa h=>iv.mp h▸aE.aY _ (Ex _)⟩;have hd:∀aF,∃c u,R.take p++aF=c::u/\(c=91\/c=123):=λaF=>jC aE.fu λc u e A=>by clear p2 D l0;clear zz3 e;induction p with|zero=>exact absurd av (by decide)|succ p=>exact lU c (u.take p++aF) O A
 haveI f:∀{e W b} v aF,(∀{ρ},Fk r p c ρ->Wr (C d) ρ r R e W b)->W=R.take p++aF->b<=n+1->WE _ (C d) e [U<|.mut _,U<|.int p,v,U<|jb c] _ Q X:=λv aF h' e I=>haveI h':=h' ⟨rfl,rfl,rfl⟩;h'.w (f1 I<|f1 (lC au) (by decide)) m Q X h J λm' x T l aC=>k m' x _ T l aC ⟨f1 h'.aT I,h'.aY,e▸hd aF⟩;exact YX (P:=λw=>WS _ _ _ [U _,U _,U<|.int w,U _] _ _) aD (f _ _ (λF=>(s F).add<|G F) O<|jw<|f1 (hJ (Er (iA p) n) p) (im z)) (f _ _ (λF=>((s F).add<|L F).add<|E F) (h2 ..)<|im<|(iU p 1 _).trans (congrArg _ z)) (f _ _ (λF=>((s F).add<|L F).add<|G F) (h2 ..)<|jw<|im (uG i)) (f _ _ (λF=>((s F).add<|M F).add<|E F) (h2 ..)<|im<|(iU p 1 _).trans (congrArg _ z)) (f _ _ (λF=>(((s F).add<|(λF=>⟨λo=>v_ F.aZ (D F) (p2 F) YW,f1 (y1 _ _<|KC _ _)<|im<|Nat.add_sub_add_left p 2 1,λc h=>aE.aY c<|Ew<|D4 h⟩) F).add<|M F).add<|(λF=>⟨λo=>v_ F.aZ (p2 F) yZ Dc,y1 _ _ t,y _⟩) F) ((h2 ..).trans<|h2 ..)<|f1 (hJ (Er (iA _) n) _)<|im ((iU _ 1 _).trans (congrArg _ (uG i))))<|k m r R (.refl _ _) J h ⟨jw t,aE.aY,aE.fu⟩
end
end
section
open PySem
noncomputable def rr:Nat->List Nat->Prop|_,[]=>True|d,c::r=>1<=d/\rr (kl d c) r
theorem qt(a b:Nat):(a==b)=iE a b:=by
 induction h:iE a b with
 |true=>cases nL h;exact beq_self_eq_true a
 |false=>exact beq_eq_false_iff_ne.mpr<|n7 h
theorem KD(c):i8 c [91,123]=jg c:=by unfold jg;rw[qt,qt];show(match iE c _ with|true=>H|false=>(match iE c _ with|true=>H|false=>g))=_;cases iE c _<;>cases iE c _<;>rfl
theorem KE(c):i8 c [93,125]=jh c:=by unfold jh;rw[qt,qt];show(match iE c _ with|true=>H|false=>(match iE c _ with|true=>H|false=>g))=_;cases iE c _<;>cases iE c _<;>rfl
noncomputable def KG:DS:=IP.snd.snd.fst.bE
section
variable{C:PC}{k:KS}{r x:Nat}{R:List Nat}
theorem KH{m:g2}(l:ag.length<100000)(h:m.j x=U (iJ ag))(K:(kl d c=0->jh c=H->k.aX (.mut<|.j x) (m.set x<|iJ (ag++[c])).i)/\((jh c=H->kl d c≠0)->k.n [U<|.mut<|.j r,U<|.mut<|.j x,U<|.int<|kl d c,U<|jb c] (m.set x<|iJ (ag++[c])).i)) (f:jh c=H->1<=d):WS g3 C KG [U<|.mut<|.j r,U<|.mut<|.j x,U<|.int d,U<|jb c] m.i k:=by
 refine v8 (ρ:=[U _,U _,U _,U _]) (i:=1) O h (by apply hy<;>right) (λQ q=>q) ?_;left;rw[KD];induction a:jg c with
 |true=>
  haveI e:kl d c=d+1:=if_pos a;haveI j:jh c=false:=by
   unfold jg at a;unfold jh;rw[qt,qt]at a;induction h1:iE c 91 with
   |true=>cases nL h1;rfl
   |false=>rw[h1]at a;cases nL a;rfl
  haveI:=K.2 λh=>by rw[j]at h;exact iG h
  rw[e]at this;exact this
 |false=>
  left;rw[KE];induction b:jh c with
  |false=>
   haveI:=K.2 λh=>by rw[b]at h;exact iG h
   rw[(by unfold kl;rw[if_neg (by rw[a];exact lS),if_neg (by rw[b];exact lS)]:kl d c=d)]at this;exact this
  |true=>
   rw[(by unfold kl;rw[if_neg (by rw[a];exact lS),if_pos b]:kl d c=d - 1)]at K;left;rw[((Int.ofNat_sub (f b)).symm:d - 1=((d - 1:Nat):Int))];by_cases h0:d - 1=0;.rw[show decide _=H from decide_eq_true (by exact congrArg tc h0)];exact K.1 h0 b
   .rw[show decide _=g from decide_eq_false (by exactλe=>h0 (tc.inj e))];exact K.2 λn=>h0
theorem YZ:∀al ag d m a3,1<=d->m.j r=U (iJ R)->m.j x=U (iJ ag)->r≠x->ag.length+al.length<=1000->(∀m' q u,al=q++u->rr d q->g2.A [x] m m'->m'.j x=U (iJ (ag++q))->k.aX (.mut<|.j x) m'.i)->(∀m' h a3,rr d al->g2.A [x] m m'->m'.j x=U (iJ (ag++al))->k.n [U<|.mut<|.j r,U<|.mut<|.j x,U<|.int (h:Nat),a3] m'.i)->ll (WS g3 C KG) [3] (λst=>st.cell (.j r)=U (iJ R)) k (al.map jb) [U<|.mut<|.j r,U<|.mut<|.j x,U<|.int d,a3] m.i:=by
 intro al;induction al with|nil=>exactλag d m a3 a h1 l p hl f b=>⟨h1,b m d a3 trivial (.refl _ _) (by rw[iL];exact l)⟩|cons c al t=>
  refineλag d m a3 a h1 l p hl f b=>⟨h1,?_⟩;have j:g2.A [x] m<|m.set x<|iJ (ag++[c]):=(g2.A.refl _ _).set _<|.inl<|.head _;refine KH ((iy<|f1 (hJ (jv _ _) _)<|f1 hl (by decide))) l ⟨λh0 w=>(f _ [c] al O ⟨a,trivial⟩ j<|g2.bp _ _ _),λh0=>?_⟩ λy=>a
  .haveI s:1<=kl d c:=by
    unfold kl at h0 ⊢
    split
    .apply jw<;>right
    .rename_i o
     rw[if_neg o]at h0
     split
     .rename_i z
      rw[if_pos z]at h0
      haveI:=h0 z;apply Mm<;>right
     .exact a
   exact t (ag++[c]) _ _ _ s (by rw[g2.cr _ _ p];exact h1) (g2.bp _ _ _) p (by rw[hz];exact jL<|je hl) (λm' q u e n i aC=>(f m' (c::q) u (by rw[e];rfl) ⟨a,n⟩ (j.trans i) (by rw[h2]at aC;exact aC))) λm' h a3 n i aC=>(b m' h a3 ⟨a,n⟩ (j.trans i) (by rw[h2]at aC;exact aC))
end
theorem KI(h:g2.A [] a b)(k:g2.A [x] b c)(hx:a.f<=x):g2.A [] a c:=⟨f1 h.n k.n,λn f i=>(k.aT n (hy f h.n) λe=>iI (hy f hx) (iv.mp e)).trans<|h.aT n f lR⟩
structure KJ (W:List Nat)(n:Nat):Prop where
 aT:W.length<=n
 aY:∀c∈W,i_ c
 fu:∃c u,W=c::u/\(c=91\/c=123)/\rr 1 u
section
variable{C:Nat->PC}(Y:kB C){d:Nat}{Q:AV->St->Prop}{X:h5->St->Prop}
include Y
theorem Y0(h:m.j r=U (iJ R))(B:r<m.f)(M:y0 R n)(I:n<=1000)(k:∀m' x W,g2.A [] m m'->x<m'.f->m'.j x=U (iJ W)->KJ W n->Q (.mut<|.j x) m'.i):C (d+1) 1560 [.mut<|.j r] m.i Q X:=by
 refine Y.c O O ?_;haveI p:=M.aT;haveI J:=M.aY;refine kf λs=>jC M.fu λc u f A=>?_;subst f;rw[mT]at p;haveI l:g2.A [] m<|m.add<|iJ []:=(g2.A.refl _ _).add _;have i:=l.at B lR h;haveI D:=iI B;haveI y:kl 0 c=1/\jh c=false:=by rcases A with rfl|rfl<;>exact⟨rfl,rfl⟩
 have o:∀m' q E,u=q++E->rr 1 q->g2.A [m.f] ((m.add<|iJ []).set m.f<|iJ ([]++[c])) m'->m'.j m.f=U (iJ ([]++[c]++q))->Q (.mut<|.j m.f) m'.i:=λm' q E e w z aC=>by
  exists s;clear M;subst e;refine s<|k m' _ (c::q) (KI (l.set _<|.inr<|g' _) z<|g' _) (hy (kY _) z.n) aC ⟨?_,λa t=>J a ?_,c,q,rfl,A,w⟩;.rw[hz]at p;exact f1 (iq (ih _ _) _) p
  .rcases h7.mp t with b|t;clear zz3 b
   .exact .head _
   .exact .tail _<|s0 _ t
 haveI G:ll (WS _ (C d) _) [3] (λst=>st.cell (.j r)=U _) ⟨λρ st=>WS g3 (C d) (.ret<|.j 1) ρ st ⟨λj=>Q .none,Q,λj j=>False,λj=>X⟩,Q,λj j=>False,λj=>X⟩ ((c::u).map _) [U<|.mut<|.j r,U _,U _,V] (m.add _).i:=by
  refine⟨i,?_⟩;show WS _ _ _ _ _ _;refine KH (by decide) (g2.bu _ _) ⟨λh=>(by rw[y.1]at h;exact absurd h (by decide)),λj=>?_⟩ λh=>by rw[y.2]at h;exact iG h
  rw[y.1];exact YZ u ([]++[c]) 1 _ _ (g' _) (by rw[g2.cr _ _ D];exact i) (g2.bp _ _ _) D (jM<|f1 p I) (o) λm' L a3=>o m' u [] (iL _).symm
 refine s ?_;left;rw[show(St.new m.i _).cell (.j r)=U _ from i];exact G
end
end
section
open PySem
noncomputable def kn(R:Nat)(E:List Nat)(i:Nat):List Nat:=if(decide (0<(R:Int))&&decide (kW i ((R:Int)+1)=0))=H then E else[32]
noncomputable def o0(E:List Nat):Prop:=E=[10]\/E=[10,32,32]\/E=[32,35,32,99,10]
theorem KL(h:o0 E)(i):Sep<|kn R E i:=by
 unfold kn;split;.exact .inr h
 .exact .inl O
noncomputable def lO(i n:Nat):List Nat->Bool|[]=>!decide (kW i 3=1)|c::_=>!decide (kW i 3=1)&&i8 c [44,93,125,58,63]
noncomputable def n4:Nat->List Nat->List Sg|_,[]=>[]|i,c::r=>⟨c,97+i,lO i 0 r⟩::n4 (i+1) r
noncomputable def o1(e:El):AV:=match e.d with|[119]=>.av [.str e.aH,e.b_]|[33]=>.str (33::e.aH)|[42]=>.str e.aH|[38]=>.str e.aH|_=>.none
noncomputable def kq(F:List Nat)(p:Nat):AV:=.av [.int p,.int (ij F p),.int (ir F p)]
noncomputable def mO(F:List Nat)(e:El):AV:=.av [.str e.d,kq F e.o,o1 e]
noncomputable def rs:DS:=Ce.snd.snd.snd.fst.bE
section
variable{C:PC}{k:KS}{w x:Nat}
theorem Y1(n:R<5)(m:o0 E)(o:0<i)(hA:A.length+5<=1000000)(p:A.length=q)(hF:F.drop q=kn R E i++s)(K:k.n [U<|.mut<|.j w,U<|.str (A++kn R E i),U<|.int R,U<|.str E,U<|.int<|ij F (q+(kn R E i).length),U<|.int<|ir F (q+(kn R E i).length),U<|.mut<|.j x,U<|.int i,a8,a9,b,ak] st):WS g3 C rs.fst [U<|.mut<|.j w,U<|.str A,U<|.int R,U<|.str E,U<|.int<|ij F q,U<|.int<|ir F q,U<|.mut<|.j x,U<|.int i,a8,a9,b,ak] st k:=by
 haveI c:kn R E i=[32]->WS g3 C rs.fst.dl.a5 [U _,U<|.str A,U _,U _,U _,U<|.int<|ir F q,U _,U _,a8,a9,b,ak] st k:=λe=>by rw[e]at K hF;refine iW (f1 (hJ (by decide) _) hA) ?_;haveI h0:=kj hF;haveI a:=K;rw[qj h0 (by decide),vB h0 (by decide)]at a;exact a
 haveI f:kn R E i=E->WS g3 C rs.fst.dl.dl [U<|.mut<|.j w,U<|.str A,U<|.int R,U<|.str E,U<|.int<|ij F q,U<|.int<|ir F q,U<|.mut<|.j x,U<|.int i,a8,a9,b,ak] st k:=λe=>by
  rw[e]at K hF;refine iW (by rcases m with rfl|rfl|rfl<;>(exact f1 (hJ (by decide) _) hA)) ?_;clear e;rcases m with rfl|rfl|rfl
  .haveI h0:=kj hF;haveI a:=K;rw[vz h0,sv h0]at a;exact a
  .haveI h0:=kj hF;haveI h1:=dg hF 1;haveI j:=dg hF 2;haveI a:=K;rw[qj j (by decide),vB j (by decide),qj h1 (by decide),vB h1 (by decide),vz h0,sv h0]at a;exact a
  .haveI l:=dg hF 4;haveI a:=K;rw[vz l,sv l,qj (dg hF 3) (by decide),qj (dg hF 2) (by decide),qj (dg hF 1) (by decide),qj (kj hF) (by decide)]at a;exact a
 left;rw[show decide _=H from decide_eq_true (by apply pd.mpr<;>right)];left;cases R with|zero=>exact c O|succ r=>haveI d:decide ((0)<((r+1):Int))=true:=decide_eq_true (Int.lt_add_one_of_le (mB _));rw[d];refine nj (Az<|xm (Int.lt_add_one_of_le (mB _))) ?_;left;induction h:decide (kW i _=0)with|true=>exact f (by unfold kn;rw[d,h];rfl)|false=>exact c (by unfold kn;rw[d,h];rfl)
end
end
section
open PySem
noncomputable def Y2:List Nat:=[97,98,99,100,101,102,103,104,105,106,107,108,109,110,111,112,113,114,115,116,117,118,119,120,121,122]
theorem Y3:∀i:_root_.Fin 26,Y2[i.1]?=U (97+i.1):=by decide
noncomputable def KN:DS:=rs.snd.snd.snd.snd.fst
noncomputable def Y4:DS:=rs.snd.snd.snd.snd.snd
theorem KO:lO i 0 []=!decide (kW i 3=1):=rfl
theorem KP:lO i 0 (c::r)=(!decide (kW i 3=1)&&i8 c [44,93,125,58,63]):=rfl
section
variable{C:PC}{k:KS}{w x:Nat}
theorem Y5{m:g2}(hx:m.j x=U (.m l))(hl:l.length<1000)(hA:A.length+a.length<=1000000)(K:k.n [U<|.mut<|.j w,U<|.str (A++a),R,E,U<|.int (L:Nat),U<|.int (b+a.length:Nat),U<|.mut<|.j x,U<|.int (i:Nat),U<|jb c,U<|.str a,U d,ak] (m.set x<|.m (l++[.av [jb c,.av [.int A.length,.int L,.int b],d]])).i):WS g3 C Y4 [U<|.mut<|.j w,U<|.str A,R,E,U<|.int L,U<|.int b,U<|.mut<|.j x,U<|.int i,U<|jb c,U<|.str a,U d,ak] m.i k:=by refine q6 hx ?_;left;rw[show m.i.cell (.j x)=U _ from hx];exact iW (by apply hy<;>right)<|iW hA K
theorem Y6{m:g2}(D:m.j w=U (iJ W))(z:W=ag++c::r)(q:ag.length=i)(o:i<26)(J:i_ c)(K:∀ak,k.n [U<|.mut<|.j w,U<|.str A,R,E,L,s,U<|.mut<|.j x,U<|.int (i:Nat),U<|jb c,U<|.str<|Sg.bR ⟨c,97+i,lO i 0 r⟩,U<|o1<|Sg.bJ ⟨c,97+i,lO i 0 r⟩ 0,ak] m.i):WS g3 C KN [U<|.mut<|.j w,U<|.str A,R,E,L,s,U<|.mut<|.j x,U<|.int i,U<|jb c,U<|jb c,U .none,ak] m.i k:=by
 haveI a:∀(Q:AV->St->Prop),Q _ _->ty _ _ _:=λQ=>uV (P:=λc=>Q (.str [c]) m.i) (if_pos (by apply mB<;>right))<|Y3 ⟨i,o⟩;by_cases h1:c=119
 .clear zz3 h1 K;haveI f:∀p,lO i 0 r=p->WS g3 C KN.dl.snd [U _,U _,R,E,L,s,U _,U<|.int i,U _,U<|jb 119,U .none,U<|.bool p] _ k:=λp B=>by rw[B]at K;refine a _ ?_;clear B;induction p with|true=>exact K _|false=>exact K _
  left;induction n:decide (kW i 3=1)with|true=>exact f g (by induction r with|nil=>rw[KO,n];rfl|cons=>rw[KP,n];rfl)|false=>
   left;rw[show m.i.cell (.j w)=U _ from D];left;rw[show(W.map _).length=i+1+r.length from(by rw[ig,z,hz,q];exact k6 (lE<|hJ (jM<|g' _) _)<|kD<|jL (g' _))];induction r with|nil=>rw[show decide _=H from decide_eq_true O];exact f _ (by rw[KO,n];rfl)|cons c2 r=>
    rw[show decide _=g from decide_eq_false (by exact λh=>iI (Nat.lt_add_of_pos_right (Nat.succ_pos _)) (Int.ofNat.inj h))];left;rw[show m.i.cell (.j w)=U _ from D];left;haveI I:(W.map _)[i+1]?=U (jb c2):=by rw[oa,z,pX (l_<|im q),q,show i+1 - i=1 from Ad _ _];rfl
    rw[I];haveI:=f (i8 c2 _) (by rw[KP,n];rfl);exact this
 .left;rw[(by show(match iE c _ with|true=>ha _ _|false=>g)=g;rw[Cg h1]:ha [c] [119]=g)];by_cases j:c=42\/c=38\/c=33
  .haveI t:i8 c [42,38,33]=true:=by rcases j with rfl|rfl|rfl<;>rfl
   rcases j with b|d|e;clear zz3 b K;rotate_left 1;clear zz3 d K;rotate_right 1;rotate_left 2;clear zz3 e K;rotate_right 2
   .exact a _<|a _<|K _
   .exact a _<|a _<|K _
   .exact a _<|a _<|K _
  .haveI t:i8 c [42,38,33]=false:=yj λy l=>by
    rintro rfl
    cases l with
    |head=>exact j<|.inl O
    |tail _ l=>cases l with
     |head=>exact j<|.inr<|.inl O
     |tail _ l=>exact j<|.inr<|.inr (iv.mp l)
   left
   rw[t]
   haveI:Sg.bR ⟨c,97+i,lO i 0 r⟩=[c]/\o1 (Sg.bJ ⟨c,97+i,lO i 0 r⟩ 0)=.none:=by
    revert h1 j;refine oS J ?_ ?_ ?_ ?_ ?_ ?_ ?_ ?_ nofun nofun (λG=>absurd (.inr<|.inr O)) λh=>absurd O h
    all_goals exactλG G=>⟨rfl,rfl⟩
   haveI K:=K ak
   rw[this.1,this.2]at K
   exact K
end
end
section
open PySem
theorem KQ:∀{X f} {q},F.drop q=X++f->(∀c∈X,c≠10)->ij F (q+X.length)=ij F q/\ir F (q+X.length)=ir F q+X.length:=by intro X;induction X with|nil=>intro f q h _;exact⟨rfl,rfl⟩|cons c X e=>intro f q h a;haveI h0:=kj h;refine hv (e (by rw[<-qI,h];rfl:F.drop (q+1)=X++f) λc hx=>a c<|.tail _ hx) λb d=>?_;haveI n:=a c<|.head _;rw[show q+(X.length+1)=q+1+X.length by exact k6 (lE<|hJ (jM<|g' _) _)<|kD<|jL (g' _),b,d,qj h0 n,vB h0 n];exact⟨rfl,by apply iU<;>right⟩
theorem Dd(h:j7 s):(∀c∈s.bR,c≠10)/\s.bR.length<=4:=by
 obtain⟨c,x,l⟩:=s;obtain⟨j,h1,m⟩:=h;haveI hx:x≠10:=λe=>absurd (e▸h1:97<=10) (by decide);haveI d:∀a b,a≠10->b≠10->(∀c∈[a,b],c≠10)/\[a,b].length<=4:=λa b f i=>⟨λc h=>(h7.mp h).elim (λe=>e▸f) λh=>iv.mp h▸i,jv 2 2⟩;refine oS (c:=c) j ?_ ?_ ?_ ?_ ?_ ?_ ?_ ?_ (d _ x (by decide) hx) (d _ x (by decide) hx) (d _ x (by decide) hx) ?_;rotate_left 8;.induction l with|true=>exact d _ x (by decide) hx|false=>exact⟨λc h=>(h7.mp h).elim (λe=>e▸by decide) λh=>(h7.mp h).elim (λe=>e▸by decide) λh=>(d x _ hx (by decide)).1 c h,g' _⟩
 all_goals exact(λa f=>⟨λc h=>iv.mp h▸f,jv 1 3⟩:∀a,a≠10->(∀c∈[a],c≠10)/\[a].length<=4) _ (by dsimp only;decide)
theorem De:∀{r} {i},(∀c∈r,i_ c)->i+r.length<=26->∀s∈n4 i r,j7 s:=by
 intro r;induction r with
 |nil=>intro _ _ _ s h;cases h
 |cons c r e=>
  intro i b hl s h;rw[mT]at hl;rcases h7.mp h with a|h;clear zz3 a
  .exact jZ (b c<|.head _) (ih _ _)<|hJ (Nat.le_of_succ_le_succ<|f1 (hJ (lC<|jd _) _) hl) 97
  .exact e (λc d=>b c<|.tail _ d) ((jL<|je hl)) s h
section
variable{C:PC}{k:KS}{w x:Nat}
theorem KR{d Ev a8 a9 a ak}{m:g2}(j:m.j w=U (iJ W))(e:W=ag++c::r)(h:ag.length=i)(b:i<26)(f:i_ c)(hx:m.j x=U (.m l))(hl:l.length<1000)(hA:A.length<=1000)(s:A.length=q)(hF:F.drop q=Sg.bR ⟨c,97+i,lO i 0 r⟩++z)(K:∀a8 a9 a ak,k.n [U<|.mut<|.j w,U<|.str (A++Sg.bR ⟨c,97+i,lO i 0 r⟩),d,Ev,U<|.int<|ij F (q+(Sg.bR ⟨c,97+i,lO i 0 r⟩).length),U<|.int<|ir F (q+(Sg.bR ⟨c,97+i,lO i 0 r⟩).length),U<|.mut<|.j x,U<|.int i,a8,a9,a,ak] (m.set x<|.m (l++[mO F<|Sg.bJ ⟨c,97+i,lO i 0 r⟩ q])).i):WS g3 C rs.snd [U<|.mut<|.j w,U<|.str A,d,Ev,U<|.int<|ij F q,U<|.int<|ir F q,U<|.mut<|.j x,U<|.int i,a8,a9,a,ak] m.i k:=by refine kf λp=>hv (Dd (⟨f,ih _ _,hJ (td b) 97⟩:j7 ⟨c,_,lO i 0 r⟩)) λt y=>hv (KQ hF t) λn o=>p ?_;left;rw[show m.i.cell (.j w)=U _ from j];left;rw[show(W.map _)[(i:Int).toNat]?=U _ from by rw[oa,e,pX (by apply im<;>right),h,wT];rfl];refine Y6 j e h b f λak=>Y5 hx hl ((f1 (h9 hA y) (by decide))) ?_;haveI:=K (U<|jb c) (U<|.str<|Sg.bR ⟨c,97+i,lO i 0 r⟩) (U<|o1<|Sg.bJ ⟨c,97+i,lO i 0 r⟩ 0) ak;rw[n,o]at this;rw[s];exact this
theorem Y7{E F W}(G:R<5)(D:o0 E)(s:w≠x):∀r ag A q i l m b a8 a9 a ak,W=ag++r->ag.length=i->1<=i->i+r.length<=20->(∀c∈r,i_ c)->m.j w=U (iJ W)->m.j x=U (.m l)->l.length+r.length<=100->A.length=q->A.length+9*r.length<=900->F=A++tb (kn R E) i (n4 i r) []->(∀m' b a8 a9 a ak,g2.A [x] m m'->m'.j x=U (.m (l++(m7 (kn R E) q i<|n4 i r).map λy=>mO F<|y.1.bJ y.2))->k.n [U<|.mut<|.j w,U<|.str F,U<|.int R,U<|.str E,U<|.int<|ij F F.length,U<|.int<|ir F F.length,U<|.mut<|.j x,b,a8,a9,a,ak] m'.i)->ll (WS g3 C rs) [7] (λL=>True) k (p7 i r.length) [U<|.mut<|.j w,U<|.str A,U<|.int R,U<|.str E,U<|.int<|ij F q,U<|.int<|ir F q,U<|.mut<|.j x,b,a8,a9,a,ak] m.i:=by
 intro r;induction r with|nil=>intro ag A q i l m b a8 a9 a ak n o h1 d j p hx hl f hA hF K;haveI e:=hF.trans<|iL A;refine⟨trivial,?_⟩;haveI:=K m b a8 a9 a ak (.refl _ _) (by rw[hx];exact congrArg (λz=>U _) (iL l).symm);rw[(by rw[e];exact f.symm:q=F.length),<-e];exact this|cons c r J=>
  refineλag A q i l m b a8 a9 a ak n o h1 d j p hx hl f hA hF K=>⟨trivial,?_⟩;haveI B:F.drop q=kn R E i++(Sg.bR _++tb _ _ _ _):=by
   rw[hF,<-f,s8];.rfl
   .rfl
  haveI hs:(kn R E i).length<=5:=by rcases KL D i with h|h|h|h<;>rw[h]<;>decide
  haveI t:j7 ⟨c,97+i,lO i 0 r⟩:=⟨j c<|.head _,ih _ _,hJ (f1 (lW d) (by decide:20<=25)) 97⟩;refine Y1 G D h1 ((f1 (hJ (z8 (by decide)) _)<|f1 hA (by decide))) f B<|KR p n o ((iy<|f1 (hJ (jv _ _) _)<|f1 d (by decide))) (j c<|.head _) hx ((iy<|f1 (hJ (jv _ _) _)<|f1 hl (by decide))) (by rw[hz];exact f1 (hJ (z8<|f1 hs (by decide)) _)<|f1 hA (by decide)) (by rw[hz,f]) (rn B) λa8 a9 a ak=>J (ag++[c]) _ _ _ _ _ _ a8 a9 _ _ (by rw[n,h2];rfl) (by rw[hz,o];rfl) (by apply jw<;>right) ((jL<|je d)) (λc I=>j c<|.tail _ I) (by rw[g2.cr _ _ s];exact p) (g2.bp _ _ _) (by rw[hz];exact jL<|je hl) (by rw[hz,hz,f]) (by rw[hz,hz];exact f1 (kD<|uP<|iq (je (hJ (f1 (h9 hs ((Dd t).2)) (by decide)) _)) _) hA) ?_ λm' b a8 a9 a ak e aC=>?_;.rw[hF,h2,h2];rfl
  .refine K m' b a8 a9 _ _ (((g2.A.refl _ _).set _<|.inl<|.head _).trans e) ?_;rw[aC,h2];rfl
end
end
section
open PySem
noncomputable def wa(c:Nat)(r:List Nat):Sg:=⟨c,97,lO 0 0 r⟩
noncomputable def jJ(P:List Nat)(R:Nat)(E:List Nat)(c:Nat)(r:List Nat):List Nat:=P++c::tb (kn R E) 1 (n4 1 r) []
noncomputable def m9(P:List Nat)(R:Nat)(E:List Nat)(c:Nat)(r:List Nat):List (Sg×Nat):=(wa c r,P.length)::m7 (kn R E) (P.length+1) 1 (n4 1 r)
noncomputable def rt(F:List Nat)(l:List (Sg×Nat)):MC:=.m (l.map λy=>mO F (y.1.bJ y.2))
section
variable{C:Nat->PC}(Y:kB C){d:Nat}{Q:AV->St->Prop}{X:h5->St->Prop}
include Y
theorem Y8{w R c}(G:m.j w=U (iJ (c::r)))(h:w<m.f)(t:c=91\/c=123)(D:∀a∈r,i_ a)(hl:r.length<=12)(hP:P.length<=4)(o:∀a∈P,a≠10)(B:R<5)(A:o0 E)(k:∀m' x,g2.A [] m m'->x<m'.f->m'.j x=U (rt (jJ P R E c r)<|m9 P R E c r)->Q (.av [.str<|jJ P R E c r,.mut<|.j x,kq (jJ P R E c r) (jJ P R E c r).length]) m'.i):C (d+1) 1567 [.mut<|.j w,.str P,.int R,.str E] m.i Q X:=by
 refine Y.c O O ?_;generalize hF:jJ P R E c r=F at k;have i:Sg.bR ⟨c,97+0,lO 0 0 r⟩=[c]:=by rcases t with rfl|rfl<;>rfl
 have lc:i_ c:=by rcases t with rfl|rfl<;>(unfold i_;decide)
 haveI l:F=P++c::tb _ 1 _ _:=hF.symm;haveI z:F.drop 0=P++c::tb _ 1 _ _:=l;refine hv (KQ z o) λj p=>?_;rw[mU]at j p;haveI j:ij F _=0:=j;haveI y:=iI h;haveI f:g2.A [] m<|m.add<|.m []:=(g2.A.refl _ _).add _;haveI b:=f.at h lR G;haveI s:ll (WS _ (C d) rs) [7] (λe=>True) ⟨λρ st=>WS g3 (C d) Ce.snd.snd.snd.snd ρ st ⟨λe=>Q .none,Q,λe e=>False,λe=>X⟩,Q,λe e=>False,λe=>X⟩ (p7 0 (r.length+1)) [U _,U _,U _,U _,U _,U _,U _,V,V,V,V,V] _:=by refine⟨trivial,?_⟩;show WS _ _ _ [U<|.mut _,U _,U _,U _,U _,U _,U _,U<|.int (0:Nat),V,V,V,V] (m.add _).i _;refine KR (ag:=[]) b O O (by decide) lc (g2.bu _ _) (by show 0<1000;decide) (by apply f1<;>right) O (by rw[i];exact(by rw[l,s8];rfl;rfl:F.drop _=[c]++tb _ 1 _ _)) λa8 a9 n ak=>?_;rw[i];refine Y7 (W:=c::r) B A y r [c] _ _ 1 _ _ _ a8 a9 _ _ O O (g' _) ((f1 (h9 (g' _) hl) (by decide))) D (by rw[g2.cr _ _ y];exact b) (g2.bp _ _ _) (by show 1+_<=_;exact f1 (h9 (g' _) hl) (by decide)) (by rw[hz]) (by rw[hz];show _+1+_<=_;exact f1 (h9 (h9 hP<|g' _)<|jY _ hl) (by decide)) (by rw[l,h2];rfl) λm' I a8 a9 n ak q aC=>?_;haveI:=k m' _ (KI (f.set _<|.inr<|g' _) q<|g' _) (hy (kY _) q.n) aC;exact this
 rw[j,(p.trans<|mU _)]at s;left;rw[show(m.i.new _).cell (.j w)=U _ from b];left;rw[show((c::r).map _).length=r.length+1 by simp];exact⟨mB _,wD.mpr (f1 (Nat.succ_le_succ hl) (by decide:13<=1000)),s⟩
end
end
section
open PySem
noncomputable def KU:DS:=IQ.snd.snd.fst.bE
theorem Y9(c x):ha [c] [x]=iE c x:=by show(match iE c x with|true=>ha _ _|false=>g)=_;cases iE c x<;>rfl
theorem KV(c):i8 c [44,93,125,63,45]=H↔(c=44\/jh c=H\/c=63\/c=45):=by
 have e:jh c=H↔c=93\/c=125:=by unfold jh;simp
 rw[e];constructor
 .refineλh=>kf λa=>?_;by_cases q:c∈([44,93,125,63,45])
  .simp only[h7,rP,or_false]at q;exact a (q.imp_right or_assoc.mpr)
  .rw[yj λx hx e=>q (by rw[e];exact hx)]at h;exact iG h
 .rintro (rfl|(rfl|rfl)|rfl|rfl)<;>rfl
section
variable{C:PC}{k:KS}{x y:Nat}{F:List Nat}{L:List (Sg×Nat)}
theorem Y_{sk}{m:g2}{v}(hx:m.j x=U (rt F L))(J:m.j y=U (rt F v))(T:L[i]?=U (sk,b)):∀l d a3 o r,(∀d,l=[]->k.n d m.i=k.n d m.i)->(il F b l d=H->k.aX (.bool H) m.i)->(il F b l d=g->k.aX (.bool g) m.i/\∀ρ,k.n ρ m.i)->ll (WS g3 C KU) [3,4,5] (λst=>st.cell (.j y)=U (rt F v)) k (l.map λq=>mO F<|q.1.bJ q.2) [U<|.mut<|.j x,U<|.int (i:Nat),U<|.int d,a3,o,r] m.i:=by
 intro l;induction l with|nil=>exactλd a3 o r _ _ w=>⟨J,(w (by induction d<;>rfl)).2 _⟩|cons aD l av=>
  obtain⟨s,p⟩:=aD;refineλd a3 o r _ I w=>⟨J,?_⟩;show WS _ C _ [U _,U _,U _,U<|jb _,U<|kq F p,U<|o1<|s.bJ p] _ _;haveI z:∀t,il F b _ d=il F b l t->kl d _=t->(jh s.d=H->1<=d)->WS g3 C KU.snd.snd [U _,U _,U<|.int d,U<|jb s.d,U _,U _] _ ⟨_,k.aX,k.n,k.aK⟩:=λt e j au=>by haveI A:=λa3 o r=>av t a3 o r (λM M=>rfl) (λh=>I<|e.trans h) λh=>w<|e.trans h;unfold kl at j;left;rw[KD];induction G:jg _ with|true=>rw[if_pos G]at j;exists n;clear zz3 (Eq.symm j) A;exact n<|A _ _ _|false=>rw[if_neg (by rw[G];exact lS)]at j;left;rw[KE];induction D:jh _ with|true=>haveI:=A (U<|jb s.d) (U<|kq F p)<|U<|o1 (s.bJ p);rw[<-((Int.ofNat_sub (au D)).symm.trans<|congrArg _<|(if_pos D).symm.trans j:d - 1=(t:Int))]at this;exact this|false=>rw[if_neg (by rw[D];exact lS)]at j;exists n;clear zz3 j n;exact n<|A _ _ _
  induction d with
  |succ d=>
   haveI:=z _ ?_ rfl λM=>jv 1 d;.exact this
   show(if jg _=H then il F b l _ else if jh _=H then il F b l d else il F b l _)=_;unfold kl;split;.rfl
   .split<;>rfl
  |zero=>
   haveI f:=rk (B:=F) (k:=b) (p:=p) (s:=s) (l:=l);left;rw[Y9];by_cases c:s.d=58
   .rw[if_pos c]at f;rw[show iE _ _=H by rw[c];rfl];left;rw[show m.i.cell (.j x)=U _ from hx];left;rw[show(L.map _)[(i:Int).toNat]?=U _ from by rw[oa,T];rfl];haveI E:k.aX (.bool<|decide ((ij F p)=(ij F b:Int))) _:=by
     rw[show decide _=decide _ from by
      by_cases h:ij F b=ij F p;.rw[decide_eq_true h,decide_eq_true (congrArg _ h.symm)]
      .rw[decide_eq_false h,decide_eq_false λe=>h (tc.inj e).symm]]
     induction h:decide (ij F b=ij F p)with|true=>exact I<|f.trans h|false=>exact(w<|f.trans h).1
    exact E
   .rw[if_neg c]at f;rw[Cg c];left;exists n;by_cases a:s.d=44\/jh s.d=H\/s.d=63\/s.d=45;.rw[if_pos a]at f;refine n ?_;rw[(KV _).mpr a];exact(w f).1
    .rw[if_neg a]at f;refine n ?_;rw[show i8 _ _=g from ws.mpr λh=>a<|(KV _).mp h];refine z (kl 0 _) ?_ rfl λh=>absurd (.inr<|.inl h) a;rw[f];unfold kl;split;.rfl
     .split<;>rfl
end
noncomputable def qu(F:List Nat)(L:List (Sg×Nat))(i:Nat):Bool:=match i with|0=>g|i+1=>match L[i]?,L[i+1]? with|U (s,_),U (t,p)=>i8 s.d [91,123,44]&&i8 t.d [119,42,38,33,91,123]&&il F p (L.drop (i+1)) 0|_,_=>g
section
variable{C:Nat->PC}(Y:kB C){d:Nat}{Q:AV->St->Prop}{X:h5->St->Prop}
include Y
theorem Y'(hx:m.j x=U (rt F L))(f:x<m.f)(o:i<L.length)(k:∀m',g2.A [] m m'->Q (.bool<|qu F L i) m'.i):C (d+1) 1574 [.mut<|.j x,.int i] m.i Q X:=by
 refine Y.c O O ?_;induction i with|zero=>exact k m<|.refl _ _|succ i=>
  obtain⟨⟨s,q⟩,hs⟩:∃y,L[i]?=U y:=⟨_,oe (by apply iN<;>right)⟩;obtain⟨⟨t,p⟩,e⟩:∃y,L[i+1]?=U y:=⟨_,oe o⟩;have l:qu F L (i+1)=(i8 s.d [91,123,44]&&i8 t.d [119,42,38,33,91,123]&&il F p (L.drop (i+1)) 0):=by show(match L[i]?,L[i+1]? with|some (s,_),U (t,p)=>i8 _ _&&i8 _ _&&il F p _ 0|_,_=>g)=_;rw[hs,e]
  rw[l]at k;left;rw[show m.i.cell (.j x)=U _ from hx];left;rw[show placeOf _ _=U i from(if_pos (wF (mB i) (Int.le_of_eq (Int.add_sub_cancel i 1).symm))).trans<|congrArg _ (congrArg Int.toNat (Int.add_sub_cancel i 1))];left;rw[show(L.map _)[i]?=U _ by rw[oa,hs];rfl];left;induction h1:i8 _ _ with|false=>rw[h1]at k;exact k m<|.refl _ _|true=>
   rw[h1]at k;left;rw[show m.i.cell (.j x)=U _ from hx];left;rw[show(L.map _)[((i+1):Int).toNat]?=U _ by rw[oa,e];rfl];left;induction j:i8 _ _ with|false=>rw[j]at k;exact k m<|.refl _ _|true=>
    rw[j]at k;haveI n:ll (WS _ (C d) _) _ _ ⟨_,Q,λb b=>False,λb=>X⟩ ((L.drop _).map _) [U _,U _,U _,V,V,V] (m.add _).i:=by
     haveI c:g2.A [] m<|m.add<|rt F (L.drop (i+1)):=(g2.A.refl _ _).add _;refine Y_ (c.at f lR hx) (g2.bu _ _) e _ 0 _ _ _ (λb b=>rfl) (λh=>?_) λh=>?_;.rw[h]at k;exact k _ c
     .rw[h]at k;exact⟨k _ c,λb=>k _ c⟩
    refine nj hx<|nj O<|nj (a:=(L.drop _).map _) (by rw[Eu];rfl) ?_;left;rw[Cj];exact n
end
end
section
open PySem
noncomputable def mP(F:List Nat)(L:List (Sg×Nat)):Nat->List (Sg×Nat)->List El|_,[]=>[]|i,(s,p)::l=>(if qu F L i=H then[⟨[63],p,[],.none⟩]else[])++s.bJ p::mP F L (i+1) l
theorem Za:mP F L i ((s,p)::l)=(if qu F L i=H then[⟨[63],p,[],.none⟩]else[])++s.bJ p::mP F L (i+1) l:=rfl
theorem Zb(s):i8 s.d [91,123,44]=oY s:=by unfold oY;rw[qt,qt,qt];show(match iE _ _ with|true=>H|false=>(match iE _ _ with|true=>H|false=>(match iE _ _ with|true=>H|false=>g)))=_;cases iE _ _<;>cases iE _ _<;>cases iE _ _<;>rfl
theorem Zc(c)(h:i_ c):i8 c [119,42,38,33,91,123]=ly c:=(oS h O O O O O O O O O O O O)
theorem Zd(h:ly s.d=H):il F k ((s,p)::l) 0=il F k l (if jg s.d=H then 1 else 0):=(X2 (P:=λc=>il F k ((⟨c,_,_⟩,p)::l) 0=il F k l (if jg c=H then 1 else 0)) h O O O O O O)
theorem Ze{F:List _}{L:List (Sg×Nat)}{eE}:∀{l:List (Sg×Nat)} {i} {s} {p} {ag:List (Sg×Nat)},L=ag++(s,p)::l->ag.length=i->(∀q∈l,j7 q.1)->mP F L (i+1) l++[eE]=m8 F eE (oY s) l:=by
 intro l;induction l with|nil=>intro _ _ _ _ _ _ _;exact O|cons m l j=>
  obtain⟨t,p'⟩:=m;intro i s p ag hL a c;haveI k:=c (t,p')<|.head _;haveI h1:L[i]?=U (s,p):=by rw[hL,pX (by apply im<;>right),a,wT];rfl
  haveI d:L[i+1]?=U (t,p'):=by rw[hL,pX (by exact l_<|im a),a,show i+1 - i=1 from Ad _ _];rfl
  haveI f:L.drop (i+1)=(t,p')::l:=by rw[hL,<-a,List.drop_append,MR<|iA _,show ag.length+1 - ag.length=1 from Ad _ _];rfl
  haveI e:qu F L (i+1)=(oY s&&ly _&&il F p' l (if jg _=H then 1 else 0)):=by show(match L[i]?,L[i+1]? with|some (s,_),U (t,p)=>i8 _ [91,123,44]&&i8 _ [119,42,38,33,91,123]&&il F p (L.drop (i+1)) 0|_,_=>g)=_;rw[h1,d,f];dsimp only;rw[Zb,Zc _ k.1];induction b:ly _ with|false=>rw[uw,z9]|true=>rw[Zd b]
  show((if qu F L _=H then _ else _)++t.bJ p'::mP F L _ l)++[eE]=(if _ then _ else _)++t.bJ p'::m8 F eE _ l;rw[e,h2,zy,(j (i:=i+1) (ag:=ag++[(s,p)]) (by rw[hL,h2];rfl) (by rw[hz,a];rfl) λq h=>c q<|.tail _ h)]
theorem wb(h:p<=F.length):ij (F++M) p=ij F p/\ir (F++M) p=ir F p:=by unfold ij ir;rw[List.take_append_of_le_length h];exact⟨rfl,rfl⟩
theorem Zf(b:k<=F.length):∀{l} {d},(∀q∈l,q.2<=F.length)->il (F++M) k l d=il F k l d:=by intro l;induction l with|nil=>intro _ _;exact O|cons f l e=>obtain⟨s,p⟩:=f;intro d h;haveI a:=λd=>e (d:=d) λq c=>h q<|.tail _ c;induction d with|zero=>rw[rk,rk,(wb b).1,(wb (h (s,p)<|.head _)).1,a,a]|succ d=>show(if jg _=H then il _ k l _ else if jh _=H then il _ k l d else il _ k l _)=(if jg _=H then il F k l _ else if jh _=H then il F k l d else il F k l _);rw[a,a,a]
theorem Zg:∀{l} {a},(∀q∈l,q.2<=F.length)->m8 (F++M) eE a l=m8 F eE a l:=by intro l;induction l with|nil=>intro _ _;exact O|cons d l c=>obtain⟨s,p⟩:=d;intro a h;dsimp only[vZ];rw[Zf (h _<|.head _) λq b=>h q<|.tail _ b,c λq b=>h q<|.tail _ b]
theorem KW{F q a b:Nat}(c:q<=F)(l:F - q=a+b):q+a<=F:=f1 (hJ (ih a b) q)<|im (l▸uG c)
theorem KX{F:List _}:∀{r} {q i},F.drop q=tb sp i r []->q<=F.length->∀y∈m7 sp q i r,y.2<=F.length:=by
 intro r;induction r with
 |nil=>intro _ _ _ _ y h;cases h
 |cons s r f=>
  intro q i b c y h;haveI d:=rn<|rn b;haveI l0:=congrArg uB b;rw[oC]at l0;haveI e:tb sp i (s::r) _=sp i++(s.bR++tb sp _ r []):=rfl;rw[hz,hz]at l0;rcases h7.mp h with a|h;clear zz3 a
  .exact KW c l0
  .exact f d (je<|KW c<|l0.trans (oG _ _ _).symm) y h
end
section
open PySem
noncomputable def ua(e:El):Prop:=(e.b_=.none\/e.b_=.str [39])/\e.d.length<1000
noncomputable def pN(B:List Nat)(W:List El):MC:=.m (W.map (mO B))
noncomputable def kU(i:Nat):MC:=.m [.int i]
noncomputable def Df:DE:=.sub (.j 1) (.aI (.int 0))
noncomputable def o2:DE:=.sub (.j 0) Df
theorem wc{m:g2}(h:m.j x=U (.m l))(b:l[i]?=U c)(q:Q c m.i):r5 T (.mut<|.j x) (.int (i:Nat)) m.i Q:=(E7 h<|uV (if_pos<|mB i) b q)
theorem KY{m:g2}(h1:ρ[1]?=U (U<|.mut<|.j a))(h:m.j a=U (kU i))(q:Q (.int i) m.i):WE T C Df ρ m.i Q X:=(pn (T:=T) (C:=C) (X:=X) (Q:=λx st=>r5 T x _ st Q) h1<|wc h O q)
section
variable{B:List Nat}{W ag R:List El}{e:El}{m:g2}{x a:Nat}{ρ:Loc}{T:oJ}{C:PC}{Q:AV->St->Prop}{X:h5->St->Prop}
theorem Dg(h0:ρ[0]?=U (U<|.mut<|.j x))(h1:ρ[1]?=U (U<|.mut<|.j a))(hx:m.j x=U (pN B W))(h:m.j a=U (kU ag.length))(hW:W=ag++e::R)(q:Q (mO B e) m.i):WE T C o2 ρ m.i Q X:=by refine pn (T:=T) (C:=C) (X:=X) h0<|KY h1 h<|wc hx ?_ q;rw[hW,k4,pX (by rw[ig];exact g' _),ig,wT];rfl
theorem we(h0:ρ[0]?=U (U<|.mut<|.j x))(h1:ρ[1]?=U (U<|.mut<|.j a))(hx:m.j x=U (pN B W))(h:m.j a=U (kU ag.length))(hW:W=ag++e::R)(q:Q (.str e.d) m.i):WE T C (.sub o2<|.aI<|.int 0) ρ m.i Q X:=Dg (Q:=λx st=>r5 T x _ st Q) h0 h1 hx h hW q
theorem Zh(h0:ρ[0]?=U (U<|.mut<|.j x))(h1:ρ[1]?=U (U<|.mut<|.j a))(hx:m.j x=U (pN B W))(h:m.j a=U (kU ag.length))(hW:W=ag++e::R)(q:Q (kq B e.o) m.i):WE T C (.sub o2<|.aI<|.int 1) ρ m.i Q X:=Dg (Q:=λx st=>r5 T x _ st Q) h0 h1 hx h hW q
end
noncomputable def Dh:DS:=.cE (.j 1) (.aI (.int 0)) (.a0 .add Df (.aI (.int 1)))
theorem Di{m:g2}(h1:ρ[1]?=U (U<|.mut<|.j a))(h:m.j a=U (kU i))(q:k.n ρ (m.set a<|kU (i+1)).i):WS T C Dh ρ m.i k:=KY h1 h<|pn (T:=T) (C:=C) (X:=k.aK ρ) (Q:=λa st=>AK a _ _ ρ st _) h1<|E0 h ⟨wH 0,kY 0,q⟩
theorem Zi{m:g2}{K:St->Prop}(h0:ρ[i]?=U (U<|.mut<|.j r))(h:m.j r=U (.m us))(hl:us.length<1000000)(he:∀Q,Q v m.i->WE T C e ρ m.i Q X)(k:K (m.set r<|.m (us++[v])).i):WE T C (.aD (.j i) e) ρ m.i (λb st=>K st) X:=(pn (T:=T) (C:=C) (X:=X) h0<|q6 h<|he _ (qk h hl k))
structure Rd (B:List Nat)(W:List El)(x a u:Nat)(ag:List El)(us:List AV)(m:g2):Prop where
 a2:m.j x=U (pN B W)
 bh:m.j a=U (kU ag.length)
 cu:m.j u=U (.m us)
 cx:x<m.f
 gx:a<m.f
 gy:u<m.f
 fX:x≠a
 fY:x≠u
 fE:a≠u
theorem Rd.cM(h:Rd B W x a u ag us m)(e):Rd B W x a u (ag++[e]) us<|m.set a<|kU (ag.length+1):=⟨by rw[g2.cr _ _ h.fX];exact h.a2,by rw[hz];exact g2.bp _ _ _,by rw[g2.cr _ _<|Ne.symm h.fE];exact h.cu,h.cx,h.gx,h.gy,h.fX,h.fY,h.fE⟩
theorem Rd.dJ(h:Rd B W x a u ag us m)(v):Rd B W x a u ag (us++[v])<|m.set u<|.m (us++[v]):=⟨by rw[g2.cr _ _ h.fY];exact h.a2,by rw[g2.cr _ _ h.fE];exact h.bh,g2.bp _ _ _,h.cx,h.gx,h.gy,h.fX,h.fY,h.fE⟩
noncomputable def ow(B:List Nat):Option (Nat×Nat)->AV|V=>.none|U (p,q)=>.av [kq B p,kq B q]
end
section
open PySem
noncomputable def wf:DS:=IS.snd.snd
noncomputable def DS.eJ:DS->DE| .bs t _=>t| .ite t _ _=>t|_=>.aE
noncomputable def Zj:DE:=wf.fst.eJ
noncomputable def Dj:DS:=wf.fst.bE
noncomputable def KZ:DS:=Dj.snd.snd
noncomputable def y2:DS:=KZ.dl.snd.snd
noncomputable def K0:DS:=y2.snd
noncomputable def mQ(B:List Nat)(x a u cl op:Nat)(f:Bool)(a6:Option AV):Loc:=[U (.mut (.j x)),U (.mut (.j a)),U (.mut (.j u)),U (.str [cl]),U (kq B op),U (.bool f),a6]
noncomputable def y3(Q:AV->St->Prop)(X:h5->St->Prop):KS:=⟨λa st=>Q .none st,Q,λa a=>False,λa=>X⟩
noncomputable def Zk(C:PC)(Q:AV->St->Prop)(X:h5->St->Prop):KS:=⟨λρ st=>WS g3 C wf.snd ρ st (y3 Q X),Q,λa a=>False,λa=>X⟩
noncomputable def ub(C:PC)(Q:AV->St->Prop)(X:h5->St->Prop)(ρ:Loc)(st:St):Prop:=j0 (WE g3 C Zj) (WS g3 C Dj) (Zk C Q X) ρ st
noncomputable def uc(C:PC)(Q:AV->St->Prop)(X:h5->St->Prop):KS:=⟨ub C Q X,Q,λρ st=>WS g3 C wf.snd ρ st (y3 Q X),λa=>X⟩
noncomputable def Zl(C:Nat->PC)(d:Nat)(B:List Nat)(x a u:Nat)(Q:AV->St->Prop)(X:h5->St->Prop)(a6:Option AV)(m:g2):Md->Prop| .node=>C (d+1) 1581 [.mut (.j x),.mut (.j a),.mut (.j u)] m.i Q X| .loop cl op f=>ub (C (d+1)) Q X (mQ B x a u cl op f a6) m.i| .b1 cl op=>WS g3 (C (d+1)) KZ (mQ B x a u cl op g a6) m.i (uc (C (d+1)) Q X)| .key cl op=>WS g3 (C (d+1)) y2 (mQ B x a u cl op g a6) m.i (uc (C (d+1)) Q X)| .val cl op=>WS g3 (C (d+1)) K0 (mQ B x a u cl op g a6) m.i (uc (C (d+1)) Q X)
noncomputable def Zm:Md->Prop| .node=>True| .loop cl _ _=>cl=93\/cl=125| .b1 cl _=>cl=93\/cl=125| .key cl _=>cl=93\/cl=125| .val cl _=>cl=93\/cl=125
noncomputable def i7(C:Nat->PC)(B:List Nat)(W:List El)(x a u:Nat)(c:Md)(L:List El)(D:List Ev)(r:Option (Nat×Nat))(R':List El):Prop:=Zm c->∀{d:Nat} {m:g2} {ag:List El} {us:List AV} {a6:Option AV} {Q:AV->St->Prop} {X:h5->St->Prop},Rd B W x a u ag us m->W=ag++L->(∀e∈W,ua e)->2*L.length<=d->us.length+D.length<=100000->(∀m' b,g2.A [a,u] m m'->(r=V->W=b++R'/\ag.length<=b.length)->(r=V->Rd B W x a u b (us++D.map iw) m')->m'.j u=U (.m (us++D.map iw))->Q (ow B r) m'.i)->Zl C d B x a u Q X a6 m c
theorem Dk(h:Pr R0 a t R):R.length<=R0.length:=by
 induction h;.exact g' _
 .exact iA _
 .exact iA _
 .exact ih _ 2
 .exact ih _ 2
theorem Zn(h:Pr R0 a t R):∃e b,R0=e::b:=by induction h<;>exact⟨_,_,rfl⟩
noncomputable def Zo:Md->Nat| .key _ _=>3| .val _ _=>2|_=>0
noncomputable def K1:Md->Option (Nat×Nat)->Nat| .node,r=>r.elim 3 λa=>0|_,_=>0
theorem Zp:∀x,K1 .node x<=3|none=>g' _|some _=>jd _
theorem Zq(h:Pr R0 a t R):(iB a=g\/iB t=g)->R.length+1<=R0.length:=by
 induction h;.exactλh=>h.elim (iG) iG
 .exactλb=>g' _
 .exactλb=>g' _
 .exactλb=>iA _
 .exactλb=>iA _
theorem wg{D r n k d m:Nat}(h:D+r<=n)(q:k+d<=m):D+k+(r+d)<=n+m:=f1 (im<|Nat.add_add_add_comm D k r d)<|h9 h q
theorem wh{A D:List Ev}{r n m}(h:D.length+r<=n)(q:A.length<=m):(A++D).length+r<=n+m:=by rw[hz,nJ A.length];exact wg (d:=0) h q
theorem Dl{A D:List Ev}{r n k}(h:A.length+(k+3)<=n)(q:D.length+r<=k+3):(A++D).length+r<=n:=by rw[hz,oG];exact f1 (hJ q _) h
theorem K2(h:RD j L D r R'):D.length+(4*R'.length+K1 j r)<=4*L.length+Zo j:=by
 haveI i:∀c,(lv c).length<=1:=λc=>by unfold lv;split<;>decide
 induction h with|bI=>exact im<|nJ 1 _|dI _ f=>exact f1 (im<|nJ 1 _)<|jY 4<|Dk f|@eH _ _ _ _ _ _ _ x _ f _ _ a=>exact f1 (wg a<|hJ (Zp x) 1)<|jY 4<|Dk f|aE=>exact im<|mU _|eb _ f k=>exact f1 (im<|nJ 1 _)<|jY 4<|Zq f k|dq=>exact f1 (im<|nJ 1 _)<|hJ (by decide) _|fg=>exact im<|mU _|fh _ _ _ a=>exact f1 a<|jY 4<|iA _|fst _ _ a=>exact a|@ask cl _ _ _ _ _ _ _ _ a=>haveI h:=wh a<|(λc=>by unfold qq;split<;>decide:∀c,(qq c).length<=1) cl;exact h|eB _ _ _ a=>exact a|@fi cl _ _ _ _ _ _ _ _ _ _ _ _ b e=>exact Dl b<|wh e<|f1 ((λc=>by unfold pE;split<;>decide:∀c,(pE c).length<=1) cl) (by decide)|fj _ _ _ a=>exact a|fk _ _ a=>haveI h:=wg (d:=0) a<|g' 1;exact h|fl _ _ _ b e=>exact f1 (Dl b<|jw e)<|ih _ 3|fm _ _ a=>exact f1 a<|ih _ 3|@fo cl _ _ _ _ _ _ _ _ a=>haveI h:=wg (d:=0) (wh a<|i cl)<|g' 1;exact h|@fp cl _ _ _ _ _ _ _ _ _ _ a=>exact f1 (wg (d:=0) (wh a<|i cl)<|g' 1)<|iq (jY 4<|iA _) 2|@fq cl _ _ _ _ _ _ _ _ _ _ _ _ _ b e=>refine f1 (?_:_<=4*_)<|f1 (jY 4<|iA _)<|ih _ 2;exact Dl b<|wh e<|f1 (i cl) (by decide)|fr _ _ _ a=>exact f1 a<|f1 (jY 4<|iA _)<|ih _ 2
end
section
open PySem
theorem jO(h:a≠b):ha a b=false:=mZ lK h
noncomputable def qw:DS:=IR.snd.snd.snd.snd
theorem K3{m:g2}{x a}{ρ}(h0:ρ[0]?=U (U<|.mut<|.j x))(h1:ρ[1]?=U (U<|.mut<|.j a))(hx:m.j x=U (pN B W))(h:m.j a=U (kU ag.length))(hW:W=ag++e::R)(q:k.n (((ρ.set 5<|U<|.str e.d).set 6<|U<|kq B e.o).set 7<|U<|o1 e) m.i):WS T C (.cQ [5,6,7] o2) ρ m.i k:=Dg h0 h1 hx h hW q
noncomputable def pO(B:List Nat)(x a u:Nat)(an b:AV)(e:El):Loc:=[U (.mut (.j x)),U (.mut (.j a)),U (.mut (.j u)),U an,U b,U (.str e.d),U (kq B e.o),U (o1 e),V,V]
section
variable{C:PC}{B:List Nat}{W:List El}{x a u:Nat}{k:KS}
theorem ud(D:Rd B W x a u ag us m)(hW:W=ag++e::f::R)(h:(e.d=[38]/\n=.none)\/(e.d=[33]/\o=.none/\(n=.none\/∃s,n=.str s)))(K:j0 (WE g3 C qw.fst.eJ) (WS g3 C qw.fst.bE) k (pO B x a u (if e.d=[38]then .str e.aH else n) (if e.d=[38]then o else .str (33::e.aH)) f) (m.set a<|kU (ag.length+1)).i):j0 (WE g3 C qw.fst.eJ) (WS g3 C qw.fst.bE) k (pO B x a u n o e) m.i:=by
 haveI r:=D.cM e;have l:∀{ρ} {t},ρ[0]?=U (U _)->ρ[1]?=U (U _)->t.n (((ρ.set 5<|U<|.str f.d).set 6<|U<|kq B f.o).set 7<|U<|o1 f) (m.set a<|kU (ag.length+1)).i->WS g3 C (.seq Dh<|.cQ _ o2) ρ m.i t:=λh0 h1 q=>Di h1 D.bh<|K3 h0 h1 r.a2 r.bh (by rw[hW,h2];rfl) q;obtain⟨c,p,nm,ar⟩:=e;refine .turn (j0 _ _ k) (λy y h=>h) ?_;clear hW;rcases h with⟨h,i⟩|⟨h,j,w⟩;clear zz3 i;rotate_left 1;clear zz3 j;rotate_right 1
 .subst h;exact l (ρ:=(pO B x a u _ o _).set 3 _) O O K
 .subst h;rcases w with b|⟨s,d⟩;clear zz3 b K;rotate_left 1;clear zz3 d K;rotate_right 1
  .exact l (ρ:=(pO B x a u _ _ _).set 4 _) O O K
  .exact l (ρ:=(pO B x a u _ _ _).set 4 _) O O K
theorem wi{m:g2}(h1:e.d≠[38]\/∃s,l=.str s)(i:e.d≠[33]\/∃s,n=.str s)(K:k.n (pO B x a u l n e) m.i):j0 (WE g3 C qw.fst.eJ) (WS g3 C qw.fst.bE) k (pO B x a u l n e) m.i:=by
 refine .turn _ (λo o h=>h) ?_;obtain⟨c,p,nm,ar⟩:=e;rcases h1 with h1|⟨s,d⟩;rotate_left 1;clear zz3 d K;rotate_right 1
 .left;rw[jO h1];rcases i with i|⟨s,f⟩;rotate_left 1;clear zz3 f K;rotate_right 1
  .left;rw[jO i];exact K
  .left;induction ha c _ with|true=>exact K|false=>exact K
 .left;induction h:ha c _ with
  |true=>
   rw[lK.mp h]at i K ⊢;rcases i with i|⟨s,j⟩;. exact K
   .exact K
  |false=>
   left;rcases i with i|⟨s,b⟩;rotate_left 1;clear zz3 b K;rotate_right 1
   .rw[jO i];exact K
   .induction ha c _ with|true=>exact K|false=>exact K
noncomputable def Zr(B:List Nat)(W:List El)(x a u:Nat)(k:KS)(ag:List El)(us:List AV)(m:g2)(jQ t:AV)(e:El)(R:List El):Prop:=∀m' b,g2.A [a,u] m m'->W=b++e::R->ag.length<=b.length->((iB jQ=g\/iB t=g)->ag.length+1<=b.length)->Rd B W x a u b us m'->k.n (pO B x a u jQ t e) m'.i
set_option tactic.hygienic true in
theorem Zs(P:Pr R0 n t (e::R))(h0:∃p,R0=c::p)(D:Rd B W x a u ag us m)(hW:W=ag++R0)(K:Zr B W x a u k ag us m n t e R):j0 (WE g3 C qw.fst.eJ) (WS g3 C qw.fst.bE) k (pO B x a u .none .none c) m.i:=by
 exists j;obtain⟨p,h0⟩:=h0;haveI l:=(g2.A.refl [a,u] m).set (kU (ag.length+1))<|.inl<|.head _;cases P with
 |n h1 b=>obtain⟨rfl,rfl⟩:=rC h0;exact j<|wi (.inl h1) (.inl b)<|K m _ (.refl _ _) hW (g' _) (λh=>absurd h (by decide)) D
 |aZ h1 b=>cases h0;refine j<|ud D hW (.inl ⟨h1,rfl⟩) ?_;rw[if_pos h1,if_pos h1];exact wi (.inr ⟨_,rfl⟩) (.inl b)<|K _ (ag++[c]) l (by rw[hW,h2];rfl) (by rw[hz];apply ih<;>right) (λo=>by rw[hz];exact g' _)<|D.cM c
 |bc h1 b=>cases h0;refine j<|ud D hW (.inr ⟨h1,rfl,.inl O⟩) ?_;rw[if_neg (by rw[h1];decide),if_neg (by rw[h1];decide)];exact wi (.inl b) (.inr ⟨_,rfl⟩)<|K _ (ag++[c]) l (by rw[hW,h2];rfl) (by rw[hz];apply ih<;>right) (λo=>by rw[hz];exact g' _)<|D.cM c
 |«at» h1 b=>
  cases h0;rename_i f;refine j<|ud D hW (.inl ⟨h1,rfl⟩) ?_;rw[if_pos h1,if_pos h1];haveI d:W=(ag++[c])++f::e::R:=by rw[hW,h2];rfl
  haveI i:=D.cM c;refine ud i d (.inr ⟨b,rfl,.inr ⟨_,rfl⟩⟩) ?_;rw[if_neg (by rw[b];decide),if_neg (by rw[b];decide)];exact wi (.inr ⟨_,rfl⟩) (.inr ⟨_,rfl⟩)<|K _ ((ag++[c])++[f]) (l.set _<|.inl (.head _)) (by rw[d,h2 _ [f]];rfl) (by simp only[hz,mT,uD];apply iN<;>right) (λo=>by simp only[hz,mT,uD];apply rO<;>right)<|i.cM f
 |fD h1 b=>
  cases h0;rename_i f;refine j<|ud D hW (.inr ⟨h1,rfl,.inl O⟩) ?_;rw[if_neg (by rw[h1];decide),if_neg (by rw[h1];decide)];haveI d:W=(ag++[c])++f::e::R:=by rw[hW,h2];rfl
  haveI i:=D.cM c;refine ud i d (.inl ⟨b,rfl⟩) ?_;rw[if_pos b,if_pos b];exact wi (.inr ⟨_,rfl⟩) (.inr ⟨_,rfl⟩)<|K _ ((ag++[c])++[f]) (l.set _<|.inl (.head _)) (by rw[d,h2 _ [f]];rfl) (by simp only[hz,mT,uD];apply iN<;>right) (λo=>by simp only[hz,mT,uD];apply rO<;>right)<|i.cM f
end
end
section
open PySem
noncomputable def sM(T:oJ)(C:PC)(b:DS)(k:KS):KS:=⟨λρ st=>WS T C b ρ st k,k.aX,k.b,k.aK⟩
noncomputable def K4(v:Bool)(a b:DS):DS:=match v with|H=>a|g=>b
theorem n5(v)(h:∀Q,Q (.bool v) st->WE T C t ρ st Q (k.aK ρ))(q:WS T C (K4 v a b) ρ st k):WS T C (.ite t a b) ρ st k:=h _ (by induction v<;>exact q)
theorem kV(v)(h:∀Q,Q (.bool v) st->WE T C t ρ st Q (k.aK ρ))(q:WS T C (K4 v a b) ρ st<|sM T C c k):WS T C (.seq (.ite t a b) c) ρ st k:=n5 v h q
theorem j5(h:∀Q,Q (.bool g) st->WE T C t ρ st Q (k.aK ρ))(q:WS T C c ρ st k):WS T C (.seq (.ite t a .da) c) ρ st k:=kV _ h q
theorem Dm(v)(h:∀Q,Q v st->WE T C e ρ st Q (k.aK ρ))(q:WS T C c (qT v b ρ) st k):WS T C (.seq (.bT b e) c) ρ st k:=h _ q
theorem Zt(q:j0 (WE T C t) (WS T C b) (sM T C c k) ρ st):WS T C (.seq (.bs t b) c) ρ st k:=q
theorem ru{m:g2}(h1:ρ[1]?=U (U<|.mut<|.j a))(h:m.j a=U (kU i))(q:WS T C c ρ (m.set a<|kU (i+1)).i k):WS T C (.seq Dh c) ρ m.i k:=Di h1 h q
theorem pP{ρ}{m:g2}(v)(h0:ρ[i]?=U (U<|.mut<|.j r))(h:m.j r=U (.m us))(hl:us.length<1000000)(he:∀Q,Q v m.i->WE T C e ρ m.i Q (k.aK ρ))(q:k.n ρ (m.set r<|.m (us++[v])).i):WS T C (.y<|.aD (.j i) e) ρ m.i k:=Zi h0 h hl he q
theorem rv{m:g2}(v)(h0:ρ[i]?=U (U<|.mut<|.j r))(h:m.j r=U (.m us))(hl:us.length<1000000)(he:∀Q,Q v m.i->WE T C e ρ m.i Q (k.aK ρ))(q:WS T C c ρ (m.set r<|.m (us++[v])).i k):WS T C (.seq (.y<|.aD (.j i) e) c) ρ m.i k:=pP v h0 h hl he q
theorem K5{m:g2}{x a}(h0:ρ[0]?=U (U<|.mut<|.j x))(h1:ρ[1]?=U (U<|.mut<|.j a))(hx:m.j x=U (pN B W))(h:m.j a=U (kU ag.length))(hW:W=ag++e::R)(q:WS T C c (((ρ.set 5<|U<|.str e.d).set 6<|U<|kq B e.o).set 7<|U<|o1 e) m.i k):WS T C (.seq (.cQ [5,6,7] o2) c) ρ m.i k:=K3 h0 h1 hx h hW q
theorem y4{e}(v)(he:∀Q,Q v st->WE T C e ρ st Q (k.aK ρ))(q:k.aX v st):WS T C (.ret e) ρ st k:=he _ q
theorem ue{T}{C}{ρ:Loc}{st}{i:Nat}{c l:List _}{b}{X:h5->St->Prop}(h0:ρ[i]?=U (U<|.str c))(h:ha c l=b)(Q:AV->St->Prop)(q:Q (.bool b) st):WE T C (.Q .eq (.j i)<|.aI<|.str l) ρ st Q X:=by show(match ρ[i]? with|some<|U x=>(match k7 T st _ x<|.str l with|some r=>Q _ st|hR=>False)|_=>False);rw[h0];exists d;subst h;exact d q
noncomputable def Zu:DS:=qw.snd
section
variable{C:Nat->PC}(Y:kB C){B:List Nat}{W:List El}{x a u:Nat}
include Y
theorem Zv(h:e.d=[42]):i7 C B W x a u .node (e::R) [.bI<|.str e.aH] V R:=by refineλ_ d m ag us a6 Q X D hW l k n K=>Y.c O O<|K5 O O D.a2 D.bh hW ?_;haveI b:=D.dJ<|.av [.str [97,108,105,97,115],.str e.aH];haveI i:=((g2.A.refl [a,u] m).set (.m (us++[.av [.str [97,108,105,97,115],.str e.aH]]))<|.inl<|.tail _ (.head _)).set (kU (ag.length+1))<|.inl<|.head _;haveI f:=b.cM e;obtain⟨c,p,nm,ar⟩:=e;subst h;exact kV H (λQ q=>q)<|rv _ O D.cu (by apply hy<;>right) (λQ q=>q)<|ru O b.bh<|K _ (ag++[⟨_,p,nm,_⟩]) i (λj=>⟨by rw[hW,h2];rfl,by rw[hz];apply ih<;>right⟩) (λj=>f) f.cu
theorem y5(h:∀x j,R0=x::j->x.d≠[42])(P:Pr R0 c t (e::R))(D:Rd B W x a u ag us m)(hW:W=ag++R0)(K:∀m' b,g2.A [a,u] m m'->W=b++e::R->ag.length<=b.length->((iB c=g\/iB t=g)->ag.length+1<=b.length)->Rd B W x a u b us m'->WS g3 (C d) Zu (pO B x a u c t e) m'.i (y3 Q X)):C (d+1) 1581 [.mut<|.j x,.mut<|.j a,.mut<|.j u] m.i Q X:=by refine Y.c O O<|kf λi=>?_;obtain⟨f,j,h0⟩:=Zn P;exact i<|K5 O O D.a2 D.bh (by rw[hW,h0])<|j5 (ue O (jO<|h f j h0))<|Zs P ⟨j,h0⟩ D hW K
end
end
section
open PySem
theorem Zw(l)(h:∀Q,Q (.av l) st->WE T C e ρ st Q (k.aK ρ))(b:qU d l ρ=U aj)(q:WS T C c aj st k):WS T C (.seq (.cQ d e) c) ρ st k:=h _<|nj (P:=λρ=>WS T C c ρ st k) b q
theorem Dn(h:Pr R0 a t R):(a=.none\/∃s,a=.str s)/\(t=.none\/∃s,t=.str s):=by induction h<;>exact⟨by first|exact .inl O|exact .inr ⟨_,rfl⟩,by first|exact .inl O|exact .inr ⟨_,rfl⟩⟩
theorem Zx(he:e.d=[119]):o1 e=.av [.str e.aH,e.b_]:=by cases e;cases he;rfl
theorem K6(h0:ρ[i]?=U (U<|.str c))(h:(ha c l||ha c d)=b)(Q)(q:Q (.bool b) st):WE T C (.or (.Q .eq (.j i)<|.aI<|.str l)<|.Q .eq (.j i)<|.aI (.str d)) ρ st Q X:=by refine ue h0 O _ ?_;induction h1:ha c l with|true=>rw[h1]at h;clear zz3 (Eq.symm h) q;exact q|false=>rw[h1]at h;exact ue h0 h Q q
section
variable{C:Nat->PC}(Y:kB C){B:List Nat}{W:List El}{x a u:Nat}
include Y
theorem Zy(h:∀x E,R0=x::E->x.d≠[42])(P:Pr R0 b t (e::R))(he:e.d=[119]):i7 C B W x a u .node R0 [.aU b t (iB e.b_&&iB t) (!(iB e.b_)&&iB t) e.aH e.b_] V R:=by refineλ_ d m ag us a6 Q X D hW r y z K=>y5 Y h P D hW λm' k o f hl w D=>?_;haveI st:=(r e (by rw[f];simp)).1;haveI A:=(Dn P).2;haveI l:=D.cM e;haveI n:=l.dJ<|iw<|.aU b t (iB e.b_&&iB t) (!(iB e.b_)&&iB t) e.aH e.b_;haveI i:=(o.set (kU (k.length+1))<|.inl<|.head _).set (.m (us++[iw<|.aU b t (iB e.b_&&iB t) (!(iB e.b_)&&iB t) e.aH e.b_]))<|.inl<|.tail _ (.head _);haveI j:=K _ _ i (λw=>⟨by rw[f,h2];rfl,by rw[hz];apply jw<;>right⟩) (λw=>n) n.cu;refine kV H (ue O (by rw[he];rfl))<|ru O D.bh<|Zw [.str _,e.b_] (λQ q=>show Q _ _ from(Zx he).symm▸q) O<|rv _ O l.cu (by apply hy<;>right) (λQ q=>?_)<|y4 .none (λQ q=>q) j;clear j i n l hl f o D K z y r hW he P h;obtain⟨c,p,nm,ar⟩:=e;rcases A with rfl|⟨s,rfl⟩<;>rcases st with rfl|rfl<;>exact q
theorem Zz(h1:e.d≠[42])(f:e.d≠[38])(i:e.d≠[33])(j:e.d≠[119])(k:e.d≠[91])(l:e.d≠[123]):i7 C B W x a u .node (e::R) [] (U (e.o,e.o)) (e::R):=by refineλ_ d m ag us a6 Q X D hW p o q K=>y5 Y (λx s h=>by obtain⟨rfl,rfl⟩:=rC h;exact h1) (.n f i) D hW λm' b c n hl r D=>j5 (ue O<|jO j)<|j5 (K6 O (by rw[jO k,jO l];rfl))<|K m' b c (λh=>hH<|Eq.symm h) (λh=>hH<|Eq.symm h) ?_;rw[D.cu,iL]
theorem ZA{e}(h:∀x L,R0=x::L->x.d≠[42])(P:Pr R0 f t (e::R))(w:iB f=g\/iB t=g)(o:e.d≠[119])(p:e.d≠[91])(r:e.d≠[123]):i7 C B W x a u .node R0 [.aU f t (iB t) g [] .none] V (e::R):=by
 refineλ_ d m ag us a6 Q X D hW z y A K=>y5 Y h P D hW λm' E n k hl I D=>?_;haveI l:=D.dJ<|iw<|.aU f t (iB t) g [] .none;haveI i:=n.set (.m (us++[iw<|.aU f t (iB t) g [] .none]))<|.inl<|.tail _ (.head _);haveI j:=K _ _ i (λI=>⟨k,hl⟩) (λI=>l) l.cu;refine hv (Dn P) λJ G=>j5 (ue O<|jO o)<|j5 (K6 O (by rw[jO p,jO r];rfl))<|j5 (λQ q=>?_) ?_
 .clear j i l hl k n D K A y z hW o p r P h;rcases J with rfl|⟨s,rfl⟩<;>rcases G with b|⟨s',c⟩;clear zz3 b w;rotate_left 1;clear zz3 c;rotate_right 1
  .exact absurd w (by decide)
  .exact q
  .exact q
  .exact q
 .refine rv _ O D.cu (by apply hy<;>right) (λQ q=>?_)<|y4 .none (λQ q=>q) j;clear j i l hl k n D K A y z hW o p r w P h;rcases G with rfl|⟨s,rfl⟩<;>exact q
theorem ZB(h:∀x aH,R0=x::aH->x.d≠[42])(P:Pr R0 j t (e::R))(E:e.d=[91]\/e.d=[123])(M:i7 C B W x a u (.loop (tZ e.d) e.o H) R D r R'):i7 C B W x a u .node R0 (sB e.d j t::D) r R':=by
 refineλ_ d m ag us a6 Q X l hW au hd J K=>y5 Y h P l hW λm' z ev y hl aG l=>?_;have I:=l.dJ<|iw<|sB e.d j t;have o:=ev.set (.m (us++[iw<|sB e.d j t]))<|.inl<|.tail _ (.head _);haveI L:=I.cM e;haveI w:=o.set (kU (z.length+1))<|.inl<|.head _;have aD:R.length+1<=R0.length:=Dk P;obtain⟨d,rfl⟩:∃d',d=d'+2:=⟨d - 2,(Nat.sub_add_cancel (f1 (jY 2 (f1 (Nat.le_add_left 1 _) aD)) hd)).symm⟩;haveI go:=M (E.imp (congrArg _)<|congrArg _) (d:=d) (a6:=V) (X:=X) L (by rw[y,h2];rfl) au (Nat.le_of_add_le_add_right (b:=2) (f1 (jY 2 aD) hd)) (by rw[hz];simp only[mT,uD];exact je<|f1 (hJ (jM<|hJ (by decide) _) _) J) λm2 A e2 h1 aE aF=>K m2 A (w.trans<|e2.sub λn=>.inl) (λG=>⟨(h1 G).1,by haveI:=(h1 G).2;rw[hz]at this;exact f1 (l_ hl) this⟩) (λG=>by haveI:=aE G;rw[h2]at this;exact this) (by rw[aF,h2];rfl);haveI av:=(Dn P).2;haveI b:C (d+2) 1588 [.mut _,.mut _,.mut _,.str _,kq B _] (m'.set u _).i Q X:=Y.c O O<|ru O I.bh<|Zt go;haveI T:=l.cu;haveI l0:us.length<1000000:=(iy<|f1 (hJ (jv _ _) _)<|f1 J (by decide));clear h P M K hW au hd J y hl I o L w aD go l;obtain⟨c,p,nm,ar⟩:=e;haveI E:c=[91]\/c=[123]:=E;exists k;rcases E with f|i;clear zz3 f b k;rotate_left 1;clear zz3 i b k;rotate_right 1
 .refine k<|j5 (λQ q=>q)<|kV _ (λQ q=>q) (rv _ O T l0 (λQ q=>?_) b);clear b k;rcases av with rfl|⟨s,rfl⟩<;>exact q
 .refine k<|j5 (λQ q=>q)<|kV _ (λQ q=>q) (rv _ O T l0 (λQ q=>?_) b);clear b k;rcases av with rfl|⟨s,rfl⟩<;>exact q
end
end
section
open PySem
theorem K7:k7 T st .cg (.str a) (.av l)=lF a l:=by rcases a with _|⟨c,_|⟨d,r⟩⟩<;>rfl
section
variable{B:List Nat}{W ag R:List El}{e:El}{m:g2}{x a:Nat}{ρ:Loc}{T:oJ}{C:PC}{X:h5->St->Prop}(h0:ρ[0]?=U (U (.mut (.j x))))(h1:ρ[1]?=U (U (.mut (.j a))))(hx:m.j x=U (pN B W))(h:m.j a=U (kU ag.length))(hW:W=ag++e::R)
include h0 h1 hx h hW
theorem rx{l:List _}{b}(he:ha e.d l=b)(Q:AV->St->Prop)(q:Q (.bool b) m.i):WE T C (.Q .eq (.sub o2<|.aI<|.int 0)<|.aI<|.str l) ρ m.i Q X:=we (Q:=λx st=>match k7 T st _ x<|.str l with|some r=>Q _ st|hR=>False) h0 h1 hx h hW (by subst he;exact q)
theorem K8(he:ha e.d l=!b)(Q)(q:Q (.bool b) m.i):WE T C (.Q .b' (.sub o2<|.aI<|.int 0)<|.aI<|.str l) ρ m.i Q X:=we h0 h1 hx h hW (by show Q _ _;rw[he,Bool.not_not];exact q)
theorem y6(c:ρ[3]?=U (U<|.str l))(he:ha e.d l=!b)(Q)(q:Q (.bool b) m.i):WE T C (.Q .b' (.sub o2<|.aI<|.int 0)<|.j 3) ρ m.i Q X:=we h0 h1 hx h hW (by show(match ρ[3]? with|some<|U a=>(match k7 T _ _ _ a with|some r=>Q _ _|hR=>False)|_=>False);rw[c];show Q _ _;rw[he,Bool.not_not];exact q)
theorem Do(c:ρ[3]?=U (U<|.str l))(he:(ha e.d [58]||(ha e.d [44]||ha e.d l))=b)(Q)(q:Q (.bool b) m.i):WE T C (.Q .cg (.sub o2<|.aI<|.int 0)<|.av<|.cons (.aI (.str [58])) (.cons (.aI (.str [44])) (.cons (.j 3) .nil))) ρ m.i Q X:=we h0 h1 hx h hW (by show(match ρ[3]? with|some<|U a=>(match k7 T _ _ _ _ with|some r=>Q _ _|hR=>False)|_=>False);rw[c];show(match k7 T m.i .cg (.str _)<|.av [.str _,.str _,.str l]with|some r=>Q _ _|hR=>False);rw[show k7 T _ _ _ _=U b from K7.trans<|oV he];exact q)
theorem Dp(c:ρ[3]?=U (U<|.str l))(he:(ha e.d [44]||ha e.d l)=b)(Q)(q:Q (.bool b) m.i):WE T C (.Q .cg (.sub o2<|.aI<|.int 0)<|.av<|.cons (.aI (.str [44])) (.cons (.j 3) .nil)) ρ m.i Q X:=we h0 h1 hx h hW (by show(match ρ[3]? with|some<|U a=>(match k7 T _ _ _ _ with|some r=>Q _ _|hR=>False)|_=>False);rw[c];show(match k7 T m.i .cg (.str _)<|.av [.str _,.str l]with|some r=>Q _ _|hR=>False);rw[show k7 T _ _ _ _=U b from K7.trans<|ra he];exact q)
end
section
variable{C:Nat->PC}(Y:kB C){B:List Nat}{W:List El}{x a u cl op:Nat}
omit Y in
theorem y7{C}{Q:AV->St->Prop}{X:h5->St->Prop}{f}{a6:Option AV}{ag R:List El}{e}{us:List AV}{m}(D:Rd B W x a u ag us m)(hW:W=ag++e::R)(b)(he:ha e.d [cl]=!b)(q:match b with
 |true=>WS g3 C Dj (mQ B x a u cl op f a6) m.i<|uc C Q X|false=>WS g3 C wf.snd (mQ B x a u cl op f a6) m.i<|y3 Q X):ub C Q X (mQ B x a u cl op f a6) m.i:=by
 refine .turn (ub C Q X) (λc c h=>h)<|y6 O O D.a2 D.bh hW O he _ ?_
 induction b with|true=>exact q|false=>exact q
theorem ZC(he:e.d=[cl]):i7 C B W x a u (.loop cl op f) (e::R) [rc cl] V R:=by refineλj d m ag us a6 Q X D hW o n k K=>y7 D hW g (by rw[he];exact lK.mpr O) ?_;haveI c:=D.cM e;haveI b:=c.dJ<|iw<|rc cl;haveI i:=((g2.A.refl [a,u] m).set (kU (ag.length+1))<|.inl<|.head _).set (.m (us++[iw<|rc cl]))<|.inl<|.tail _ (.head _);refine ru O D.bh<|rv (iw<|rc cl) O c.cu (by apply hy<;>right) (λQ q=>?_)<|y4 .none (λQ q=>q)<|K _ (ag++[e]) i (λl=>⟨by rw[hW,h2];rfl,by rw[hz];apply ih<;>right⟩) (λl=>b) b.cu;clear i b K k he;rcases j with rfl|rfl<;>exact q
theorem ZD(h1:e.d≠[cl])(b:e.d≠[44]):i7 C B W x a u (.loop cl op g) (e::R) [] (U (e.o,op)) (e::R):=by refineλc d m ag us a6 Q X D hW i f j K=>y7 D hW H (jO h1)<|kV H (λQ q=>q)<|kV H (λQ q=>K8 O O D.a2 D.bh hW (jO b) Q q)<|y4 (.av _) (λQ q=>?_)<|K m ag (.refl _ _) (λh=>hH<|Eq.symm h) (λh=>hH<|Eq.symm h) (by rw[D.cu,iL]);exact Zh (ρ:=mQ B x a u cl op _ a6) O O D.a2 D.bh hW q
theorem ZE(h1:e.d=[44])(l:cl≠44)(j:i7 C B W x a u (.b1 cl op) R D r R'):i7 C B W x a u (.loop cl op g) (e::R) D r R':=by refineλo d m ag us a6 Q X b hW s p t K=>y7 b hW H (jO (by rw[h1];exactλh=>l (by injection h with h;exact h.symm)))<|kV H (λQ q=>q)<|j5 (K8 O O b.a2 b.bh hW (by rw[h1];rfl))<|Di O b.bh ?_;haveI c:=(g2.A.refl [a,u] m).set (kU (ag.length+1))<|.inl<|.head _;exact j o (b.cM e) (by rw[hW,h2];rfl) s ((f1 (jY _<|ih _ _) p)) t λm2 i k g1=>K m2 _ (c.trans<|k.sub λn h=>.inl h) λf=>⟨(g1 f).1,by haveI:=(g1 f).2;rw[hz]at this;apply iN<;>right⟩
theorem ZF(h1:e.d≠[cl])(c:i7 C B W x a u (.b1 cl op) (e::R) D r R'):i7 C B W x a u (.loop cl op H) (e::R) D r R':=λf d m ag us a6 Q X b hW j i k K=>y7 b hW H (jO h1)<|Dm (.bool _) (λQ q=>q)<|c f b hW j i k K
end
end
section
open PySem
noncomputable def K9:DS:=y2.fst.a5.fst
section
variable{C:Nat->PC}(Y:kB C){B:List Nat}{W:List El}{x a u cl op:Nat}
omit Y in
theorem wj{L R':List El}{D:List Ev}{r:Option (Nat×Nat)}(c:i7 C B W x a u .node L D r R'){d}{m}{ag:List El}{us:List AV}{a6:Option AV}{f:Bool}{k:KS}(h:Rd B W x a u ag us m)(hW:W=ag++L)(o:∀e∈W,ua e)(n:2*L.length<=d)(p:us.length+D.length<=100000)(K:∀m' b,g2.A [a,u] m m'->(r=V->W=b++R'/\ag.length<=b.length)->(r=V->Rd B W x a u b (us++D.map iw) m')->m'.j u=U (.m (us++D.map iw))->match r with|none=>k.n (mQ B x a u cl op f<|U .none) m'.i|some v=>k.aX (ow B<|U v) m'.i):WS g3 (C (d+1)) (.seq K9<|.ite (.Q .c4 (.j 6)<|.aI .none) (.ret<|.j 6) .da) (mQ B x a u cl op f a6) m.i k:=by refine c trivial (a6:=V) h hW o n p λm' b i g1 j l=>?_;haveI:=K m' _ i g1 j l;clear K;induction r with|none=>exact this|some v=>exact this
omit Y in
theorem K_{L R':List El}{D:List Ev}{r:Option (Nat×Nat)}(h:i7 C B W x a u .node L D r R'){d}{m}{ag:List El}{us:List AV}{a6:Option AV}{f:Bool}{k:KS}{c:DS}(i:Rd B W x a u ag us m)(hW:W=ag++L)(l:∀e∈W,ua e)(j:2*L.length<=d)(n:us.length+D.length<=100000)(K:∀m' b,g2.A [a,u] m m'->(r=V->W=b++R'/\ag.length<=b.length)->(r=V->Rd B W x a u b (us++D.map iw) m')->m'.j u=U (.m (us++D.map iw))->match r with|none=>WS g3 (C (d+1)) c (mQ B x a u cl op f<|U .none) m'.i k|some v=>k.aX (ow B<|U v) m'.i):WS g3 (C (d+1)) (.seq K9<|.seq (.ite (.Q .c4 (.j 6)<|.aI .none) (.ret<|.j 6) .da) c) (mQ B x a u cl op f a6) m.i k:=wj h i hW l j n K
omit Y in
theorem ZG(h1:e.d=[cl])(f:cl≠63)(c:i7 C B W x a u (.loop cl op g) (e::R) D r R'):i7 C B W x a u (.b1 cl op) (e::R) D r R':=λi d m ag us a6 Q X b hW k j l K=>n5 g (rx O O b.a2 b.bh hW<|jO (by rw[h1];exactλh=>f (by injection h)))<|n5 g (y6 O O b.a2 b.bh hW O (by rw[h1];exact lK.mpr O))<|c i b hW k j l K
omit Y in
theorem ZH(h1:e.d≠[63])(M:e.d≠[cl])(l:i7 C B W x a u .node (e::R) h V t)(o:i7 C B W x a u (.loop cl op g) t k r E):i7 C B W x a u (.b1 cl op) (e::R) (h++(pE cl++k)) r E:=by
 intro w d m ag us a6 Q X i hW y hd A K;have j:=by rw[hz,hz]at A;exact A
 refine n5 g (rx O O i.a2 i.bh hW<|jO h1)<|n5 H (y6 O O i.a2 i.bh hW O<|jO M)<|K_ l i hW y hd ((f1 (hJ (ih _ _) _) j)) λm1 pQ G g1 L aD=>hv (g1 O) λg1 s=>?_;haveI f:=L O;haveI av:pQ.length+t.length=ag.length+(e::R).length:=by rw[<-hz,<-hz,<-g1,<-hW]
 haveI au:(us++h.map iw).length=us.length+h.length:=by rw[hz,ig]
 haveI aE:∀m2 aF,pE cl=aF->g2.A [a,u] m1 m2->Rd B W x a u _ ((us++h.map _)++aF.map _) m2->ub (C (d+1)) Q X (mQ B x a u cl op _<|U .none) m2.i:=λm2 aF T I p=>by subst T;refine o w p g1 y (f1 (jY 2 (Nat.le_of_add_le_add_left (f1 (iq s _) (im av)))) hd) (by rw[hz,ig];exact je<|f1 (kD<|iq (im au) _) j) λm3 D J k1 k2 k3=>?_;rw[(by rw[k4,k4,h2,h2]:((us++h.map _)++(pE cl).map _)++k.map _=us++(h++(pE cl++k)).map iw)]at k2 k3;exact K m3 _ (G.trans (I.sub (λn=>.inl) |>.trans (J.sub λn=>.inl))) (λz=>⟨(k1 z).1,f1 s (k1 z).2⟩) k2 k3
 rcases w with b|c;clear zz3 b aE;rotate_left 1;clear zz3 c aE;rotate_right 1
 .exact aE m1 [] rfl (.refl _ _) (by rw[iL];exact f)
 .exact n5 H (λQ q=>q)<|pP (iw kz) O f.cu (Nat.lt_of_le_of_lt (f1 (im au) (f1 (hJ (ih _ _) _) j)) (by decide)) (λQ q=>q)<|aE _ [kz] rfl ((g2.A.refl _ _).set _<|.inl<|.tail _ (.head _))<|f.dJ _
omit Y in
theorem ZI(h1:e.d≠[63])(i:e.d≠[cl])(c:i7 C B W x a u .node (e::R) f (U v) h):i7 C B W x a u (.b1 cl op) (e::R) f (U v) h:=λn d m ag us a6 Q X b hW k j l K=>n5 g (rx O O b.a2 b.bh hW<|jO h1)<|n5 H (y6 O O b.a2 b.bh hW O<|jO i)<|K_ c b hW k j l λm1 pQ=>K m1 _
omit Y in
theorem ZJ(h1:e.d=[63])(t:i7 C B W x a u (.key cl op) R D r R'):i7 C B W x a u (.b1 cl op) (e::R) (qq cl++D) r R':=by
 intro l d m ag us a6 Q X h hW G E p K;haveI k:=by rw[hz]at p;exact p
 refine n5 H (rx O O h.a2 h.bh hW<|lK.mpr h1)<|ru O h.bh ?_;haveI i:=h.cM e;haveI f:=(g2.A.refl [a,u] m).set (kU (ag.length+1))<|.inl<|.head _;haveI I:∀m2 J,qq cl=J->g2.A _ m m2->Rd B W x a u (ag++[e]) (us++J.map _) m2->WS g3 (C (d+1)) y2 (mQ B x a u cl op g a6) m2.i (uc (C (d+1)) Q X):=λm2 J z w j=>by exists A;subst z;refine A<|t l j (by rw[hW,h2];rfl) G (f1 (jY _<|ih _ _) E) (by rw[hz,ig];exact je k) λm3 s y k1 k2 k3=>?_;rw[(by rw[k4,h2]:(us++(qq cl).map _)++D.map _=us++(qq cl++D).map iw)]at k2 k3;exact K m3 _ (w.trans<|y.sub λn=>.inl) (λo=>⟨(k1 o).1,by haveI:=(k1 o).2;rw[hz]at this;apply iN<;>right⟩) k2 k3
 rcases l with b|c;clear zz3 b I;rotate_left 1;clear zz3 c I;rotate_right 1
 .exact kV H (λQ q=>q)<|pP (iw<|.dF _ _ _ _) O i.cu (Nat.lt_of_le_of_lt (lW k) (by decide)) (λQ q=>q)<|I _ [_] rfl (f.set _<|.inl<|.tail _ (.head _))<|i.dJ _
 .exact j5 (λQ q=>q)<|I _ [] rfl f (by rw[iL];exact i)
end
end
section
open PySem
section
variable{C:Nat->PC}(Y:kB C){B:List Nat}{W:List El}{x a u cl op:Nat}
omit Y in
theorem Dq(i:i7 C B W x a u (.loop cl op g) l h r t)(o:cl=93\/cl=125)(j:Rd B W x a u ag us m)(hW:W=ag++l)(D:∀e∈W,ua e)(E:2*l.length<=d)(p:us.length+(lv cl++h).length<=100000)(K:∀m' f,g2.A [a,u] m m'->(r=V->W=f++t/\ag.length<=f.length)->(r=V->Rd B W x a u f (us++(lv cl++h).map iw) m')->m'.j u=U (.m (us++(lv cl++h).map iw))->Q (ow B r) m'.i):WS g3 (C (d+1)) K0.snd (mQ B x a u cl op g a6) m.i<|uc (C (d+1)) Q X:=by
 rw[hz]at p;haveI G:∀m2 I,lv cl=I->g2.A _ m m2->Rd B W x a u _ (us++I.map _) m2->ub (C (d+1)) Q X (mQ B x a u cl op g a6) m2.i:=λm2 I z w k=>by exists A;subst z;refine A<|i o k hW D (by assumption) (by rw[hz,ig];exact je p) λm3 s y k1 k2 k3=>?_;rw[(by rw[k4,h2]:(us++(lv cl).map _)++h.map _=us++(lv cl++h).map iw)]at k2 k3;exact K m3 _ (w.trans<|y.sub λn=>.inl) k1 k2 k3
 rcases o with b|c;clear zz3 b G;rotate_left 1;clear zz3 c G;rotate_right 1
 .exact n5 H (λQ q=>q)<|pP _ O j.cu (Nat.lt_of_le_of_lt (lW p) (by decide)) (λQ q=>q)<|G _ [_] rfl ((g2.A.refl _ _).set _<|.inl<|.tail _ (.head _))<|j.dJ _
 .exact G m [] rfl (.refl _ _) (by rw[iL];exact j)
omit Y in
theorem ZK(h1:e.d≠[58])(h:i7 C B W x a u (.loop cl op g) (e::R) D r R'):i7 C B W x a u (.val cl op) (e::R) (kz::(lv cl++D)) r R':=by refineλj d m ag us a6 Q X b hW l k c K=>kV g (rx O O b.a2 b.bh hW<|jO h1)<|pP _ O b.cu ((iy<|f1 (hJ (jv _ _) _)<|f1 c (by decide))) (λQ q=>q)<|Dq h j (b.dJ _) hW l k (by rw[hz];exact jL<|je c) λm3 f i k1 k2 k3=>?_;rw[h2]at k2 k3;exact K m3 _ (((g2.A.refl _ m).set _<|.inl<|.tail _ (.head _)).trans<|i.sub λn=>.inl) k1 k2 k3
omit Y in
theorem ZL(h1:e.d=[58])(s:f.d=[44]\/f.d=[cl])(o:i7 C B W x a u (.loop cl op g) (f::R) D r R'):i7 C B W x a u (.val cl op) (e::f::R) (kz::(lv cl++D)) r R':=by
 intro t d m ag us a6 Q X i hW y w k K;haveI c:=i.cM e;have b:W=(ag++[e])++f::R:=by rw[hW,h2];rfl
 refine kV H (rx O O i.a2 i.bh hW<|lK.mpr h1)<|ru O i.bh<|n5 H (Dp O O c.a2 c.bh b O (by
  rcases s with h|h
  .rw[lK.mpr h];rfl
  .rw[lK.mpr h,un]))<|pP (iw kz) O c.cu ((iy<|f1 (hJ (jv _ _) _)<|f1 k (by decide))) (λQ q=>q)<|Dq o t (c.dJ _) b y ((f1 (jY _<|ih _ _) w)) (by rw[hz];exact jL<|je k) λm3 l p k1 k2 k3=>?_
 rw[h2]at k2 k3;exact K m3 _ ((((g2.A.refl _ m).set _<|.inl<|.head _).set _<|.inl<|.tail _ (.head _)).trans<|p.sub λn=>.inl) (λj=>⟨(k1 j).1,by haveI:=(k1 j).2;rw[hz]at this;apply iN<;>right⟩) k2 k3
omit Y in
theorem ZM{e f}{R o s}(h1:e.d=[58])(t:¬(f.d=[44]\/f.d=[cl]))(k:i7 C B W x a u .node (f::R) q V o)(l:i7 C B W x a u (.loop cl op g) o c r s):i7 C B W x a u (.val cl op) (e::f::R) (q++(lv cl++c)) r s:=by
 intro J d m ag us a6 Q X j hW y w A K;rw[mT]at w;have i:us.length+(q.length+(lv cl++c).length)<=100000:=by rw[hz]at A;exact A
 haveI c:=j.cM e;have b:W=(ag++[e])++f::R:=by rw[hW,h2];rfl
 refine kV H (rx O O j.a2 j.bh hW<|lK.mpr h1)<|ru O j.bh<|n5 g (Dp O O c.a2 c.bh b O (by rw[jO λh=>t<|.inl h,jO λh=>t<|.inr h];rfl))<|wj k c b y ((f1 (jY _<|ih _ _) w)) ((f1 (hJ (ih _ _) _) i)) λm1 pQ E g1 I T=>hv (g1 O) λg1 p=>?_;haveI M:pQ.length+o.length=(ag++[e]).length+(f::R).length:=by rw[<-hz,<-hz,<-g1,<-b]
 haveI L:(ag++[e]).length=ag.length+1:=hz;refine Dq l J (I O) g1 y (f1 (jY 2 (f1 (Nat.le_of_add_le_add_left (f1 (iq p _) (im M))) (iA _))) w) (by rw[hz,ig];exact je i) λm3 D G k1 k2 k3=>?_;rw[h2,<-k4]at k2 k3;exact K m3 _ ((((g2.A.refl _ m).set _<|.inl<|.head _).trans<|E.sub λn=>.inl).trans<|G.sub λn=>.inl) (λz=>⟨(k1 z).1,by haveI:=(k1 z).2;exact f1 (f1 (uO (g' ag.length) L) p) this⟩) k2 k3
omit Y in
theorem ZN(h1:e.d=[58])(k:¬(f.d=[44]\/f.d=[cl]))(j:i7 C B W x a u .node (f::R) l (U v) o):i7 C B W x a u (.val cl op) (e::f::R) l (U v) o:=by
 intro w d m ag us a6 Q X c hW r q s K;haveI i:=c.cM e;have b:W=(ag++[e])++f::R:=by rw[hW,h2];rfl
 exact kV H (rx O O c.a2 c.bh hW<|lK.mpr h1)<|ru O c.bh<|n5 g (Dp O O i.a2 i.bh b O (by rw[jO λh=>k<|.inl h,jO λh=>k<|.inr h];rfl))<|wj j i b r ((f1 (jY _<|ih _ _) q)) s λm1 pQ p g1 t=>K m1 pQ (((g2.A.refl _ m).set _<|.inl<|.head _).trans<|p.sub λn h=>.inl h) (λh=>hH<|Eq.symm h) λh=>hH<|Eq.symm h
omit Y in
theorem ZO(h1:e.d=[58]\/e.d=[44]\/e.d=[cl])(i:i7 C B W x a u (.val cl op) (e::R) D r R'):i7 C B W x a u (.key cl op) (e::R) (kz::D) r R':=by
 refineλk d m ag us a6 Q X b hW o l c K=>kV H (Do O O b.a2 b.bh hW O (by
  rcases h1 with h|h|h
  .rw[lK.mpr h];rfl
  .rw[lK.mpr h,un]
  .rw[lK.mpr h,un,un]))<|pP _ O b.cu ((iy<|f1 (hJ (jv _ _) _)<|f1 c (by decide))) (λQ q=>q)<|i k (b.dJ _) hW o l (by rw[hz];exact jL<|je c) λm3 f j k1 k2 k3=>?_
 rw[h2]at k2 k3;exact K m3 _ (((g2.A.refl _ m).set _<|.inl<|.tail _ (.head _)).trans<|j.sub λn=>.inl) k1 k2 k3
omit Y in
theorem ZP{j k}(h1:¬(e.d=[58]\/e.d=[44]\/e.d=[cl]))(b:i7 C B W x a u .node (e::R) j V l)(c:i7 C B W x a u (.val cl op) l k r s):i7 C B W x a u (.key cl op) (e::R) (j++k) r s:=by
 intro A d m ag us a6 Q X f hW o D i K;rw[hz]at i;refine kV g (Do O O f.a2 f.bh hW O (by rw[jO λh=>h1<|.inl h,jO λh=>h1<|.inr<|.inl h,jO λh=>h1<|.inr<|.inr h];rfl))<|wj b f hW o D ((f1 (hJ (ih _ _) _) i)) λm1 pQ t g1 z G=>hv (g1 O) λg1 y=>?_;haveI E:pQ.length+l.length=ag.length+(e::R).length:=by rw[<-hz,<-hz,<-g1,<-hW]
 refine c A (z O) g1 o (by lia) (by rw[hz,ig];exact je i) λm3 q w k1 k2 k3=>?_;rw[h2,<-k4]at k2 k3;exact K m3 _ (t.trans<|w.sub λn=>.inl) (λp=>⟨(k1 p).1,by haveI:=(k1 p).2;apply f1<;>right⟩) k2 k3
omit Y in
theorem ZQ(h1:¬(e.d=[58]\/e.d=[44]\/e.d=[cl]))(b:i7 C B W x a u .node (e::R) f (U v) i):i7 C B W x a u (.key cl op) (e::R) f (U v) i:=λn d m ag us a6 Q X c hW k j l K=>kV g (Do O O c.a2 c.bh hW O (by rw[jO λh=>h1<|.inl h,jO λh=>h1<|.inr<|.inl h,jO λh=>h1<|.inr<|.inr h];rfl))<|wj b c hW k j l K
end
section
variable{C:Nat->PC}(Y:kB C){B:List Nat}{W:List El}{x a u:Nat}
include Y
theorem ZR(h:RD n L D r R'):i7 C B W x a u n L D r R':=by induction h with|bI h=>exact Zv Y h|dI h P he=>exact Zy Y h P he|eH h P l _ b=>exact ZB Y h P l b|aE h1 c k f i j=>exact Zz Y h1 c k f i j|eb h P m f i j=>exact ZA Y h P m f i j|dq he=>exact ZC he|fg h1 c=>exact ZD h1 c|fh h1 c _ b=>exact ZE h1 c b|fst h1 _ b=>exact ZF h1 b|ask h1 _ b=>exact ZJ h1 b|eB h1 c _ b=>exact ZG h1 c b|fi h1 c _ _ d e=>exact ZH h1 c d e|fj h1 c _ b=>exact ZI h1 c b|fk h1 _ b=>exact ZO h1 b|fl h1 _ _ d e=>exact ZP h1 d e|fm h1 _ b=>exact ZQ h1 b|fo h1 _ b=>exact ZK h1 b|fp h1 c _ b=>exact ZL h1 c b|fq h1 c _ _ d e=>exact ZM h1 c d e|fr h1 c _ b=>exact ZN h1 c b
end
end
section
open PySem
section
variable{C:Nat->PC}(Y:kB C){d:Nat}{Q:AV->St->Prop}{X:h5->St->Prop}
include Y
theorem ZS(h:e.is v)(k:Q (iw e) st):C (d+1) 1595 [v] st Q X:=by refine Y.c O O ?_;induction e<;>(refine jj h λm n a=>?_;clear zz3 a;exact k)
theorem K'(k:Q (kq B p) st):C (d+1) 1602 [h3 B p] st Q X:=Y.c O O k
end
theorem At.ba(A:At T w m st){us}(l)(k:aC<m.f)(h:m.j aC=U (.m us)):At T w (m.set aC<|.m l)<|st.ba (.j aC)<|.m l:=by
 obtain⟨z,m',c,pk,P⟩:=A;refine⟨z,m'.set aC _,c,pk,P.e5,⟨P.bg.1,λn o=>?_⟩,P.eo,P.b5,λq=>?_,P.a8⟩
 .by_cases e:n=aC;.rw[e,g2.bp,g2.bp]
  .rw[g2.cr _ _ e,g2.cr _ _ e];exact P.bg.2 n o
 .exists b;rcases P.fB q with h'|⟨n,f,h1,i,a,j⟩
  .exact b<|.inl h'
  .refine b<|.inr ⟨n,f,h1,i,?_,j⟩;rw[g2.cr _ _ λe=>?_];.exact a
   .rw[e,P.bg.at k h]at a;exact iG<|congrArg MC.gA<|io a
theorem At.cell(A:At T w m st)(a:aC<m.f)(h:m.j aC=U c):st.j aC=U c:=by obtain⟨z,m',b,pk,P⟩:=A;exact P.bg.at a h
theorem La(h:km B T w D x):w.A=.none:=by induction h<;>assumption
theorem Lb(h:w.A=.none):({w with A:=.none}:Z)=w:=by clear zz3 (Eq.symm h);rfl
noncomputable def ZT:DS:=vw.snd.snd.snd.snd.snd.snd.snd.snd.snd.snd.snd.snd.snd.snd.snd.snd.snd.snd.snd.snd.snd.snd.snd
noncomputable def DS.try:DS->DS| .eA b _ _ _ _ _=>b|_=>.aE
noncomputable def y8:DS:=ZT.fst.try
section
variable{C:Nat->PC}(Y:kB C){d:Nat}
include Y
set_option tactic.hygienic true in
theorem ZU{k:KS}{ρ}{aC}{B:List _}(aF:ρ[12]?=U (U hf))(aH:ρ[13]?=U (U<|.mut<|.j aC)){T}{w}{D:List Ev}{x:Option (Nat×Nat)}(h:km B T w D x):∀{us:List AV} {m} {st},At T w m st->aC<m.f->m.j aC=U (.m us)->us.length+D.length<=100000->(x=V->∀ac m',g2.A [aC] m m'->m'.j aC=U (.m (us++D.map iw))->(∀n c,n<m'.f->m'.j n=U c->ac.j n=U c)->k.n ρ ac)->(∀p q,x=U (p,q)->∀ac m' c L,g2.A [aC] m m'->m'.j aC=U (.m (us++D.map iw))->(∀n c,n<m'.f->m'.j n=U c->ac.j n=U c)->k.aK ρ ⟨1293,[c,h3 B q,L,h3 B p,.none]⟩ ac)->j0 (WE g3 (C (d+19)) y8.eJ) (WS g3 (C (d+19)) y8.bE) k ρ st:=by
 have i:∀{Q:AV->St->Prop} {X:h5->St->Prop} {st},C (d+19) _ [hf] st (λx st=>match k7 g3 st _ x _ with
  |some r=>Q _ st|hR=>False) X->WE _ _ y8.eJ ρ st Q X:=λ{Q X st} h=>by
  show(match ρ[12]? with|some<|U a=>r6 a _|_=>False)
  rw[aF]
  exact h
 have aE:∀{aJ} {T} {w:Z} {m} {st} {e} {v} {us},At T {w with A:=v} m st->e.is v->aC<m.f->m.j aC=U (.m us)->us.length<100000->(∀ac,At T _ (m.set aC<|.m (us++[iw e])) ac->aJ.n ρ ac)->WS g3 _ y8.bE ρ st aJ:=λ{aJ T w m st e v us} A j f hm hl K=>by show(match ρ[13]? with|some<|U a=>tz a st (match ρ[12]? with|some<|U b=>r6 b<|C _ _ _ st (λx st=>C (d+19) _ _ st _ _) _|_=>False)|_=>False);rw[aF,aH];exact q6 (A.cell f hm)<|WX Y.eI (CJ j) A λac au=>ZS Y j<|qk (au.cell f hm) (by apply hy<;>right)<|K _<|au.ba _ f hm
 induction h with|nil h1 J=>refineλus m st A f hm hl o _=>.turn (j0 _ _ k) (λM M h=>h)<|i<|WW Y.eI h1 J A ?_;rw[iL]at o;exact o O st m (.refl _ _) hm λn c=>A.cell|step h1 J aG G _ aI=>refineλus m st A f hm hl o aD=>.turn _ (λM M h=>h)<|i<|CK Y.eI G h1 J aG A λac v j au=>nh (CJ j) λK ks vs E=>?_;subst E;refine aE au j f hm ((iy<|f1 (hJ (jv _ _) _) hl)) λaK av=>?_;rw[Lb<|La ‹_›]at av;exact aI av f (g2.bp _ _ _) (by rw[hz];exact jL<|je hl) (λhx ac m' s t y=>(o hx _ m' (((g2.A.refl _ m).set _<|.inl<|.head _).trans<|s.sub λn=>.inl) (by rw[t,h2];rfl) y)) λp q hx ac m' c L s t y=>(aD p q hx _ m' c L (((g2.A.refl _ m).set _<|.inl<|.head _).trans<|s.sub λn=>.inl) (by rw[t,h2];rfl) y)|fW h1 J aG G tp aI=>refineλus m st A f hm hl o aD=>.turn (j0 _ _ k) (λM M h=>h)<|i<|CK Y.eI G h1 J aG A λac v tg j au=>nh (CJ j) λK ks vs I=>?_;subst I;refine aE au j f hm ((iy<|f1 (hJ (jv _ _) _) hl)) λaK av=>?_;rw[Lb<|La<|tp tg]at av;exact aI tg av f (g2.bp _ _ _) (by rw[hz];exact jL<|je hl) (λhx ac m' s t y=>(o hx _ m' (((g2.A.refl _ m).set _<|.inl<|.head _).trans<|s.sub λn=>.inl) (by rw[t,h2];rfl) y)) λp q hx ac m' c L s t y=>(aD p q hx _ m' c L (((g2.A.refl _ m).set _<|.inl<|.head _).trans<|s.sub λn=>.inl) (by rw[t,h2];rfl) y)|stop h1 J aG G=>refineλus m st A f hm hl o aD=>.turn (j0 _ _ k) (λM M h=>h)<|i<|CK Y.eI G h1 J aG A λz dn pk c L l=>aD _ _ O _ m c L (.refl _ _) (by rw[iL];exact hm) λn c=>l.at
end
end
section
open PySem
theorem ZV:∀{r} {d i},rr d r->sK d (n4 i r):=by intro r;induction r with|nil=>intro _ _ _;exact trivial|cons _ _ a=>intro _ _ h;exact⟨h.1,a h.2⟩
theorem ZW:∀{r} {i},t7<|n4 i r:=by
 intro r;induction r with|nil=>exact trivial|cons c r f=>
  intro i;exact⟨λm h j l e=>by
   induction r with
   |nil=>cases e
   |cons b r=>
    haveI a:j.d=b:=by
     injection e with a k
     rw[<-a]
    rw[a];haveI d:=(iX _ _▸h).2;by_cases q:b∈([44,93,125,58,63]);.exact q
    .rw[yj λx hx e=>q (by rw[e];exact hx)]at d;exact absurd d lS,f⟩
theorem Dr:∀{r} {i},(n4 i r).length=r.length:=by intro r;induction r with|nil=>exact O|cons _ _ a=>exact congrArg _ a
theorem ZX:∀{r} {i},tb sp i r M=tb sp i r []++M:=by intro r;induction r with|nil=>exact O|cons s r a=>intro i;show sp i++(s.bR++tb sp _ r M)=(sp i++(s.bR++tb sp _ r _))++M;rw[a,h2,h2]
theorem ZY:∀{r} {q i},qs sp q i r=q+(tb sp i r []).length:=by intro r;induction r with|nil=>exact O|cons s r a=>intro q i;show qs sp _ _ r=q+(sp i++(s.bR++tb sp _ r _)).length;rw[a,hz,hz];exact k6 (kD<|kD<|g' _)<|lE<|lE (g' _)
noncomputable def sN(P:List Nat)(R:Nat)(E:List Nat)(c:Nat)(r:List Nat)(d:Nat):List El:=mP (jJ P R E c r) (m9 P R E c r) 0 (m9 P R E c r)++[⟨qp,(jJ P R E c r).length+d,[],.none⟩]
theorem ZZ(h:ot P T p a i y)(hM:Mk M d)(w:R<5)(n:o0 E)(j:c=91\/c=123)(t:∀c∈r,i_ c)(hl:r.length<=12)(o:rr 1 r)(hB:B=jJ P R E c r++M):∃D x R',RD .node (sN P R E c r d) D x R'/\∀z,z.G=B->h6 z->lN z z.G [.a' 0] 0 H (-1) []->z.bt=.au 1340->z.A=.none->z.E=[]->z.aF=[]->∃b,km z.G b z (pL P++(D++if x=V then ou P++pK M else[])) x/\ql b z g/\b.len<=1000:=by
 haveI k:=De (i:=1) t ((f1 (h9 (g' _) hl) (by decide)));have m:B=P++(wa c r).d::tb (kn R E) 1 (n4 1 r) M:=by rw[hB,ZX];rw[h2];rfl
 have f:(jJ P R E c r).length=P.length+1+(tb (kn R E) 1 (n4 1 r) []).length:=by rw[hz];exact k6 (lE<|hJ (jM<|g' _) _)<|kD<|jL (g' _)
 haveI l:(jJ P R E c r).drop (P.length+1)=tb _ 1 _ _:=by show(P++([c]++tb _ 1 _ _)).drop (P.length+1)=_;rw[<-h2];exact s8 (by rw[hz];rfl)
 haveI:=YE h j (KL n) hM k ZW (ZV o) (by rw[Dr];exact hl) m;rw[ZY,<-f]at this;haveI e:sN P R E c r d=(wa c r).bJ _::m8 B _ H _:=by rw[hB,Zg<|KX l (by rw[f];apply rO<;>right),<-(by rcases j with rfl|rfl<;>rfl:oY (wa c r)=H),<-(Ze (F:=jJ P R E c r) (L:=m9 P R E c r) (eE:=⟨qp,(jJ P R E c r).length+d,[],.none⟩) (ag:=[]) O O λq s=>C9 k q s)];rfl
 rw[e];exact this
end
section
open PySem
theorem Z0(h:j7 s):(∀c∈s.bR,kJ c)/\s.bR.length<=4:=by
 refine⟨?_,(Dd h).2⟩;obtain⟨c,x,k⟩:=s;obtain⟨j,h1,l⟩:=h;have i:kJ x:=.inr<|.inr ⟨f1 (by decide) h1,by apply f1<;>right⟩;haveI q:kJ 39:=.inr<|.inr ⟨by decide,by decide⟩;haveI w:kJ 119:=.inr<|.inr ⟨by decide,by decide⟩;have b:∀a,kJ a->∀c∈[a,x],kJ c:=λa f c h=>(h7.mp h).elim (λe=>e▸f) λh=>iv.mp h▸i;haveI d:∀a,kJ a->∀c∈[a],kJ c:=λa f c h=>by cases iv.mp h;exact f
 refine oS (c:=c) j ?_ ?_ ?_ ?_ ?_ ?_ ?_ ?_ (b _<|.inr<|.inr ⟨by decide,by decide⟩) (b _<|.inr<|.inr ⟨by decide,by decide⟩) (b _<|.inr<|.inr ⟨by decide,by decide⟩) ?_;rotate_left 8;.induction k with|true=>exact b _ w|false=>exactλc h=>(h7.mp h).elim (λe=>e▸q) λh=>(h7.mp h).elim (λe=>e▸w) λh=>(h7.mp h).elim (λe=>e▸i) λh=>d _ q c h
 all_goals exact d _<|.inr<|.inr ⟨by dsimp only;decide,by dsimp only;decide⟩
theorem pR{l:List Nat}(h:(l.all λc=>c==10||(kK 32 c&&kK c 126))=H):∀c∈l,kJ c:=λc b=>by
 haveI:=mC.mp h c b;simp only[wQ,iX,beq_iff_eq]at this;rcases this with h|⟨h1,a⟩
 .exact .inr<|.inl h
 .exact .inr<|.inr ⟨kC h1,kC a⟩
theorem Z1(h:o0 E)(i):(∀c∈kn R E i,kJ c)/\(kn R E i).length<=5:=by
 unfold kn;split;.rcases h with rfl|rfl|rfl<;>exact⟨pR O,by decide⟩
 .exact⟨pR O,by decide⟩
theorem Z2(h:o0 E):∀{r} {i},(∀s∈r,j7 s)->(∀c∈tb (kn R E) i r [],kJ c)/\(tb (kn R E) i r []).length<=9*r.length:=by
 intro r;induction r with|nil=>intro _ _;exact⟨λc h=>(by cases h),jd _⟩|cons s r j=>
  intro i d;haveI h1:=Z1 (R:=R) h i;haveI a:=Z0<|d s<|.head _;haveI b:=j (i:=i+1) λs hs=>d s<|.tail _ hs;haveI e:tb _ i (s::r) _=kn R E i++(s.bR++tb _ _ r []):=rfl;refine⟨λc f=>?_,?_⟩
  .rcases li.mp f with h|h
   .exact h1.1 c h
   .rcases li.mp h with h|h
    .exact a.1 c h
    .exact b.1 c h
  .rw[hz,hz];exact qM<|jM<|h9 b.2 (f1 (h9 h1.2 a.2) (by decide))
theorem Z3(hP:∀a∈P,kJ a)(hl:P.length<=4)(e:o0 E)(f:c=91\/c=123)(j:∀c∈r,i_ c)(b:r.length<=12):(∀a∈jJ P R E c r,kJ a)/\(jJ P R E c r).length<=113:=by
 haveI h:=Z2 (R:=R) e (r:=n4 1 r) (i:=1)<|De j ((f1 (h9 (g' _) b) (by decide)));rw[Dr]at h;refine⟨λa d=>?_,?_⟩
 .rcases li.mp d with h'|h'
  .exact hP a h'
  .clear d;rcases h7.mp h' with h'|h'
   .rcases f with rfl|rfl<;>rw[h']<;>exact .inr<|.inr ⟨by decide,by decide⟩
   .exact h.1 a h'
 .rw[hz];exact f1 (h9 hl<|h9 (f1 h.2<|jY _ b)<|g' _) (by decide)
theorem Z4(h:∀c∈F,kJ c)(hl:F.length<=500):h6<|rb F m b where
 a3:=Eo
 ad:=rfl
 dy:=by show 1+0+0+8*((F++[0]).length - 0)<=9000;rw[hz,Aa];exact f1 (hJ (jY 8 (Nat.succ_le_succ hl)) (1+0+0)) (by decide)
 b9:=by rw[hz];apply lB<;>right
 bv:=λi c a=>by
  rcases li.mp<|l8 a with h'|h'
  .haveI:=h c h';unfold kJ at this;exact⟨λe=>absurd (e▸this) (by decide),Nat.lt_succ_of_le<|this.elim (λe=>f1 (im e) (by decide)) λh=>h.elim (λe=>f1 (im e) (by decide)) And.right⟩
  .cases iv.mp h';exact⟨by decide,by decide⟩
 cU:=by rw[hz];exact wJ _
theorem Z5:lN (rb F m a) (rb F m a).G [.a' 0] 0 H (-1) []:=⟨rfl,rfl,rfl,rfl,rfl,rfl,rfl,rfl,rfl⟩
noncomputable def qx(e:El):Prop:=ua e/\∀c∈e.aH,c<1000
theorem Z6(h:j7 s):qx<|s.bJ p:=by
 obtain⟨c,x,d⟩:=s;obtain⟨i,h1,f⟩:=h;refine⟨⟨?_,(by show 1<1000;decide)⟩,?_⟩
 .show(if c=119/\d=g then AV.str _ else .none)=.none\/(if c=119/\d=g then AV.str _ else .none)=.str _;split;.exact .inr O
  .exact .inl O
 .have b:∀c∈[x],c<1000:=λc h=>iv.mp h▸(lB f (by decide));haveI a:∀c∈([]),c<1000:=λc h=>nomatch h;exact oS (c:=c) i a a a a a a a a b b b λc h=>(h7.mp h).elim (λe=>e▸by decide) λh=>b c h
theorem Z7:∀{l} {i},(∀q∈l,j7 q.1)->(∀e∈mP F L i l,qx e)/\(mP F L i l).length<=2*l.length:=by
 intro l;induction l with|nil=>intro _ _;exact⟨λe h=>(by cases h),jd _⟩|cons n l m=>
  obtain⟨s,p⟩:=n;intro i h;haveI f:=m (i:=i+1) λq k=>h q<|.tail _ k;haveI h0:=Z6 (p:=p)<|h (s,p)<|.head _;dsimp only[Za];induction qu F L i with
  |true=>
   refine⟨λe he=>?_,(je<|h9 f.2 (by decide))⟩
   .rcases h7.mp he with a|he;clear zz3 a
    .exact⟨⟨.inl O,(by show 1<1000;decide)⟩,λc h=>by cases h⟩
    .rcases h7.mp he with b|he;clear zz3 b
     .exact h0
     .exact f.1 e he
  |false=>
   refine⟨λe he=>?_,(h9 f.2 (by decide))⟩
   .exists j;rcases h7.mp he with d|he;clear zz3 d j
    .exact j h0
    .exact j<|f.1 e he
end
section
open PySem
noncomputable def mv(e:Ev):Prop:=kG 6 (iw e)=H
noncomputable def o3(a:AV):Prop:=∀n,kG n a=H
theorem uf(h:∀c∈l,c<1000):o3<|.str l:=λn=>by
 have:(l.all (pT · 1114112))=true:=mC.mpr λc a=>by haveI:=h c a;exact En<|f1 this (by decide)
 induction n<;>exact this
theorem Ds(h:Pr R0 a t R)(k:∀e∈R0,qx e):o3 a/\o3 t/\∀e∈R,qx e:=by
 haveI n:o3 .none:=λn=>by induction n<;>rfl
 haveI d:∀{e},qx e->o3 (.str (33::e.aH)):=λhe=>uf λc f=>by
  rcases h7.mp f with b|h;clear zz3 b
  .decide
  .exact he.2 c h
 induction h with|n=>exact jZ n n k|aZ=>exact jZ (uf (k _<|.head _).2) n λe he=>k e<|.tail _ he|bc=>exact jZ n (d<|k _<|.head _) λe he=>k e<|.tail _ he|«at»=>exact jZ (uf (k _<|.head _).2) (d<|k _<|.tail _ (.head _)) λe he=>k e<|.tail _ (.tail _ he)|fD=>exact jZ (uf (k _<|.tail _<|.head _).2) (d<|k _<|.head _) λe he=>k e<|.tail _ (.tail _ he)
theorem Dt(h:∀a∈l,kG 5 a=H):kG 6 (.av l)=true:=mC.mpr h
theorem Lc{v}(h1:o3 a)(b:o3 t)(d:∀c∈v,c<1000)(e:o3 s):mv<|.aU a t i j v s:=Dt λx hx=>by
 simp only[h7,rP,or_false]at hx;rcases hx with rfl|rfl|rfl|rfl|rfl|rfl
 .rfl
 .exact h1 5
 .exact b 5
 .rfl
 .exact uf d 5
 .exact e 5
theorem Z8{a t}(h1:o3 a)(i:o3 t):mv<|sB c a t:=by
 unfold sB;split<;>exact Dt λx hx=>by
  simp only[h7,rP,or_false]at hx;rcases hx with b|d|e|f|h;clear zz3 b;rotate_left 1;clear zz3 d;rotate_right 1;rotate_left 2;clear zz3 e;rotate_right 2;rotate_left 3;clear zz3 f;rotate_right 3;rotate_left 4;clear zz3 h;rotate_right 4
  .rfl
  .exact h1 5
  .exact i 5
  .rfl
  .rfl
theorem Z9(h:qx e):o3 e.b_:=λn=>by rcases h.1.1 with h|h<;>rw[h]<;>induction n<;>rfl
theorem Z_(h:RD z L D r R'):(∀e∈L,qx e)->(∀e∈D,mv e)/\∀e∈R',qx e:=by
 haveI q:∀e∈([]),mv e:=λe h=>by cases h
 haveI i:∀{x},mv x->∀e∈[x],mv e:=λh e he=>by cases iv.mp he;exact h
 haveI f:∀{A B},(∀e∈A,mv e)->(∀e∈B,mv e)->∀e∈A++B,mv e:=λh1 m e he=>by
  rcases li.mp he with h|h
  .exact h1 e h
  .exact m e h
 haveI o:∀{x} {A},mv x->(∀e∈A,mv e)->∀e∈x::A,mv e:=λh1 m e he=>by
  rcases h7.mp he with rfl|h
  .exact h1
  .exact m e h
 haveI t:∀c,∀e∈lv c,mv e:=λc=>by unfold lv;split;exact i O;exact q
 haveI s:mv kz:=rfl;induction h with
 |bI h=>exactλk=>⟨i<|Dt λx hx=>by
  simp only[h7,rP,or_false]at hx;rcases hx with rfl|rfl
  .rfl
  .exact uf (k _<|.head _).2 5,λe he=>k e<|.tail _ he⟩
 |dI h P he=>intro k;haveI p:=Ds P k;haveI w:=p.2.2 _<|.head _;exact⟨i<|Lc p.1 p.2.1 w.2<|Z9 w,λe he=>p.2.2 e<|.tail _ he⟩|eH h P y _ d=>intro k;haveI p:=Ds P k;haveI:=d λe he=>p.2.2 e<|.tail _ he;exact⟨o (Z8 p.1 p.2.1) this.1,this.2⟩|aE=>exactλk=>⟨q,k⟩|eb h P=>intro k;haveI p:=Ds P k;exact⟨i<|Lc p.1 p.2.1 (λc h=>by cases h) λn=>by induction n<;>rfl,p.2.2⟩|dq he=>exactλk=>⟨i (by unfold rc;split<;>rfl),λe he=>k e<|.tail _ he⟩|fg=>exactλk=>⟨q,k⟩|fh h1 m _ d=>exactλk=>d λe he=>k e<|.tail _ he|fst h1 _ d=>exact d|ask h1 _ d=>exactλk=>haveI:=d λe he=>k e<|.tail _ he;⟨f ((λc=>by unfold qq;split;exact i O;exact q:∀c,∀e∈qq c,mv e) _) this.1,this.2⟩|eB h1 m _ d=>exact d|fi h1 m _ _ j l=>exactλk=>haveI a:=j k;haveI b:=l a.2;⟨f a.1<|f ((λc=>by unfold pE;split;exact i O;exact q:∀c,∀e∈pE c,mv e) _) b.1,b.2⟩|fj h1 m _ d=>exact d|fk h1 _ d=>exactλk=>⟨o s (d k).1,(d k).2⟩|fl h1 _ _ j l=>exactλk=>haveI a:=j k;haveI b:=l a.2;⟨f a.1 b.1,b.2⟩|fm h1 _ d=>exact d|fo h1 _ d=>exactλk=>⟨o s<|f (t _) (d k).1,(d k).2⟩|fp h1 m _ d=>exactλk=>haveI a:=d λe he=>k e<|.tail _ he;⟨o s<|f (t _) a.1,a.2⟩|fq h1 m _ _ j l=>exactλk=>haveI a:=j λe he=>k e<|.tail _ he;haveI b:=l a.2;⟨f a.1<|f (t _) b.1,b.2⟩|fr h1 m _ d=>exactλk=>d λe he=>k e<|.tail _ he
theorem Le{P M}(hM:Mk M d)(j:((pL P).all λe=>kG 6<|iw e)=H/\((ou P).all λe=>kG 6<|iw e)=H)(h:∀e∈D,mv e)(b):xe ((pL P++(D++if b=H then ou P++pK M else[])).map iw)=true:=by
 refine mC.mpr λa k=>kf λf=>hc (zA.mp k) λe he c=>?_;clear k;subst c;haveI i:∀{l:List Ev},(l.all λe=>kG 6<|iw e)=H->e∈l->kG 6 _=true:=λh=>mC.mp h e;rcases li.mp he with he|he
 .exact f<|i j.1 he
 .rcases li.mp he with he|he
  .exact f<|h e he
  .split at he
   .rcases li.mp he with he|he
    .exact f<|i j.2 he
    .refine f<|i ?_ he;induction hM<;>rfl
   .cases he
end
section
open PySem
noncomputable def lw:Nat->DS|0=>vw|n+1=>(lw n).snd
theorem Z'(h1:st.j a=U (.m l))(c:st.j b=U (.m l))(e:xe l=H)(q:Q (.bool H) st):xn (.mut<|.j a) (.mut<|.j b) st Q:=(.inl ⟨_,_,_,rfl,rfl,h1,c,e,q⟩)
theorem aaa(q:Q (.bool H) st):xn (ow B x) (ow B x) st Q:=by induction x with|none=>exact .inr ⟨rfl,rfl,q⟩|some v=>exact .inr ⟨rfl,rfl,q⟩
theorem sO(v)(ac)(h:∀Q,Q v ac->WE T C e ρ st Q (k.aK ρ))(q:WS T C c (qT v a ρ) ac k):WS T C (.seq (.bT a e) c) ρ st k:=h _ q
section
variable{C:Nat->PC}(Y:kB C){d:Nat}
include Y
theorem aab{m:g2}(D:m.j av=U c0)(i:av<m.f)(aE:m.j u=U (.m<|A.map iw))(j:u<m.f)(hF:∀c∈F,kJ c)(hl:F.length<=500)(hd:xe (A.map iw)=H)(B:A.length<=10000)(L:∀m' z,∃o,km (F++[0]) o (rb F m' z) A x/\ql o (rb F m' z) g/\o.len<=1000) (K:∀st,st.j av=U c0->k.aX (.bool H) st):WS g3 (C (d+19)) (lw 20) [G,I,J,a3,M,T,a6,a7,U<|.str F,a9,U<|.mut<|.j u,U<|ow (F++[0]) x,ap,ao,aD,V,s,t] m.i k:=by
 refine W1 Y.eI hF (by apply f1<;>right) λm' z l=>?_;haveI ev:=(g2.le.add m'<|.m []);refine jB (L (m'.add<|.m []) z) λo tp aH tl=>sO (.mut<|.j m'.f) (rb F (m'.add _) z).h (λQ q=>q) ?_;have y:∀st m2 E,g2.A _ (m'.add _) m2->m2.j m'.f=U (.m ([]++A.map iw))->(∀n c,n<m2.f->m2.j n=U c->st.j n=U c)->E=ow (F++[0]) x->WS _ _ (lw 24) [G,I,J,a3,M,T,a6,a7,U<|.str F,a9,U _,U _,U hf,U _,U E,V,s,t] st k:=λst m2 E b w f e4=>by subst e4;haveI au:=hy j<|f1 l.1<|iA _;haveI c1:=f _ _ (hy (kY _) b.n) w;haveI c2:=f _ _ (hy au b.n)<|b.at au (λh=>(by haveI:=l.1;exact iI (hy j this):u≠m'.f)<|iv.mp h)<|(l.trans ev).at j aE;exact Z' (Q:=λv st=>kr v st λr st=>lX r (WE g3 (C (d+19)) _ _ st _ _) _) c1 c2 hd<|aaa<|K st (f _ _ (hy (hy i<|f1 l.1<|iA _) b.n)<|b.at (hy i<|f1 l.1 (iA _)) (λh=>iI (hy i l.1) (iv.mp h))<|(l.trans ev).at i D)
 haveI aF:=ZU Y (d:=d) (k:=⟨(sM _ _ (lw 24) k).n,k.aX,k.b,λρ e st=>match g3.cv e.cf with
  |some ks=>match g3.sub e.cf 1293 with|true=>WS g3 (C (d+19)) (.bT [14]<|.av<|.cons (.call 1602 (.cons (.cD (.j 15) 44) .nil)) (.cons (.call 1602 (.cons (.cD (.j 15) 42) .nil)) .nil)) (ρ.set 15<|U<|.cO e.cf ks e.er) st ⟨λρ st=>WS g3 (C (d+19)) (lw 24) (ρ.set 15 hR) st k,λa a=>False,λa a=>False,λa a a=>False⟩|false=>match g3.sub e.cf 1293 with|true=>WS g3 (C (d+19)) (.bT [14]<|.av<|.cons (.call 1602 (.cons (.cD (.j 15) 44) .nil)) (.cons (.call 1602 (.cons (.cD (.j 15) 42) .nil)) .nil)) (ρ.set 15<|U<|.cO e.cf ks e.er) st ⟨λρ st=>WS g3 (C (d+19)) (lw 24) (ρ.set 15 hR) st k,λa a=>False,λa a=>False,λa a a=>False⟩|false=>False
  |hR=>False⟩) (ρ:=[G,I,J,a3,M,T,a6,a7,U _,a9,U _,U _,U _,U _,U _,V,s,t]) O O tp ⟨_,m'.add<|.m [],_,_,aH,.refl _,λa=>rfl,rfl,λh=>absurd h (by show ¬(0=1);decide),by show 0+0+4*o.len<=100000;exact f1 (h9 (h9 (g' _)<|g' _)<|jY _ tl) (by decide)⟩ (kY _) (g2.bu _ _) (f1 (h9 (g' _) B) (by decide)) (λhx st m2 b w f=>y st m2 .none b w f (by rw[hx];rfl)) λp q hx st m2 c aG b w f=>?_
 .exact aF
 .refine K' Y<|K' Y<|y st m2 _ b w f ?_;rw[hx];rfl
end
end
section
open PySem
noncomputable def ju:Nat->List Nat|1=>[45,45,45,32]|2=>[45,32]|3=>[107,58,32]|_=>[]
noncomputable def l7:Nat->List Nat|1=>[10]|2=>[10,46,46,46,10]|3=>[10,45,45,45,32,122,10]|_=>[]
noncomputable def ug:Nat->Nat|0=>0|_=>1
theorem Du(h:n<4):Mk (l7 n++[0])<|ug n:=mq h .aZ .b .d .di
theorem aac(h:n<4):∃T p a i b,ot (ju n) T p a i b:=mq h ⟨_,_,_,_,_,.aZ⟩ ⟨_,_,_,_,_,.b⟩ ⟨_,_,_,_,_,.d⟩ ⟨_,_,_,_,_,.di⟩
structure mR (m0 m:g2)(u:Nat)(us:List AV):Prop where
 e:g2.A [u] m0 m
 u:m.j u=U (.m us)
theorem mR.more{u}(h:mR m0 m u us)(v):mR m0 (m.set u<|.m (us++[v])) u (us++[v]):=⟨h.e.set _<|.inl<|.head _,g2.bp _ _ _⟩
theorem y9(h:WS T C b ρ st k):(sM T C b k).n ρ st:=h
section
variable{T:oJ}{C:PC}{m0:g2}{u:Nat}{k:KS}{ρ:Loc}
theorem sP(v)(a:ρ[10]?=U (U<|.mut<|.j u))(aC:mR m0 m u us)(hl:us.length<1000000)(he:∀st Q,Q v st->WE T C e ρ st Q (k.aK ρ))(q:∀m',mR m0 m' u (us++[v])->WS T C c ρ m'.i k):WS T C (.seq (.y<|.aD (.j 10) e) c) ρ m.i k:=rv v a aC.u hl (he _)<|q _<|aC.more v
theorem qy(v)(a:ρ[10]?=U (U<|.mut<|.j u))(aC:mR m0 m u us)(hl:us.length<1000000)(he:∀st Q,Q v st->WE T C e ρ st Q (k.aK ρ))(q:∀m',mR m0 m' u (us++[v])->k.n ρ m'.i):WS T C (.y<|.aD (.j 10) e) ρ m.i k:=pP v a aC.u hl (he _)<|q _<|aC.more v
end
section
variable{C:PC}{m0:g2}{u:Nat}{k:KS}
theorem aad(r:f<4)(aC:mR m0 m u us)(hl:us.length<100000)(q:∀m',mR m0 m' u (us++(ou<|ju f).map iw)->WS g3 C c [h,i,j,a3,l,n,U<|.int f,o,a8,a9,U<|.mut<|.j u,ak,ap,ao,a,b,d,e] m'.i k):WS g3 C (.seq (lw 19).fst.dl.fst<|.seq (lw 19).fst.dl.snd.fst c) [h,i,j,a3,l,n,U<|.int f,o,a8,a9,U<|.mut<|.j u,ak,ap,ao,a,b,d,e] m.i k:=by
 revert q;refine mq r (λq=>?_) (λq=>?_) (λq=>(kV H (λQ q=>q)<|qy (iw .dT) O aC (by apply hy<;>right) (λst Q q=>q) λm' p=>j5 (λQ q=>q)<|q m' p)) λq=>?_;.refine j5 (λQ q=>q)<|j5 (λQ q=>q)<|q m ?_;rw[iL];exact aC
 .refine j5 (λQ q=>q)<|j5 (λQ q=>q)<|q m ?_;rw[iL];exact aC
 .exact j5 (λQ q=>q)<|kV H (λQ q=>q)<|qy (iw .dG) O aC (by apply hy<;>right) (λst Q q=>q) q
theorem aae{a}(n:a<4)(aC:mR m0 m u us)(hl:us.length<100000)(q:∀m',mR m0 m' u (us++(pK (l7 a++[0])).map iw)->k.n [f,h,i,a3,j,l,a6,U<|.int a,a8,a9,U<|.mut<|.j u,ak,ap,ao,b,c,d,e] m'.i):WS g3 C (lw 19).fst.dl.snd.snd [f,h,i,a3,j,l,a6,U<|.int a,a8,a9,U<|.mut<|.j u,ak,ap,ao,b,c,d,e] m.i k:=by
 revert q;refine mq n (λq=>?_) (λq=>?_) (λq=>?_) λq=>?_;.refine sP (iw<|.c1 g) O aC (by apply hy<;>right) (λst Q q=>q) λm1 aC=>j5 (λQ q=>q)<|qy (iw .cS) O aC (by rw[hz];show us.length+1<_;apply lB<;>right) (λst Q q=>q) λm1 aC=>q m1 ?_;rw[h2]at aC;exact aC
 .refine sP (iw<|.c1 g) O aC (by apply hy<;>right) (λst Q q=>q) λm1 aC=>j5 (λQ q=>q)<|qy (iw .cS) O aC (by rw[hz];show us.length+1<_;apply lB<;>right) (λst Q q=>q) λm1 aC=>q m1 ?_;rw[h2]at aC;exact aC
 .refine sP (iw<|.c1 H) O aC (by apply hy<;>right) (λst Q q=>q) λm1 aC=>j5 (λQ q=>q)<|qy (iw .cS) O aC (by rw[hz];show us.length+1<_;apply lB<;>right) (λst Q q=>q) λm1 aC=>q m1 ?_;rw[h2]at aC;exact aC
 .refine sP (iw<|.c1 g) O aC (by apply hy<;>right) (λst Q q=>q) λm1 aC=>kV H (λQ q=>q)<|sP (iw<|.dD _) O aC (by rw[hz];show us.length+1<_;apply lB<;>right) (λst Q q=>q) λm1 aC=>sP (iw<|.aU _ _ _ _ _ _) O aC (by rw[hz,hz];show us.length+1+1<_;exact iy<|f1 (h9 (h9 (jD hl)<|g' _)<|g' _) (by decide)) (λst Q q=>q) λm1 aC=>qy (iw<|.c1 _) O aC (by simp only[hz,Aa];exact iy<|f1 (h9 (h9 (h9 (jD hl)<|g' _)<|g' _)<|g' _) (by decide)) (λst Q q=>q) λm1 aC=>y9<|qy (iw .cS) O aC (by simp only[hz,Aa];exact iy<|f1 (h9 (h9 (h9 (h9 (jD hl)<|g' _)<|g' _)<|g' _)<|g' _) (by decide)) (λst Q q=>q) λm1 aC=>q m1 ?_;simp only[h2]at aC;exact aC
theorem aaf(h:a<4)(p:f<4)(aC:mR m0 m u us)(hl:us.length<10000)(q:∀m',mR m0 m' u (us++(if x=V then ou (ju a)++pK (l7 f++[0])else[]).map iw)->WS g3 C (lw 20) [i,j,l,a3,n,o,U<|.int a,U<|.int f,a8,a9,U<|.mut<|.j u,U<|ow B x,ap,ao,b,c,d,e] m'.i k):WS g3 C (lw 19) [i,j,l,a3,n,o,U<|.int a,U<|.int f,a8,a9,U<|.mut<|.j u,U<|ow B x,ap,ao,b,c,d,e] m.i k:=by induction x with|some v=>refine j5 (λQ q=>q)<|q m ?_;rw[iL];exact aC|none=>refine aad h aC (by apply hy<;>right) λm1 aC=>aae p aC (by rw[hz,ig];exact iy<|jL<|f1 (h9 (jD hl) (mq h (by decide) (by decide) (by decide) (by decide):(ou<|ju a).length<=1)) (by decide)) λm2 aC=>q m2 ?_;rw[k4,<-h2];exact aC
end
end
section
open PySem
section
variable{C:PC}{m0:g2}{u:Nat}{k:KS}
theorem aag{a:Nat}(r:a<4){us:List AV}(aC:mR m0 m u ([iw .d',.av [.str [100,111,99,117,109,101,110,116],.bool<|decide ((a:Int)=1),.none,.none]]))(q:∀m',mR m0 m' u ((pL<|ju a).map iw)->WS g3 C (lw 18) [i,j,l,a3,n,o,U<|.int a,p,a8,a9,U<|.mut<|.j u,ak,ap,ao,c,e,f,h] m'.i k):WS g3 C (lw 16) [i,j,l,a3,n,o,U<|.int a,p,a8,a9,U<|.mut<|.j u,ak,ap,ao,c,e,f,h] m.i k:=by revert q aC;refine mq r (λaC q=>(j5 (λQ q=>q)<|j5 (λQ q=>q)<|q m aC)) (λaC q=>(j5 (λQ q=>q)<|j5 (λQ q=>q)<|q m aC)) (λaC q=>(kV H (λQ q=>q)<|qy (iw<|.ea _ _ _ _) O aC (by decide) (λst Q q=>q) λm' b=>y9<|j5 (λQ q=>q)<|q m' b)) λaC q=>?_;.exact j5 (λQ q=>q)<|kV H (λQ q=>q)<|sP (iw<|.dF _ _ _ _) O aC (by decide) (λst Q q=>q) λm' b=>qy (iw<|.aU _ _ _ _ _ _) O b (by decide) (λst Q q=>q) λm' b=>y9<|q m' b
end
section
variable{C:Nat->PC}(Y:kB C){d:Nat}{k:KS}
include Y
theorem aah(T:s<4)(aJ:z<4){W R'}{D}{x}(h:RD .node W D x R'){m}(aI:m.j r=U (pN B W))(b:r<m.f)(aH:∀e∈W,ua e)(hl:W.length<=40)(q:∀m' u,g2.A [] m m'->u<m'.f->m'.j u=U (.m<|(pL (ju s)++(D++if x=V then ou (ju s)++pK (l7 z++[0])else[])).map iw)->WS g3 (C (d+100)) (lw 20) [A,E,G,a3,U<|.mut<|.j r,I,U<|.int s,U<|.int z,a8,a9,U<|.mut<|.j u,U<|ow B x,ap,ao,j,l,o,p] m'.i k):WS g3 (C (d+100)) (lw 15) [A,E,G,a3,U<|.mut<|.j r,I,U<|.int s,U<|.int z,a8,a9,aG,ak,ap,ao,j,l,o,p] m.i k:=by
 haveI fl:(pL<|ju s).length<=4:=mq T (by decide) (by decide) (by decide) (by decide);haveI dl:=f1 (lW<|K2 h)<|jY 4 hl;generalize f:m.add (.m _)=m1;haveI e1:g2.A [] m m1:=f▸(g2.A.refl _ _).add _;haveI a:m1.f=m.f+1:=by rw[<-f];rfl
 haveI g1:mR m1 m1 _ _:=⟨.refl _ _,by rw[<-f];exact g2.bu _ _⟩;refine sO (.mut<|.j m.f) m1.i (λQ q=>by rw[<-f]at q;exact q)<|aag (us:=[]) T g1 λm2 av=>?_;haveI J:=av.e;haveI c:=J.n;generalize i:m2.add (.m _)=m3;haveI t:m2.le m3:=i▸ .add _ _;haveI w:m3.f=m2.f+1:=by rw[<-i];rfl
 haveI M:m3.j _=U _:=by rw[<-i];exact g2.bu _ _
 haveI aF:Rd B W r _ _ [] _ m3:=⟨t.at (by exact hy (i3 b a) c) (J.at (by exact i3 b a) (by intro h;cases iv.mp h;lia)<|e1.at b lR aI),M,t.at (by exact hy (nP a) c) av.u,by exact i3 (hy (i3 b a) c) w,by exact nP w,by exact i3 (hy (nP a) c) w,by exact iI (hy (i3 b a) c),by apply iI<;>right,by exact iP (hy (nP a) c)⟩;haveI go:=ZR Y h trivial (d:=d+99) (a6:=V) (Q:=λv st=>WS g3 (C (d+100)) (lw 19) (qT v [11] [A,E,G,a3,U<|.mut<|.j r,I,U<|.int s,U<|.int z,a8,a9,U<|.mut<|.j m.f,ak,ap,ao,j,l,o,p]) st k) (X:=k.aK [A,E,G,a3,U<|.mut<|.j r,I,U<|.int s,U<|.int z,a8,a9,U<|.mut<|.j m.f,ak,ap,ao,j,l,o,p]) aF O aH (f1 (jY 2 hl) (f1 (by decide:80<=99) (Nat.le_add_left _ _))) (by rw[ig];exact f1 (h9 fl dl) (by decide)) λm4 ag e4 aE aE aK=>?_;.rw[<-i]at go;exact go
 .refine aaf T aJ ⟨.refl _ _,aK⟩ (by rw[hz,ig,ig];exact iy<|f1 (h9 (h9 fl dl)<|g' _) (by decide)) λm5 L=>?_;haveI au:=e4.n;haveI aD:=L.e.n;refine q m5 _ ?_ (by exact hy (hy (i3 (hy (nP a) c) w) au) aD) (by rw[L.u,h2,<-k4,<-k4]);refine⟨by exact f1 (f1 (uO (f1 (uO (g' m.f) a) c) w) au) aD,λn y aE=>?_⟩;rw[L.e.aT n (by exact hy (i3 (hy (i3 y a) c) w) au) (by intro h;cases iv.mp h;lia),e4.aT n (by exact i3 (hy (i3 y a) c) w) (by
   intro h;rcases h7.mp h with h|h
   .exact iI (hy (i3 y a) c) h
   .cases iv.mp h;lia),t.2 n (by exact hy (i3 y a) c),J.aT n (by exact i3 y a) (by intro h;cases iv.mp h;lia),e1.aT n y lR]
end
end
section
open PySem
theorem aai(h:e.o<=F.length):mO (F++M) e=mO F e:=by unfold mO kq;rw[(wb h).1,(wb h).2]
theorem aaj{n}:∀{l} {i},(∀q∈l,q.2<=n)->∀e∈mP F L i l,e.o<=n:=by
 intro l;induction l with
 |nil=>intro _ _ e h;cases h
 |cons j l f=>
  obtain⟨s,p⟩:=j;intro i h e he;haveI b:=h (s,p)<|.head _;rcases li.mp he with he|he
  .split at he;.cases iv.mp he;exact b
   .cases he
  .rcases h7.mp he with a|he;clear zz3 a
   .exact b
   .exact f (λq c=>h q<|.tail _ c) e he
theorem Lf:mP F L i ((s,p)::l)=(if qu F L i=H then[⟨[63],p,[],.none⟩]else[])++s.bJ p::mP F L (i+1) l:=rfl
noncomputable def y_(F:List Nat):Nat->AV|0=>kq F F.length|_=>.av [.int ((F.length:Int)+1),.int ((ij F F.length:Int)+1),.int 0]
theorem aak(h:a<4):kq (F++(l7 a++[0])) (F.length+ug a)=y_ F a:=by
 haveI e:=wb (M:=l7 a++[0]) (p:=F.length)<|g' _;haveI nl:∀{c},l7 a++[0]=10::c->kq _ _=.av [.int _,.int _,.int 0]:=λhS=>by
  haveI aC:(F++(l7 a++[0]))[F.length]?=U _:=by rw[hS,pX<|g' _,wT];rfl
  unfold kq;rw[vz aC,sv aC,e.1];rfl
 revert e nl;refine mq h (λe b=>?_) (λb nl=>nl O) (λb nl=>nl O) λb nl=>nl O;show kq _ F.length=kq F _;unfold kq;rw[e.1,e.2]
theorem aal(b:a<4)(h:∀q∈m9 P R E c r,q.2<=(jJ P R E c r).length):pN (jJ P R E c r++(l7 a++[0])) (sN P R E c r<|ug a)=.m ((mP (jJ P R E c r) (m9 P R E c r) 0<|m9 P R E c r).map (mO<|jJ P R E c r)++[.av [.str qp,y_ (jJ P R E c r) a,.none]]):=by
 unfold pN sN;rw[k4];congr 2;.exact List.map_congr_left λe he=>aai<|aaj h e he
 .show[AV.av [.str qp,kq _ _,.none]]=_;rw[aak b]
noncomputable def y':DS:=(lw 13).fst.bE
section
variable{C:Nat->PC}(Y:kB C){d:Nat}
include Y
theorem aam{D r}{F}{L}{k}(ne:r≠D)(hL:L.length<=40):∀{l ag} {i} {m} {a} {a9},L=ag++l->ag.length=i->m.j D=U (rt F L)->D<m.f->m.j r=U (.m a)->r<m.f->a.length+2*l.length<=1000->(∀m' a9,g2.A [r] m m'->m'.j r=U (.m (a++(mP F L i l).map (mO F)))->k.n [J,M,a2,a3,U<|.mut<|.j r,a5,a6,a7,a8,a9,f,ak,ap,ao,j,o,U<|.mut<|.j D,t] m'.i)->ll (WS g3 (C (d+1)) y') [9] (λaJ=>True) k (p7 i l.length) [J,M,a2,a3,U<|.mut<|.j r,a5,a6,a7,a8,a9,f,ak,ap,ao,j,o,U<|.mut<|.j D,t] m.i:=by
 intro l;induction l with|nil=>intro ag i m a a9 I G hs c au w hl K;exact⟨trivial,K m a9 (.refl _ _) (by rw[iL];exact au)⟩|cons aH l aG=>
  obtain⟨s,p⟩:=aH;intro ag i m a a9 I G hs c au w hl K;rw[mT]at hl;refine⟨trivial,?_⟩;haveI A:∀{m':g2},(L.map λy=>mO F<|y.1.bJ y.2)[i]?=U (mO F<|s.bJ p):=λ{m'}=>by rw[oa,(by rw[I,pX (by apply im<;>right),G,wT];rfl:L[i]?=U _)];rfl
  have e:∀m1 b,g2.A _ m m1->m1.j r=U (.m b)->b.length<=a.length+1->a++(mP F L i _).map _=(b++[mO F _])++(mP F L _ l).map _->WS g3 (C (d+1)) y'.snd [J,M,a2,a3,U _,a5,a6,a7,a8,U _,f,ak,ap,ao,j,o,U<|.mut _,t] _ ⟨_,k.aX,k.n,k.aK⟩:=λm1 b x h1 aI aE=>by
   refine pP (mO F _) O h1 (Nat.lt_of_le_of_lt (f1 aI (Nat.succ_le_succ (lW hl))) (by decide)) (λQ q=>wc (T:=g3) (x.at c (λh=>ne (iv.mp h).symm) hs) (A (m':=m1)) q) ?_
   haveI E:=x.set (.m (b++[mO F<|s.bJ p]))<|.inl<|.head _
   exact(aG (ag:=ag++[(s,p)]) (i:=i+1) (a9:=U<|.int i) (by rw[I,h2];rfl) (by rw[hz,G];rfl) (E.at c (λh=>ne (iv.mp h).symm) hs) (hy c E.n) (g2.bp _ _ _) (hy w E.n) (by rw[hz,Aa];exact jL<|f1 (Nat.succ_le_succ<|f1 (iq aI _)<|jL<|Nat.succ_le_succ<|Nat.le_of_add_le_add_right (b:=2) (c:=998) hl) (by decide)) λm' a9 e3 aF=>K m' a9 (E.trans<|e3.sub λn=>.inl) (by rw[aE];exact aF))
  refine Y' Y hs c (by rw[I,hz];exact iy<|h9 (im G.symm)<|jv _ _) λm1 x=>?_;have z:g2.A [r] m m1:=x.sub λn h=>by cases h
  have B:=x.at w lR au;induction aD:qu F L i with|false=>refine e m1 a z B (by apply ih<;>right) ?_;rw[Lf,aD,h2];rfl|true=>
   haveI av:WS g3 (C (d+1)) y'.fst.dl [J,M,a2,a3,U _,a5,a6,a7,a8,U _,f,ak,ap,ao,j,o,U<|.mut _,t] m1.i<|sM _ _ y'.snd _:=by refine pP (.av [.str [63],kq F p,.none]) O B ((iy<|f1 (hJ (z8 (by decide)) _)<|f1 hl (by decide))) (λQ q=>(wc (T:=g3) (x.at c lR hs) (A (m':=m1)) q)) ?_;.refine e _ _ (z.set _<|.inl<|.head _) (g2.bp _ _ _) (by rw[hz];apply g'<;>right) ?_;rw[Lf,aD];simp only[zy,ur,wC,h2];rfl
   exact av
end
end
section
open PySem
section
variable{T:oJ}{C:PC}{ρ:Loc}{m:g2}{Q:AV->St->Prop}{X:h5->St->Prop}
theorem Dv(hs:∀Q,Q (.av l) m.i->WE T C a ρ m.i Q X)(b:∀st Q,Q (.int (j:Nat)) st->WE T C e ρ st Q X)(hl:l.length<=1000)(c:l[j]?=U v)(q:Q v (m.add<|.m l).i):WE T C (.sub (.m a) e) ρ m.i Q X:=hs _<|iW (by apply f1<;>right)<|b _ _<|wc (g2.bu _ _) c q
theorem aan{f i}{b w e c x}{B v1 v3 v2}{l1 l2:List AV}{z A}(h0:ρ[i]?=U (U B))(p:∀Q:AV->St->Prop,Q (.av l1) m.i->WE T C b ρ m.i Q X) (h:∀st (Q:AV->St->Prop),Q (.int (z:Nat)) st->WE T C w ρ st Q X) (n:l1.length<=1000) (s:l1[z]?=U v1)(D:∀st (Q:AV->St->Prop),Q v3 st->WE T C e ρ st Q X)(r:∀st (Q:AV->St->Prop),Q (.av l2) st->WE T C c ρ st Q X) (j:∀st (Q:AV->St->Prop),Q (.int (A:Nat)) st->WE T C x ρ st Q X) (o:l2.length<=1000) (t:l2[A]?=U v2)(q:C f [B,v1,v3,v2] ((m.add<|.m l1).add<|.m l2).i Q X):WE T C (.call f<|.cons (.j i)<|.cons (.sub (.m b) w) (.cons e (.cons (.sub (.m c) x) .nil))) ρ m.i Q X:=by show(match ρ[i]? with|some<|U a=>WE T C (.cons (.sub (.m _) w)<|.cons e<|.cons (.sub (.m _) x) _) ρ _ (λy st=>nk y st λl st=>nk (.av (a::l)) st λl st=>C f l st Q X) X|_=>False);rw[h0];exact Dv p h n s<|D _ _<|Dv (r _) j o t q
end
noncomputable def Lg:Nat->List Nat|0=>[10]|1=>[10,32,32]|_=>[32,35,32,99,10]
theorem yY{P:Nat->Prop}(h:n<3)(a:P 0)(b:P 1)(c:P 2):P n:=ov h a λe h=>ov (P:=λm=>P (m+1)) h b λe h=>ov (P:=λm=>P (m+2)) h c λe h=>absurd h<|p3 _
theorem Lh(h:n<3):o0<|Lg n:=(yY (P:=λn=>o0 _) h (.inl O) (.inr<|.inl O)<|.inr<|.inr O)
theorem Li(h:n<4):(ju n).length<=4/\(∀a∈ju n,a≠10)/\∀a∈ju n,kJ a:=mq h ⟨by decide,by decide,pR O⟩ ⟨by decide,by decide,pR O⟩ ⟨by decide,by decide,pR O⟩ ⟨by decide,by decide,pR O⟩
theorem aao(h:n<4):(l7 n).length<=10/\∀a∈l7 n,kJ a:=mq h ⟨by decide,pR O⟩ ⟨by decide,pR O⟩ ⟨by decide,pR O⟩ ⟨by decide,pR O⟩
theorem aap(h:n<4):(pL<|ju n).length<=4/\(ou<|ju n).length<=1:=by
 refine mq h ?_ ?_ ?_ ?_;.decide
 .decide
 .decide
 .decide
theorem Lj(h:n<4):((pL<|ju n).all λe=>kG 6<|iw e)=H/\((ou<|ju n).all λe=>kG 6<|iw e)=true:=mq h ⟨rfl,rfl⟩ ⟨rfl,rfl⟩ ⟨rfl,rfl⟩ ⟨rfl,rfl⟩
theorem aaq(h:n<4):(pK (l7 n++[0])).length<=5:=by
 refine mq h ?_ ?_ ?_ ?_;.decide
 .decide
 .decide
 .decide
noncomputable def aar:List AV:=[.str [],.str [10],.str [10,46,46,46,10],.str [10,45,45,45,32,122,10]]
theorem aas(h:n<4):aar[n]?=U (.str<|l7 n):=by
 refine mq h ?_ ?_ ?_ ?_;.rfl
 .rfl
 .rfl
 .rfl
theorem aat(h:0<n): .av [.int (F.length+1),.int ((ij F F.length)+1),.int 0]=y_ F n:=by induction n with|zero=>exact absurd h (by decide)|succ=>rfl
theorem aau{P:Prop}(a:n=0->P)(b:0<n->P):P:=(Nat.eq_zero_or_pos n).elim a b
theorem aav(h:∀Q,Q (.int n) st->WE T C e ρ st Q (k.aK ρ))(f:n<=1000)(q:ll (WS T C b) a (λi=>True) (sM T C c k) (p7 0 n) ρ st):WS T C (.seq (.b6 .ef a e b) c) ρ st k:=h _ ⟨mB n,by apply wD.mpr<;>right,q⟩
theorem aaw{m:g2}{Q}(h0:ρ[i]?=U (U<|.mut<|.j s))(hs:m.j s=U (.m l))(q:Q (.int l.length) m.i):WE T C (.len<|.j i) ρ m.i Q X:=(pn (T:=T) (C:=C) (X:=X) h0<|oK (P:=λa l=>Q (.int l.length) _) hs q)
section
variable{C:Nat->PC}(Y:kB C){d:Nat}{k:KS}
include Y
theorem aax(B:b<4)(p:j<4)(aV:R<5)(aQ:o0 E)(aE:c=91\/c=123)(aF:∀c∈r,i_ c)(hl:r.length<=12)(aX:rr 1 r){m:g2}(hs:m.j aN=U (rt (jJ (ju b) R E c r)<|m9 (ju b) R E c r))(o:aN<m.f)(aH:m.j aR=U c0)(f:aR<m.f)(K:∀st,st.j aR=U c0->k.aX (.bool H) st):WS g3 (C (d+100)) (lw 10) [a0,a1,a2,a3,a4,a5,U<|.int b,U<|.int (j:Nat),U<|.str<|jJ (ju b) R E c r,a9,au,ak,ap,ao,av,V,U<|.mut<|.j aN,U<|kq (jJ (ju b) R E c r) (jJ (ju b) R E c r).length] m.i k:=by
 haveI pk:=Li B;haveI aO:=aao p;have tp:=Z3 (R:=R) pk.2.2 pk.1 aQ aE aF hl;have sk:∀q∈m9 (ju b) R E c r,j7 q.1:=λq A=>by
  rcases h7.mp A with rfl|A
  .refine jZ ?_ (by show 97<=97;decide) (by show 97<=122;decide);rcases aE with rfl|rfl<;>exact(by simp[wa])
  .exact C9 (De aF ((f1 (h9 (g' _) hl) (by decide)))) q A
 haveI eF:(jJ (ju b) R E c r).length=(ju b).length+1+(tb _ 1 _ _).length:=by rw[hz];exact k6 (lE<|hJ (jM<|g' _) _)<|kD<|jL (g' _)
 haveI dF:(jJ _ R E c r).drop _=tb _ 1 _ _:=by show(ju b++([c]++tb _ 1 _ _)).drop ((ju b).length+1)=_;rw[<-h2];exact s8 (by rw[hz];rfl)
 have pl:∀q∈m9 (ju b) R E c r,q.2<=(jJ _ R E c r).length:=λq A=>by
  rcases h7.mp A with rfl|A
  .exact f1 (l_<|ih _ _)<|im eF.symm
  .exact KX dF ((f1 (ih _ _)<|im eF.symm)) q A
 have al:(m9 (ju b) R E c r).length<=13:=by haveI:=congrArg uB<|C8 (sp:=kn R E) (q:=(ju b).length+1) (i:=1) (r:=n4 1 r);rw[ig,Dr]at this;exact f1 (h9 (f1 (im this) hl)<|g' _) (by decide)
 haveI aM:=aal p pl;haveI aL:=Z7 (F:=jJ (ju b) R E c r) (L:=m9 (ju b) R E c r) (i:=0) sk;have ed:∀e∈sN _ R E c r<|ug j,qx e:=λe he=>by
  rcases li.mp he with he|he
  .exact aL.1 e he
  .cases iv.mp he;exact⟨⟨.inl O,(by show 3<1000;decide)⟩,λc h=>by cases h⟩
 have aZ:(sN (ju b) R E c r<|ug j).length<=27:=by haveI:(sN (ju b) R E c r<|ug j).length=(mP (jJ _ R E c r) (m9 _ R E c r) 0<|m9 _ R E c r).length+1:=hz;exact f1 (f1 (im this)<|h9 (f1 aL.2<|jY _ al)<|g' _) (by decide)
 refine nh (aac B) λaT bb aa a'=>jj a' λba aY aS=>?_;have aP:∀a∈jJ _ R E c r++l7 j,kJ a:=λa aW=>by
  rcases li.mp aW with h|h
  .exact tp.1 a h
  .exact aO.2 a h
 have l2:(jJ (ju b) R E c r++l7 j).length<=500:=by rw[hz];exact f1 (h9 tp.2 aO.1) (by decide)
 refine kM (ZZ aS (Du p) aV aQ aE aF hl aX O) λD x R' h1 M=>?_;haveI I:=Z_ h1 ed;generalize hF:jJ _ R E c r=F at*;generalize aU:m9 _ R E c r=L at*;generalize y:m.add (.m _)=m1;haveI e1:g2.A [] m m1:=y▸(g2.A.refl _ _).add _;haveI s:m1.f=m.f+1:=by rw[<-y];rfl
 refine sO (.str (F++l7 j)) m1.i (λQ q=>?_) ?_;.refine Dv (λQ q=>q) (λst Q q=>q) (by decide) (aas p) ?_;rw[y];exact iW ((f1 (h9 tp.2 aO.1) (by decide))) q
 haveI w:∀t,t=y_ F j->WS _ _ (lw 12) [a0,a1,a2,a3,a4,a5,U _,U _,U _,a9,au,ak,ap,ao,av,V,U _,U _] m1.i k:=λt aD=>by
  generalize l:m1.add (.m _)=m2;haveI e2:g2.A [] m1 m2:=l▸(g2.A.refl _ _).add _;haveI G:m2.f=m1.f+1:=by rw[<-l];rfl
  haveI J:=e2.at (by exact i3 o s) lR<|e1.at o lR hs;haveI a7:=e2.at (by exact i3 f s) lR<|e1.at f lR aH;refine sO (.mut<|.j m1.f) m2.i (λQ q=>by rw[<-l]at q;exact q)<|aav (λQ q=>aaw O (show m2.j aN=U _ from J) (by rw[ig];exact q)) (by apply f1<;>right)<|aam Y (d:=d+99) (by exact iP (i3 o s)) (by apply f1<;>right) (ag:=[]) O O J (by exact i3 (i3 o s) G) (by rw[<-l];exact g2.bu _ _) (by exact nP G) (f1 (h9 (g' _)<|jY _ al) (by decide)) λm3 a9 e3 aG=>y9 ?_;haveI aK:=e3.n;refine rv (.av [.str _,t,.none]) O aG (by rw[ig];exact iy<|f1 (h9 (f1 aL.2<|jY _ al)<|g' _) (by decide)) (λQ q=>q) ?_;rw[aD,<-aM];refine aah Y B p h1 (g2.bp _ _ _) (by exact hy (nP G) aK) (λe he=>(ed e he).1) (by apply f1<;>right) λm4 u e4 aI aJ=>?_;haveI a_:=e4.at (by exact hy (i3 (i3 f s) G) aK) lR<|(g2.cr _ _ (by exact iI (i3 f s))).trans<|e3.at (by exact i3 (i3 f s) G) (λh=>iI (i3 f s) (iv.mp h)) a7;haveI d1:=aap B;haveI d4:(if x=V then ou _++pK _ else[]).length<=6:=by
   split;.rw[hz];exact f1 (h9 d1.2<|aaq p) (by decide)
   .exact jd _
  rw[(by rw[h2]:F++(l7 j++[0])=(F++l7 j)++[0])];refine aab Y a_ (hy (by exact hy (i3 (i3 f s) G) aK) e4.n) aJ aI aP l2 ?_ ?_ (λm' tg=>((λm tg=>M (rb _ m tg) (by show(_++_)++[0]=_;rw[h2]) (Z4 aP l2) Z5 O O O O) m' tg)) K;.clear d4;induction x with|none=>exact Le (Du p) (Lj B) I.1 H|some v=>exact Le (Du p) (Lj B) I.1 g
  .rw[hz,hz];exact f1 (h9 d1.1<|h9 (f1 (lW<|K2 h1)<|jY 4 aZ) d4) (by decide)
 refine aau (n:=j) (λz=>?_) λz=>?_;.clear zz3 z w;exact j5 (λQ q=>q)<|w _ O
 .refine kV H (λQ q=>?_) (w _<|aat z);.rw[show H=decide _ from(decide_eq_true (by apply pd.mpr<;>right)).symm]at q;exact q
end
end
section
open PySem
theorem aay(h:WE T C e ρ st (λv st=>WS T C c (qT v a ρ) st k)<|k.aK ρ):WS T C (.seq (.bT a e) c) ρ st k:=h
theorem za(h:ρ[i]?=U (U<|.int v))(b:0<p/\p<1000000)(a:0<n)(c:kW (qB v p) n=w)(st)(Q)(q:Q (.int w) st):WE T C (.a0 .mod (.a0 .fdiv (.j i)<|.aI<|.int p)<|.aI<|.int n) ρ st Q X:=pn (T:=T) (C:=C) (X:=X) h<|AA (if_pos b)<|AA (xm a) (c▸q)
section
variable{C:Nat->PC}(Y:kB C){d:Nat}{k:KS}
include Y
theorem aaz{m:g2}(aF:m.j w=U (iJ W))(p:w<m.f)(aH:KJ W 12)(E:m.j au=U c0)(o:au<m.f)(K:∀st,st.j au=U c0->k.aX (.bool H) st):WS g3 (C (d+100)) (lw 7) [s,t,y,U<|.int aC,z,U<|.mut<|.j w,a6,a7,a8,a9,e,ak,ap,ao,f,V,i,j] m.i k:=by
 refine kf λav=>hc (pM (v:=qB aC 12) (k:=4) O (by decide)) λJ B ef=>hc (pM (v:=qB aC 48) (k:=4) O (by decide)) λG aE et=>hc (pM (v:=qB aC 576) (k:=5) O (by decide)) λR L eR=>hc (pM (v:=qB aC 192) (k:=3) O (by decide)) λn D en=>i0 aH.fu λc r l M aD=>?_;subst l;haveI aG:=aH.aT;haveI T:=λa h=>aH.aY a<|.tail _ h;refine av<|Dm (.int J) (za O (by decide) (by decide) ef _)<|Dm (.int G) (za O (by decide) (by decide) et _) ?_;haveI pk:=Li B;haveI go:WE g3 (C (d+100)) (.call 1567<|.cons (.j 5)<|.cons (.sub (.m (.cons (.aI (.str [])) (.cons (.aI (.str [45,45,45,32])) (.cons (.aI (.str [45,32])) (.cons (.aI (.str [107,58,32])) .nil))))) (.j 6)) (.cons (.a0 _ (.a0 _ (.j 3) _) _) (.cons (.sub (.m (.cons (.aI (.str [10])) (.cons (.aI (.str [10,32,32])) (.cons (.aI (.str [32,35,32,99,10])) .nil)))) (.a0 _ (.a0 _ (.j 3) _) _)) _))) [s,t,y,U _,z,U _,U _,U<|.int G,a8,a9,e,ak,ap,ao,f,V,i,j] m.i (λa st=>Fh [8,16,17] a [s,t,y,U<|.int aC,z,U<|.mut<|.j w,U _,U _,a8,a9,e,ak,ap,ao,f,V,i,j] st (sM _ (C (d+100)) (lw 10) k).n)<|k.aK [s,t,y,U<|.int aC,z,U<|.mut (.j w),U<|.int J,U<|.int G,a8,a9,e,ak,ap,ao,f,V,i,j]:=by
  refine aan O (λQ q=>q) (λst Q q=>q) (by decide) (mq (P:=λn=>([AV.str _,AV.str _,AV.str _,AV.str _])[n]?=U (.str<|ju n)) B O O O O) (za O (by decide) (by decide) eR) (λst Q q=>q) (za O (by decide) (by decide) en) (by decide) (yY (P:=λn=>([AV.str _,AV.str _,AV.str _])[n]?=U (.str<|Lg n)) D O O O)<|Y8 Y (((g2.le.add _ _).trans<|g2.le.add _ _).at p aF) (hy p<|f1 (iA _)<|iA _) M T (by apply iN<;>right) pk.1 pk.2.1 L (Lh D) λm' x I hx A=>?_
  haveI zn:=hy o<|f1 (iA _)<|iA _
  exact aax Y B aE L (Lh D) M T (by apply iN<;>right) aD A hx (I.at zn lR<|((g2.le.add _ _).trans<|g2.le.add _ _).at (b:=((m.add<|.m [.str [],.str [45,45,45,32],.str [45,32],.str [107,58,32]]).add<|.m [.str [10],.str [10,32,32],.str [32,35,32,99,10]])) o E) (hy zn I.n) K
 exact go
theorem aaA{m:g2}(aK:m.j r=U (iJ (c::u)))(aL:r<m.f)(aG:c=91\/c=123)(hl:1<=u.length)(aI:∀a∈c::u,i_ a)(I:m.j T=U c0)(i:T<m.f)(K:∀st,st.j T=U c0->k.aX (.bool H) st):WS g3 (C (d+100)) (lw 5) [z,A,U<|.int f,U<|.int aC,U<|.mut<|.j r,B,a6,D,a8,a9,l,ak,ap,ao,o,V,p,s] m.i k:=by
 generalize e:m.add (iJ<|(c::u).take 11)=m1;haveI uO:m.le m1:=e▸ .add _ _;haveI h1:m1.j _=U _:=by rw[<-e];exact g2.bu _ _
 haveI t:m1.f=m.f+1:=by rw[<-e];rfl
 refine sO (.mut<|.j m.f) m1.i (λQ q=>?_) ?_;.rw[<-e]at q;exact AC aK O (by rw[z'];rfl) q
 haveI aR:y0 ((c::u).take _) 11:=⟨by rw[oD];exact wS _ _,λa h=>aI a<|Ew h,c,u.take _,rfl,aG⟩;haveI l2:2<=((c::u).take 11).length:=by rw[oD];exact Nat.le_min.mpr ⟨by decide,lC hl⟩
 generalize (c::u).take _=R0 at h1 aR l2;refine kf λaF=>hc (pM (v:=qB f 12) (tt<|s9 l2)<|Nat.sub_pos_of_lt l2) λj aH ej=>hc (pM (v:=qB f 2) (k:=6) O (by decide)) λw aM ew=>hc (pM (v:=aC) (k:=12) O (by decide)) λn aJ en=>aF ?_;obtain⟨lt,G,E⟩:∃b,([91,93,123,125,44,58,63,119,42,38,33,45])[n]?=U b/\i_ b:=by haveI:=aJ;exact h_ _ (oe this)<|(by unfold i_;decide:∀a∈([91,93,123,125,44,58,63,119,42,38,33,45]),i_ a) _<|Ex _
 refine aay ?_;haveI go:C (d+100) _ [.mut _,.int _,.int w,jb lt] _ (λv st=>C (d+100) _ [v] st (λv st=>WS _ (C (d+100)) _ (qT v [5] [z,A,U<|.int f,U<|.int aC,U<|.mut<|.j m.f,B,a6,D,a8,a9,l,ak,ap,ao,o,V,p,s]) st k)<|k.aK [z,A,U<|.int f,U<|.int aC,U<|.mut (.j m.f),B,a6,D,a8,a9,l,ak,ap,ao,o,V,p,s])<|k.aK [z,A,U<|.int f,U<|.int aC,U<|.mut (.j m.f),B,a6,D,a8,a9,l,ak,ap,ao,o,V,p,s]:=by refine YY Y h1 (by exact nP t) aR (by decide) (ih 1 j) (Nat.add_lt_of_lt_sub' aH) aM E λm2 x W J hx aD au=>Y0 Y aD hx au (by decide) λm3 y aQ L aN aE av=>?_;haveI aP:=J.at (by exact i3 i t) lR<|uO.at i I;haveI M:=J.n;haveI aO:=L.n;exact aaz Y aE aN av (L.at (by exact hy (i3 i t) M) lR aP) (by exact hy (hy (i3 i t) M) aO) K
 refine oR h1<|nj (Az (show binI _ _ _=U j from(xm (by rw[ig];exact Int.sub_pos_of_lt (pd.mpr l2))).trans<|congrArg _ (by rw[ig,ej]))) ?_;left;rw[en];refine uV (if_pos<|mB n) G ?_;rw[ew];exact go
end
section
variable{C:Nat->PC}(Y:kB C){d:Nat}{k:KS}
include Y
theorem aaB{t:List Int}{m:g2}(hs:m.j s=U (.dU o<|t.map .int))(a:s<m.f)(K:∀st,st.j s=U (.dU o<|t.map .int)->k.aX (.bool H) st):WS g3 (C (d+100)) vw [U<|.mut<|.j s,V,V,V,V,V,V,V,V,V,V,V,V,V,V,V,V,V] m.i k:=by
 generalize e:m.add _=m1;haveI h1:m1.j _=U (.m<|(t.take 9).map .int):=by rw[<-e,z'];exact g2.bu _ _
 generalize i:m1.add (ro _)=m2;haveI j:m2.f=m1.f+1:=by rw[<-i];rfl
 refine sO (.mut<|.j m1.f) m2.i (λQ q=>?_) ?_;.refine AC (Q:=λx st=>AH _ x st Q) hs O O ?_;show AH _ _ (m.add _).i Q;rw[e];refine oK h1<|h_ (t.take 9) O ?_;rw[<-i]at q;unfold ro at q;rw[s1]at q;exact q
 haveI n:m1.f=m.f+1:=by rw[<-e];rfl
 haveI T:m2.j s=U _:=by rw[<-i];exact(g2.le.add _ _).at (by exact i3 a n) (by rw[<-e];exact(g2.le.add _ _).at a hs)
 refine yX Y (by rw[<-i];exact g2.bu _ _) λf m3 aE w D=>?_;haveI l:=w.n;refine yX Y D λaC m4 aF y E=>?_;haveI p:=y.n;haveI au:=y.at (by exact hy (i3 (i3 a n) j) l) (λh=>iI (i3 a n) (iv.mp h))<|w.at (by exact i3 (i3 a n) j) (λh=>iI (i3 a n) (iv.mp h)) T;generalize b:m4.add (iJ _)=m5;haveI G:m5.j _=U (iJ []):=by rw[<-b];exact g2.bu _ _
 haveI r:m5.f=m4.f+1:=by rw[<-b];rfl
 refine sO (.mut<|.j m4.f) m5.i (λQ q=>by rw[<-b]at q;exact q)<|YR Y (by exact iI (hy (hy (nP j) l) p)) (by exact i3 (hy (hy (nP j) l) p) r) (by exact nP r) (by rw[<-b];exact(g2.le.add _ _).at (by exact hy (hy (nP j) l) p) E) G (by decide) λm6 aG lt z aD I aD J L=>kf λA=>?_;obtain⟨l2,c,u,rfl,M⟩:=L O;haveI B:=z.n;haveI av:=z.at (by exact i3 (hy (hy (i3 (i3 a n) j) l) p) r) (λh=>by
  exists A;rcases h7.mp h with h|h
  .exact iI (i3 a n) h
  .exact iI (hy (hy (i3 (i3 a n) j) l) p) (iv.mp h)) (by rw[<-b];exact(g2.le.add _ _).at (by exact hy (hy (i3 (i3 a n) j) l) p) au:m5.j s=U _)
 exact A<|aaA Y I (by exact hy (nP r) B) M (by apply td<;>right) J av (by exact hy (i3 (hy (hy (i3 (i3 a n) j) l) p) r) B) K
end
end
section
open PySem PySem.W PySem.Calls PyProof.Rows Builtin Builtin.Str
theorem aaC(h:Q (.str (wU z) s.toks) {s with toks:=s.toks+1}) (d:(wU z).length<=rJ):g8 (iu ai w) A (pyReprObjUnder b<|.str z u) Q E s:=by refine hw (m:=callSpecialIfBoundBy? _ _ _)<|wpAny_callSpecialIfBoundBy?_slotG (rH s z u) F.slot_str_repr.toG<|call_gives F.slot_str_repr (rH s z u) F.entry_str_repr (F.args_str_repr_1 _) (gives_str_repr z u) ⟨d,?_⟩;exact hw<|wpAny_isInstance O isSubtype_str_str<|ip h
noncomputable def Lk(ag aq:List Nat)(c:Nat)(T:g9->g9):Prop:=∀(t u:Tok) (z:g9),(T z).length<=100000->Meets («str.__mod__» ⟨[.str ⟨(ag++37::c::aq).toArray⟩ t,.str z u],[]⟩) (λd R s=>∀b k,R (.ok (.ret (.str (⟨ag.toArray⟩++T z++⟨aq.toArray⟩) b))) {s with toks:=k})
theorem Ll{r:List Nat}(e:r.head?.all (· ==37)=H):∀{l d:List Nat},l.all (· !=37)=H->Ey (· !=37) (l++r) d=(d.reverse++l,r):=by
 intro l;induction l with
 |nil=>intro d _;rw[iL];cases r with|nil=>rfl|cons b r=>cases beq_iff_eq.mp e;rfl
 |cons x l i=>intro d h;have h:=lT.mp h;show(match x !=37 with|true=>Ey _ (l++r) _|false=>(d.reverse,x::(l++r)))=_;rw[show(x !=37)=H from h.1];show Ey _ _ _=_;rw[i h.2,z6,h2];rfl
section
variable{M:oz}{A:iH}{E:g7->hr->Prop}{s:hr}{f:Nat->List g7×uE×List Nat->Sem (ForInStep (List g7×uE×List Nat))}{v:g7}{a n c:Nat}{p aq:List Nat}{Y:g9}{w0:uE}{Q:List g7×uE×List Nat->hr->Prop}
theorem aaD(l:n=p.length+aq.length+3)(hl:p.length+aq.length<=900)(h1:(a::p).all (· !=37)=H)(C:aq.all (· !=37)=H)(B:qJ w0 DJ 0)(m:∀x e w r b q t T N (R:ForInStep (List _×uE×List _)->hr->Prop) s,qJ w T N->N<=1000000->r.span (· !=37)=(b::q,t)->q.length+1≠n->(∀w',qJ w' (T++⟨(b::q).toArray⟩) (N+(q.length+1))->R (.yield (e,w',t)) s)->g8 M A (f x (e,w,r)) R E s)(z:∀x w T N (R:ForInStep (List _×uE×List _)->hr->Prop),qJ w T N->N<=1000000->(∀w' k,qJ w' (T++Y) (N+100000)->R (.yield ([],w',aq)) {s with toks:=k})->g8 M A (f x ([v],w,37::c::aq)) R E s)(o:∀x e w T N R s,qJ w T N->N<=1000000->R (.done (e,w,[])) s->g8 M A (f x (e,w,[])) R E s)(k:∀w k,qJ w (⟨(a::p).toArray⟩++Y++⟨aq.toArray⟩) 200000->Q ([],w,[]) {s with toks:=k}):g8 M A (forIn (List.range' 0 n 1) ([v],w0,a::p++37::c::aq) f) Q E s:=by
 have d:0+(p.length+1)<=901:=by rw[mU];exact lC<|lW hl
 rw[l];refine wV<|m _ _ _ _ a p _ _ _ _ _ B (jd _) (Ll O h1) (l▸iI (wW<|lC (jw (ih _ _)))) λw1 g1=>wV<|z _ _ _ _ _ g1 (f1 d (by decide)) λw2 j h=>?_;cases aq with|nil=>exact wV<|o _ _ _ _ _ _ _ h (up d (by decide))<|k _ _ (by rewrite[KPc.empty_app]at h;exact Ez (congrArg (qJ w2 · _) (congrArg _ Array.append_empty).symm▸h) (up d (by decide)))|cons b q=>have y:0+(p.length+1)+100000+(q.length+1)<=200000:=f1 (h9 (up d<|g' _)<|f1 (jv _ _) hl) (by decide);refine wV<|m _ _ _ _ b q [] _ _ _ _ h (up d (by decide)) ((congrArg _ (iL _).symm).trans<|Ll O C) (l▸iI (wW<|f1 (jv _ _) (ih _ 2))) λw3 i=>?_;rewrite[KPc.empty_app]at i;exact wV<|o _ _ _ _ _ _ _ i (f1 y (by decide))<|k _ _ (Ez i y)
end
theorem Lm{a c}{p aq:List Nat}{T:g9->g9}(C:c=114/\T=wU\/c=115/\T=λz=>z)(h1:(a::p).all (· !=37)=H)(m:aq.all (· !=37)=H)(hl:p.length+aq.length<=900):Lk (a::p) aq c T:=by
 intro t u z i;apply KPc.meets_of;intro _ _ _ _ _ _ B;rw[KPc.entry_is_s];refine hw<|wpAny_isInstance (rH _ _ _) F.sub_str_tuple<|hw<|ut O<|hw<|KPc.wp_fills_str λ_=>hw<|ip<|hw ?_;rw[KPc.range_list];refine KPc.start λw0 l=>aaD (Y:=T z) (hz.trans<|congrArg (· +2)<|iU _ 1 _) hl h1 m l (λx G w r b q t T N R s aC hN hs h k=>?_) (λx w T' N R aC hN k=>?_) (λx G w T N R s aC hN k=>?_) λw k aC=>(KPc.finish_ok aC (by decide) O B)
 .refine wpAny_ite<|EA (EB aC<|f1 hN (by decide)) ?_;cases r with
  |nil=>cases hs
  |cons I J=>rw[hs];exact ip<|k _<|KPc.good_add aC (KPc.obj_none (if_neg λe=>h (beq_iff_eq.mp e)))
 .refine wpAny_ite<|EA (EB aC<|f1 hN (by decide)) ?_;have d:∀{y} t,KPc.Obj (if aq.isEmpty=H then U<|.str y t else V) y:=λt=>by cases aq;exact KPc.obj_some O;exact KPc.obj_none O
  have j:∀{y} o,y.length<=100000->KPc.Obj o y->qJ _ _ (N+100000):=λo D d=>Ez (KPc.good_add aC d)<|hJ D _;rcases C with⟨rfl,rfl⟩|⟨rfl,rfl⟩
  .refine hw<|n'<|hw (aaC (hw (ut O (ip (ip ?_)))) (f1 i (by decide)));exact k _ _<|j _ i<|d _
  .refine hw<|n'<|hw (ut (KPc.strOf_str _ _) (hw (ut O (ip (ip ?_)))));exact k _ _<|j _ i<|d _
 .exact wpAny_ite<|EA (EB aC<|f1 hN (by decide))<|ip k
theorem Ln{ai}{w}{A}{E:g7->hr->Prop}{s:hr}{Q}{ag aq}{c}{T:g9->g9}(h:Lk ag aq c T){l:List _}{t u}(hl:(T<|S l).length<=100000)(d:ag.length+aq.length<=1000)(k:∀r b k,r.length<=1000000->Q (.str (S r) b) {s with toks:=k}):g8 (iu ai w) A (rB .Mod (.str (S (ag++37::c::aq)) t)<|.str (S l) u) Q E s:=binaryOp_meets (T:="str") (op:=.Mod) (rH s _ t) (rH s (S l) u) F.fills_str_mod F.slot_str_mod F.entry_str_mod (F.args_str_mod_2 _ _) (h t u (S l) hl) λb n=>⟨(λe=>nomatch e),k ((⟨_⟩:g9)++T _++(⟨_⟩:g9)).cps.toList b n (by show((⟨_⟩)++T _++(⟨_⟩)).length<=_;rewrite[MV,MV];exact f1 (im<|iU _ _ _)<|f1 (h9 d hl) (by decide))⟩
noncomputable def Lo(l:List Nat):Bool:=l.all (· !=37)
noncomputable def Lp(l:List Nat):List Nat:=l.takeWhile (· !=37)
noncomputable def Dw(l:List Nat):List Nat:=(l.dropWhile (· !=37)).drop 2
noncomputable def Dx(f:List Nat):Bool:=match Lp f with|a::p=>f==a::p++37::114::Dw f&&(Lo (a::p)&&(Lo (Dw f)&&decide (p.length+(Dw f).length<=900)))|[]=>g
theorem aaE(h:Dx f=H)(hl:(wU<|S l).length<=100000)(k:∀r i k,r.length<=1000000->Q (.str (S r) i) {s with toks:=k}):g8 (iu ai w) A (rB .Mod (.str (S f) t)<|.str (S l) u) Q E s:=by unfold Dx at h;generalize Lp f=r at h;cases r with|nil=>exact(lS h).elim|cons a p=>have h:=lT.mp h;have d:=lT.mp h.2;have e:=lT.mp d.2;have b:=of_decide_eq_true e.2;rw[beq_iff_eq.mp h.1];exact Ln (Lm (.inl ⟨rfl,rfl⟩) d.1 e.1 b) hl (f1 (im<|iU _ 1 _)<|up b (by decide)) k
theorem aaF:(yg.all λp=>(Dx p.1||p.1==[119,104,105,108,101,32,112,97,114,115,105,110,103,32,97,32]++37::115::[32,110,111,100,101])&&p.2.all λl=>decide ((wU<|S l).length<=100000/\(S l).length<=100000))=true:=by kernel_rfl
theorem Lq(h:ha a b=H):a=b:=of_decide_eq_true (u3 a b▸h)
theorem aaG{ai}{w}{A}{E:g7->hr->Prop}{s:hr}{Q:g7->hr->Prop}{f l:List _}{t u}(h:g3.dV f l=H)(k:∀r i k,r.length<=1000000->Q (.str (S r) i) {s with toks:=k}):g8 (iu ai w) A (rB .Mod (.str (S f) t)<|.str (S l) u) Q E s:=
 have⟨_,d,h⟩:=MW.mp (show(yg.any λp=>ha _ f&&p.2.any (ha l))=H from h)
 have h:=lT.mp h
 have⟨_,hl,b⟩:=MW.mp h.2
 have z:=lT.mp<|mC.mp aaF _ d
 have y:=of_decide_eq_true<|mC.mp z.2 _ hl
 have y:=(Lq b).symm▸y
 (Lq h.1).symm▸(s_.mp z.1).elim (λe=>aaE e y.1 k) λe=>(beq_iff_eq.mp e).symm▸Ln (Lm (.inr ⟨rfl,rfl⟩) O O (by decide)) y.2 (by decide) k
end
section
open PySem PySem.W PySem.Calls PyProof.Rows
noncomputable section
theorem m_:∀{l:List (Nat×α)},lk n l=U v->(n,v)∈l:=by
 intro l;induction l with|nil=>exactλh=>hH h|cons b r a=>
  obtain⟨k,x⟩:=b;intro h;dsimp only[UL]at h;induction q:iE n k with
  |true=>rw[q]at h;cases h;rw[nL q];exact .head _
  |false=>rw[q]at h;exact .tail _<|a h
theorem aaH:∀{l:List (g9×α)},vu n l=U v->(n,v)∈l:=by
 intro l;induction l with|nil=>exactλh=>hH h|cons b r a=>
  obtain⟨k,x⟩:=b;intro h;dsimp only[UM]at h;split at h;.rename_i e;cases h;subst e;exact .head _
  .exact .tail _<|a h
theorem jX{α:Type}{l:List α}{f}(h:l.all f=H){x}(hx:x∈l):f x=true:=mC.mp h x hx
theorem aaI(h:i8 c l=H):c∈l:=by induction l with|nil=>exact iG h|cons x r a=>haveI h:(match iE c x with|true=>H|false=>i8 c r)=true:=h;induction q:iE c x with|true=>rw[nL q];exact .head _|false=>rw[q]at h;exact .tail _<|a h
section
variable(G:Gl)
noncomputable def vI(j:Int):g7->Bool| .int i _=>decide (i=j)|_=>g
noncomputable def vS(l:List Nat):g7->Bool| .str x _=>decide (x=S l)&&kK l.length 1000000|_=>g
noncomputable def oT(f:g7->AV->Bool)(l:List AV)(o:i'):Bool:=match o.cls with| .type c=>c=="tuple"&&o.dict.isNone&&o.slots.size==0&&(match o.data with| .seq a _=>kK l.length 1000000&&a.toList.length==l.length&&(a.toList.zip l).all λp=>f p.1 p.2|_=>g)|_=>g
noncomputable def vT(f:g7->AV->Bool)(l:List AV):g7->Bool| .ref a=>(G.K.lookup a).any (oT f l)|_=>g
noncomputable def wk(f:g7->AV->Bool)(v:g7):AV->Bool| .none=>decide (v=.none)| .bool b=>decide (v=.bool b)| .int j=>vI j v| .str l=>vS l v| .val u=>decide (v=u)&&qC v| .av l=>vT G f l v|_=>g
noncomputable def wl:Nat->g7->AV->Bool|0=>wk G λa a=>g|n+1=>wk G (wl n)
end
theorem aaJ{R:g7->AV->Prop}(k:∀v a,R v a->RelV G μ v a)(h:b.length=l.length)(c:∀p∈b.zip l,R p.1 p.2):ia G μ b l:=by
 induction l generalizing b with
 |nil=>induction b with|nil=>exact .nil|cons=>cases h
 |cons a l e=>induction b with
  |nil=>cases h
  |cons v b=>exact .cons (k v a<|c _<|.head _)<|e (rI h) λp d=>c p<|.tail _ d
theorem aaK(h:oT f l o=H):∃a n,o=({cls:=.type "tuple",data:=.seq a n})/\l.length<=1000000/\a.toList.length=l.length/\∀p∈a.toList.zip l,f p.1 p.2=true:=by
 induction o with|mk c d x sl=>
 induction c<;>first|exact ff h|skip
 haveI h:=f2 h;induction x<;>first|exact ff h.2|skip
 haveI h1:=f2 h.1;haveI b:=f2 h1.1;haveI e:=f2 h.2;haveI i:=f2 e.1;clear h;induction d with|some=>exact ff b.2|none=>clear h;cases Array.eq_empty_of_size_eq_zero<|beq_iff_eq.mp h1.2;clear h1;cases beq_iff_eq.mp b.1;exact ts _ _ O (kC i.1) (beq_iff_eq.mp i.2)<|mC.mp e.2
set_option tactic.hygienic true in
theorem Lr{f}(d:∀v a,f v a=H->RelV G μ v a){a}(h:wk G f v a=H):RelV G μ v a:=by
 cases a<;>first|exact ff h|skip
 .rw[of_decide_eq_true h];exact .none
 .rw[of_decide_eq_true h];exact .bool _
 .induction v<;>first|exact ff h|skip
  rw[of_decide_eq_true h];exact .int _ _
 .induction v<;>first|exact ff h|skip
  haveI h:=f2 h;rw[of_decide_eq_true h.1];exact .str _ _<|kC h.2
 .haveI h:=f2 h;rw[<-of_decide_eq_true h.1];exact .val _ h.2
 .induction v<;>first|exact ff h|skip
  rename_i l a;induction q:G.K.lookup a with|none=>rw[show wk G f _ _=(G.K.lookup a).any _ from O,q]at h;exact ff h|some o=>rw[show wk G f _ _=(G.K.lookup a).any _ from O,q]at h;exact mV (aaK h) λi n e h1 b c=>.av (.inr<|q.trans<|congrArg _ (e.trans (by rw[Mo]))) (aaJ d b c) h1
theorem Dz(h:wl G n v a=H)(μ):RelV G μ v a:=by induction n generalizing v a with|zero=>exact Lr ik h|succ n b=>exact Lr (λv a=>b) h
end
end
section
open PySem PySem.W PySem.Calls PyProof.Rows
noncomputable section
noncomputable def Ls(v:g7)(f:mS->Bool):Bool:=match v with| .ref a=>f a|_=>g
theorem aaL{P:Prop}(h:Ls v f=H)(k:∀a,v=.ref a->f a=H->P):P:=by cases v<;>first|exact ff h|exact k _ O h
noncomputable def Lu(l:List g7)(f:mS->List g7->Bool):Bool:=match l with|v::r=>Ls v λa=>f a r|[]=>g
theorem aaM{P:Prop}(h:Lu l f=H)(k:∀a r,l=.ref a::r->f a r=H->P):P:=by cases l with|nil=>exact ff h|cons v r=>exact aaL h λa e=>k a r<|congrArg (· ::r) e
noncomputable def Lw(d:Data)(f:ClassData->Bool):Bool:=match d with| .cls cd=>f cd|_=>g
theorem aaN{P:Prop}(h:Lw v f=H)(k:∀a,v=.cls a->f a=H->P):P:=by cases v<;>first|exact ff h|exact k _ O h
noncomputable def Lx(d:g7)(f:String->Bool):Bool:=match d with| .type t=>f t|_=>g
theorem aaO{P:Prop}(h:Lx v f=H)(k:∀a,v=.type a->f a=H->P):P:=by cases v<;>first|exact ff h|exact k _ O h
noncomputable def Ly(o:i')(f:ClassData->List (Option g7)->Bool):Bool:=Lx o.cls λt=>Lw o.data λcd=>t=="type"&&f cd o.slots.toList
theorem aaP{P:Prop}(h:Ly o f=H)(k:∀dd cd l,o=⟨.type "type",dd,.cls cd,l.toArray⟩->f cd l=H->P):P:=aaO h λb e h=>aaN h λcd a h=>haveI h:=f2 h;k o.dict cd o.slots.toList (by cases eq_of_beq h.1;clear zz3 (Eq.symm e);clear zz3 (Eq.symm a);rfl) h.2
noncomputable def Lz(d:Option g7)(f:String->Bool):Bool:=match d with|U (.builtin t)=>f t|_=>g
theorem aaQ{P:Prop}(h:Lz v f=H)(k:∀a,v=U (.builtin a)->f a=H->P):P:=by cases v with|none=>exact ff h|some v=>cases v<;>first|exact ff h|exact k _ O h
noncomputable def LB(l:List (Option g7))(f:String->Bool):Bool:=match l with|[_,_,_,_,x,_]=>Lz x f|_=>g
theorem aaR{P:Prop}(h:LB l f=H)(k:∀n a b c d e,l=[a,b,c,d,U<|.builtin n,e]->f n=H->P):P:=by rcases l with _|⟨a,_|⟨b,_|⟨c,_|⟨d,_|⟨x,_|⟨e,_|_⟩⟩⟩⟩⟩⟩<;>first|exact ff h|exact aaQ h λn q=>k n a b c d e (q▸rfl)
section
variable(G:Gl)
noncomputable def zb:List (g9×Option g7)->jp->Bool|[],[]=>H|(x,V)::b,(y,V)::c=>decide (x=y)&&zb b c|(x,U v)::b,(y,U a)::c=>decide (x=y)&&wl G 6 v a&&zb b c|_,_=>g
noncomputable def wo(f:Nat)(b:jp):Bool:=oB (k' G f) λa=>a.params.posonlyargs.isEmpty&&a.params.kwonlyargs.isEmpty&&a.params.vararg.isNone&&a.params.kwarg.isNone&&oB (Bi G a) λD=>kK D.length (iF a).length&&decide (iF a).Nodup&&zb G (lp a D) b
noncomputable def aaS{α:Type}(f:α->List α->Bool):List α->Bool|x::l=>f x l|[]=>g
noncomputable def DA(C f:Nat)(ks:List Nat)(e:jp)(c:Bool):Bool:=decide (iO G.K (.ref C) "__init__"=U (U (.ref f)))&&decide (oE G.K (.ref f)=U (.type "function"))&&oB (k' G f) λa=>x_ a.body (λb=>aaS (λsn d=>mX sn d (ks.map G.aH) b&&(c||!d.isEmpty)&&wo G f ((sn,V)::e)) (iF a))&&decide (a.scope.kind=.function)&&!a.scope.isCoroutine&&!a.scope.isGenerator&&a.scope.names.all (λx=>x.2 != .cell)&&decide (iF a).Nodup&&(iF a).all (λx=>a.scope.names.lookup x==U .local&&!(x==("__debug__":g9)))&&uq G.K a.code a.qualname&&decide ks.Nodup&&kK ks.length 500
noncomputable def zc(C:Nat):Nat:=match iO G.K (.ref C) "__init__" with|U (U (.ref f))=>f|_=>0
noncomputable def LC(C:Nat)(a:jp):Bool:=oB (G.T.cm C) λks=>makesIn G.K C&&a.length==ks.length&&DA G C (zc G C) ks a H
noncomputable def LD(C:Nat)(a:jp):Bool:=oB (G.T.cv C) λks=>oB (G.K.lookup C) (λo=>Ly o λcd l=>Lu cd.mro λb bm=>b==C&&!cd.hasDel&&qb (.ref C::bm)&&LB l λn=>n=="Exception.__new__")&&a.length==ks.length&&DA G C (zc G C) ks a g
end
variable{G:Gl}
theorem DB:∀{b} {c},zb G b c=H->j3 G b c
 |[],[],_=>.nil|[],_::_,h=>by cases h
 |(x,V)::_,[],h=>by cases h
 |(x,U v)::_,[],h=>by cases h
 |(x,V)::b,(y,V)::c,h=>by haveI h:=f2 h;induction of_decide_eq_true h.1;exact .none<|DB h.2
 |(x,V)::b,(y,U a)::c,h=>by cases h
 |(x,U v)::b,(y,V)::c,h=>by cases h
 |(x,U v)::b,(y,U a)::c,h=>by haveI h:=f2 h;haveI h1:=f2 h.1;induction of_decide_eq_true h1.1;exact .some (Dz h1.2)<|DB h.2
theorem LF{α:Type}{l:List α}(h:l.isEmpty=H):l=[]:=L9.mp h
theorem LG{α:Type}{o:Option α}(h:o.isNone=H):o=none:=by induction o<;>first|rfl|cases h
theorem zd(h:wo G f k=H):∃a D,k' G f=U a/\qi G f a D k:=j1 h λa e h=>by haveI h:=f2 h;haveI h1:=f2 h.1;haveI c:=f2 h1.1;haveI d:=f2 c.1;refine j1 h.2 λD j b=>?_;haveI b:=f2 b;haveI i:=f2 b.1;exact⟨a,D,e,e,LF d.1,LF d.2,LG c.2,LG h1.2,j,kC i.1,of_decide_eq_true i.2,DB b.2⟩
structure aaT (G:Gl)(C f:Nat)(ks:List Nat)(e:jp)(c:Bool)(a:lQ)(sn:g9)(d:List g9)(b:List ie)(D:List g7):Prop where
 init:iO G.K (.ref C) "__init__"=U (U (.ref f))
 fn:oE G.K (.ref f)=U (.type "function")
 at_:k' G f=U a
 bE:a.body=.stmts b
 kind:a.scope.kind=.function
 dL:a.scope.isCoroutine=g
 dM:a.scope.isGenerator=g
 cell:∀x∈a.scope.names,x.2≠ .cell
 L:iF a=sn::d
 b':c=g->d≠[]
 nodup:(iF a).Nodup
 j:∀x∈iF a,a.scope.names.lookup x=U .local/\(x==("__debug__":g9))=g
 code:uq G.K a.code a.qualname=H
 co:mX sn d (ks.map G.aH) b=H
 b0:ks.Nodup
 gz:ks.length<=500
 bn:qi G f a D ((sn,V)::e)
theorem LH(h:DA G C f ks s m=H):∃d sn j c D,aaT G C f ks s m d sn j c D:=by
 haveI h:=f2 h;haveI h0:=f2 h.1;refine j1 h.2 λd e h=>?_;simp only[iX,decide_eq_true_eq,sW]at h;refine kf λn=>hv h λa k=>hv a λa a9=>?_;haveI b:=a.1.1.1.1.1.1.1;refine n<|B8 b λc r b=>?_
 .exists n;cases i:iF d with
  |nil=>rw[i]at b;cases b
  |cons sn j=>
   rw[i]at b;haveI b:=f2 b;haveI l:=f2 b.1;refine jC (zd b.2) λp D o t=>?_;rw[e]at o;cases o;refine n ⟨d,sn,j,_,D,of_decide_eq_true h0.1,of_decide_eq_true h0.2,e,r,(a.1.1.1.1.1.1.2),(a.1.1.1.1.1.2),(a.1.1.1.1.2),λx hx=>?_,i,λq=>?_,(a.1.1.2),λx hx=>?_,(a.2),l.1,a9,kC k,t⟩;.haveI:=jX (a.1.1.1.2) hx;simpa using this
   .haveI:=l.2;rw[q]at this;clear i l;induction j with
    |nil=>cases this
    |cons=>exact z_ _ _
   .haveI:=jX (a.1.2) hx;simpa using this
theorem aaU(h:LC G C d=H):sr G C d:=j1 h λks e h=>by haveI h:=f2 h;haveI h1:=f2 h.1;exact nh (LH h.2) λb sn c f=>jj f λa D I=>⟨zc G C,ks,b,sn,c,a,D,⟨e,h1.1,I.init,I.fn,I.at_,I.bE,I.kind,I.dL,I.dM,I.cell,I.L,I.nodup,I.j,I.code,I.co,I.b0,I.gz⟩,I.bn,beq_iff_eq.mp h1.2⟩
theorem aaV{C i}{bm}{dd}{a b c d f}(m:cd.mro=.ref i::bm)(j:i=C)(o:(!cd.hasDel)=H)(k:l=[a,b,c,d,U<|.builtin n,f])(p:n="Exception.__new__"):(⟨.type "type",dd,.cls cd,l.toArray⟩)=uC cd.name cd.qualname C cd.ns cd.bases bm cd.hasDict cd.slotNames cd.subclasses cd.abstract cd.collection dd a b c d f "Exception.__new__":=by subst j p k;obtain⟨nm,bs,r,s,q,h,sn,sub,ab,as,e⟩:=cd;cases m;cases e with|true=>exact ff o|false=>rfl
theorem aaW(h:LD G C A=H):x9 G C A:=
 j1 h λks e h=>haveI h:=f2 h;haveI h1:=f2 h.1;j1 h1.1 λo x j=>aaP j λdd cd l t j=>aaM j λE bm s j=>haveI q:=f2 j;haveI p:=f2 q.1;haveI m:=f2 p.1;nh (LH h.2) λw sn z B=>jj B λi D I=>aaR q.2 λn a b c d f r y=>
  ⟨zc G C,ks,w,sn,z,i,D,⟨e,λk=>k cd.name cd.qualname cd.ns cd.bases bm cd.hasDict cd.slotNames cd.subclasses cd.abstract cd.collection dd a b c d f (x.trans<|congrArg _<|t.trans (aaV s (eq_of_beq m.1) m.2 r (eq_of_beq y))) p.2,I.init,I.fn,I.at_,I.bE,I.kind,I.dL,I.dM,I.cell,I.L,I.b' O,I.nodup,I.j,I.code,I.co,I.b0,I.gz⟩,I.bn,beq_iff_eq.mp h1.2⟩
end
end
section
open PySem PySem.W PySem.Calls PyProof.Rows
noncomputable section
theorem LI{K}{a:Nat}(X:K.In h)(e:nsOkIn K a=H):h.Ns a<|yh K a:=by
 unfold nsOkIn at e;induction b:K.lookup a with|none=>rw[b]at e;exact ff e|some o=>
  rw[b]at e;obtain⟨c,d,u,sl⟩:=o;cases u with
  |dict f i=>
   refine⟨_,f,i,X _ _ b,rfl,λx hx=>?_,λname=>?_⟩;.haveI:=(Array.all_eq_true_iff_forall_mem.mp e) x hx;revert this;cases x.key<;>intro h<;>first|exact ff h|exact rV _ _ O
   .unfold yh nsIn nsFind findBy;rw[b];dsimp only;rw[<-Array.find?_toList];induction q:f.toList.find? _ with|some x=>rfl|none=>dsimp only;split<;>rfl
  |_=>exact ff e
noncomputable def LJ(o:Option (Option g7))(f:g7->Bool):Bool:=match o with|U (U v)=>f v|_=>g
theorem aaX{P:Prop}(h:LJ o f=H)(k:∀v,o=U (U v)->f v=H->P):P:=by
 rcases o with _|_|v
 .exact iG h
 .exact iG h
 .exact k v O h
noncomputable def DC:jp->List AV->Bool|[],[]=>H|(_,U a)::c,b::l=>q0 a b&&DC c l|_,_=>g
theorem LK:∀{c} {l:List AV},DC c l=H->c.map (·.2)=l.map U|[],[],_=>rfl|[],_::_,h=>iG h|(_,U a)::c,b::l,h=>by haveI h:=f2 h;rw[wC,wC,xR _ _ h.1,LK h.2]|(_,V)::_,[],h=>iG h|(_,U _)::_,[],h=>iG h|(_,V)::_,_::_,h=>iG h
section
variable(R:q4)(ai:n6)(w:iZ)(K:jc)(aw:Nat)
noncomputable def aaY(f:jp->Bool):jp->Bool|p::a=>p.2.isNone&&f a|[]=>g
noncomputable def allB:List Bool:=
 let G:=R.b8 ai w K aw
 [nsOkIn K z4&&nsIn K z4 "sys.recursionlimit"==U V&&nsOkIn K qE&&nsOkIn K wv,decide R.bP.Nodup&&R.bP.all (λx=>pT x.length R.bP.length),qa K Cc&&su.all (λp=>qa K p.1),R.bP.all (r_ K Cc),su.all (λp=>p.2.all λk=>r_ K p.1 (G.aH k)),vt.all (λp=>xB K p.1&&p.2.all λk=>r_ K p.1 (G.aH k)),vt.all (λp=>vt.all λq=>decide (oA K p.1 (.ref q.1)=U (g3.sub p.1 q.1))),IL.all (λp=>p.2.all λq=>LJ (iO K (.ref p.1) (G.aH q.1)) λv=>wl G 6 v q.2&&A0 K p.1 (G.aH q.1) v&&A1 K p.1 (G.aH q.1) v),su.all (λp=>IK.all λD=>xC K p.1 D (g3.sub p.1 D)),R.cz.all (λp=>oB (G.c5 p.1) λv=>wl G 6 v p.2),R.bn.all (λp=>wo G p.1 p.2),R.cl.all (λp=>LC G p.1 p.2),su.all (λp=>(lk p.1 R.cl).isSome&&nI K (.ref p.1)),IM.all (λp=>fnIn K p.1&&oB (lk p.1 R.bn) (aaY λa=>DC a p.2)),R.dj.all (λp=>LD G p.1 p.2)]
end
end
end
section
open PySem PySem.W PySem.Calls PyProof.Rows
noncomputable section
theorem DD(h:g3.cm C=U ks):(C,ks)∈su:=m_ h
theorem uh{α:Type}{o:Option α}(h:o.isSome=H):∃a,o=U a:=z1.mp h
noncomputable def ze(w:iZ)(t1 t2 t3 t4 n:Nat):i':=⟨.type "dict",V,.dict #[⟨hashStr w (S [33]),.str (S [33]) t1,.str (S [33]) t2⟩,⟨hashStr w (S [33,33]),.str (S [33,33]) t3,.str (S [116,97,103,58,121,97,109,108,46,111,114,103,44,50,48,48,50,58]) t4⟩] n,#[]⟩
variable{R:q4}{ai:n6}{w:iZ}{K:jc}{aw t1 t2 t3 t4 nn:Nat}
theorem aaZ(y:2<=aw)(d:K.lookup 1304=U (ze w t1 t2 t3 t4 nn))(hB:(allB R ai w K aw).all id=H):(R.b8 ai w K aw).z:=by
 haveI jQ:∀i b,(allB R _ w K _)[i]?=U b->b=true:=λi b h=>jX hB<|l8 h;haveI h0:=jQ 0 _ O;simp only[iX,beq_iff_eq]at h0;refine kf λm=>hv h0 λc r=>hv c λc a3=>?_;obtain⟨o,q⟩:=c;haveI h1:=f2<|jQ 1 _ O;haveI p:=f2<|jQ 2 _ O;refine m ?_;refine {eU:=λh X=>⟨_,.of_isNs<|isNs_of_in X o,nsMap_none_of_in X o q⟩,bk:=y,b8:=λh X=>LI X a3,b9:=λh X=>LI X r,f4:=⟨of_decide_eq_true h1.1,λx hx=>kC<|jX h1.2 hx⟩,cls:=λD d=>?_,eV:=λD ks k d=>?_,e_:=λD ks j=>?_,bQ:=λC D n d=>(kf λm=>hE (uh n) λks e=>hE (uh d) λz s=>m<|of_decide_eq_true<|jX (jX (jQ 6 _ O)<|m_ e)<|m_ s),cat:=λD k a h=>?_,fw:=λD t h=>?_,f5:=λA D n d=>(hE (uh n) λks e=>jX (jX (jQ 8 _ O)<|m_ e)<|aaI d)}
 .rcases d with rfl|d
  .exact p.1
  .exact hE (uh d) λks e=>jX p.2<|DD e
 .rcases d with⟨rfl,j⟩|⟨d,j⟩
  .haveI:(R.b8 _ w K _).aH k=R.bP[k]:=by
    unfold Gl.aH
    rw[show(R.b8 _ w K _).bP[k]?=U R.bP[k]from oe j]
   rw[this]
   exact jX (jQ 3 _ O)<|Ex j
  .exact jX (jX (jQ 4 _ O)<|DD d) j
 .haveI h:=f2<|jX (jQ 5 _ O)<|m_ j;exact⟨h.1,λk j=>jX h.2 j⟩
 .haveI h':(match lk D _ with
   |some l=>lk k l
   |none=>V)=U a:=h
  induction e:lk D _ with
  |none=>rw[e]at h';exists m;cases h'
  |some l=>
   rw[e]at h'
   refine aaX (jX (jX (jQ 7 _ O)<|m_ e)<|m_ h') λv B h=>?_
   haveI h:=f2 h
   haveI h1:=f2 h.1
   exact Ai v (Dz h1.1) h1.2 h.2
 .haveI hm:=m_ (show lk D _=U t from h);cases iv.mp hm;refine⟨by decide,[(S _,.str _ t2),(S _,.str _ t4)],nn,λh X=>⟨_,_,X _ _ d,⟨rfl,rfl,rfl⟩,rfl,λe he=>?_,(.cons (beq_self_eq_true _) O<|.cons (beq_self_eq_true _) O .nil),(by simp[S])⟩,λμ=>.cons (.str _ _ (by decide))<|.cons (.str _ _ (by decide)) .nil,by decide⟩
  .rcases h7.mp<|Array.mem_toList_iff.mpr he with f|he;clear zz3 f
   .exact h_ (S _) (beq_self_eq_true _) O
   .cases iv.mp he;exact h_ (S _) (beq_self_eq_true _) O
end
end
section
open PySem PySem.W PySem.Calls PyProof.Rows
noncomputable section
variable{R:q4}{ai:n6}{w:iZ}{K:jc}{aw t1 t2 t3 t4 nn:Nat}
theorem aa0(n:2<=aw)(m:K.lookup 1304=U (ze w t1 t2 t3 t4 nn))(hB:(allB R ai w K aw).all id=H):Gx (R.b8 ai w K aw) R.eY:=by have jQ:∀i b,(allB R _ w K _)[i]?=U b->b=true:=λi b h=>jX hB<|l8 h;haveI d:=jQ 10 _ O;haveI k:∀C c,R.eY.cl C=U c->sr (R.b8 ai w K aw) C c:=λC c h=>aaU<|jX (jQ 11 _ O)<|m_ h;refine {go:=aaZ n m hB,cz:=λx a h=>j1 (jX (jQ 9 _ O)<|aaH h) λv e h=>⟨v,e,Dz h⟩,bn:=λf c h=>by obtain⟨j,D,_,h⟩:=zd<|jX d<|m_ h;exact rV j D h,cl:=k,eX:=λC h=>by refine hE (uh h) λks e=>?_;haveI h:=f2<|jX (jQ 12 _ O)<|DD e;exact hE (uh h.1) λc e=>h_ c (k C c e) h.2,bW:=λf q h=>?_,ci:=λA E Q s f l t u=>aaG,dk:=λC c h=>aaW<|jX (jQ 14 _ O)<|m_ h};haveI h:=f2<|jX (jQ 13 _ O)<|m_ h;refine⟨h.1,j1 h.2 λc e h=>?_⟩;cases c with|nil=>exact ff h|cons p c=>haveI h:=f2 h;obtain⟨sn,o⟩:=p;cases o with|some v=>exact ff h.1|none=>exact jC (zd<|jX d<|m_ e) λj D r y=>⟨j,D,sn,c,y,LK h.2⟩
end
end
section
open PySem PySem.W PySem.Calls PyProof.Rows
noncomputable section
variable{G:Gl}{t:Tb}
noncomputable def LL(K:jc)(f:Nat):Option lQ:=(K.lookup f).bind F5
noncomputable def DF(K:jc)(f:Nat):List g9:=(LL K f).elim [] λa=>
 let l:=(a.scope.names.filter λp=>p.2== .local).map (·.1)
 (lk f US).elim l (·.map λi=>l.getD i DJ)
noncomputable def LM(G:Gl)(t:Tb)(f c n:Nat)(a:DS):Bool:=(k' G f).any (λb=>(iF b).length==c)&&((DF G.K f).length==n&&(Il G t f (DF G.K f) a||oB (lk f [(783,1281),(1312,1521)]) λD=>Ix G t f (DF G.K f) D a))
theorem LN(X:Gx G t)(hT:G.T=g3){st}(h:LM G t f e n i=H)(j:args.length=e)(w:WS g3 (i6 G d) i (args.map U++rG (n - e) V) st ⟨λb st=>Q .none st,Q,λb b=>False,λb=>Xc⟩):i6 G (d+1) f args st Q Xc:=by
 haveI h:=f2 h;rw[<-hT]at w;haveI a:=f2 h.2;clear zz3 (Eq.symm j) h w;clear zz3 (Eq.symm<|beq_iff_eq.mp a.1) w;rcases s_.mp a.2 with c|c
 .exact Tf X c h.1 w
 .exact j1 c λp b a=>Tv X a h.1 w
noncomputable def DG(G:Gl)(t:Tb):Bool:=(Cd++C_).all λp=>LM G t p.1 p.2.1 p.2.2.1 p.2.2.2
theorem aa1(X:Gx G t)(hT:G.T=g3)(h:DG G t=H):kB<|i6 G where
 eI:=⟨λh1=>LN X hT<|jX h (s0 _ (m_ h1))⟩
 c:=λh1=>LN X hT<|jX h (ME _ (m_ h1))
end
end
section
open PySem PySem.W PySem.Calls PyProof.Rows
noncomputable section
noncomputable def aa2:g7->AV| .int i _=>.int i| .bool b=>.bool b| .ref _=>.av []|_=>.none
noncomputable def LO(K:jc)(f:Nat):jp:=(LL K f).elim [] λa=>(lp a ((Bg a.defaults λT=>(K.lookup T).bind Bh).getD [])).map λp=>(p.1,p.2.map aa2)
noncomputable def LP(K:jc)(C:Nat):Nat×jp:=(C,(LO K (match iO K (.ref C) "__init__" with|U (U (.ref f))=>f|_=>0)).tail)
noncomputable def aa3(p:mS×i'):Option (g9×AV):=match p.2.data with| .cls cd=>U (cd.name,.val (.ref p.1))|_=>V
noncomputable def sQ(K:jc):q4:=⟨UR,("_law_NAMES",.str ("abcdefghijklmnopqrstuvwxyz":g9).cps.toList)::("_law_NOTHING",vv)::K.filterMap aa3,(1607::1051::(Cd++C_).map (·.1)).map λf=>(f,LO K f),su.map λp=>LP K p.1,vt.map λp=>LP K p.1,1602⟩
noncomputable def ry(w:iZ)(K:jc):Gl:=(sQ K).b8 pw w K 1608
noncomputable def zg(w:iZ)(K:jc):Bool:=(allB (sQ K) pw w K 1608).all id&&DG (ry w K) (sQ K).eY&&ya (ry w K) (sQ K).eY 1607 IT vw&&wo (ry w K) 1607 [("script",V)]&&K.all (λp=>pT p.1 1608)&&decide (nsIn K qE "law"=U (U (.ref 1607)))
structure sR (w:iZ)(K:jc)(h:jA):Prop where
 cg:K.In h
 low:∀a,a<1608->∃o,h.get? a=U o/\o.cls≠ .type "list"
theorem sR.keeps{K}{h h'}(x:sR w K h)(k:∀b o,h.get? b=U o->h'.get? b=U o):sR w K h':=⟨λa o e=>k a o<|x.cg a o e,λa c=>by obtain⟨o,e,n⟩:=x.low a c;exact⟨o,k a o e,n⟩⟩
noncomputable def zh(a:Nat):Mu:=⟨V,λm=>match m with| .j 0=>U a|_=>V,[],[]⟩
noncomputable def aa4(c:MC):g2:=⟨λn=>match n with|0=>U c|_=>V,1⟩
theorem DH(h:(zh a).cell m=U b):m=.j 0/\b=a:=by
 induction m with
 |j n=>induction n with
  |zero=>cases h;exact⟨rfl,rfl⟩
  |succ n=>exact hH h
 |_=>exact hH h
theorem LQ(h:ii (zh a) b):b=a:=by
 exists c;rcases h with⟨x,h⟩|⟨m,h⟩|⟨D,d,h⟩
 .exact hH h
 .exact c<|(DH h).2
 .cases h
theorem aa5:∀{b},MX R b .int=H->∃c:List Int,b=c.map .int:=by intro b;induction b with|nil=>exactλ_=>⟨[],rfl⟩|cons x b d=>intro h;have h:=lT.mp (show(WShape.has R x _&&MX R b _)=H from h);refine hE (d h.2) λc a=>?_;subst a;cases x<;>first|exact⟨_::c,rfl⟩|exact absurd h.1 lS
theorem aa6(w:WellAll P h e [.list f]):∃l us,e=[.ref l]/\h.get? l=U {cls:=.type "list",data:=.seq us.toArray}/\WellAll P h us f:=by cases w with|cons d c=>cases c;cases d with|list b a=>exact⟨_,_,rfl,b,a⟩
theorem aa7{b:List Int}{c}(w:WellAll P h c<|b.map .int):ia G μ c<|b.map .int:=by
 induction b generalizing c with
 |nil=>cases w;exact .nil
 |cons i b d=>cases w with|cons a r=>cases a;exact .cons (.int _ _)<|d r
end
end
section
open PySem PySem.W PySem.Calls PyProof.Rows
theorem aa8(a b):ix.row.toRowW.claim.post a (.bool H) b=true:=by kernel_rfl
noncomputable def LS(d:Bool):Bool:=(WTm.and (.not (.lit (.bool d))) (.lit (.bool H))).holds [] {args:=[]}
theorem aa9{a:List Int}:ix.row.toRowW.pre.holds ix.row.toRowW.records {args:=[.list<|a.map .int]}=LS (decide ((63)<((a.map WData.int).length:Int))):=by kernel_rfl
theorem pQ{a:List Int}(h:ix.row.toRowW.pre.holds ix.row.toRowW.records {args:=[.list<|a.map .int]}=H):a.length<=63:=by rw[aa9,ig]at h;exact j9.mp λq=>by rw[decide_eq_true<|pd.mpr q]at h;exact iG h
end
section
open PySem PySem.W PySem.Calls PyProof.Rows
noncomputable section
theorem LU{K:jc}{a:Nat}{o}(h:K.lookup a=U o):(a,o)∈K:=by
 induction K with|nil=>exact hH h|cons p r c=>
  obtain⟨b,d⟩:=p;rw[List.lookup_cons]at h;induction e:a==b with
  |true=>rw[e]at h;cases h;induction eq_of_beq e;exact .head _
  |false=>rw[e]at h;exact .tail _<|c h
theorem aa_{K}{a:Nat}{f}{l:List Int}{n}(A:sR w K h)(j:K.all (λp=>pT p.1 1608)=H)(i:h.get? a=U (listOf f.toArray n))(r:WellAll w.params h f<|l.map .int)(hl:l.length<=1000000):Inv (ry w K) (zh a) (aa4<|.dU (listOf f.toArray n) (l.map .int)).i h where
 aV:=A.cg
 cw:=λb o e=>kC<|jX j (LU e)
 t:=λp z=>by cases z
 c7:=λks f=>hH
 cG:=λs=>rfl
 cp:=λm c e=>by
  induction m with
  |j k=>induction k with
   |zero=>cases e;exact⟨a,rfl,i,f.toArray,n,rfl,aa7 r,by rw[ig];exact hl⟩
   |succ k=>exists y;cases e
  |_=>exists y;cases e
 ck:=λm e=>by
  induction m with
  |j k=>induction k with|zero=>exact hH<|Eq.symm e|succ k=>rfl
  |_=>rfl
 cX:=λa D d e=>by cases e
 bw:=λb m=>by have:=LQ m;subst this;refine⟨?_,it i⟩;show 1608<=b;cases nG b _ with|inr q=>exact q|inl q=>refine hc (A.low b q) λo e n=>?_;rw[i]at e;cases e;exact absurd O n
 inj:=λm m' b h1 t=>(DH h1).1.trans (DH t).1.symm
 dd:=λx b m=>hH
 de:=λx b D d=>hH
 a2:=λm b D d s e=>by cases e
 cx:=λk j=>by induction k with|zero=>exact absurd j (by show ¬(1<=0);decide)|succ k=>rfl
 df:=rfl
 bk:=hc (A.low 1607 (by decide)) λo e s=>it e
theorem walk{K:iZ->jc}{tk:iZ->Nat×Nat×Nat×Nat×Nat}(t:∀w,zg w (K w)=H)(aL:∀w,(K w).lookup 1304=U (ze w (tk w).1 (tk w).2.1 (tk w).2.2.1 (tk w).2.2.2.1 (tk w).2.2.2.2)){d:DefRec}(hd:d.name="law"):WalkO q I XP (λw h=>sR w (K w) h) ix.row.toRowW d aM λf vs=>PySem.call f vs:=by
 intro w av aD mg mb aG aP a o pm cd aJ dV aO _ _ _ _ i j args aE as uJ _ _ k _;have t:=t w;unfold zg at t;simp only[iX,decide_eq_true_eq]at t;refine hv t λp b6=>hv p λc b5=>?_;have X:Gx (ry w _) _:=aa0 (by decide) (aL w) (c.1.1.1);have Y:=aa1 X O (c.1.1.2);have e:=mg_of aP.cg aG.T.g b6;rw[hd]at i;rw[e]at i;cases i;refine hv (pre_splitW uJ) λx G=>i0 (hasAllW_cons x) λdd r m h1 aK=>?_;clear uJ x;subst m;cases hasAllW_nil aK;obtain⟨aF,rfl⟩:∃aF,dd=.list aF:=by cases dd<;>first|exact⟨_,rfl⟩|exact absurd h1 lS
 refine hE (aa5<|(Bool.or_false _).symm.trans h1) λis n=>?_;clear h1;subst n;have hl:is.length<=1000000:=f1 (pQ G) (by decide);refine i0 (aa6 k) λl vs B T s=>?_;clear k;subst B;refine jC (zd (c.2)) λM D jQ aQ=>?_;have y:(iF M).length=1:=by rw[<-Bf M aQ.c8,ig,aQ.cy.len];rfl
 have bd:=by have z:=aQ.cy.len;have:=qe (aa:=[.ref l]) (kw:=[]) aQ.d0 aQ.d1 aQ.d2 aQ.d3 aQ.c8 (qf aP.cg aQ.d4) aQ.b0<|Hs (by rw[ig,z];rfl);rw[Hr (by rw[z];rfl)]at this;exact this
 have go:=Tw X (Q:=λv st=>v=.bool H/\st.j 0=U (.dU _ _)) (Xc:=λJ J=>False) (c.1.2) (A:=callerA) O O ⟨by decide,by decide⟩ (aa_ aP b5 T s hl) (.cons (.mut O (by intro h;cases h)) .nil) jQ y.symm bd<|aaB Y (d:=0) O (wJ 0) λst h=>⟨rfl,h⟩;refine pV<|wz go λr s' q=>?_;induction r with
 |error v=>exists C;obtain⟨_,_,_,_,_,_,P⟩:=q;exact P.dY.elim
 |ok fl=>
  induction fl with
  |ret v=>
   obtain⟨st,af,b,ac,⟨rfl,hs⟩,E,aN,aH,kp,nw,nf⟩:=q;have B:=aN.aO;subst B;refine⟨.inl ⟨_,_,[],rfl,λaI=>rfl,.bool _,(aa8 _ _),λJ=>⟨Eo,λa h=>by cases h⟩⟩,.of_keep λb o e=>?_,st.bZ,.of_eq<|st.bY.trans j⟩
   .exists C;by_cases au:ii (zh l) b;.clear j;cases LQ au;refine jB (aH.cp (.j 0) _ hs) λa' L h0 J=>?_;have:=E.cell (.j 0) l O;rw[this]at L;clear hs;cases L;rw[T]at e;cases e;exact C h0
    .exact C<|kp b o e au
  |next=>exact q.2.elim|brk=>exact q.2.elim|cont=>exact q.2.elim
end
end
section
set_option maxHeartbeats 0
open PySem PySem.W PySem.Calls PyProof.Rows
theorem aa':(λw=>(allB (sQ (kE w)) pw w (kE w) 1608).all id)=λ_=>true:=by kernel_rfl
theorem aba:(λw=>DG (ry w (kE w)) (sQ (kE w)).eY)=λ_=>true:=by kernel_rfl
theorem abb:(λw=>ya (ry w (kE w)) (sQ (kE w)).eY 1607 IT vw&&wo (ry w (kE w)) 1607 [("script",V)]&&(kE w).all (λp=>pT p.1 1608)&&decide (nsIn (kE w) qE "law"=U (U (.ref 1607))))=λ_=>true:=by kernel_rfl
theorem abc(w:iZ):zg w (kE w)=true:=by have h1:=congrFun aa' w;have d:=congrFun aba w;have a:=f2 (congrFun abb w);have b:=f2 a.1;have c:=f2 b.1;unfold zg;simp only[iX];exact⟨⟨⟨⟨⟨h1,d⟩,c.1⟩,c.2⟩,b.2⟩,a.2⟩
end
section
set_option maxHeartbeats 4000000
open PySem PySem.W PySem.Calls PyProof.Rows
noncomputable section
noncomputable def abd:ie->DefRec| .FunctionDef name a b _ _ _ c _ _ aa=>⟨name,a,b,c,aa⟩|_=>⟨"",⟨[],[],V,[],[],V,[]⟩,[],⟨.function,[],g,g,[]⟩,⟨0,0,0,0⟩⟩
noncomputable def sS:DefRec:=abd (rR 67)
theorem x1:defOf qv ix.row.name=U (sS,[]):=by kernel_rfl
theorem x2:pw.theDef ix.row.name=U (sS.params,sS.body,sS.scope):=by kernel_rfl
theorem x3:kwWritten? sS.params.kwonlyargs sS.params.kw_defaults=U []:=by kernel_rfl
theorem x4:(chainsOk qv&&opensWell pw&&(frees ix.row.toRowW&&ix.row.within.isEmpty))=true:=by kernel_rfl
theorem x6:ix.row.toRowW.promised:=⟨[.list []],by kernel_rfl,by kernel_rfl⟩
theorem x5:pw.tablesWhole=true:=by kernel_rfl
theorem x7:pw.bare:=⟨rfl,rfl,rfl,rfl,by kernel_rfl,x5⟩
theorem x8:sS.name="law":=by kernel_rfl
end
end
section
set_option maxHeartbeats 4000000
open PySem PySem.W PySem.Calls PyProof.Rows
noncomputable section
noncomputable def LV(w:iZ)(os:qA):Option oy:=uH (stepT (denote uF) pw w) (stepOk 11 (U (.ref 6))) 16000 ⟨wX w.params,11,{},#[],uj,uk,os⟩ (topStub pw)
theorem abe:LV=pf:=by unfold LV pf;rw[Fast.te10156331382660048174,Fast.te11892475500146522536,Fast.te14364793385576792824,Fast.te6613529449190102663]
theorem abf(a:hr):openSeen qv oH (rz pw.main.body) (λ_=>H) H a=zk qv oH (rz pw.main.body) (λ_=>H) H a:=by rw[Fast.te4187177175401517315]
theorem abg:opening pw=plainProg pw.main.scope.names:=by kernel_rfl
theorem abh(s:hr):fenceModules? pw s=U s:=by kernel_rfl
theorem abi(P:ui):(qz P).isNs qE=true:=by kernel_rfl
theorem abj(P:ui):(qz P).nsMap qE "__annotations__"=U (.ref 6):=by kernel_rfl
theorem abk(P:ui):(qz P).objs.size=11:=by kernel_rfl
noncomputable def sT(w:iZ)(a:hr):Prop:=(tm w.params a&&rU a.heap)=H/\openSeen qv oH (rz pw.main.body) (λ_=>H) H a=zl qv oH/\uN a.heap (kE w)=kE w
theorem abl{N:Nat}(hN:kK 16000 N=H)(run:∀w os,∃T:oy,pf w os=U T/\sT w T.abs)(w:iZ):∃a,Ab uF pw w N=U a/\sT w a:=by
 have i:=kC hN;obtain⟨⟨h,f,d,k,os⟩,e,c⟩:=wp.mp (boot_open (p:=pw) (N:=N) abg (En<|f1 (by decide) i) abh w);obtain⟨rfl,rfl,rfl,rfl⟩:h=qz w.params/\f=#[]/\d=uj/\k=uk:=by simpa using c
 obtain⟨T,h1,b⟩:=run w os;rw[<-abe]at h1;have r:=topRun_mono (N - 16000) _ _ _ _ (EC h1);rw[Nat.add_sub_cancel' i]at r;have l:MY ⟨wX w.params,11,{},#[],uj,uk,os⟩=⟨qz w.params,#[],uj,uk,os⟩:=by unfold MY;rw[M1]
 rw[l]at r;have j:tm w.params T.abs=true:=(f2 b.1).1;have t:topFrom uF pw w N ⟨qz w.params,#[],uj,uk,os⟩=U T.abs:=by unfold topFrom;dsimp only;rw[abi,abj,abk,r];show(match tm w.params T.abs with|true=>U T.abs|false=>V)=_;rw[j]
 refine⟨T.abs,?_,b⟩;unfold Ab;rw[e];show topFrom uF pw w N _=_;rw[t]
noncomputable def zi(N:Nat)(w:iZ):jA:=((Ab uF pw w N).map (·.heap)).getD {}
theorem LW{h:jA}(e:rU h=H):1608<=h.objs.size/\∀(a:Nat) o,h.objs[a]?=U o->h.get? a=U o/\o.cls≠ .type "list":=by refine⟨kC (f2 e).1,λa o q=>?_⟩;have b:=f2 (jX (f2 e).2 (l8 ((pY ..).trans q)));exact⟨(jA.get?_eq_some _ _ _).2 ⟨q,b.1⟩,λc=>absurd ((congrArg EH c).symm.trans b.2) (by decide)⟩
theorem abm{a:Nat}{o:i'}{l:List i'}:∀{i:Nat} {K:jc},(a,o)∈rT l i K->∃j,a=i+j/\l[j]?=U o:=by
 induction l with|nil=>exactλh=>nomatch h|cons x l d=>
  intro i K h;cases K with|nil=>exact nomatch h|cons k r=>
   rw[show rT (x::l) i (k::r)=cond (iE k.1 i) ((k.1,x)::rT l (i+1) r) (rT l (i+1) (k::r))from O]at h;cases q:iE k.1 i with
   |true=>
    rw[q]at h;rcases h7.mp h with h|h
    .exact⟨0,(congrArg zw h).trans (nL q),congrArg U (congrArg Prod.snd h).symm⟩
    .obtain⟨j,b,c⟩:=d h;exact⟨j+1,b.trans (iU ..),c⟩
   |false=>rw[q]at h;obtain⟨j,b,c⟩:=d h;exact⟨j+1,b.trans (iU ..),c⟩
theorem abn{h:jA}(e:rU h=H)(K:jc):(uN h K).In h:=λa o q=>by obtain⟨j,b,c⟩:=abm (LU q);rw[mU]at b;subst b;rw[pY]at c;exact((LW e).2 a o c).1
theorem abo{h:jA}(e:rU h=H)(a:Nat)(b:a<1608):∃o,h.get? a=U o/\o.cls≠ .type "list":=by obtain⟨c,k⟩:=LW e;exact⟨_,k a _ (Array.getElem?_eq_getElem (hy b c))⟩
section
variable{N:Nat}(hN:kK 16000 N=H)(run:∀w os,∃T:oy,pf w os=U T/\sT w T.abs)
include hN run
theorem LX(w:iZ):∃a,Ab uF pw w N=U a/\a.heap=zi N w/\sT w a:=by obtain⟨a,e,s⟩:=abl hN run w;exact⟨a,e,by unfold zi;rw[e];rfl,s⟩
theorem abp:LeftO pw qv oH (λ_=>H) (λs=>s.heap) (zi N) N:=λw=>by obtain⟨b,e,a,s⟩:=LX hN run w;rw[e];exact congrArg U (Prod.ext s.2.1 a)
theorem abq(w:iZ)(s:hr)(e:s.heap=zi N w):sR w (kE w) s.heap:=by obtain⟨c,_,b,a⟩:=LX hN run w;rw[e,<-b,<-a.2.2];exact⟨abn (f2 a.1).2 _,abo (f2 a.1).2⟩
end
theorem abr(w:iZ):(kE w).lookup 1304=U (ze w 2128 2129 2130 2131 2):=by kernel_rfl
end
end
set_option maxHeartbeats 4000000
open PySem PySem.W PySem.Calls PyProof.Rows
theorem LY(w:iZ)(os:qA):∃T:oy,pf w os=U T/\sT w T.abs:=by
 have a:∀(w:iZ) (os:qA),(pf w os).map (λT=>tm w.params T.abs&&rU T.abs.heap)=U H->(pf w os).map (λT=>zk qv oH (rz pw.main.body) (λ_=>H) H T.abs)=U (zl qv oH)->(pf w os).map (λT=>uN T.abs.heap (kE w))=U (kE w)->∃T:oy,pf w os=U T/\sT w T.abs:=λw os h h1 h2=>by obtain⟨T,e,h⟩:=wp.mp h;rw[e]at h1 h2;refine⟨T,e,h,?_,Option.some.inj h2⟩;rw[abf];exact Option.some.inj h1
 exact byRow2 p4 (P:=λw=>∃T:oy,pf w os=U T/\sT w T.abs) (λw=>a _ os (congrFun (congrFun Zo01 w) os) (congrFun (congrFun Zo02 w) os) (congrFun (congrFun Zo03 w) os)) (λw=>a _ os (congrFun (congrFun Zo11 w) os) (congrFun (congrFun Zo12 w) os) (congrFun (congrFun Zo13 w) os)) w
theorem acg{N:Nat}(hN:kK 16000 N=H):ix.row.Holds:=holds_open (XP:=λ_ _=>True) (YP:=λw h=>sR w (kE w) h) (abp hN LY) (abq hN LY) (λw h h' x k=>x.keeps k) (λ_ _=>trivial) (λ_ _ _ _ _=>trivial) x1 x2 x3 (λs _=>recFacts_nil O) O EI x4 x7 x6 (walk (K:=kE) (tk:=λ_=>(2128,2129,2130,2131,2)) abc abr x8)
end Mine.Internal
theorem PySem.Challenge.cw_qm0005_01_holds : PySem.Challenge.rw_qm0005_01.Holds :=
⟨Mine.Internal.abt,Mine.Internal.acg (N:=16000) (by decide)⟩
