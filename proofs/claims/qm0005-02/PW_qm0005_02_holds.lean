import PyProof.Rows.All
import Wide.ObjOpen
import Wide.Head
import Wide.Well
import Wide.OneHead
import Wide.BridgeG
import Wide.Once
import OpenK.Peek
import OpenK.KGet
import OpenK.KDescr
import OpenK.KCall
import OpenK.KMake
import OpenK.KCls
import Open.Head
import OpenK.KWalk
import OpenK.KMore
import OpenK.KList
import Open.Seg
import Open.Boot
import Open.Tree
import Open.FastRun
import Open.FastT9
import KE.KItem
import KE.KBoundM
import KE.KDictList
import OpenK.KOwn
import KE.KIsNot
import KE.KxPercent
import KE.KSuperObj
import KE.KSuper
import KE.KTupTruth
import KE.KxTruthy
import Lean
import PySem.Challenge.RW_qm0005_02
set_option Elab.async false
set_option linter.all false
set_option maxRecDepth 100000
set_option genSizeOf false
set_option genInjectivity false
set_option backward.match.sparseCases false
set_option tactic.hygienic false
set_option genCtorIdx false
set_option compiler.extract_closed false
namespace Mine.Internal
open Array renaming any_toList→JC,getElem?_eq_none→JL,toArray_toList→Jx,getElem?_toList→oG,getElem?_eq_some_iff→uX,length_toList→xQ,replicate→xw
open Bool renaming eq_false_iff→BH,or_eq_true→Cd,true→H,false→g,and_eq_true→iG,noConfusion→iR,and_eq_true_iff→kV,not_eq_true'→rx,or_eq_true_iff→sN,or_true→xE,false_ne_true→xY,or_eq_false_iff→ys
open False renaming elim→nZ
open Int renaming toNat_lt→B2,lt_iff_le_and_ne→JT,natCast_nonneg→j9,fmod→jg,fdiv→k9,ofNat_lt→ni,not_lt→oK,le_trans→pu,ofNat_le→rF,ofNat→s4,lt_irrefl→s8,lt_of_lt_of_le→sV,le_refl→sW,lt_of_le_of_lt→xO,toNat_of_nonneg→xU
open List renaming mem_append_right→B',take_of_length_le→B1,getElem?_set_self→BB,getElem?_set_ne→BC,any_cons→BI,getElem?_zip_eq_some→BR,mem_replicate→BS,eq_nil_of_length_eq_zero→BX,mem_filter→B_,length→Ca,foldl_append→Cf,filter_cons_of_pos→Cg,length_nil→Ch,nodup_nil→Ci,filter_sublist→Cj,mem_nil_iff→Co,take_length→Ct,cons_lt_cons_iff→J2,getElem?_eq_none_iff→J3,filter_eq_self→JO,filter_cons_of_neg→JQ,length_filter_le→JS,isEmpty_map→JW,eq_of_mem_replicate→JX,any_eq_true→JZ,find?_cons_of_pos→Jc,find?_cons_of_neg→Jd,mem_reverse→Je,getElem?_of_mem→Jf,isEmpty_iff→Jg,cons_append→Jh,zip_nil_right→Ji,map_fst_zip→Jj,take_append_drop→Jk,filter_cons→Jl,size_toArray→Jm,drop_take→Jo,replicate_succ→Jv,foldl_cons→Jw,length_map→h8,append_assoc→i8,length_cons→iD,mem_singleton→iJ,length_append→io,mem_cons→ir,append_nil→j3,replicate→jD,not_mem_nil→ji,getElem?_eq_some_iff→jq,map_append→kU,mem_of_getElem?→k_,all_eq_true→lH,mem_append→lg,map→mM,getElem?_eq_getElem→mo,lookup→n4,getElem?_map→n6,nodup_cons→pj,length_take→pq,all_cons→qC,length_singleton→qE,nodup_append→qF,map_map→qx,filterMap_cons→rC,getElem?_append_left→rD,mem_append_left→sQ,getElem?_append_right→sR,length_drop→sS,length_replicate→u',of_mem_zip→uZ,cons_ne_nil→u_,forIn_cons→xJ,mem_map_of_mem→xK,map_cons→xM,drop_eq_nil_of_le→xS,getElem?_eq_none→xy,length_set→xz,drop_eq_getElem_cons→ye,reverse_cons→yl,length_reverse→yq,getElem_mem→yu
open List.cons renaming inj→BG
open List.span renaming loop→Cp
open Nat renaming sub_le→B0,lt_of_succ_lt→B4,lt_add_of_pos_right→B5,beq_refl→BF,ne_of_beq_eq_false→Bz,not_succ_le_zero→Cn,le_of_succ_le→I8,lt_of_le_of_ne→I9,le_of_sub_eq_zero→JK,add_sub_cancel_left→JP,succ_le_of_lt→JR,sub_add_cancel→JU,lt_of_succ_lt_succ→JV,pos_of_ne_zero→Jt,le_trans→f2,lt_of_lt_of_le→hD,le_refl→hJ,zero_le→i',ne_of_gt→iP,add_le_add_left→iU,add_right_comm→iZ,add_le_add_right→iu,ne_of_lt→iw,le_add_right→iy,add_le_add→j4,not_lt→jE,lt_irrefl→jI,le_of_lt→jM,le_of_ble_eq_true→jN,ble→jf,le_of_eq→jh,beq→jn,le_succ→jo,le_add_left→kT,lt_succ_self→kg,zero_add→lG,add_assoc→lZ,le_succ_of_le→lb,succ_le_succ→mj,lt_of_le_of_lt→n3,eq_of_beq_eq_true→oA,lt_or_ge→oD,add_comm→pA,blt→pf,lt_succ_of_lt→pv,le_antisymm→py,le_add_right_of_le→qA,lt_trans→qw,succ_pos→rG,not_lt_zero→rK,lt_succ_of_le→s0,mul_le_mul_left→s7,min_le_right→sU,ble_eq_true_of_le→u9,succ_ne_self→x9,min_eq_left→xR,not_lt_of_le→xx,succ_lt_succ→ym,not_le_of_lt→yn,min_le_left→yo,le_of_lt_succ→yp,sub_self→yr,lt_one_iff→yt
open Nat.succ renaming inj→sZ
open Option renaming bind_some→Ja,some→U,none→V,none→hU,bind_eq_some_iff→sL,map_eq_some_iff→uS,some→xC,isSome_iff_exists→yh
open Option.some renaming inj→ia
open Prod renaming fst→xH
open Prod.mk renaming inj→xP
open PyProof.Rows renaming mod_int→I_,subscriptTail→sX,tail_any→sY
open PySem renaming wpAny_Assign_stores→B3,wpAny_BinOp→B6,assignInOrder→B8,codeAny_of_tree→B9,Comprehension→BA,wpAny_Constant_str→BE,wpAny_mkText→BK,wpAny_setField→BQ,foldedSetIterable→BU,wpAny_truthy_bool→BW,wpAt_bind→Cb,wpAny_isSubtype_exc→Cc,ks_wpAt_mono→Ce,aRefKeyMayBeTheName_at→JD,wpAny_isTrue_Compare1→JE,wpAny_evalPart_none→JF,wpAny_storeName_local→JJ,codeAny_call_builtin→Jb,intKind→Jn,wpAny_setItem_pairs→Jz,wpAny→g0,Str→g2,wpAny_mono→g5,Value→gZ,Expr→g_,Stmt→h4,Shared→hb,wpAny_bind→hk,World→iI,Obj→iT,wpAny_pure→ib,model→ii,Around→ix,Env→jL,Heap→je,FuncData→kR,call→kh,Pos→ku,rawInt→lE,starEach→lF,Addr→lY,codeAny→la,Program→m8,keywordEach→mK,backTo→ml,backToKw→mm,assignEach→mn,Const→n0,compareOp→n2,execs→n5,notedBy→n7,wpAny_items_nil→n9,Model→nD,DictEntry→nY,wpAny_items_cons→n_,wpAny_holding→nc,Keyword→oC,wpAny_call→oF,wpAny_standAt→oH,wpAny_evalAll_nil→oJ,OsState→pe,binaryOp→pg,getAttr→ph,mainGlobals→pi,assign→qB,strIterType→qD,importedModules→qo,wpAny_loadName_local→qq,typeIs_str→qy,sizeLine→qz,BindsTo→rA,callEnv→rB,swappedStores→rE,wpAny_execs_nil→rH,wpAny_loadPart_at→rI,handleBy→rJ,Operator→rv,wpAny_field→ry,setAttr→s5,excClassObj→s6,Params→sI,wpAny_Name→sM,wpAny_of_eq→sT,treeTable→s_,codeAny_mono→u0,callWith→u1,call_meets→u2,wpAny_loadPart→u3,assignAll→u7,compEnv→u8,builtinsNs→uW,reprText→vb,wpAny_execs_cons→x0,wpAny_Constant_int→xB,codeAny_call_def→xI,cameBackBy→xL,sysModules→xN,sliceRange→xT,attributeBase→xV,IsL→xW,keeperOf→yb,letOwnedTupleGo→yd,wpAny_For→yf,wpAt_of_wpAny→yg,wpAt→yj,cStatics→yk
open PySem.Builtin.Str renaming glued→JB,Writer→s9
open PySem.Calls renaming Name_function_global→BD
open PySem.Challenge renaming pw_qm0005_02→I7
open PySem.Code renaming quiet_builtin→JN
open PySem.F renaming slot_dict_delitem→JA,type_list_pop→JI,slot_str_getitem→Jp,slot_list_append→Jq,slot_list_extend→Jr,entry_list_pop→Js,slot_list_insert→Ju,slot_list_pop→xX
open PySem.Heap renaming size_after_update→BN,get?_update_ne→JM,lt_size→ih,get?_push_of_some→jw,size_push→kI,SameBut→lD,get?_push_size→m_,get?_update_self→sO,get?_update_other→xF
open PySem.Heap.DictOf renaming new→BY
open PySem.Heap.SameBut renaming update→BZ
open PySem.Keeper renaming machine→x',frame→x_,boundFrame→ya
open PySem.Obj renaming mapFields→BM,data_mapFields→BO,isFreed_of_fields→BP
open PySem.PyData renaming eqv→B7,keyHash→m9,canLayAll0→u5,depthAll→u6,eqvAll→yc
open PySem.ReadsAll renaming nil→JG,cons→JH
open PySem.Str renaming empty→Bw,ofString→By,length_append→JY
open PySem.StrLaws renaming found_one→I'
open PySem.Value renaming isInt_shape→Jy,ref→kJ,none→xG,int→yi
open PySem.W renaming copiedNames→BJ,findObj_own→BL,builtinNamed→Bx,dictOf→i4,findIn→iB,Frag→iY,getL→kQ,instObj→ky,keepIn→mL,callWith_of→n8,SharedT→nC,mroIn→nE,typeIn→nF,hasDictIn→nb,Looks→ng,putL→nh,clsIn→oE,emptyDict→oI,boot_heap→pd,handedIn→qp,takerIn→qr,any_some→qt,looks_findIn→qu,boot_drawn→sJ,boot_toks→sK,codeIn→sP,looks_clsIn→u4,methodObj→uT,specialIn→uU,looks_mroIn→uV,codeRec_of→uY,plainOver→xD,putName_dict→xZ,namesMeet→xr,openGood→xv,openEnds→yv
open PySem.W.Fast renaming tw4187177175401517315→xs
open PySem.W.KPc renaming good_mono→Cq,ite_no→Cr,short_good→Cs,Good→pB,turn→vc
open PySem.W.Looks renaming ld→BV
open PySem.W.SharedT renaming abs→J1
open PySem.W.WShape renaming hasItems→J0
section
theorem O{α:Sort u}{a:α}:a=a:=rfl
open PySem PySem.W PySem.Calls PyProof.Rows
noncomputable abbrev pw:=PySem.Challenge.pw_qm0005_02
noncomputable abbrev ij:=PySem.Challenge.rw_qm0005_02
theorem f1{a b:Bool}(h:(a&&b)=true):a=true∧b=true:=Bool.and_eq_true_iff.mp h
end
section
set_option maxHeartbeats 0
open PySem PySem.W
noncomputable def ta(a:nC->Thread->Option (nC×Thread))(b:Thread->Bool):Nat->nC->Thread->Option nC|0,_,_=>V|n+1,s,t=>match through t with|H=>U s|g=>match b t with|g=>V|H=>match a s t with|U (s',c)=>ta a b n s' c|V=>V
theorem Cu{d:String->Option Builtin}{p:m8}{w:iI}{a:Nat}{b:Option gZ}:∀{n:Nat} {s s':nC} {t:Thread},ta (stepT (denote d) p w) (stepOk a b) n s t=U s'->topRun d p w a b n s.abs t=U s'.abs
 |0,_,_,_,h=>by cases h
 |n+1,s,s',t,h=>by
  unfold ta at h;unfold topRun;cases f:through t with
  |true=>rw[f]at h;cases h;rfl
  |false=>
   rw[f]at h;cases e:stepOk a b t with
   |false=>rw[e]at h;cases h
   |true=>
    rw[e]at h;cases c:stepT (denote d) p w s t with
    |none=>rw[c]at h;cases h
    |some r=>obtain⟨i,j⟩:=r;rw[c]at h;rw[stepT_spec c];exact Cu h
noncomputable def vd(P:sI):BT:=.node (boot_o_0 P) (.node (boot_o_1 P) (.node (boot_o_3 P) (.node (boot_o_7 P) .nil .nil) .nil) (.node (boot_o_5 P) (.node (boot_o_9 P) .nil .nil) .nil)) (.node (boot_o_2 P) (.node (boot_o_4 P) (.node (boot_o_8 P) .nil .nil) .nil) (.node (boot_o_6 P) (.node (boot_o_10 P) .nil .nil) .nil))
theorem J4(P:sI):absHeap (vd P) 11 {}=pd P:=by kernel_rfl
noncomputable def oL:String:="special-get-raises"
noncomputable def n'(w:iI)(os:pe):Option nC:=ta (Fast.tw10156331382660048174 (Fast.tw11892475500146522536 Fast.tw14364793385576792824) I7 w) (Fast.tw6613529449190102663 11 (U (.ref 6))) 16000 ⟨vd w.params,11,{},#[],sJ,sK,os⟩ (topStub I7)
end
section
set_option maxHeartbeats 0
open PySem PySem.W PySem.Calls PyProof.Rows
noncomputable section
noncomputable def qG(i:Nat):h4:=(pw.main.body[i]?).getD (.Pass ⟨0,0,0,0⟩)
noncomputable def J5(i j:Nat):h4:=match qG i with| .ClassDef _ _ _ b _ _ _ _ _ _ _=>(b[j]?).getD (.Pass ⟨0,0,0,0⟩)|s=>s
noncomputable def dE(w:iI)(k:g2)(t:Nat)(v:gZ):nY:=⟨hashStr w k,.str k t,v⟩
noncomputable abbrev MD:=g2×Nat
noncomputable def rL:h4->g2| .FunctionDef n _ _ _ _ _ _ _ _ _=>n| .ClassDef n _ _ _ _ _ _ _ _ _ _=>n|_=>Bw
noncomputable def yw(s:h4):Nat:=s.pos.line
noncomputable def J6:h4->Nat| .FunctionDef _ a _ _ _ _ _ _ _ _=>a.args.length|_=>0
noncomputable def Cw(s:h4)(q:g2)(cd e:gZ)(c:List (g2×lY))(d:gZ)(m:MD):iT:=match s with| .FunctionDef n a b _ _ _ f _ _ _=>⟨.type "function",V,.func ⟨n,q,a,.stmts b,f,3,c,e,.none,.none,.str m.1 m.2,V,cd,d,0⟩,#[]⟩|_=>⟨.none,V,.plain,#[]⟩
noncomputable def J7(nm:g2)(bs a:List gZ)(b:lY)(q:g2)(hd:Bool)(sub:List gZ)(sl:Array (Option gZ)):iT:=⟨.type "type",V,.cls ⟨nm,bs,a,b,q,hd,[],sub,g,V,g⟩,sl⟩
noncomputable def pC:MD:=("yaml.error",194)
noncomputable def m1:MD:=("yaml.tokens",321)
noncomputable def m2:MD:=("yaml.events",798)
noncomputable def m3:MD:=("yaml.reader",1142)
noncomputable def m4:MD:=("yaml.scanner",1285)
noncomputable def m5:MD:=("yaml.parser",2098)
noncomputable def m6:MD:=("law_qm0005_02",2419)
noncomputable def tc(i:Nat)(l:List gZ):lY×iT:=(i,⟨.type "tuple",V,.seq l.toArray 0,#[]⟩)
noncomputable abbrev mN:=iY×List nY
noncomputable def yx(w:iI)(s:h4)(q:g2)(m:MD)(c b:gZ)(a:List (g2×lY))(i t u:Nat):mN:=([(i,⟨.type "code",V,.fields #[.str (rL s) t,.str q (t+1),.str "/claim/cut.py" (t+2),.int (yw s) 0,.int (J6 s) 0,.int 0 0,.int 0 0,.int 3 0,.ref (i - 5),.bool H,.int 181 0,.ref (i - 4),.none,.ref (i - 3),.ref (i - 2),.ref (i - 1),.int u 0,.int (yw s) 0,.str "/claim/cut.py" (u+1)],#[]⟩),(i+1,Cw s q (.ref i) c a b m)],[dE w (rL s) (u+2) (.ref (i+1))])
noncomputable def yy(c:Nat)(s:h4):g2:=match c with|0=>rL s|_=>⟨((rL (qG c)).cps.toList++46::(rL s).cps.toList).toArray⟩
noncomputable def rM(c j:Nat):h4:=match c with|0=>qG j|_=>J5 c j
noncomputable def kz(w:iI)(c:Nat)(m:MD):Nat->Nat->Nat->List Nat->mN
 |_,_,_,[]=>([],[])|j,i,t,u::us=>
  let x:=yx w (rM c j) (yy c (rM c j)) m .none .none [] i t (t+u);let r:=kz w c m (j+1) (i+7) (t+u+3) us
  (x.1++r.1,x.2++r.2)
noncomputable def mO(w:iI)(c:Nat)(m:MD)(j i t u:Nat)(l:List gZ):mN:=
 let x:=yx w (rM c j) (yy c (rM c j)) m (.ref (i - 6)) .none [] i t (t+u)
 (tc (i - 6) l::x.1,x.2)
noncomputable def Cy(w:iI)(c:Nat)(m:MD)(j i t u k h:Nat):mN:=
 let x:=yx w (rM c j) (yy c (rM c j)) m .none (.ref h) [("__class__",k)] i t (t+u)
 (tc h [.ref k]::x.1,x.2)
noncomputable def td(o:lY×iT)(p:mN):mN:=(o::p.1,p.2)
noncomputable def oa:List gZ:=[.type "object"]
noncomputable def te:List gZ:=.type "Exception"::.type "BaseException"::oa
noncomputable def hK(w:iI)(c a T z k:Nat)(m:MD)(b:List gZ)(sub:List Nat)(p:Option gZ)(x:List nY)(P:List mN):mN:=
 let n:=rL (qG c)
 let r:=match k with|0=>(z+1,2,[])|1=>(z+3,3,[dE w "__weakref__" (z+2) (.ref (a+1))])|2=>(z+5,4,[dE w "__dict__" (z+2) (.ref (a+1)),dE w "__weakref__" (z+4) (.ref (a+2))])|_=>(z+2,3,[])
 (P.flatMap (·.1)++[(a - 1,⟨.type "dict",V,.dict (dE w "__module__" (T+7) (.str m.1 m.2)::dE w "__firstlineno__" (T+11) (.int (yw (qG c)) (T+10))::(x++P.flatMap (·.2)++dE w "__static_attributes__" z (.ref (a - 2))::(r.2.2++[dE w "__doc__" r.1 .none]))).toArray r.2.1,#[]⟩),(a,J7 n (b.take 1) (.ref a::b) (a - 1) n H (sub.map .ref) #[p,V,U (.str n T),U (.str n (T+8)),U (.builtin (match(generalizing:=false) b with| .ref 67::_=>"Exception.__new__"| .ref 95::_=>"Exception.__new__"| .type "Exception"::_=>"Exception.__new__"|_=>"object.__new__")),U (.bool H)])],[dE w n (r.1+match k with|1=>4|_=>2) (.ref a)])
noncomputable def tf(w:iI)(T:Nat)(s:g2):nY:=dE w "id" (T+13) (.str s (T+12))
noncomputable def rN:Nat->List gZ|0=>[]|n+1=>.none::rN n
noncomputable def tj:List gZ:=.ref 114::oa
noncomputable def mP:List gZ:=.ref 427::oa
noncomputable def yz(w:iI):Nat->Nat->Nat->List g2->List mN|_,_,_,[]=>[]|c,a,T,s::r=>hK w c a T (T+14) 0 m1 tj [] (U (.ref (a - 9))) [tf w T s] []::yz w (c+1) (a+12) (T+18) r
noncomputable def Cz(w:iI):Nat->Nat->Nat->List g2->List mN|_,_,_,[]=>[]|c,a,T,s::r=>hK w c a T (T+27) 0 m1 tj [] (U (.ref (a - 16))) [tf w T s] [kz w c m1 1 (a - 4) (T+14) [7]]::Cz w (c+1) (a+19) (T+31) r
noncomputable def qH(w:iI)(c a T:Nat)(b:List gZ)(sub:List Nat):mN:=hK w c a T (T+12) 0 m2 b sub (U (.ref (a - 9))) [] []
noncomputable def rO(w:iI)(c a T z u n:Nat)(b:List gZ)(sub:List Nat):mN:=hK w c a T (T+z) 0 m2 b sub (U (.ref (a - 17))) [] [mO w c m2 0 (a - 4) (T+12) u (rN n)]
noncomputable def CA(w:iI):List mN:=[hK w 2 53 196 252 2 pC oa [] V [] [kz w 2 pC 0 34 208 [10],
 mO w 2 pC 1 42 223 11 [.int 4 221,.int 75 222],kz w 2 pC 2 49 237 [6]]]++
 [hK w 3 67 260 272 1 pC te [95,659] (U (.ref 58)) [] []]++
 [hK w 4 95 280 317 0 pC (.ref 67::te) [744,1293] (U (.ref 71)) [] [mO w 4 pC 0 84 292 9 (rN 5),kz w 4 pC 1 91 304 [5]]]++
 [hK w 6 114 323 346 2 m1 oa [135,147,159,179,191,203,215,227,239,251,263,275,287,299,311,323,342,361,380,400] (U (.ref 98)) [] [kz w 6 m1 0 110 335 [6]]]++
 [hK w 7 135 354 383 0 m1 tj [] (U (.ref 119)) [tf w 354 "<directive>"] [kz w 7 m1 1 131 368 [8]]]++
 yz w 8 147 387 ["<document start>","<document end>"]++
 [hK w 10 179 423 450 0 m1 tj [] (U (.ref 162)) [tf w 423 "<stream start>"] [mO w 10 m1 1 175 437 7 (rN 3)]]++
 yz w 11 191 454 ["<stream end>","<block sequence start>","<block mapping start>","<block end>","[","{","]","}","?",":","-",","]++
 Cz w 23 342 670 ["<alias>","<anchor>","<tag>"]++
 [hK w 26 400 763 794 0 m1 tj [] (U (.ref 383)) [tf w 763 "<scalar>"] [mO w 26 m1 1 396 777 9 (rN 1)]]++
 [hK w 28 427 800 830 2 m2 oa [449,481,501,513,533,553] (U (.ref 403)) [] [mO w 28 m2 0 416 812 6 (rN 2),kz w 28 m2 1 423 821 [4]]]++
 [rO w 29 449 838 25 7 2 mP [469,565,585]]++
 [rO w 30 469 867 31 10 3 (.ref 449::mP) [597,621]]++
 [qH w 31 481 902 mP [609,633]]++
 [rO w 32 501 918 25 7 3 mP []]++
 [qH w 33 513 947 mP []]++
 [rO w 34 533 963 29 9 5 mP []]++
 [rO w 35 553 996 25 7 3 mP []]++
 [qH w 36 565 1025 (.ref 449::mP) []]++
 [rO w 37 585 1041 33 11 3 (.ref 449::mP) []]++
 [qH w 38 597 1078 (.ref 469::.ref 449::mP) []]++
 [qH w 39 609 1094 (.ref 481::mP) []]++
 [qH w 40 621 1110 (.ref 469::.ref 449::mP) []]++
 [qH w 41 633 1126 (.ref 481::mP) []]++
 [hK w 43 659 1144 1180 0 m3 (.ref 67::te) [] (U (.ref 636)) [] [kz w 43 m3 0 648 1156 [9,4]]]++
 [kz w 0 m3 44 667 1184 [4]]++
 [hK w 45 730 1191 1277 2 m3 oa [1281] (U (.ref 669)) [] [kz w 45 m3 0 681 1203 [5],mO w 45 m3 1 689 1212 5 [(.int 0 1211)],mO w 45 m3 2 697 1221 5 [(.int 1 1220)],mO w 45 m3 3 705 1230 6 [(.int 1 1229)],kz w 45 m3 4 712 1239 [4,8,5]]]++
 [hK w 47 744 1287 1299 0 m4 (.ref 95::.ref 67::te) [] (U (.ref 735)) [] []]++
 [hK w 48 763 1303 1334 2 m4 oa [] V [] [kz w 48 m4 0 759 1315 [10]]]++
 [hK w 49 1281 1342 2093 3 m4 (.ref 730::oa) [1521] (U (.ref 768)) [] [td (771,⟨.type "cell",V,.cell (U (.ref 1281)),#[]⟩) (Cy w 49 m4 0 782 1354 6 771 776),td (tc 784 []) (mO w 49 m4 1 791 1363 5 [(.ref 784)]),kz w 49 m4 2 798 1371 [4,4,4,5,7,6,7,5,6,5,5,5,4,4,4,7,4,4,7,4,4,7,6,7,7,8,4,4,4,4,4,5,4,4,5,4,4,4,4,4,4,4,5,5,8,8,7,8,7,7,7,6,12,12,18,8,6,7,7,10],([],[dE w "ESCAPE_REPLACEMENTS" 1959 (.ref 1213)]),([],[dE w "ESCAPE_CODES" 1969 (.ref 1215)]),kz w 49 m4 64 1221 1970 [11,12,8,11,13,9,9,10,5]]]++
 [hK w 51 1293 2100 2112 0 m5 (.ref 95::.ref 67::te) [] (U (.ref 1284)) [] []]++
 [hK w 52 1521 2116 2414 3 m5 (.ref 1281::.ref 730::oa) [] (U (.ref 1296)) [dE w "DEFAULT_TAGS" 2134 (.ref 1304)] [([(1299,⟨.type "cell",V,.cell (U (.ref 1521)),#[]⟩),(1304,⟨.type "dict",V,.dict #[dE w "!" 2128 (.str "!" 2129),dE w "!!" 2130 (.str "tag:yaml.org,2002:" 2131)] 2,#[]⟩)],[]),Cy w 52 m5 1 1311 2135 6 1299 1305,kz w 52 m5 2 1318 2144 [4,4,5,6,8,10,9,5,11,4,4,4],mO w 52 m5 14 1403 2254 17 [(.bool g),(.bool g)],kz w 52 m5 15 1410 2274 [5,6,6,5,6,5,5],mO w 52 m5 22 1460 2333 7 [(.bool g)],kz w 52 m5 23 1467 2343 [5,5,5,5],mO w 52 m5 27 1496 2375 7 [(.bool g)],kz w 52 m5 28 1503 2385 [5,4,5]]]++
 [([tc 1524 [.bool H,.bool g],tc 1525 [.str "value" 2421,.ref 1524,.str "" 2422,.none]],[dE w "_law_NOTHING" 2423 (.ref 1525)]),kz w 0 m6 55 1531 2424 [14,22,11,10,10,10,10,7,4,4],([(1599,⟨(.type "code"),V,.fields #[(.str "law" 2556),(.str "law" 2557),(.str "/claim/cut.py" 2558),(.int 1740 0),(.int 1 0),(.int 0 0),(.int 0 0),(.int 3 0),(.ref 1596),(.bool H),(.int 181 0),(.ref 1597),.none,.none,.none,(.ref 1598),(.int 2559 0),(.int 1740 0),(.str "/claim/cut.py" 2560)],#[]⟩),(1600,Cw (qG 65) "law" (.ref 1599) .none [] .none m6)],[dE w "law" 2561 (.ref 1600)])]
noncomputable def kE(w:iI):iY:=(0,boot_o_0 w.params)::(2,⟨.none,V,.dict #[dE w "type.__subclasses__.Exception.0" 276 (.int 67 0),dE w "type.__subclasses__.Exception.n" 277 (.int 1 0)] 2,#[]⟩)::
 (3,⟨(.type "dict"),V,.dict (#[dE w "__name__" 165 (.str "law_qm0005_02" 2419),dE w "__doc__" 166 .none,dE w "__package__" 167 .none,dE w "__loader__" 168 (.builtin "__main__.__loader__#opaque"),dE w "__spec__" 169 .none,dE w "__annotations__" 170 (.ref 6),dE w "__builtins__" 171 (.ref 4),dE w "__file__" 173 (.str "/claim/cut.py" 172),dE w "__cached__" 174 .none,dE w "_wall" 193 (.ref 21)]++((CA w).flatMap (·.2)).toArray) 68,#[]⟩)::(CA w).flatMap (·.1)
end
end
section
set_option maxHeartbeats 0
open PySem PySem.W PySem.Calls PyProof.Rows
noncomputable section
noncomputable def qI:List iT->Nat->iY->iY|[],_,_=>[]|o::l,i,ks=>match ks with|[]=>[]|k::r=>match jn k.1 i with|H=>(k.1,o)::qI l (i+1) r|g=>qI l (i+1) (k::r)
noncomputable def tm(h:je)(K:iY):iY:=qI h.objs.toList 0 K
noncomputable def CB:gZ->Bool| .type c=>c !="list"|_=>H
noncomputable def qJ(h:je):Bool:=jf 1601 h.objs.size&&h.objs.toList.all λo=>o.alive&&CB o.cls
noncomputable def qv:m8:={pw with main:={pw.main with body:=pw.main.body.drop 65}}
noncomputable def nG:List g2:=(pw.boundNames.filter λn=>n !=("law":g2))
noncomputable def rP(P:sI)(a:hb):Bool:=staticsOk (qo pw.main.body) (pd P) a.heap&&namesBound pw a.heap&&gensDone a&&laidKept (pd P) a.heap
end
end
section
set_option maxHeartbeats 0
open PySem PySem.W PySem.Calls PyProof.Rows
theorem J8:decide (ij.foot<=(behindTheImports pw).length)=true:=by kernel_rfl
theorem w2:ij.footing.all footLine=true:=by kernel_rfl
theorem w3:noClassBlock pw ij.footing=true:=by kernel_rfl
theorem w4:(ij.most.all (λn=>decide (63<=n))&&ij.bound.all (λn=>decide (2^63<=n)))=true:=by kernel_rfl
theorem w6:defStands ij.about ij.above=true:=by kernel_rfl
theorem w7:ij.namesIt=true:=by kernel_rfl
theorem w8:(["type","isinstance","issubclass","getattr","hasattr"]:List g2).all (λn=>ij.about !=[n])=true:=by kernel_rfl
theorem J9:(ij.own.contains ij.name&&ij.own.eraseDups.length==ij.own.length&&ij.own.all (λn=>!Bx n))=true:=by kernel_rfl
theorem J_:(!ij.writes||(pw.main.body.flatMap importedNames).all λn=>!ij.reads n)=true:=by kernel_rfl
theorem J':((pw.main.body.flatMap importedNames).all (λn=>!ij.reads n||(drawsOf n pw.main.body).all λa=>a.2 !=("attrgetter":g2)&&a.2 !=("methodcaller":g2)))=true:=by kernel_rfl
theorem p2:(pw.boundNames.contains ij.row.name&&!startupNames.contains ij.row.name)=true:=by kernel_rfl
theorem w5:noRoadLSs {strict:=H,foot:=U ij.bound',writes:=ij.writes,may:=ij.may} ij.footing=true:=by kernel_rfl
theorem w9:ij.bound'.all (λn=>!Bx n||ij.about==[n]||!ij.reads n)=true:=by kernel_rfl
theorem Ka:(xr pw ij.footing λa n=>a.kind== .module||a.names.lookup n !=U .globalExplicit)=true:=by kernel_rfl
theorem Kb:xr pw ij.footing (λa n=>(!(["type","isinstance","issubclass","getattr","hasattr"]:List g2).contains n||a.names.lookup n==U .globalImplicit)&& (ij.may !=U n||a.kind== .module||a.names.lookup n==U .globalImplicit))=true:=by kernel_rfl
theorem Kc:xr pw ij.above (λ_ n=>!ij.own.contains n)=true:=by kernel_rfl
theorem v1:sreFenced pw.main=true:=by kernel_rfl
theorem v2:((moduleNames pw.main.body).isEmpty||lookedIntoSs (moduleNames pw.main.body) pw.main.body)=true:=by kernel_rfl
theorem v4:pw.boundNames.all (λn=>!worldNames.contains n)=true:=by kernel_rfl
theorem v6:(xr pw pw.main.body λ_ n=>attrL n)=true:=by kernel_rfl
theorem v3:namesResolve pw=true:=by kernel_rfl
theorem Zv1:readsOut pw pw.main.body "vars"=false:=by kernel_rfl
theorem Zv2:readsOut pw pw.main.body "dir"=false:=by kernel_rfl
theorem Zv3:readsOut pw pw.main.body "locals"=false:=by kernel_rfl
theorem Zv4:(!(qo pw.main.body).all cThrough.contains)=false:=by kernel_rfl
theorem Zv5:noRoadLSs {strict:=false,foot:=V,bare:=[]} pw.main.body=true:=by kernel_rfl
theorem v5:noRoadLSs {strict:=!(qo pw.main.body).all cThrough.contains,foot:=V,bare:=(["vars","dir","locals"]:List g2).filter (readsOut pw pw.main.body)} pw.main.body=true:=by rw[Zv4,List.filter_cons_of_neg (by rw[Zv1];decide),List.filter_cons_of_neg (by rw[Zv2];decide),List.filter_cons_of_neg (by rw[Zv3];decide)];exact Zv5
theorem v7:(ij.row.loose.isEmpty&&ij.row.makers.isEmpty&& (ij.row.records.isEmpty||ij.row.raises.all λa=>a.1 != .builtin "AttributeError"&&a.1 != .builtin "TypeError")&& (ij.row.raises.all λa=>match a.1 with| .builtin n=>!ij.row.prog.boundNames.contains (By n)&&!ofTheWorld.contains n| .own _=>H)&& decide (ij.row.records.map (·.1)).Nodup&&(ij.row.records.all λx=>!x.1.opensWith "__"&&!Bx x.1&&ij.row.prog.boundNames.contains x.1&&x.2.all λf=>!f.1.opensWith "__")&& ij.row.toRowW.solid&&ij.row.pre.litsOk&&ij.row.post.litsOk&&ij.row.raises.all (·.2.litsOk))=true:=by kernel_rfl
theorem an{a b:Bool}(x:a=H)(y:b=H):(a&&b)=true:=kV.mpr ⟨x,y⟩
theorem Ke:looksOpen pw=true:=an (an (an (an (an v1 v2) v3) v4) v5) v6
theorem Kf:ij.row.partSaid=true:=by have h:=v7;have k:=f1 h;have j:=f1 k.1;have i:=f1 j.1;have f:=f1 i.1;have e:=f1 f.1;have d:=f1 e.1;have c:=f1 d.1;have b:=f1 c.1;have a:=f1 b.1;exact an (an (an (an (an (an (an (an (an (an (an (an (an Ke a.1) a.2) b.2) c.2) d.2) e.2) f.2) i.2) j.2) k.2) O) O) O
theorem CC:ij.row.wellSaid=true:=by have h:=f1 p2;exact an (an Kf h.1) h.2
theorem Xx:ij.wellSaid=true:=by have b:=f1 J9;have a:=f1 b.1;have c:=f1 w4;exact(an (an (an (an (an (an (an (an (an (an (an (an (an (an (an (an (an (an CC J8) w2) w3) c.1) c.2) w5) w6) w7) w8) w9) J_) J') Kb) a.1) a.2) b.2) Kc) Ka)
end
section
set_option maxHeartbeats 0
open PySem PySem.W PySem.Calls PyProof.Rows
theorem Zo01:(λ(w:iI) (os:pe)=>(n' (w.withFollow oL g) os).map (λT=>rP (w.withFollow oL g).params T.abs&&qJ T.abs.heap))=λw _=>U H:=by kernel_rfl
theorem Zo02:(λ(w:iI) (os:pe)=>(n' (w.withFollow oL g) os).map (λT=>xs qv nG (qo pw.main.body) (λ_=>H) H T.abs))=λw _=>U (xv qv nG):=by kernel_rfl
theorem Zo03:(λ(w:iI) (os:pe)=>(n' (w.withFollow oL g) os).map (λT=>tm T.abs.heap (kE (w.withFollow oL g))))=λw _=>U (kE (w.withFollow oL g)):=by kernel_rfl
end
section
set_option maxHeartbeats 0
open PySem PySem.W PySem.Calls PyProof.Rows
theorem Zo11:(λ(w:iI) (os:pe)=>(n' (w.withFollow oL H) os).map (λT=>rP (w.withFollow oL H).params T.abs&&qJ T.abs.heap))=λw _=>U H:=by kernel_rfl
theorem Zo12:(λ(w:iI) (os:pe)=>(n' (w.withFollow oL H) os).map (λT=>xs qv nG (qo pw.main.body) (λ_=>H) H T.abs))=λw _=>U (xv qv nG):=by kernel_rfl
theorem Zo13:(λ(w:iI) (os:pe)=>(n' (w.withFollow oL H) os).map (λT=>tm T.abs.heap (kE (w.withFollow oL H))))=λw _=>U (kE (w.withFollow oL H)):=by kernel_rfl
end
section
variable{A B C D E F I:Prop}{Q:Prop}
theorem hn(h:A∧B)(k:A→B→Q):Q:=k h.1 h.2
theorem ju(h:A∧B∧C)(k:A→B→C→Q):Q:=hn h.2 (k h.1)
theorem qK(h:A∧B∧C∧D)(k:A→B→C→D→Q):Q:=ju h.2 (k h.1)
theorem l3(h:A∧B∧C∧D∧E)(k:A→B→C→D→E→Q):Q:=qK h.2 (k h.1)
theorem l4(h:A∧B∧C∧D∧E∧F∧I)(k:A→B→C→D→E→F→I→Q):Q:=l3 h fun a b c d h=>ju h (k a b c d)
theorem lI(a:A)(b:B)(c:C):A∧B∧C:=⟨a,b,c⟩
theorem nH(a:A)(b:B)(c:C)(d:D)(e:E):A∧B∧C∧D∧E:=⟨a,b,c,d,e⟩
end
section
variable{Tx:Sort ux}{A B C D E:Tx→Prop}{Q:Prop}
theorem hz(h:∃x,A x)(k:∀x,A x→Q):Q:=h.elim k
theorem g6(h:∃x,A x∧B x)(k:∀x,A x→B x→Q):Q:=hz h fun x h=>hn h (k x)
theorem jj(h:∃x,A x∧B x∧C x)(k:∀x,A x→B x→C x→Q):Q:=hz h fun x h=>ju h (k x)
theorem rQ(h:∃x,A x∧B x∧C x∧D x)(k:∀x,A x→B x→C x→D x→Q):Q:=hz h fun x h=>qK h (k x)
theorem lJ(h:∃x,A x∧B x∧C x∧D x∧E x)(k:∀x,A x→B x→C x→D x→E x→Q):Q:=hz h fun x h=>l3 h (k x)
theorem h9(x)(a:A x)(b:B x):∃x,A x∧B x:=⟨x,a,b⟩
theorem ve(x)(a:A x)(b:B x)(c:C x):∃x,A x∧B x∧C x:=⟨x,a,b,c⟩
theorem rR(x)(a:A x)(b:B x)(c:C x)(d:D x)(e:E x):∃x,A x∧B x∧C x∧D x∧E x:=⟨x,a,b,c,d,e⟩
end
section
variable{Tx:Sort ux}{Ty:Sort uy}{A B C D:Tx→Ty→Prop}{Q:Prop}
theorem jO(h:∃x y,A x y)(k:∀x y,A x y→Q):Q:=hz h fun x h=>hz h (k x)
theorem jv(h:∃x y,A x y∧B x y)(k:∀x y,A x y→B x y→Q):Q:=hz h fun x h=>g6 h (k x)
theorem jk(h:∃x y,A x y∧B x y∧C x y)(k:∀x y,A x y→B x y→C x y→Q):Q:=hz h fun x h=>jj h (k x)
theorem mq(h:∃x y,A x y∧B x y∧C x y∧D x y)(k:∀x y,A x y→B x y→C x y→D x y→Q):Q:=hz h fun x h=>rQ h (k x)
theorem pE(x)(y)(a:A x y):∃x y,A x y:=⟨x,y,a⟩
theorem ki(x)(y)(a:A x y)(b:B x y):∃x y,A x y∧B x y:=⟨x,y,a,b⟩
theorem ob(x)(y)(a:A x y)(b:B x y)(c:C x y):∃x y,A x y∧B x y∧C x y:=⟨x,y,a,b,c⟩
theorem to(x)(y)(a:A x y)(b:B x y)(c:C x y)(d:D x y):∃x y,A x y∧B x y∧C x y∧D x y:=⟨x,y,a,b,c,d⟩
end
section
variable{Tx:Sort ux}{Ty:Sort uy}{Tz:Sort uz}{A B C D:Tx→Ty→Tz→Prop}{Q:Prop}
theorem nj(h:∃x y z,A x y z)(k:∀x y z,A x y z→Q):Q:=hz h fun x h=>jO h (k x)
theorem kA(h:∃x y z,A x y z∧B x y z)(k:∀x y z,A x y z→B x y z→Q):Q:=hz h fun x h=>jv h (k x)
theorem oM(h:∃x y z,A x y z∧B x y z∧C x y z)(k:∀x y z,A x y z→B x y z→C x y z→Q):Q:=hz h fun x h=>jk h (k x)
theorem lh(h:∃x y z,A x y z∧B x y z∧C x y z∧D x y z)(k:∀x y z,A x y z→B x y z→C x y z→D x y z→Q):Q:=hz h fun x h=>mq h (k x)
theorem qL(x)(y)(z)(a:A x y z)(b:B x y z):∃x y z,A x y z∧B x y z:=⟨x,y,z,a,b⟩
theorem yB(x)(y)(z)(a:A x y z)(b:B x y z)(c:C x y z):∃x y z,A x y z∧B x y z∧C x y z:=⟨x,y,z,a,b,c⟩
theorem CD(x)(y)(z)(a:A x y z)(b:B x y z)(c:C x y z)(d:D x y z):∃x y z,A x y z∧B x y z∧C x y z∧D x y z:=⟨x,y,z,a,b,c,d⟩
end
section
variable{Tx:Sort ux}{Ty:Sort uy}{Tz:Sort uz}{Tu:Sort a}{A B C D:Tx→Ty→Tz→Tu→Prop}{Q:Prop}
theorem jr(h:∃x y z u,A x y z u∧B x y z u∧C x y z u∧D x y z u)(k:∀x y z u,A x y z u→B x y z u→C x y z u→D x y z u→Q):Q:=hz h fun x h=>lh h (k x)
theorem l5(x)(y)(z)(u)(a:A x y z u)(b:B x y z u)(c:C x y z u)(d:D x y z u):∃x y z u,A x y z u∧B x y z u∧C x y z u∧D x y z u:=⟨x,y,z,u,a,b,c,d⟩
end
theorem vf{Tx:Sort ux}{A:Tx→Prop}(h:∀G:Prop,(∀x,A x→G)→G):∃x,A x:=h _ fun x a=>⟨x,a⟩
theorem Ki{Tx:Sort ux}{Ty:Sort uy}{Tz:Sort uz}{Tu:Sort j}{a:Sort k}{b:Sort l}{A B C D E:Tx→Ty→Tz→Tu→a→b→Prop}(h:∀G:Prop,(∀x y z u v w,A x y z u v w→B x y z u v w→C x y z u v w→D x y z u v w→E x y z u v w→G)→G):∃x y z u v w,A x y z u v w∧B x y z u v w∧C x y z u v w∧D x y z u v w∧E x y z u v w:=h _ fun x y z u v w c d e f i=>⟨x,y,z,u,v,w,c,d,e,f,i⟩
theorem l6:true=true:=rfl
theorem CE{a b Q:Prop}(h:a∨b)(x:a→Q)(y:b→Q):Q:=Or.elim h x y
theorem hu{α:Type u}{a:α}{P:Prop}(h:(none:Option α)=some a):P:=nomatch h
theorem kf{B:Prop}(h:(B→False)→False):B:=Classical.byContradiction h
local macro_rules |`(tactic| exists $x:ident)=>`(tactic| refine kf fun $x=>?_)
local macro_rules |`(tactic| right)=>`(tactic| first|assumption|exact Nat.le_add_right _ _|decide)
theorem CF{a b c:Nat}(h:a<b)(e:c=b+1):a<c:=e▸Nat.lt_succ_of_lt h
theorem rS{a b c:Nat}(h:a≤b)(e:c=b+1):a≤c:=e▸Nat.le_succ_of_le h
theorem Kk{b c:Nat}(e:c=b+1):b<c:=e▸Nat.lt_succ_self b
@[elab_as_elim]theorem CG {α:Sort u} {a b:α} {P:α→Prop} (h:a=b) (k:P b):P a:=h▸k
@[elab_as_elim]theorem Kl {α:Sort u} {a b:α} {P:α→Prop} (h:b=a) (k:P b):P a:=h▸k
theorem Km{α:Sort u}{a b:α}{P:α→Prop}(e:a=b)(h:P a):P b:=e▸h
noncomputable def Tg(A:Prop):Prop:=True
noncomputable def yC{α:Sort u}{a b:α}(e:a=b)(M:α→Prop):Prop:=M a
@[elab_as_elim]theorem Kn {α:Sort u} {a b:α} {M:α→Prop} (e:a=b) (k:yC e M):M a:=k
@[elab_as_elim]theorem Ko {α:Sort u} {a b:α} {M:α→Prop} (e:b=a) (k:yC e.symm M):M a:=k
theorem Kq{α:Sort u}{a b:α}{e:a=b}{P:α→Prop}:yC e (fun x=>Tg (P x)):=trivial
local macro_rules |`(tactic| rewrite [$x:term])=>`(tactic| first|focus (refine CG ($x ..) ?_;rotate_right)|fail)
local macro_rules |`(tactic| rewrite [←$x:term])=>`(tactic| first|focus (refine Kl ($x ..) ?_;rotate_right)|fail)
local macro_rules |`(tactic| rewrite [$r:rwRule,$rs,*])=>`(tactic| (rewrite [$r:rwRule];rewrite [$rs,*]))
local macro_rules |`(tactic| show $t:term)=>`(tactic| first|refine (?_:$t)|change $t)
local macro_rules 
 |`(tactic| clear zz3 $e:term)=>`(tactic| try rewrite [$e:term])
 |`(tactic| clear zz3 $e:term $h:ident $hs:term*)=>`(tactic| ((try rewrite [$e:term]at $h:ident);clear zz3 $e $hs*))
noncomputable def Cv(G aL:Prop):Prop:=(G=aL)→aL→G
local macro_rules |`(tactic| unhygienic $t:tacticSeq)=>`(tactic| focus (refine (?f:Cv _ ?H) ?e ?p;rotate_left;($t:tacticSeq);rotate_left;exact fun _ p=>p))
local macro_rules |`(tactic| left)=>`(tactic| unhygienic conv=>lhs;whnf)
local macro_rules |`(tactic| unfold $xs:ident*)=>`(tactic| unhygienic conv=>lhs;unfold $xs*)
local macro_rules |`(tactic| dsimp only)=>`(tactic| unhygienic conv=>lhs;dsimp only)
local macro_rules |`(tactic| dsimp only [$xs,*])=>`(tactic| unhygienic conv=>lhs;dsimp only [$xs,*])
local macro_rules |`(tactic| clear zz1 $q:term $t:term $h:ident)=>`(tactic| focus (refine (?f:Tg (type_of% $h)→_) ?d;rotate_left;refine $q ($t ..) ?_;exact Kq (e:=?e) (P:=?P);rotate_right;refine fun a=>(?g:_→_) (Km (P:=?P) ?e $h);clear a $h;intro $h:ident))
local macro_rules |`(tactic| rewrite [$x:term]at $h:ident)=>`(tactic| first|clear zz1 Kn $x $h:ident|fail)
local macro_rules |`(tactic| rewrite [←$x:term]at $h:ident)=>`(tactic| first|clear zz1 Ko $x $h:ident|fail)
local macro_rules |`(tactic| rewrite [$r:rwRule,$rs,*]at $h:ident)=>`(tactic| (rewrite [$r:rwRule]at $h:ident;rewrite [$rs,*]at $h:ident))
theorem rT{a b c n:Nat}(h:a+(b+c)≤n):a+b+c≤n:=Nat.add_assoc a b c▸h
theorem yD{a b c n:Nat}(h:a+b+c≤n):a+(b+c)≤n:=(Nat.add_assoc a b c).symm▸h
theorem oc{a b c n:Nat}(h:a+c+b≤n):a+b+c≤n:=Nat.add_right_comm a c b▸h
theorem lK{a b n:Nat}(h:b+a≤n):a+b≤n:=Nat.add_comm b a▸h
theorem oe{a b c n:Nat}(h:n≤a+(b+c)):n≤a+b+c:=(Nat.add_assoc a b c).symm▸h
theorem oN{a b c n:Nat}(h:n≤a+b+c):n≤a+(b+c):=Nat.add_assoc a b c▸h
theorem ja{a b:Nat}(h:a+1≤b):a<b:=h
theorem jP{a b:Nat}(h:a<b):a+1≤b:=h
theorem yE{α:Type u}(n:Nat)(x:α)(l:List α):(l.take n++x::l.drop n).length=l.length+1:=by rw [List.length_append,List.length_cons,←Nat.add_assoc,←List.length_append,List.take_append_drop]
theorem up{a b n m:Nat}(h:a≤b)(k:b+n≤m):a+n≤m:=Nat.le_trans (Nat.add_le_add_right h n) k
theorem rU{a b:Nat}(h:b≤a):(a:Int) - b=(a - b:Nat):=(Int.ofNat_sub h).symm
theorem qM{a b c:Nat}(h:a+b<c):a<c:=Nat.lt_of_le_of_lt (Nat.le_add_right a b) h
theorem lL{a b c:Nat}(h:a+b≤c):a≤c:=Nat.le_trans (Nat.le_add_right a b) h
section
open PySem
set_option genCtorIdx true in
inductive iV where
 |L|I|M|aN|aY|cF
 |j (n:Nat)
inductive AV where
 |none
 |bool (b:Bool)
 |int (i:Int)
 |str (l:List Nat)
 |val (v:gZ)
 |au (l:List AV)
 |obj (C:Nat) (ks:List Nat) (a:List AV)
 |cG (C:Nat) (ks:List Nat) (a:List AV)
 |aP (f:Nat)
 |mut(m:iV)
 deriving Inhabited
inductive MC where
 |m (l:List AV)
 |bQ (a:List (Int×AV))
 |bD (a:List (List Nat×AV))
 |dc (o:iT) (a:List (Int×AV))
 |dq (o:iT) (l:List AV)
structure St where
 L:Option (List Nat×List AV)
 I:Option MC
 M:Option MC
 aN:Option MC
 aY:Option MC
 cF:Option MC
 j:Nat->Option MC
 f:Nat
noncomputable def St.cell(st:St):iV->Option MC| .L=>hU| .I=>st.I| .M=>st.M| .aN=>st.aN| .aY=>st.aY| .cF=>st.cF| .j n=>st.j n
noncomputable abbrev Loc:=List (Option AV)
structure hv where
 b_:Nat
 dM:List AV
structure iW where
 cj:Nat->Option (List Nat)
 cr:Nat->Option (List Nat)
 br:Nat->Nat->Option AV
 sub:Nat->Nat->Bool
 dN:Nat->Option (List (List Nat×AV))
 a6:Nat
 eT:Nat->Bool
 cs:Nat->Option (List AV)
 dF:List Nat->List Nat->Bool
set_option genCtorIdx true in
inductive Op where
 |add|sub|mod|fdiv|mul
set_option genCtorIdx true in
inductive Cm where
 |eq|b'|lt|le|gt|ge|ck|cm|cH|ct
set_option genCtorIdx true in
inductive It where
 |d7|m|d8|eC
inductive DE where
 |av
 |j (i:Nat)
 |cZ (a:AV)
 |aV (a:AV)
 |c0 (e:DE) (k:Nat)
 |a1 (o:Op) (a b:DE)
 |Q (o:Cm) (a b:DE)
 |b5 (o p:Cm) (a b c:DE)
 |and (a b:DE)
 |or (a b:DE)
 |not (a:DE)
 |bI (t a b:DE)
 |nil
 |cons (a r:DE)
 |au (a:DE)
 |m (a:DE)
 |dict (b:Bool)
 |call (f:Nat) (args:DE)
 |bV (f:Nat) (e args:DE)
 |d9 (e:DE) (k:Nat)
 |bd (f:Nat) (e:DE)
 |new (C:Nat) (args:DE)
 |dO (i:Nat) (args:DE)
 |len (e:DE)
 |cN (e:DE) (C:Nat)
 |d_ (e:DE)
 |A (e:DE)
 |sub (e i:DE)
 |c1 (e a b:DE)
 |c2
 |aO (e x:DE)
 |ext (e x:DE)
 |cn (e:DE)
 |d' (e:DE)
 |dP (e i x:DE)
 |join (s:List Nat) (e:DE)
 |ca (s:List Nat) (e:DE)
 |dQ (a b:DE)
 |dR (n:Int) (e:DE)
 |di (f:Nat) (args:DE)
 |dS (f:Nat) (args:DE)
inductive DS where
 |av
 |dG
 |seq (a b:DS)
 |as (e:DE)
 |bW (c:List Nat) (e:DE)
 |cI (c:List Nat) (e:DE)
 |dT (e:DE) (k:Nat) (x:DE)
 |co (e:DE) (k:Nat) (m:iV)
 |c4 (e i x:DE)
 |dH (e i:DE)
 |cJ (i:Nat) (o:Op) (e:DE)
 |cz (e:DE) (k:Nat) (o:Op) (x:DE)
 |ite (t:DE) (a b:DS)
 |bm (t:DE) (b:DS)
 |cb (t:It) (c:List Nat) (e:DE) (b:DS)
 |ret (e:DE)
 |brk
 |ea (C:Nat) (args:DE)
 |eb (e:DE)
 |eD (b:DS)
 |dU (b:DS) (i:Nat) (D:Nat) (h:DS) (d:Nat) (h':DS)
noncomputable abbrev PC:=Nat->List AV->St->(AV->St->Prop)->(hv->St->Prop)->Prop
noncomputable def j5:Nat->List Nat->List AV->Option AV
 |k,x::ks,v::a=>match jn k x with|H=>U v|g=>j5 k ks a
 |_,_,_=>hU
theorem CH:j5 k (x::ks) (v::a)=cond (jn k x) (U v) (j5 k ks a):=rfl
noncomputable def lM:Nat->AV->List Nat->List AV->List Nat×List AV
 |k,a,x::ks,v::d=>match jn k x with|H=>(x::ks,a::d)|g=>match lM k a ks d with|(b,c)=>(x::b,v::c)
 |k,a,_,_=>([k],[a])
theorem CI:lM k a (x::ks) (v::b)=cond (jn k x) (x::ks,a::b) (x::(lM k a ks b).1,v::(lM k a ks b).2):=rfl
open Classical in
noncomputable def mQ{α:Type}(f:iV->Option α)(m:iV)(x:α):iV->Option α:=λm'=>if m'=m then U x else f m'
noncomputable def ms{α:Type}(f:Nat->Option α)(n:Nat)(x:α):Nat->Option α:=λk=>match jn k n with|H=>U x|g=>f k
noncomputable def St.bh(st:St)(m:iV)(c:MC):St:=match m with| .L=>st| .I=>{st with I:=U c}| .M=>{st with M:=U c}| .aN=>{st with aN:=U c}| .aY=>{st with aY:=U c}| .cF=>{st with cF:=U c}| .j n=>{st with j:=ms st.j n c}
noncomputable abbrev St.fI(st:St)(x:List Nat×List AV):St:={st with L:=U x}
noncomputable def St.new(st:St)(c:MC):St:={st with j:=ms st.j st.f c,f:=st.f+1}
theorem oO(f)(n)(x:α)(k):ms f n x k=if k=n then U x else f k:=by unfold ms;induction h:jn k n with|true=>rw[if_pos<|oA h]|false=>rw[if_neg<|Bz h]
theorem CJ{f aM}{m}{x:α}(a:aM m=U x)(b:∀n,n≠m->aM n=f n):aM=mQ f m x:=funext λn=>by
 by_cases q:n=m;.exact(q▸a).trans (if_pos q).symm
 .exact(b n q).trans (if_neg q).symm
theorem CK(st:St)(n)(c):({st with j:=ms st.j n c}).cell=mQ st.cell (.j n) c:=CJ ((oO ..).trans<|if_pos O) λm q=>by cases m with|j k=>exact(oO ..).trans<|if_neg λh=>q<|congrArg _ h|_=>rfl
theorem ts{st:St}{m}(h:m≠ .L):(st.bh m c).cell=mQ st.cell m c:=by cases m with|L=>exact absurd O h|j n=>exact CK st n c|_=>exact CJ O λn q=>by cases n<;>first|rfl|exact absurd O q
theorem vg(st:St)(m)(c):(st.bh m c).L=st.L:=by induction m<;>rfl
theorem CL(st:St)(m)(c):(st.bh m c).f=st.f:=by induction m<;>rfl
theorem CM(st:St)(c):(st.new c).cell=mQ st.cell (.j st.f) c:=CK _ _ c
noncomputable def yF:Option MC->Option Bool
 |U c=>match c with| .m l=>U (!l.isEmpty)| .bQ l=>U (!l.isEmpty)| .bD l=>U (!l.isEmpty)|_=>hU
 |hU=>hU
noncomputable def nk(st:St):AV->Option Bool
 | .none=>U g| .bool b=>U b| .int i=>U (!decide (i=0))| .str l=>U (!l.isEmpty)| .au l=>U (!l.isEmpty)| .obj .. =>U H| .aP _=>U H| .mut m=>match m with| .L=>U H|m=>yF (st.cell m)
 |_=>hU
noncomputable def binI(o:Op)(a b:Int):Option Int:=match o with| .add=>U (a+b)| .sub=>U (a - b)| .mod=>if 0<b then U (jg a b)else hU| .fdiv=>if 0<b/\b<1000000 then U (k9 a b)else hU| .mul=>hU
noncomputable def yG:AV->Option Int| .int i=>U i|_=>hU
theorem CN(h:yG a=U i):a=.int i:=by cases a<;>first|exact hu h|(cases h;rfl)
noncomputable def qN(o:Op)(x y:AV):Option AV:=(yG x).bind λa=>(yG y).bind λb=>(binI o a b).map .int
theorem CO(h:qN o x y=U r):∃i j k,x=.int i/\y=.int j/\binI o i j=U k/\r=.int k:=g6 (sL.mp h) λi a h=>g6 (sL.mp h) λj b h=>g6 (uS.mp h) λk c d=>⟨i,j,k,CN a,CN b,c,d.symm⟩
noncomputable def kK(c:Nat):List Nat->Bool|[]=>g|x::r=>match jn c x with|H=>H|g=>kK c r
theorem yH:kK c (x::r)=cond (jn c x) H (kK c r):=rfl
noncomputable def pF:List Nat->List Nat->Bool|[],_=>H|_::_,[]=>g|a::r,b::s=>if a=b then pF r s else decide (a<b)
theorem Kr:pF (a::r) (b::s)=if a=b then pF r s else decide (a<b):=rfl
noncomputable def hm:List Nat->List Nat->Bool
 |[],[]=>H|a::r,b::t=>match jn a b with|H=>hm r t|g=>g
 |_,_=>g
noncomputable def mv(x:List Nat):List AV->Option Bool
 |[]=>U g| .str y::r=>match mv x r with|U b=>U (match hm x y with|H=>H|g=>b)|hU=>hU
 |_::_=>hU
noncomputable def rV{L:Type}(p:L->Bool):List (L×AV)->Option AV|[]=>hU|(j,v)::r=>match p j with|H=>U v|g=>rV p r
theorem Ks{r:List (L×AV)}:rV p ((j,v)::r)=cond (p j) (U v) (rV p r):=rfl
noncomputable def qO{L:Type}(p:L->Bool):List (L×AV)->Bool|[]=>g|(j,_)::r=>match p j with|H=>H|g=>qO p r
theorem Kt{r:List (L×AV)}:qO p ((j,v)::r)=cond (p j) H (qO p r):=rfl
noncomputable def pG{L:Type}(p:L->Bool)(i:L)(v:AV):List (L×AV)->List (L×AV)|[]=>[(i,v)]|(j,u)::r=>match p j with|H=>(j,v)::r|g=>(j,u)::pG p i v r
theorem yI{r:List (L×AV)}:pG p i v ((j,u)::r)=cond (p j) ((j,v)::r) ((j,u)::pG p i v r):=rfl
noncomputable def rW{L:Type}(p:L->Bool):List (L×AV)->List (L×AV)|[]=>[]|(j,u)::r=>match p j with|H=>r|g=>(j,u)::rW p r
theorem CP{r:List (L×AV)}:rW p ((j,v)::r)=cond (p j) r ((j,v)::rW p r):=rfl
noncomputable def tt(i:Int)(l:List (Int×AV)):Bool:=qO (λj=>decide (j=i)) l
noncomputable def tu(i:Int)(l:List (Int×AV)):Option AV:=rV (λj=>decide (j=i)) l
noncomputable def yJ(i:Int)(v:AV)(l:List (Int×AV)):List (Int×AV):=pG (λj=>decide (j=i)) i v l
noncomputable def vh(i:Int)(l:List (Int×AV)):List (Int×AV):=rW (λj=>decide (j=i)) l
noncomputable def qP(i:List Nat)(l:List (List Nat×AV)):Bool:=qO (λj=>hm j i) l
noncomputable def vi(i:List Nat)(l:List (List Nat×AV)):Option AV:=rV (λj=>hm j i) l
noncomputable def Ku(i:List Nat)(v:AV)(l:List (List Nat×AV)):List (List Nat×AV):=pG (λj=>hm j i) i v l
noncomputable def rX(st:St)(m:iV):AV->Option Bool
 | .int i=>match st.cell m with|U (.bQ a)=>U (tt i a)|_=>hU
 | .str i=>match st.cell m with|U (.bD a)=>U (qP i a)|_=>hU
 |_=>hU
noncomputable def yK(T:iW)(D:Nat):AV->Option Bool
 | .str i=>match T.dN D with|U a=>U (qP i a)|_=>hU
 |_=>hU
noncomputable def lN:Nat->AV->Bool|_,.none=>H|_,.bool _=>H|_,.int _=>H|_,.str l=>l.all (pf · 1114112)|n+1,.au l=>l.all (lN n)|_,_=>g
noncomputable def yL(l:List AV):Bool:=l.all (lN 6)
noncomputable def CQ(a b:Int):Cm->Option Bool| .eq=>U (decide (a=b))| .b'=>U (!decide (a=b))| .lt=>U (decide (a<b))| .le=>U (decide (a<=b))| .gt=>U (decide (b<a))| .ge=>U (decide (b<=a))|_=>hU
noncomputable def yM(a b:List Nat)(n:Bool):Option Bool:=match a with
 |[c]=>match n with|H=>U (!kK c b)|g=>U (kK c b)
 |_=>hU
noncomputable def CR(a b:List Nat):Cm->Option Bool| .eq=>U (hm a b)| .b'=>U (!hm a b)| .le=>U (pF a b)| .cH=>yM a b g| .ct=>yM a b H|_=>hU
noncomputable def qQ(r:Option Bool):Cm->Option Bool| .cH=>r| .ct=>r.map (!·)|_=>hU
noncomputable def vj:AV->Option Bool| .none=>U H| .mut _=>U g| .int _=>U g| .obj .. =>U g| .str _=>U g| .au _=>U g|_=>hU
noncomputable def yN(x:AV):Cm->Option Bool
 | .ck=>vj x| .cm=>match vj x with|U H=>U g|U g=>U H|hU=>hU
 |_=>hU
noncomputable def CS:Cm->Option Bool| .eq=>U g|_=>hU
noncomputable def CT(a:List Nat)(l:List AV):Cm->Option Bool| .cH=>mv a l|_=>hU
noncomputable def nI(T:iW)(st:St)(o:Cm)(x y:AV):Option Bool:=match y with
 | .none=>yN x o| .int b=>match x with| .int a=>CQ a b o| .none=>CS o|_=>hU
 | .str b=>match x with| .str a=>CR a b o| .none=>CS o|_=>hU
 | .au l=>match x with| .str a=>CT a l o|_=>hU
 | .mut m=>qQ (rX st m x) o| .val v=>match v with| .ref D=>qQ (yK T D x) o|_=>hU
 |_=>hU
noncomputable def l7(n:Nat)(A:Prop):Prop:=match jf n 1000000 with|H=>A|g=>False
noncomputable def vk(n:Nat)(A:Prop):Prop:=match jf n 500 with|H=>A|g=>False
noncomputable def kL(b:Bool)(A B:Prop):Prop:=match b with|H=>A|g=>B
theorem CU(x:A)(y:B):kL b A B:=by cases b<;>assumption
noncomputable def iQ{α:Type}(o:Option α)(P:α->Prop):Prop:=match o with|U a=>P a|hU=>False
theorem pH{P:α->Prop}(h:o=U a)(k:P a):iQ o P:=h▸k
theorem jx{P:α->Prop}{B:Prop}(h:iQ o P)(k:∀a,o=U a->P a->B):B:=by induction o with|none=>exact h.elim|some a=>exact k a O h
theorem vl(h:iV.j a=iV.j b):a=b:=by injection h
theorem vm(h:AV.str a=AV.str b):a=b:=by injection h
noncomputable def placeOf(i:Int)(n:Nat):Option Nat:=if 0<=i then U i.toNat else if i= -1 then(if n=0 then hU else U (n - 1))else hU
noncomputable def pI:AV->Option (Option Nat)| .none=>U hU| .int i=>if 0<=i then U (U i.toNat)else hU|_=>hU
noncomputable def yO{α:Type}(l:List α):Option Nat->List α|hU=>l|U j=>l.take j
noncomputable def yP{α:Type}(l:List α):Option Nat->List α|hU=>l|U j=>l.drop j
noncomputable def tv{α:Type}(l:List α)(a b:AV):Option (List α):=(pI a).bind λI=>(pI b).map λJ=>yP (yO l J) I
theorem Kv(p:Nat):pI (.int p)=U (U p):=by show(if(0)<=p then U _ else hU)=_;rfl
noncomputable def Kw:AV->Option (List Nat)| .str a=>U a|_=>hU
noncomputable def yQ:List AV->Option (List Nat)|[]=>U []|a::r=>match r with|[]=>Kw a|_=>hU
noncomputable def yR:MC->Option (List AV)| .m l=>U l| .dq _ l=>U l|_=>hU
noncomputable def vn:Int->List Nat->List AV|_,[]=>[]|i,c::r=>.au [.int i,.str [c]]::vn (i+1) r
noncomputable def tw:Int->Nat->List AV|_,0=>[]|i,n+1=>.int i::tw (i+1) n
variable(T:iW)(C:PC)
noncomputable def CV(c:MC)(P:List AV->Prop):Prop:=match c with| .m l=>P l|_=>False
noncomputable def qR(st:St)(x:AV)(P:iV->MC->Prop):Prop:=match x with| .mut m=>iQ (st.cell m) (P m)|_=>False
theorem CW(h:st.cell m=U c)(p:P m c):qR st (.mut m) P:=pH h p
theorem CX{st}{P}(h:qR st x P){B:Prop}(k:∀m c,x=.mut m->st.cell m=U c->P m c->B):B:=by cases x<;>first|exact jx h λc=>k _ c O|exact h.elim
noncomputable def kW(st:St)(x:AV)(P:iV->List AV->Prop):Prop:=qR st x λm c=>CV c λl=>P m l
theorem mR{P}(h:st.cell m=U (.m l))(p:P m l):kW st (.mut m) P:=CW h p
theorem qS(h:kW st x P){B:Prop}(k:∀m l,x=.mut m->st.cell m=U (.m l)->P m l->B):B:=CX h λm c e q h=>by induction c<;>first|exact k m _ e q h|exact h.elim
noncomputable def yS(c:MC)(P:List (Int×AV)->Prop):Prop:=match c with| .bQ a=>P a|_=>False
noncomputable def pJ(st:St)(x:AV)(P:List Nat->List AV->Prop):Prop:=match x with
 | .mut .L=>match st.L with|U (ks,a)=>P ks a|hU=>False
 |_=>False
theorem vo(h:pJ st x P){B:Prop}(k:∀ks a,x=.mut .L->st.L=U (ks,a)->P ks a->B):B:=by
 cases x with
 |«mut» m=>cases m with
  |L=>
   have:∀o,st.L=o->(match o with
    |some (ks,a)=>P ks a|hU=>False)->B:=λo e h=>by
    cases o with|none=>exact nZ h|some p=>exact k _ _ O e h
   exact this _ O h
  |_=>exact nZ h
 |_=>exact nZ h
noncomputable def vp(o c:Option AV)(P:AV->Prop):Prop:=match o with|U v=>P v|hU=>iQ c P
theorem Ky{B:Prop}(h:vp o c P)(k:∀v,o=U v->P v->B)(k2:∀v,o=hU->c=U v->P v->B):B:=by induction o with|none=>exact jx h λv=>k2 v O|some v=>exact k v O h
noncomputable def CY(v:gZ)(P:Nat->Prop):Prop:=match v with| .ref D=>P D|_=>False
theorem Kz{B:Prop}(h:CY v P)(k:∀D,v=.ref D->P D->B):B:=by induction v<;>first|exact k _ O h|exact h.elim
noncomputable def pL(a:AV)(k:Nat)(st:St)(Q:AV->St->Prop):Prop:=match a with
 | .mut .L=>match st.L with
  |U (ks,b)=>match j5 k ks b with|U v=>Q v st|hU=>match T.br T.a6 k with|U v=>Q v st|hU=>False
  |hU=>False
 | .obj D ks b=>match j5 k ks b with|U v=>Q v st|hU=>match T.br D k with|U v=>Q v st|hU=>False
 | .cG _ ks b=>match j5 k ks b with|U v=>Q v st|hU=>False
 | .val (.ref D)=>match T.br D k with|U v=>Q v st|hU=>False
 |_=>False
noncomputable def rY(D:Nat)(l:List AV)(st:St)(Q:AV->St->Prop):Prop:=match T.cj D with|U ks=>ks.length=l.length/\Q (.obj D ks l) st|hU=>False
noncomputable def nJ(y:AV)(P:Int->Prop):Prop:=match y with| .int i=>P i|_=>False
noncomputable def pM(y:AV)(P:List Nat->Prop):Prop:=match y with| .str i=>P i|_=>False
noncomputable def ty{α:Type}(l:List α)(y:AV)(P:α->Prop):Prop:=nJ y λj=>iQ (placeOf j l.length) λn=>iQ l[n]? P
theorem pN{B:Prop}(h:nJ y P)(k:∀i,y=.int i->P i->B):B:=by cases y<;>first|exact k _ O h|exact h.elim
theorem tz{B:Prop}(h:pM y P)(k:∀i,y=.str i->P i->B):B:=by cases y<;>first|exact k _ O h|exact h.elim
noncomputable def CZ(T:iW)(x:AV)(st:St)(P:iV->List (Int×AV)->Prop)(R:List (List Nat×AV)->Prop):Prop:=match x with
 | .mut m=>iQ (st.cell m) λc=>yS c (P m)| .val v=>match v with| .ref D=>iQ (T.dN D) R|_=>False
 |_=>False
theorem KA{T}(h:CZ T x st P R){B:Prop}(k:∀m a,x=.mut m->st.cell m=U (.bQ a)->P m a->B)(l:∀D a,x=.val (.ref D)->T.dN D=U a->R a->B):B:=by
 cases x with
 |«mut» m=>exact jx h λc e h=>by cases c<;>first|exact k m _ O e h|exact h.elim
 |val v=>cases v<;>first|exact jx h λa=>l _ a O|exact h.elim
 |_=>exact h.elim
noncomputable def MC.gk:MC->Bool| .m _=>H|_=>g
theorem yT{P:α->Prop}{B:Prop}(h:ty l y P)(k:∀j n c,y=.int j->placeOf j l.length=U n->l[n]?=U c->P c->B):B:=pN h λj e h=>jx h λn a h=>jx h λc=>k j n c e a
theorem pO{P:α->Prop}(a:placeOf j l.length=U n)(b:l[n]?=U c)(h:P c):ty l (.int j) P:=by show iQ _ _;rw[a];show iQ _ P;rw[b];exact h
noncomputable def nr(o:Op)(x y:AV)(st:St)(Q:AV->St->Prop):Prop:=match x with
 | .mut _=>match o with| .add=>kW st x λe l=>kW st y λe d=>l7 (l.length+d.length) (Q (.mut (.j st.f)) (st.new (.m (l++d))))|_=>False
 | .str a=>match o with| .add=>pM y λb=>l7 (a.length+b.length) (Q (.str (a++b)) st)| .mul=>nJ y λn=>∃c,a=[c]/\0<=n/\n<=1000/\Q (.str (jD n.toNat c)) st|_=>False
 |_=>iQ (qN o x y) λr=>Q r st
theorem KC(h:binI o a b=U r):qN o (.int a) (.int b)=U (.int r):=congrArg (Option.map _) h
theorem rZ(h:binI o a b=U r)(q:Q (.int r) st):nr o (.int a) (.int b) st Q:=pH (KC h) q
theorem yU(h:0<n):binI .mod a n=U (jg a n):=if_pos h
noncomputable def yV(x:AV)(st:St)(Q:AV->St->Prop):Prop:=match x with| .str l=>Q (.int l.length) st|_=>kW st x λa l=>Q (.int l.length) st
noncomputable def C0(x:AV)(st:St)(Q:AV->St->Prop):Prop:=qR st x λb c=>yS c λa=>Q (.mut (.j st.f)) (st.new (.m (a.map λp=>.int p.1)))
noncomputable def C1(c:MC)(y:AV)(P:AV->Prop):Prop:=match c with| .m l=>ty l y P| .bQ a=>nJ y λi=>iQ (tu i a) P| .bD a=>pM y λi=>iQ (vi i a) P| .dc _ a=>nJ y λi=>iQ (tu i a) P|_=>False
noncomputable def li(x y:AV)(st:St)(Q:AV->St->Prop):Prop:=match x with| .str l=>ty l y λc=>Q (.str [c]) st| .au l=>ty l y λc=>Q c st| .mut m=>iQ (st.cell m) λc=>C1 c y λa=>Q a st| .val (.ref D)=>iQ (T.dN D) λb=>pM y λi=>iQ (vi i b) λa=>Q a st|_=>False
theorem tA{T}{st:St}(h:st.cell m=U c)(k:C1 c y λa=>Q a st):li T (.mut m) y st Q:=by show iQ _ _;rw[h];exact k
noncomputable def tB(x i j:AV)(st:St)(Q:AV->St->Prop):Prop:=match x with| .str l=>iQ (tv l i j) λr=>Q (.str r) st| .mut m=>iQ (st.cell m) λc=>iQ (yR c) λl=>iQ (tv l i j) λr=>Q (.mut (.j st.f)) (st.new (.m r))|_=>False
theorem yW{i j}(a:st.cell m=U c)(b:yR c=U l)(d:tv l i j=U r)(k:Q (.mut<|.j st.f)<|st.new<|.m r):tB (.mut m) i j st Q:=pH a<|pH b<|pH d k
noncomputable def yX(a b:AV)(st:St)(Q:AV->St->Prop):Prop:=kW st a λm l=>l7 (l.length+1) (Q .none (st.bh m (.m (l++[b]))))
noncomputable def yY(a b:AV)(st:St)(Q:AV->St->Prop):Prop:=kW st a λm l=>kW st b λm' c=>m≠m'/\l7 (l.length+c.length) (Q .none (st.bh m (.m (l++c))))
noncomputable def C2(a:AV)(st:St)(Q:AV->St->Prop):Prop:=kW st a λm l=>iQ l.getLast? λv=>Q v (st.bh m (.m l.dropLast))
noncomputable def KD(l:List AV)(P:AV->List AV->Prop):Prop:=match l with|v::r=>P v r|[]=>False
noncomputable def C3(a:AV)(st:St)(Q:AV->St->Prop):Prop:=kW st a λm l=>KD l λv r=>Q v (st.bh m (.m r))
noncomputable def yZ(a j b:AV)(st:St)(Q:AV->St->Prop):Prop:=kW st a λm l=>nJ j λn=>0<=n/\n.toNat<=l.length/\l7 (l.length+1) (Q .none (st.bh m (.m (l.take n.toNat++b::l.drop n.toNat))))
noncomputable def y0(s:List Nat)(a:AV)(st:St)(Q:AV->St->Prop):Prop:=kW st a λb l=>iQ (yQ l) λr=>l7 r.length (Q (.str r) st)
noncomputable def KE(s:List Nat)(a:AV)(st:St)(Q:AV->St->Prop):Prop:=pM a λl=>kL (T.dF s l) (∀r:List Nat,r.length<=1000000->Q (.str r) st) False
noncomputable def vq(x y:AV)(st:St)(Q:AV->St->Prop):Prop:=(∃m m' l,x=.mut m/\y=.mut m'/\st.cell m=U (.m l)/\st.cell m'=U (.m l)/\yL l=H/\Q (.bool H) st)\/x=y/\lN 6 x=H/\Q (.bool H) st
noncomputable def methP(a:AV)(P:Nat->Prop):Prop:=match a with| .aP f=>P f|_=>False
theorem KG(h:methP a P){B:Prop}(k:∀f,a=.aP f->P f->B):B:=by cases a<;>first|exact k _ O h|exact h.elim
noncomputable def KH(a:AV)(k:Nat)(st:St)(Q:AV->St->Prop)(X:hv->St->Prop):Prop:=pJ st a λks c=>iQ (j5 k ks c) λr=>methP r λf=>iQ (T.cs f) λb=>C f (.mut .L::b) st Q X
noncomputable def r0(a:AV)(st:St)(P:Prop):Prop:=kW st a λb b=>P
noncomputable def jy(x:AV)(st:St)(P:Bool->St->Prop):Prop:=match nk st x with|U r=>P r st|hU=>False
noncomputable def nt(y:AV)(st:St)(P:List AV->St->Prop):Prop:=match y with| .au l=>P l st|_=>False
noncomputable def qT(a:AV)(P:Prop):Prop:=match a with| .mut .L=>P|_=>False
theorem y1(h:qT a P):a=.mut .L/\P:=by
 cases a with
 |«mut» m=>cases m with|L=>exact⟨rfl,h⟩|_=>exact nZ h
 |_=>exact nZ h
noncomputable def y2(n:Int)(x:AV)(st:St)(Q:AV->St->Prop):Prop:=kW st x λb l=>∃a:List Int,l=a.map .int/\Q (.mut (.j st.f)) (st.new (.m (a.map λi=>.int (jg i n))))
noncomputable def C4(D:Nat)(x:AV)(st:St)(Q:AV->St->Prop):Prop:=match x with| .obj a _ _=>kL (T.eT D) (Q (.bool (T.sub a D)) st) False|_=>False
noncomputable def C5(x:AV)(st:St)(Q:AV->St->Prop):Prop:=match x with| .str _=>Q (.bool H) st|_=>False
noncomputable def C6(a:AV)(P:Prop):Prop:=match a with| .none=>P|_=>False
theorem KI(h:C6 a P):a=.none/\P:=by cases a<;>first|exact⟨rfl,h⟩|exact h.elim
noncomputable def y3{α:Type}(o:Option α)(P:Prop):Prop:=match o with|U _=>False|hU=>P
theorem C7{o:Option α}{P B:Prop}(h:y3 o P)(k:o=hU->P->B):B:=by cases o with|some _=>exact h.elim|none=>exact k O h
noncomputable def KJ(f:Nat)(l:List AV)(st:St)(Q:AV->St->Prop)(X:hv->St->Prop):Prop:=y3 st.L (C f (.mut .L::l) {st with L:=U ([],[])} (λr st=>C6 r (Q (.mut .L) st)) X)
noncomputable def tC(f:Loc->St->(AV->St->Prop)->(hv->St->Prop)->Prop)(ρ:Loc)(X:hv->St->Prop)(aM:AV->AV->St->Prop)(x:AV)(st:St):Prop:=f ρ st (aM x) X
noncomputable def KL(k:Nat)(Q:AV->St->Prop)(a:AV)(st:St):Prop:=pL T a k st Q
noncomputable def KN(o:Op)(Q:AV->St->Prop)(x y:AV)(st:St):Prop:=nr o x y st Q
noncomputable def l8(o:Cm)(Q:AV->St->Prop)(x y:AV)(st:St):Prop:=match nI T st o x y with|U r=>Q (.bool r) st|hU=>False
noncomputable def KO(Q:AV->St->Prop)(x y:AV)(st:St):Prop:=nt y st λl st=>Q (.au (x::l)) st
noncomputable def KP(f:Nat)(Q:AV->St->Prop)(X:hv->St->Prop)(y:AV)(st:St):Prop:=nt y st λl st=>C f l st Q X
noncomputable def KQ(D:Nat)(Q:AV->St->Prop)(y:AV)(st:St):Prop:=nt y st λl st=>rY T D l st Q
theorem KR{T}{Q}(h:l8 T o Q x y st){B:Prop}(k:∀r,nI T st o x y=U r->Q (.bool r) st->B):B:=by unfold l8 at h;generalize e:nI T st o x y=c at h;cases c with|none=>exact h.elim|some r=>exact k r e h
noncomputable def C8(a:AV)(P:Bool->Prop):Prop:=match a with| .bool r=>P r|_=>False
theorem C9(h:C8 a P){B:Prop}(k:∀r,a=.bool r->P r->B):B:=by cases a<;>first|exact k _ O h|exact h.elim
noncomputable def KU(f:Loc->St->(AV->St->Prop)->(hv->St->Prop)->Prop)(o p:Cm)(ρ:Loc)(Q:AV->St->Prop)(X:hv->St->Prop)(x y:AV)(st:St):Prop:=l8 T o (λr st=>C8 r λr=>kL r (f ρ st (l8 T p Q y) X) (Q (.bool g) st)) x y st
noncomputable def C_(f:Loc->St->(AV->St->Prop)->(hv->St->Prop)->Prop)(ρ:Loc)(Q:AV->St->Prop)(X:hv->St->Prop)(x:AV)(st:St):Prop:=jy x st λr st=>kL r (f ρ st Q X) (Q x st)
noncomputable def C'(f:Loc->St->(AV->St->Prop)->(hv->St->Prop)->Prop)(ρ:Loc)(Q:AV->St->Prop)(X:hv->St->Prop)(x:AV)(st:St):Prop:=jy x st λr st=>kL r (Q x st) (f ρ st Q X)
noncomputable def KV(Q:AV->St->Prop)(x:AV)(st:St):Prop:=jy x st λr st=>Q (.bool (!r)) st
noncomputable def Db(f aM:Loc->St->(AV->St->Prop)->(hv->St->Prop)->Prop)(ρ:Loc)(Q:AV->St->Prop)(X:hv->St->Prop)(x:AV)(st:St):Prop:=jy x st λr st=>kL r (f ρ st Q X) (aM ρ st Q X)
noncomputable def tupK(Q:AV->St->Prop)(y:AV)(st:St):Prop:=nt y st λl st=>l7 l.length (Q (.au l) st)
noncomputable def KW(aM:Loc->St->(AV->St->Prop)->(hv->St->Prop)->Prop)(f:Nat)(ρ:Loc)(Q:AV->St->Prop)(X:hv->St->Prop)(a:AV)(st:St):Prop:=qT a (aM ρ st (λy st=>nt y st λl st=>C f (.mut .L::l) st Q X) X)
noncomputable def KX(Q:AV->St->Prop)(x y:AV)(st:St):Prop:=li T x y st Q
noncomputable def KY(Q:AV->St->Prop)(x:AV)(st:St):Prop:=yV x st Q
noncomputable def KZ(Q:AV->St->Prop)(x:AV)(st:St):Prop:=C0 x st Q
noncomputable def K0(Q:AV->St->Prop)(x:AV)(st:St):Prop:=C2 x st Q
noncomputable def K1(Q:AV->St->Prop)(x:AV)(st:St):Prop:=C3 x st Q
noncomputable def K2(f:Loc->St->(AV->St->Prop)->(hv->St->Prop)->Prop)(ρ:Loc)(Q:AV->St->Prop)(X:hv->St->Prop)(a:AV)(st:St):Prop:=r0 a st (f ρ st (λb st=>yX a b st Q) X)
noncomputable def K3(s:List Nat)(Q:AV->St->Prop)(x:AV)(st:St):Prop:=y0 s x st Q
noncomputable def K4(f:List Nat)(Q:AV->St->Prop)(x:AV)(st:St):Prop:=KE T f x st Q
noncomputable def K5(f aM:Loc->St->(AV->St->Prop)->(hv->St->Prop)->Prop)(ρ:Loc)(Q:AV->St->Prop)(X:hv->St->Prop)(x:AV)(st:St):Prop:=f ρ st (λi st=>aM ρ st (λj st=>tB x i j st Q) X) X
noncomputable def WE:DE->Loc->St->(AV->St->Prop)->(hv->St->Prop)->Prop
 | .j i,ρ,st,Q,_=>match ρ[i]? with|U (U a)=>Q a st|_=>False
 | .cZ a,_,st,Q,_=>Q a st| .aV a,_,st,Q,_=>Q a st| .c0 e k,ρ,st,Q,X=>WE e ρ st (KL T k Q) X| .a1 o a b,ρ,st,Q,X=>WE a ρ st (tC (WE b) ρ X (KN o Q)) X| .Q o a b,ρ,st,Q,X=>WE a ρ st (tC (WE b) ρ X (l8 T o Q)) X| .b5 o p a b c,ρ,st,Q,X=>WE a ρ st (tC (WE b) ρ X (KU T (WE c) o p ρ Q X)) X| .and a b,ρ,st,Q,X=>WE a ρ st (C_ (WE b) ρ Q X) X| .or a b,ρ,st,Q,X=>WE a ρ st (C' (WE b) ρ Q X) X| .not a,ρ,st,Q,X=>WE a ρ st (KV Q) X| .bI t a b,ρ,st,Q,X=>WE t ρ st (Db (WE a) (WE b) ρ Q X) X| .nil,_,st,Q,_=>Q (.au []) st| .cons a r,ρ,st,Q,X=>WE a ρ st (tC (WE r) ρ X (KO Q)) X| .au a,ρ,st,Q,X=>WE a ρ st (tupK Q) X| .m a,ρ,st,Q,X=>WE a ρ st (λy st=>nt y st λl st=>l7 l.length (Q (.mut (.j st.f)) (st.new (.m l)))) X| .dict b,_,st,Q,_=>Q (.mut (.j st.f)) (st.new (match b with|H=>.bD []|g=>.bQ []))| .call f args,ρ,st,Q,X=>WE args ρ st (KP C f Q X) X| .bV f e args,ρ,st,Q,X=>WE e ρ st (KW C (WE args) f ρ Q X) X| .d9 e k,ρ,st,Q,X=>WE e ρ st (λa st=>KH T C a k st Q X) X| .bd f e,ρ,st,Q,X=>WE e ρ st (λa st=>qT a (Q (.aP f) st)) X| .new D args,ρ,st,Q,X=>WE args ρ st (KQ T D Q) X| .dO i args,ρ,st,Q,X=>match ρ[i]? with|U (U (.val (.ref D)))=>kL (T.cj D).isSome (WE args ρ st (λy st=>nt y st λl st=>rY T D l st Q) X) False|_=>False
 | .len e,ρ,st,Q,X=>WE e ρ st (KY Q) X| .cN e D,ρ,st,Q,X=>WE e ρ st (λx st=>C4 T D x st Q) X| .d_ e,ρ,st,Q,X=>WE e ρ st (λx st=>C5 x st Q) X| .A e,ρ,st,Q,X=>WE e ρ st (KZ Q) X| .sub e i,ρ,st,Q,X=>WE e ρ st (tC (WE i) ρ X (KX T Q)) X| .c1 e a b,ρ,st,Q,X=>WE e ρ st (K5 (WE a) (WE b) ρ Q X) X| .c2,_,st,Q,_=>Q .none st| .aO e x,ρ,st,Q,X=>WE e ρ st (K2 (WE x) ρ Q X) X| .ext e x,ρ,st,Q,X=>WE e ρ st (λa st=>r0 a st (WE x ρ st (λb st=>yY a b st Q) X)) X| .cn e,ρ,st,Q,X=>WE e ρ st (K0 Q) X| .d' e,ρ,st,Q,X=>WE e ρ st (K1 Q) X| .dP e i x,ρ,st,Q,X=>WE e ρ st (λa st=>r0 a st (WE i ρ st (λj st=>WE x ρ st (λb st=>yZ a j b st Q) X) X)) X| .join s e,ρ,st,Q,X=>WE e ρ st (K3 s Q) X| .ca f e,ρ,st,Q,X=>WE e ρ st (K4 T f Q) X| .dQ a b,ρ,st,Q,X=>WE a ρ st (λx st=>WE b ρ st (λy st=>vq x y st Q) X) X| .dR n e,ρ,st,Q,X=>WE e ρ st (λx st=>y2 n x st Q) X| .di f args,ρ,st,Q,X=>iQ ρ[(0:Nat)]? λo=>iQ o λa=>qT a (WE args ρ st (λy st=>nt y st λl st=>C f (.mut .L::l) st Q X) X)| .dS f args,ρ,st,Q,X=>WE args ρ st (λy st=>nt y st λl st=>KJ C f l st Q X) X| .av,_,_,_,_=>False
theorem jl{T}{C}(h:ρ[i]?=U (U a))(q:Q a st):WE T C (.j i) ρ st Q X:=by show(match ρ[i]? with|some<|U a=>Q a st|_=>False);rw[h];exact q
structure KS where
 n:Loc->St->Prop
 aS:AV->St->Prop
 b:Loc->St->Prop
 z:Loc->hv->St->Prop
noncomputable def KS.seq(k:KS)(f:Loc->St->KS->Prop):KS:=⟨λρ st=>f ρ st k,k.aS,k.b,k.z⟩
class inductive jb (W:Loc->St->(AV->St->Prop)->(hv->St->Prop)->Prop)(B:Loc->St->KS->Prop)(k:KS):Loc->St->Prop
 |turn {ρ:Loc} {st:St} (R:Loc->St->Prop) (a:∀ρ st,R ρ st->jb W B k ρ st)
  (h:W ρ st (λx st=>jy x st λr st=>kL r (B ρ st ⟨R,k.aS,k.n,k.z⟩) (k.n ρ st)) (k.z ρ)):jb W B k ρ st
noncomputable def qU(a:AV):List Nat->Loc->Loc|[],ρ=>ρ|i::r,ρ=>qU a r (ρ.set i (U a))
noncomputable def qV:List Nat->List AV->Loc->Option Loc|[],[],ρ=>U ρ|i::b,a::as,ρ=>qV b as (ρ.set i (U a))|_,_,_=>hU
noncomputable def vr:List Nat->AV->Loc->Option Loc|[i],a,ρ=>U (ρ.set i (U a))|b,.au l,ρ=>qV b l ρ|_,_,_=>hU
noncomputable def lj(B:Loc->St->KS->Prop)(c:List Nat)(b:St->Prop)(k:KS):List AV->Loc->St->Prop|[],ρ,st=>b st/\k.n ρ st|a::r,ρ,st=>b st/\iQ (vr c a ρ) λρ=>B ρ st ⟨λρ st=>lj B c b k r ρ st,k.aS,k.n,k.z⟩
noncomputable def y4(o:AV)(f:Nat)(a:AV)(ρ:Loc)(st:St)(P:Loc->St->Prop):Prop:=pJ st o λks b=>vk ks.length (P ρ (st.fI (lM f a ks b)))
noncomputable def vt:iV->Option MC| .cF=>U (.bQ [])| .L=>hU| .j _=>hU|_=>U (.m [])
noncomputable def Dc(o:AV)(f:Nat)(m:iV)(ρ:Loc)(st:St)(P:Loc->St->Prop):Prop:=pJ st o λks a=>y3 (st.cell m) (iQ (vt m) λc=>vk ks.length (P ρ ((st.bh m c).fI (lM f (.mut m) ks a))))
noncomputable def K6(st:St)(m:iV)(c:MC)(j v:AV)(P:St->Prop):Prop:=match c with| .m l=>nJ j λn=>0<=n/\n.toNat<l.length/\P (st.bh m (.m (l.set n.toNat v)))| .bQ a=>nJ j λi=>l7 (a.length+1) (P (st.bh m (.bQ (yJ i v a))))| .bD a=>pM j λi=>l7 (a.length+1) (P (st.bh m (.bD (Ku i v a))))|_=>False
noncomputable def y5(a j v:AV)(ρ:Loc)(st:St)(P:Loc->St->Prop):Prop:=qR st a λm c=>K6 st m c j v (P ρ)
noncomputable def Dd(a j:AV)(ρ:Loc)(st:St)(P:Loc->St->Prop):Prop:=qR st a λm c=>yS c λb=>nJ j λi=>kL (tt i b) (P ρ (st.bh m (.bQ (vh i b)))) False
noncomputable def De(a:AV)(P:List AV->Prop):Prop:=match a with| .au l=>P l|_=>False
theorem K7(h:De a P){B:Prop}(k:∀l,a=.au l->P l->B):B:=by cases a<;>first|exact k _ O h|exact h.elim
noncomputable def tD(b:List Nat)(a:AV)(ρ:Loc)(st:St)(P:Loc->St->Prop):Prop:=De a λl=>iQ (qV b l ρ) λρ=>P ρ st
noncomputable def KS.bW(k:KS)(b:List Nat)(ρ:Loc)(a:AV)(st:St):Prop:=k.n (qU a b ρ) st
noncomputable def K8(e:DE)(f:Nat)(ρ:Loc)(k:KS)(a:AV)(st:St):Prop:=WE T C e ρ st (λo st=>y4 o f a ρ st k.n) (k.z ρ)
noncomputable def KS.ite(p q:Loc->St->KS->Prop)(ρ:Loc)(k:KS)(x:AV)(st:St):Prop:=jy x st λr st=>kL r (p ρ st k) (q ρ st k)
noncomputable def WS:DS->Loc->St->KS->Prop
 | .dG,ρ,st,k=>k.n ρ st| .seq a b,ρ,st,k=>WS a ρ st (k.seq (WS b))| .as e,ρ,st,k=>WE T C e ρ st (λc st=>k.n ρ st) (k.z ρ)| .bW d e,ρ,st,k=>WE T C e ρ st (k.bW d ρ) (k.z ρ)| .cI d e,ρ,st,k=>WE T C e ρ st (λa st=>tD d a ρ st k.n) (k.z ρ)| .dT e f x,ρ,st,k=>WE T C x ρ st (K8 T C e f ρ k) (k.z ρ)| .co e f m,ρ,st,k=>WE T C e ρ st (λo st=>Dc o f m ρ st k.n) (k.z ρ)| .c4 e i x,ρ,st,k=>WE T C x ρ st (λv st=>WE T C e ρ st (λa st=>WE T C i ρ st (λj st=>y5 a j v ρ st k.n) (k.z ρ)) (k.z ρ)) (k.z ρ)| .dH e i,ρ,st,k=>WE T C e ρ st (λa st=>WE T C i ρ st (λj st=>Dd a j ρ st k.n) (k.z ρ)) (k.z ρ)| .cJ i o e,ρ,st,k=>match ρ[i]? with|U (U x)=>WE T C e ρ st (λy st=>iQ (qN o x y) λr=>k.n (ρ.set i (U r)) st) (k.z ρ)|_=>False
 | .cz e f o x,ρ,st,k=>WE T C e ρ st (λq st=>pL T q f st (λu st=>WE T C x ρ st (λy st=>iQ (qN o u y) λr=>y4 q f r ρ st k.n) (k.z ρ))) (k.z ρ)| .ite t a b,ρ,st,k=>WE T C t ρ st (KS.ite (WS a) (WS b) ρ k) (k.z ρ)| .bm t b,ρ,st,k=>jb (WE T C t) (WS b) k ρ st| .cb .d7 d e b,ρ,st,k=>WE T C e ρ st (λx st=>nJ x λn=>0<=n/\n<=1000/\lj (WS b) d (λc=>True) k (tw 0 n.toNat) ρ st) (k.z ρ)| .cb .m d e b,ρ,st,k=>WE T C e ρ st (λx st=>kW st x λm l=>lj (WS b) d (λst=>st.cell m=U (.m l)) k l ρ st) (k.z ρ)| .cb .d8 d e b,ρ,st,k=>WE T C e ρ st (λx st=>CZ T x st (λm s=>∀o:iT,lj (WS b) d (λst=>st.cell m=U (.dc o s)) ⟨λρ st=>st.cell m=U (.dc o s)/\k.n ρ (st.bh m (.bQ s)),λc c=>False,λc c=>False,λc c c=>False⟩ (s.map λp=>.int p.1) ρ (st.bh m (.dc o s))) λs=>lj (WS b) d (λc=>True) k (s.map λp=>.str p.1) ρ st) (k.z ρ)| .cb .eC d e b,ρ,st,k=>WE T C e ρ st (λx st=>pM x λl=>lj (WS b) d (λc=>True) k (vn 0 l) ρ st) (k.z ρ)| .ret e,ρ,st,k=>WE T C e ρ st k.aS (k.z ρ)| .brk,ρ,st,k=>k.b ρ st| .ea D args,ρ,st,k=>WE T C args ρ st (λy st=>nt y st λl st=>k.z ρ ⟨D,l⟩ st) (k.z ρ)| .eb e,ρ,st,k=>WE T C e ρ st (λx st=>jy x st λr st=>kL r (k.n ρ st) False) (k.z ρ)| .eD b,ρ,st,k=>WS b ρ st ⟨k.n,k.aS,k.b,λc c c=>False⟩| .dU b i D h w h',ρ,st,k=>WS b ρ st ⟨k.n,k.aS,k.b,λρ e st=>match T.cr e.b_ with
  |U ks=>match T.sub e.b_ D with|H=>WS h (ρ.set i (U (.cG e.b_ ks e.dM))) st ⟨λρ st=>k.n (ρ.set i hU) st,λc c=>False,λc c=>False,λc c c=>False⟩|g=>match T.sub e.b_ w with|H=>WS h' (ρ.set i (U (.cG e.b_ ks e.dM))) st ⟨λρ st=>k.n (ρ.set i hU) st,λc c=>False,λc c=>False,λc c c=>False⟩|g=>False
  |hU=>False⟩
 | .av,_,_,_=>False
end
section
open PySem
noncomputable def oB{α:Type}(o:Option α)(f:α->Bool):Bool:=match o with|U a=>f a|V=>g
theorem ff{P:Prop}(h:g=H):P:=iR h
theorem ip{A:Sort ux}{P:A->Prop}(a)(h:g=H):P a:=ff h
theorem h7{A:Sort ux}{B:Sort uy}{P:A->B->Prop}(a b)(h:g=H):P a b:=ff h
theorem g9{A:Sort ux}{B:Sort uy}{C:Sort uz}{P:A->B->C->Prop}(a b c)(h:g=H):P a b c:=ff h
theorem he{A:Sort ux}{B:Sort uy}{C:Sort uz}{D:Sort u}{P:A->B->C->D->Prop}(a b c d)(h:g=H):P a b c d:=ff h
theorem jX{A:Sort ux}{B:Sort uy}{C:Sort uz}{D:Sort u}{E:Sort v}{P:A->B->C->D->E->Prop}(a b c d e)(h:g=H):P a b c d e:=ff h
noncomputable def g8{α:Type}(_:α):Bool:=g
noncomputable def hW{α a:Type}(_:α)(_:a):Bool:=g
noncomputable def hf{α a b:Type}(_:α)(_:a)(_:b):Bool:=g
noncomputable def iq{α a b c:Type}(_:α)(_:a)(_:b)(_:c):Bool:=g
noncomputable def xA(nm:g2->ku->Bool)(n:n0->Bool)(B:UnaryOp->g_->Bool)(d:g_->g2->ku->Bool)(f:g_->rv->g_->Bool)(j:g_->List CmpOp->List g_->Bool)(h:BoolOp->List g_->ku->Bool)(w:g_->g_->g_->Bool)(A:List g_->Bool)(y:List g_->Bool)(t:List (Option g_)->List g_->Bool)(z:g_->g_->Bool)(sl:Option g_->Option g_->Option g_->Bool)(i:g_->List g_->List oC->ku->Bool)(q:g_->List BA->Scope->ku->Bool):g_->Bool| .Name x p=>nm x p| .Constant k _ _=>n k| .UnaryOp o x _=>B o x| .Attribute o x p=>d o x p| .BinOp l o r _=>f l o r| .Compare l o r _=>j l o r| .BoolOp o l p=>h o l p| .IfExp a b c _=>w a b c| .Tuple l _ _=>A l| .List l _=>y l| .Dict k v _=>t k v| .Subscript v s _=>z v s| .Slice a b c _=>sl a b c| .Call aM l m p=>i aM l m p| .ListComp e aM s p=>q e aM s p|_=>g
noncomputable def jQ(f:g2->Bool):g_->Bool:=xA (λx a=>f x) g8 hW hf hf hf hf hf g8 g8 hW hW hf iq iq
noncomputable def qW(f:n0->Bool):g_->Bool:=xA hW f hW hf hf hf hf hf g8 g8 hW hW hf iq iq
noncomputable def y6(f:UnaryOp->g_->Bool):g_->Bool:=xA hW g8 f hf hf hf hf hf g8 g8 hW hW hf iq iq
noncomputable def lO(f:g_->g2->ku->Bool):g_->Bool:=xA hW g8 hW f hf hf hf hf g8 g8 hW hW hf iq iq
noncomputable def vu(f:g_->rv->g_->Bool):g_->Bool:=xA hW g8 hW hf f hf hf hf g8 g8 hW hW hf iq iq
noncomputable def vv(f:g_->List CmpOp->List g_->Bool):g_->Bool:=xA hW g8 hW hf hf f hf hf g8 g8 hW hW hf iq iq
noncomputable def y7(f:BoolOp->List g_->ku->Bool):g_->Bool:=xA hW g8 hW hf hf hf f hf g8 g8 hW hW hf iq iq
noncomputable def Df(f:g_->g_->g_->Bool):g_->Bool:=xA hW g8 hW hf hf hf hf f g8 g8 hW hW hf iq iq
noncomputable def vw(f:List g_->Bool):g_->Bool:=xA hW g8 hW hf hf hf hf hf f g8 hW hW hf iq iq
noncomputable def y8(f:List g_->Bool):g_->Bool:=xA hW g8 hW hf hf hf hf hf g8 f hW hW hf iq iq
noncomputable def y9:g_->Bool:=xA hW g8 hW hf hf hf hf hf g8 g8 (λks a=>ks.isEmpty&&a.isEmpty) hW hf iq iq
noncomputable def tF(f:g_->g_->Bool):g_->Bool:=xA hW g8 hW hf hf hf hf hf g8 g8 hW f hf iq iq
noncomputable def Dg(f:Option g_->Option g_->Option g_->Bool):g_->Bool:=xA hW g8 hW hf hf hf hf hf g8 g8 hW hW f iq iq
noncomputable def kj(f:g_->List g_->List oC->ku->Bool):g_->Bool:=xA hW g8 hW hf hf hf hf hf g8 g8 hW hW hf f iq
noncomputable def tG(f:Int->Bool):n0->Bool| .int j=>f j|_=>g
noncomputable def vx(f:g2->Bool):n0->Bool| .str t=>f t|_=>g
noncomputable def l0{α:Type}:List α->Bool|[]=>H|_::_=>g
noncomputable def lc{α:Type}(f:α->List α->Bool):List α->Bool|[]=>g|x::r=>f x r
noncomputable def l1{α:Type}(f:α->Bool):List α->Bool:=lc λx r=>l0 r&&f x
noncomputable def l2{α:Type}(f:α->α->Bool):List α->Bool:=lc λx=>l1 (f x)
noncomputable def K9:UnaryOp->Bool| .Not=>H|_=>g
noncomputable def K_:UnaryOp->Bool| .USub=>H|_=>g
noncomputable def K':CmpOp->Bool| .Eq=>H|_=>g
noncomputable def Dh:rv->Bool| .Mod=>H|_=>g
noncomputable def Di:BoolOp->Bool| .And=>H| .Or=>g
noncomputable def La(f:g2->g_->ku->Bool):oC->Bool|⟨U k,x,p⟩=>f k x p|⟨V,_,_⟩=>g
noncomputable def Dj(o:BoolOp)(p:ku)(y:g_):List g_->g_|[]=>y|z::r=>.BoolOp o (y::z::r) p
noncomputable def qX(b:Bool)(f:g_->Bool):Option g_->Bool|U x=>f x|V=>b
noncomputable def Dk(f:g_->List BA->Scope->ku->Bool):g_->Bool:=xA hW g8 hW hf hf hf hf hf g8 g8 hW hW hf iq f
noncomputable def Dl(f:g2->ku->Bool):g_->Bool:=xA f g8 hW hf hf hf hf hf g8 g8 hW hW hf iq iq
noncomputable def yA(i:g_->Bool)(c:List g_->g_->Bool)(j:g_->List h4->List h4->Bool)(w:g_->List h4->List h4->Bool)(k:g_->g_->List h4->List h4->Bool)(s:Option g_->Bool)(n:Option g_->Option g_->Bool)(a:g_->Bool)(tr:List h4->List ExceptHandler->List h4->List h4->Bool)(d:g_->rv->g_->Bool)(f:List g_->Bool)(m:ku->Bool)(e:ku->Bool):h4->Bool| .Expr x _=>i x| .Assign l x _=>c l x| .If x l r _=>j x l r| .While x l r _=>w x l r| .For t x l r _=>k t x l r| .Return o _=>s o| .Raise o q _=>n o q| .Assert x _ _=>a x| .Try b h o aM _=>tr b h o aM| .AugAssign t o x _=>d t o x| .Delete l _=>f l| .Pass p=>m p| .Break p=>e p|_=>g
noncomputable def y_(f:g_->Bool):h4->Bool:=yA f hW hf hf iq g8 hW g8 iq hf g8 g8 g8
noncomputable def pP(f:List g_->g_->Bool):h4->Bool:=yA g8 f hf hf iq g8 hW g8 iq hf g8 g8 g8
noncomputable def Dm(f:g_->List h4->List h4->Bool):h4->Bool:=yA g8 hW f hf iq g8 hW g8 iq hf g8 g8 g8
noncomputable def Dn(f:g_->List h4->List h4->Bool):h4->Bool:=yA g8 hW hf f iq g8 hW g8 iq hf g8 g8 g8
noncomputable def Do(f:g_->g_->List h4->List h4->Bool):h4->Bool:=yA g8 hW hf hf f g8 hW g8 iq hf g8 g8 g8
noncomputable def Dp(f:Option g_->Bool):h4->Bool:=yA g8 hW hf hf iq f hW g8 iq hf g8 g8 g8
noncomputable def Dq(f:Option g_->Option g_->Bool):h4->Bool:=yA g8 hW hf hf iq g8 f g8 iq hf g8 g8 g8
noncomputable def Dr(f:g_->Bool):h4->Bool:=yA g8 hW hf hf iq g8 hW f iq hf g8 g8 g8
noncomputable def y'(f:List h4->List ExceptHandler->List h4->List h4->Bool):h4->Bool:=yA g8 hW hf hf iq g8 hW g8 f hf g8 g8 g8
noncomputable def za(f:g_->rv->g_->Bool):h4->Bool:=yA g8 hW hf hf iq g8 hW g8 iq f g8 g8 g8
noncomputable def Ds(f:List g_->Bool):h4->Bool:=yA g8 hW hf hf iq g8 hW g8 iq hf f g8 g8
noncomputable def Dt:h4->Bool:=yA g8 hW hf hf iq g8 hW g8 iq hf g8 (λa=>H) g8
noncomputable def Du:h4->Bool:=yA g8 hW hf hf iq g8 hW g8 iq hf g8 g8 (λa=>H)
section
variable{α:Type}
theorem jF{P:Prop}{f:α->Bool}(h:oB o f=H)(k:∀a,o=U a->f a=H->P):P:=by cases o with|none=>exact iR h|some a=>exact k a O h
theorem iH{P:List α->Prop}(h:l0 l=H)(k:P []):P l:=by cases l with|nil=>exact k|cons=>exact iR h
theorem kX{P:List α->Prop}{l}(h:lc f l=H)(k:∀x r,f x r=H->P (x::r)):P l:=by cases l with|nil=>exact iR h|cons x r=>exact k x r h
theorem iL{P:List α->Prop}(h:l1 f l=H)(k:∀x,f x=H->P [x]):P l:=kX h λx r h=>iH (P:=λr=>P _) (f1 h).1<|k x (f1 h).2
theorem tH{P:List α->Prop}(h:l2 f l=H)(k:∀x y,f x y=H->P [x,y]):P l:=kX h λx a h=>iL (P:=λr=>P _) h<|k x
end
section
variable{P:g_->Prop}{x:g_}
theorem ll{P:g_->Prop}(h:xA nm B Y t w A y E T N D Q sl z C x=H)(k0:∀x p,nm x p=H->P (.Name x p))(k1:∀k n p,B k=H->P (.Constant k n p))(k2:∀o x p,Y o x=H->P (.UnaryOp o x p))(k3:∀o x p,t o x p=H->P (.Attribute o x p))(G:∀l o r p,w l o r=H->P (.BinOp l o r p))(k5:∀l o r p,A l o r=H->P (.Compare l o r p))(I:∀o l p,y o l p=H->P (.BoolOp o l p))(J:∀a b c p,E a b c=H->P (.IfExp a b c p))(L:∀l n p,T l=H->P (.Tuple l n p))(M:∀l p,N l=H->P (.List l p))(d:∀k v p,D k v=H->P (.Dict k v p))(f:∀v s p,Q v s=H->P (.Subscript v s p))(i:∀a b c p,sl a b c=H->P (.Slice a b c p))(j:∀aM l m p,z aM l m p=H->P (.Call aM l m p))(q:∀e aM s p,C e aM s p=H->P (.ListComp e aM s p)):P x:=by cases x<;>first|exact ff h|exact k0 _ _ h|exact k1 _ _ _ h|exact k2 _ _ _ h|exact k3 _ _ _ h|exact G _ _ _ _ h|exact k5 _ _ _ _ h|exact I _ _ _ h|exact J _ _ _ _ h|exact L _ _ _ h|exact M _ _ h|exact d _ _ _ h|exact f _ _ _ h|exact i _ _ _ _ h|exact j _ _ _ _ h|exact q _ _ _ _ h
theorem jY(h:jQ f x=H)(k:∀x p,f x=H->P (.Name x p)):P x:=ll h k g9 g9 g9 he he g9 he g9 h7 g9 g9 he he he
theorem r1(h:qW f x=H)(k:∀c n p,f c=H->P (.Constant c n p)):P x:=ll h h7 k g9 g9 he he g9 he g9 h7 g9 g9 he he he
theorem Dv(h:y6 f x=H)(k:∀o y p,f o y=H->P (.UnaryOp o y p)):P x:=ll h h7 g9 k g9 he he g9 he g9 h7 g9 g9 he he he
theorem l9(h:lO f x=H)(k:∀o y p,f o y p=H->P (.Attribute o y p)):P x:=ll h h7 g9 g9 k he he g9 he g9 h7 g9 g9 he he he
theorem zb(h:vu f x=H)(k:∀l o r p,f l o r=H->P (.BinOp l o r p)):P x:=ll h h7 g9 g9 g9 k he g9 he g9 h7 g9 g9 he he he
theorem zc(h:vv f x=H)(k:∀l o r p,f l o r=H->P (.Compare l o r p)):P x:=ll h h7 g9 g9 g9 he k g9 he g9 h7 g9 g9 he he he
theorem Dw(h:y7 f x=H)(k:∀o l p,f o l p=H->P (.BoolOp o l p)):P x:=ll h h7 g9 g9 g9 he he k he g9 h7 g9 g9 he he he
theorem Lb(h:Df f x=H)(k:∀a b c p,f a b c=H->P (.IfExp a b c p)):P x:=ll h h7 g9 g9 g9 he he g9 k g9 h7 g9 g9 he he he
theorem zd(h:vw f x=H)(k:∀l n p,f l=H->P (.Tuple l n p)):P x:=ll h h7 g9 g9 g9 he he g9 he k h7 g9 g9 he he he
theorem Dx(h:y8 f x=H)(k:∀l p,f l=H->P (.List l p)):P x:=ll h h7 g9 g9 g9 he he g9 he g9 k g9 g9 he he he
theorem vy(h:tF f x=H)(k:∀v s p,f v s=H->P (.Subscript v s p)):P x:=ll h h7 g9 g9 g9 he he g9 he g9 h7 g9 k he he he
theorem Lc(h:Dg f x=H)(k:∀a b c p,f a b c=H->P (.Slice a b c p)):P x:=ll h h7 g9 g9 g9 he he g9 he g9 h7 g9 g9 k he he
theorem kl(h:kj f x=H)(k:∀aM l m p,f aM l m p=H->P (.Call aM l m p)):P x:=ll h h7 g9 g9 g9 he he g9 he g9 h7 g9 g9 he k he
end
section
variable{P:n0->Prop}{x:n0}
theorem vz(h:tG f x=H)(k:∀j,f j=H->P (.int j)):P x:=by cases x<;>first|cases h|exact k _ h
theorem ze(h:vx f x=H)(k:∀j,f j=H->P (.str j)):P x:=by cases x<;>first|cases h|exact k _ h
end
theorem Dz{P:g_->Prop}(h:y9 x=H)(k:∀p,P<|.Dict [] [] p):P x:=ll h h7 g9 g9 g9 he he g9 he g9 h7 (λa b p h=>by cases a<;>cases b<;>first|exact k p|exact ff h) g9 he he he
section
variable{P:h4->Prop}{x:h4}
theorem mS{P:h4->Prop}(h:yA n f s J w G E a I i k D j x=H)(k0:∀x p,n x=H->P (.Expr x p))(k1:∀l x p,f l x=H->P (.Assign l x p))(k2:∀x l r p,s x l r=H->P (.If x l r p))(k3:∀x l r p,J x l r=H->P (.While x l r p))(y:∀t x l r p,w t x l r=H->P (.For t x l r p))(k5:∀o p,G o=H->P (.Return o p))(z:∀o q p,E o q=H->P (.Raise o q p))(A:∀x m p,a x=H->P (.Assert x m p))(B:∀b h o aM p,I b h o aM=H->P (.Try b h o aM p))(C:∀t o x p,i t o x=H->P (.AugAssign t o x p))(c:∀l p,k l=H->P (.Delete l p))(d:∀p,D p=H->P (.Pass p))(e:∀p,j p=H->P (.Break p)):P x:=by cases x<;>first|exact ff h|exact k0 _ _ h|exact k1 _ _ _ h|exact k2 _ _ _ _ h|exact k3 _ _ _ _ h|exact y _ _ _ _ _ h|exact k5 _ _ h|exact z _ _ _ h|exact A _ _ _ h|exact B _ _ _ _ _ h|exact C _ _ _ _ h|exact c _ _ h|exact d _ h|exact e _ h
theorem DA(h:y_ f x=H)(k:∀x p,f x=H->P (.Expr x p)):P x:=mS h k g9 he he jX h7 g9 g9 jX he h7 ip ip
theorem r2(h:pP f x=H)(k:∀l x p,f l x=H->P (.Assign l x p)):P x:=mS h h7 k he he jX h7 g9 g9 jX he h7 ip ip
theorem Le(h:Dm f x=H)(k:∀x l r p,f x l r=H->P (.If x l r p)):P x:=mS h h7 g9 k he jX h7 g9 g9 jX he h7 ip ip
theorem Lf(h:Dn f x=H)(k:∀x l r p,f x l r=H->P (.While x l r p)):P x:=mS h h7 g9 he k jX h7 g9 g9 jX he h7 ip ip
theorem Lg(h:Do f x=H)(k:∀t x l r p,f t x l r=H->P (.For t x l r p)):P x:=mS h h7 g9 he he k h7 g9 g9 jX he h7 ip ip
theorem Lh(h:Dp f x=H)(k:∀o p,f o=H->P (.Return o p)):P x:=mS h h7 g9 he he jX k g9 g9 jX he h7 ip ip
theorem Li(h:Dq f x=H)(k:∀o q p,f o q=H->P (.Raise o q p)):P x:=mS h h7 g9 he he jX h7 k g9 jX he h7 ip ip
theorem Lj(h:Dr f x=H)(k:∀x m p,f x=H->P (.Assert x m p)):P x:=mS h h7 g9 he he jX h7 g9 k jX he h7 ip ip
theorem DB(h:y' f x=H)(k:∀b h o aM p,f b h o aM=H->P (.Try b h o aM p)):P x:=mS h h7 g9 he he jX h7 g9 g9 k he h7 ip ip
theorem DC(h:za f x=H)(k:∀t o x p,f t o x=H->P (.AugAssign t o x p)):P x:=mS h h7 g9 he he jX h7 g9 g9 jX k h7 ip ip
theorem Lk(h:Ds f x=H)(k:∀l p,f l=H->P (.Delete l p)):P x:=mS h h7 g9 he he jX h7 g9 g9 jX he k ip ip
theorem Ll(h:Dt x=H)(k:∀p,P<|.Pass p):P x:=mS h h7 g9 he he jX h7 g9 g9 jX he h7 (λp a=>k p) ip
theorem Lm(h:Du x=H)(k:∀p,P<|.Break p):P x:=mS h h7 g9 he he jX h7 g9 g9 jX he h7 ip λp a=>k p
end
section
variable{P:g_->Prop}{x:g_}
theorem Ln(h:Dk f x=H)(k:∀e aM s p,f e aM s p=H->P (.ListComp e aM s p)):P x:=ll h h7 g9 g9 g9 he he g9 he g9 h7 g9 g9 he he k
theorem Lo(h:Dl f x=H)(k:∀n p,f n p=H->P (.Name n p)):P x:=ll h k g9 g9 g9 he he g9 he g9 h7 g9 g9 he he he
end
end
section
open PySem PySem.W PySem.Calls PyProof.Rows
structure Gl where
 prog:m8
 w:iI
 K:iY
 b1:Nat
 bJ:List g2
 T:iW
 c5:g2->Option gZ
 dV:g2->Option gZ
 quiet:Nat->Bool
noncomputable def Gl.Y(G:Gl)(k:Nat):g2:=match G.bJ[k]? with|U x=>x|V=>⟨xw k 0⟩
structure Mu where
 L:Option (Nat×Nat)
 cell:iV->Option Nat
 t:List (Nat×iT)
 bN:List (Nat×Nat×Nat)
noncomputable def S(l:List Nat):g2:=⟨l.toArray⟩
variable(G:Gl)
mutual
inductive RelV (μ:Mu):gZ->AV->Prop|none:RelV μ .none .none|bool (b:Bool):RelV μ (.bool b) (.bool b)|int (i:Int) (t:Tok):RelV μ (.int i t) (.int i)|str (l:List Nat) (t:Tok):l.length<=1000000->RelV μ (.str (S l) t) (.str l)|val (v:gZ):qp v=H->RelV μ v (.val v)|au {a:Nat} {c:List gZ} {n:Nat} {l:List AV}:((a,({cls:=.type "tuple",data:=.seq c.toArray n}:iT))∈μ.t\/G.K.lookup a=U ({cls:=.type "tuple",data:=.seq c.toArray n}:iT))->hZ μ c l->l.length<=1000000->RelV μ (.ref a) (.au l)|obj {a d C:Nat} {e:List nY} {n:Nat} {ks:List Nat} {c:List AV}:(a,ky C d)∈μ.t->(d,i4 e n)∈μ.t->iE μ e ks c->G.T.cj C=U ks->RelV μ (.ref a) (.obj C ks c)|cG {a d C:Nat} {e:List nY} {n:Nat} {ks:List Nat} {c:List AV}:(a,C,d)∈μ.bN->(d,i4 e n)∈μ.t->iE μ e ks c->G.T.cr C=U ks->RelV μ (.ref a) (.cG C ks c)|aP {a x h f:Nat}:(a,uT (.ref f) (.ref x))∈μ.t->μ.L=U (x,h)->RelV μ (.ref a) (.aP f)|L {x h:Nat}:μ.L=U (x,h)->RelV μ (.ref x) (.mut .L)|mut{a:Nat} {m:iV}:μ.cell m=U a->m≠ .L->RelV μ (.ref a) (.mut m)
inductive hZ (μ:Mu):List gZ->List AV->Prop|nil:hZ μ [] []|cons {v:gZ} {a:AV} {b:List gZ} {as:List AV}:RelV μ v a->hZ μ b as->hZ μ (v::b) (a::as)
inductive iE (μ:Mu):List nY->List Nat->List AV->Prop|nil:iE μ [] [] []|cons {k:Nat} {t:Tok} {v:gZ} {a:AV} {b:List nY} {ks:List Nat} {as:List AV}:RelV μ v a->iE μ b ks as->iE μ (⟨m9 G.w.params (G.Y k),.str (G.Y k) t,v⟩::b) (k::ks) (a::as)
end
structure h1 (μ af:Mu):Prop where
 L:∀p,μ.L=U p->af.L=U p
 cell:∀m a,μ.cell m=U a->af.cell m=U a
 t:∀p∈μ.t,p∈af.t
 bN:∀p∈μ.bN,p∈af.bN
theorem h1.refl(μ):h1 μ μ:=⟨λa h=>h,λa a h=>h,λa h=>h,λa h=>h⟩
theorem h1.trans(x:h1 a b)(y:h1 b c):h1 a c:=⟨λd h=>y.L _<|x.L _ h,λd d h=>y.cell _ _<|x.cell _ _ h,λd h=>y.t _<|x.t _ h,λd h=>y.bN _<|x.bN _ h⟩
variable{G}
noncomputable def mT(o:iT):Prop:=∃n,o.cls=.type n/\n≠"tuple"/\n≠"dict"/\n≠"method"
structure oP (μ af:Mu):Prop where
 L:∀p,μ.L=U p->af.L=U p
 cell:∀m a,μ.cell m=U a->af.cell m=U a
 t:∀p∈μ.t,¬mT p.2->p∈af.t
 bN:∀p∈μ.bN,p∈af.bN
theorem h1.ec(E:h1 μ af):oP μ af:=⟨E.L,E.cell,λp h a=>E.t p h,E.bN⟩
theorem Lp{d:Option Nat}:¬mT ({cls:=.type "tuple",dict:=d,data:=x}):=λ⟨n,h,a,_⟩=>a (by cases h;rfl)
theorem DD{C d:Nat}:¬mT (ky C d):=λ⟨n,h,_⟩=>by cases h
theorem no_dict:¬mT (i4 b n):=λ⟨n,h,_,a,_⟩=>a (by cases h;rfl)
theorem Lq:¬mT (uT f x):=λ⟨n,h,_,_,a⟩=>a (by cases h;rfl)
theorem hZ.M{C:List _->List AV->Prop}(n:C [] [])(c:∀{v a d as},RelV G μ v a->hZ G μ d as->C d as->C (v::d) (a::as))(h:hZ G μ d as):C d as:=hZ.rec (motive_1:=λb b b=>True) (motive_3:=λb b b b=>True) ⟨⟩ (λb=>⟨⟩) (λb b=>⟨⟩) (λb b b=>⟨⟩) (λb b=>⟨⟩) (λb b b b=>⟨⟩) (λb b b b b=>⟨⟩) (λb b b b b=>⟨⟩) (λb b=>⟨⟩) (λb=>⟨⟩) (λb b=>⟨⟩) n (λr e b=>c r e) ⟨⟩ (λb b b b=>⟨⟩) h
theorem iE.M{C:List _->List _->List AV->Prop}(n:C [] [] [])(c:∀{k t v a d ks as},RelV G μ v a->iE G μ d ks as->C d ks as->C (⟨m9 G.w.params<|G.Y k,.str (G.Y k) t,v⟩::d) (k::ks) (a::as)){d}{ks}{as}(h:iE G μ d ks as):C d ks as:=iE.rec (motive_1:=λb b b=>True) (motive_2:=λb b b=>True) ⟨⟩ (λb=>⟨⟩) (λb b=>⟨⟩) (λb b b=>⟨⟩) (λb b=>⟨⟩) (λb b b b=>⟨⟩) (λb b b b b=>⟨⟩) (λb b b b b=>⟨⟩) (λb b=>⟨⟩) (λb=>⟨⟩) (λb b=>⟨⟩) ⟨⟩ (λb b b b=>⟨⟩) n (λr e b=>c r e) h
noncomputable def RelV.e7(G:Gl)(μ:Mu)(v:gZ):AV->Prop| .none=>v=.none| .bool b=>v=.bool b| .int i=>∃t,v=.int i t| .str l=>∃t,v=.str (S l) t/\l.length<=1000000| .val u=>v=u/\qp u=H| .au l=>∃a c n,v=.ref a/\((a,({cls:=.type "tuple",data:=.seq c.toArray n}:iT))∈μ.t\/G.K.lookup a=U ({cls:=.type "tuple",data:=.seq c.toArray n}:iT))/\hZ G μ c l/\l.length<=1000000| .obj C ks c=>∃a d e n,v=.ref a/\(a,ky C d)∈μ.t/\(d,i4 e n)∈μ.t/\iE G μ e ks c/\G.T.cj C=U ks| .cG C ks c=>∃a d e n,v=.ref a/\(a,C,d)∈μ.bN/\(d,i4 e n)∈μ.t/\iE G μ e ks c/\G.T.cr C=U ks| .aP f=>∃a x h,v=.ref a/\(a,uT (.ref f) (.ref x))∈μ.t/\μ.L=U (x,h)| .mut m=>∃a,v=.ref a/\((m=.L/\∃h,μ.L=U (a,h))\/(m≠ .L/\μ.cell m=U a))
theorem RelV.R(h:RelV G μ v a):RelV.e7 G μ v a:=h.casesOn O (λe=>rfl) (λe t=>⟨t,rfl⟩) (λe t h=>⟨t,rfl,h⟩) (λe h=>⟨rfl,h⟩) (λh r z=>⟨_,_,_,rfl,h,r,z⟩) (λa b c d=>⟨_,_,_,_,rfl,a,b,c,d⟩) (λa b c d=>⟨_,_,_,_,rfl,a,b,c,d⟩) (λa b=>⟨_,_,_,rfl,a,b⟩) (λp=>⟨_,rfl,.inl ⟨rfl,_,p⟩⟩) λc n=>⟨_,rfl,.inr ⟨n,c⟩⟩
theorem RelV.cS{i}(h:RelV G μ v a)(e:a=.int i):∃t,v=.int i t:=by clear zz3 e h;exact h.R
theorem RelV.cT(h:RelV G μ v a)(e:a=.str l):∃t,v=.str (S l) t/\l.length<=1000000:=by clear zz3 e h;exact h.R
section
variable{μ af:Mu}(E:oP μ af)
include E
theorem RelV.b6(h:RelV G μ v a):RelV G af v a:=RelV.rec .none .bool .int .str .val (λh b z r=>.au (h.imp (λq=>E.t _ q Lp) id) r z) (λd e b t r=>.obj (E.t _ d DD) (E.t _ e no_dict) r t) (λd e b t r=>.cG (E.bN _ d) (E.t _ e no_dict) r t) (λh p=>.aP (E.t _ h Lq)<|E.L _ p) (λp=>.L<|E.L _ p) (λc=>.mut<|E.cell _ _ c) .nil (λb b=>.cons) .nil (λb b=>.cons) h
theorem hZ.b6(h:hZ G μ a as):hZ G af a as:=hZ.M .nil (λr b=>.cons<|r.b6 E) h
theorem iE.b6(h:iE G μ a b as):iE G af a b as:=iE.M .nil (λr c=>.cons<|r.b6 E) h
end
section
variable{μ af:Mu}(E:h1 μ af)
include E
theorem RelV.aR(h:RelV G μ v a):RelV G af v a:=h.b6 E.ec
theorem hZ.aR(h:hZ G μ a as):hZ G af a as:=h.b6 E.ec
theorem iE.aR(h:iE G μ a b as):iE G af a b as:=h.b6 E.ec
end
noncomputable def h_(μ:Mu)(a:Nat):Prop:=(∃x,μ.L=U (x,a))\/(∃m,μ.cell m=U a)\/∃C d,(a,C,d)∈μ.bN
class inductive jR (G:Gl)(μ:Mu){K L:Type}(f:L->K):List (K×gZ)->List (L×AV)->Prop
 |nil:jR G μ f [] []
 |cons {k:L} {v:gZ} {b:AV} {a:List (K×gZ)} {as:List (L×AV)}:RelV G μ v b->jR G μ f a as->jR G μ f ((f k,v)::a) ((k,b)::as)
theorem jR.b6{K L}{f}(E:oP μ af){a:List (K×gZ)}{as:List (L×AV)}(h:jR G μ f a as):jR G af f a as:=h.rec .nil λr b=>.cons<|r.b6 E
theorem jR.aR{K L}{f}(E:h1 μ af){a:List (K×gZ)}{as:List (L×AV)}(h:jR G μ f a as):jR G af f a as:=h.b6 E.ec
noncomputable def km(G:Gl)(μ:Mu)(h:je)(a:Nat):MC->Prop| .m l=>∃c n,h.get? a=U (listOf c n)/\hZ G μ c.toList l/\l.length<=1000000| .bQ as=>∃b,h.DictOf (intKind G.prog G.w) a b/\jR G μ id b as/\as.length<=1000000| .bD as=>∃b,h.DictOf (strKind G.prog G.w) a b/\jR G μ S b as/\as.length<=1000000/\∀p∈as,p.1.length<=1000000| .dq o l=>h.get? a=U o/\∃c n,o=listOf c n/\hZ G μ c.toList l/\l.length<=1000000| .dc o as=>h.get? a=U o/\∃b,h.DictOf (intKind G.prog G.w) a b/\jR G μ id b as/\as.length<=1000000
theorem km.b6(E:oP μ af)(x:km G μ h a c):km G af h a c:=c.casesOn (λb x=>x.imp λb h=>h.imp λb h=>⟨h.1,h.2.1.b6 E,h.2.2⟩) (λb x=>x.imp λb h=>⟨h.1,h.2.1.b6 E,h.2.2⟩) (λb x=>x.imp λb h=>⟨h.1,h.2.1.b6 E,h.2.2⟩) (λb b x=>⟨x.1,x.2.imp λb h=>⟨h.1,h.2.1.b6 E,h.2.2⟩⟩) (λb b x=>⟨x.1,x.2.imp λb h=>h.imp λb h=>⟨h.1,h.2.1.b6 E,h.2.2⟩⟩) x
theorem km.aR(E:h1 μ af)(x:km G μ h a c):km G af h a c:=x.b6 E.ec
theorem km.dj{a}{c}(e:∀o,h.get? a=U o->h'.get? a=U o)(x:km G μ h a c):km G μ h' a c:=c.casesOn (λb x=>x.imp λb h=>h.imp λb h=>⟨e _ h.1,h.2⟩) (λb x=>x.imp λb h=>⟨je.DictOf.at h.1 e,h.2⟩) (λb x=>x.imp λb h=>⟨je.DictOf.at h.1 e,h.2⟩) (λb b x=>⟨e _ x.1,x.2.imp λb h=>⟨je.DictOf.at h.1 e,h.2⟩⟩) (λb b x=>⟨e _ x.1,x.2⟩) x
structure Inv (G:Gl)(μ:Mu)(st:St)(h:je):Prop where
 aU:G.K.In h
 cu:∀(a:Nat) o,G.K.lookup a=U o->a<G.b1
 t:∀p∈μ.t,h.get? p.1=U p.2/\G.b1<=p.1/\¬h_ μ p.1
 cU:∀ks b,st.L=U (ks,b)->∃x e f n,μ.L=U (x,e)/\(x,ky G.T.a6 e)∈μ.t/\h.get? e=U (i4 f n)/\iE G μ f ks b
 cA:st.L=V->μ.L=V
 cp:∀m c,st.cell m=U c->∃a,μ.cell m=U a/\km G μ h a c
 cg:∀m,st.cell m=V->μ.cell m=V
 cO:∀a D d,(a,D,d)∈μ.bN->∃o b,h.get? a=U o/\o.cls=.ref D/\o.dict=U d/\o.data=.fields b
 bu:∀a,h_ μ a->G.b1<=a/\a<h.objs.size
 inj:∀m m' a,μ.cell m=U a->μ.cell m'=U a->m=m'
 bf:∀x a m,μ.L=U (x,a)->μ.cell m≠U a
 c7:∀x a D d,μ.L=U (x,a)->(a,D,d)∉μ.bN
 cv:∀m a D d,μ.cell m=U a->(a,D,d)∉μ.bN
 bR:∀n,st.f<=n->st.cell (.j n)=V
 c8:st.cell .L=V
 bn:G.b1<=h.objs.size
end
section
open PySem PySem.W PySem.Calls PyProof.Rows
theorem oQ(f)(m)(x:α):mQ f m x m=U x:=if_pos O
theorem oh(f)(x:α)(h:m'≠m):mQ f m x m'=f m':=if_neg h
section
variable{G:Gl}{μ af:Mu}{st:St}{h h':je}
theorem Inv.same(I:Inv G μ st h)(k:h.objs.size<=h'.objs.size)(b:∀(a:Nat) o,h.get? a=U o->(a<G.b1\/h_ μ a\/∃z,(a,z)∈μ.t)->h'.get? a=U o):Inv G μ st h':=⟨λa o e=>b a o (I.aU a o e)<|.inl<|I.cu a o e,I.cu,λp hp=>⟨b _ _ (I.t p hp).1<|.inr<|.inr ⟨_,hp⟩,(I.t p hp).2⟩,λy i e=>(jr (I.cU y i e) λx l q n f s t w=>l5 x l q n f s (b _ _ t<|.inr<|.inl (.inl ⟨x,f⟩)) w),I.cA,λm c e=>(g6 (I.cp m c e) λa j hc=>h9 a j<|hc.dj λo e=>b a o e<|.inr (.inl (.inr (.inl ⟨m,j⟩)))),I.cg,λa D d e=>(jv (I.cO a D d e) λo i f r=>ki o i (b _ _ f<|.inr<|.inl (.inr (.inr ⟨D,d,e⟩))) r),λa e=>⟨(I.bu a e).1,hD (I.bu a e).2 k⟩,I.inj,I.bf,I.c7,I.cv,I.bR,I.c8,f2 I.bn k⟩
theorem Inv.keeps(I:Inv G μ st h)(c:h.objs.size<=h'.objs.size)(b:∀a o,h.get? a=U o->h'.get? a=U o):Inv G μ st h':=I.same c λa o e d=>b a o e
theorem Inv.sameBut(I:Inv G μ st h){b:Nat}(c:lD b h h')(d:G.b1<=b)(f:¬h_ μ b)(i:∀p∈μ.t,p.1≠b):Inv G μ st h':=by
 refine I.same (jh c.1.symm) λa o e w=>(c.2 a λq=>?_).trans e;subst q;rcases w with w|w|⟨j,w⟩
 .exact absurd w<|xx d
 .exact f w
 .exact i _ w O
noncomputable def Mu.bO(μ:Mu)(a:Nat)(o:iT):Mu:={μ with t:=(a,o)::μ.t}
theorem h1.bO(μ)(a)(o):h1 μ<|μ.bO a o:=⟨λb h=>h,λb b h=>h,λb=>.tail _,λb h=>h⟩
theorem Inv.bO(I:Inv G μ st h){a:Nat}(w:h.get? a=U o)(t:G.b1<=a)(s:¬h_ μ a):Inv G (μ.bO a o) st h:=by
 haveI E:=h1.bO μ a o;refine⟨I.aU,I.cu,λp hp=>?_,λy z e=>(jr (I.cU y z e) λx f i n j k l q=>l5 x f i n j (.tail _ k) l<|q.aR E),I.cA,λm c e=>(g6 (I.cp m c e) λb r d=>h9 b r<|d.aR E),I.cg,I.cO,I.bu,I.inj,I.bf,I.c7,I.cv,I.bR,I.c8,I.bn⟩
 .rcases ir.mp hp with rfl|hp
  .exact lI w t s
  .exact I.t p hp
theorem Inv.fresh(I:Inv G μ st h):¬h_ μ h.objs.size:=λm=>jI _ (I.bu _ m).2
theorem Inv.ed(I:Inv G μ st h)(b:o.isFreed=g):Inv G (μ.bO h.objs.size o) st<|h.push o:=(I.keeps (by rw[kI];exact jo _) λa c=>jw _).bO (m_ _ b) I.bn I.fresh
noncomputable def Mu.bA(μ:Mu)(m:iV)(a:Nat):Mu:={μ with cell:=mQ μ.cell m a}
theorem h1.bA(d:μ.cell m=V):h1 μ<|μ.bA m a:=
 ⟨λc h=>h,λm' b e=>by
  haveI:m'≠m:=by rintro rfl;rw[d]at e;cases e
  exact(oh _ _ this).trans e,λc h=>h,λc h=>h⟩
theorem tI{a b}(e:(μ.bA m a).cell m'=U b):(m'=m/\b=a)\/(m'≠m/\μ.cell m'=U b):=by
 by_cases q:m'=m;.clear zz3 (Eq.symm q) e;haveI:mQ _ m' a m'=U b:=e;rw[oQ]at this;exact .inl ⟨rfl,(ia this).symm⟩
 .haveI:mQ _ m a m'=U b:=e;rw[oh _ _ q]at this;exact .inr ⟨q,this⟩
theorem h_.bA(x:h_ (μ.bA m a) b):b=a\/h_ μ b:=by
 exists c;rcases x with⟨x,h⟩|⟨m',h⟩|h
 .exact c<|.inr<|.inl ⟨x,h⟩
 .rcases tI h with⟨_,q⟩|⟨_,q⟩
  .exact c<|.inl q
  .exact c<|.inr<|.inr<|.inl ⟨m',q⟩
 .exact c<|.inr<|.inr<|.inr h
theorem Inv.fJ(I:Inv G μ st h)(Y:st.cell m=V)(hp:m≠ .L)(Q:G.b1<=a/\a<h.objs.size)(nm:¬h_ μ a)(nf:∀p∈μ.t,p.1≠a)(hc:km G (μ.bA m a) h a c)(t:ae.L=st.L) (r:ae.cell=mQ st.cell m c) (w:∀n,ae.f<=n->st.f<=n/\iV.j n≠m):Inv G (μ.bA m a) ae h:=by
 have E:=h1.bA (a:=a)<|I.cg m Y;refine⟨I.aU,I.cu,λp f=>⟨(I.t p f).1,(I.t p f).2.1,λq=>?_⟩,λns vs e=>(jr (I.cU ns vs (t▸e)) λx B C n J L M N=>l5 x B C n J L M<|N.aR E),λe=>I.cA (t▸e),λm' A e=>?_,λm' e=>?_,λa D d e=>(jv (I.cO a D d e) ki),λb e=>?_,λm1 m2 b i j=>?_,λx b m' i j=>?_,I.c7,λm' b D d i j=>?_,λn z=>?_,I.c8,I.bn⟩
 .rcases q.bA with q|q
  .exact nf p f q
  .exact(I.t p f).2.2 q
 .rw[r]at e;by_cases q:m'=m;.subst q;rw[oQ]at e;cases e;exact h9 _ (oQ _ _ _) hc
  .rw[oh _ _ q]at e;exact g6 (I.cp m' A e) λb T s=>h9 b (E.cell _ _ T)<|s.aR E
 .rw[r]at e;exists k;by_cases q:m'=m;.subst q;rw[oQ]at e;cases e
  .rw[oh _ _ q]at e;exact k<|(oh _ _ q).trans<|I.cg m' e
 .rcases e.bA with q|q
  .clear zz3 q;exact Q
  .exact I.bu b q
 .exists k;rcases tI i with⟨x1,l⟩|⟨x1,l⟩<;>rcases tI j with⟨x2,o⟩|⟨x2,o⟩
  .refine k ?_;rw[x1,x2]
  .exact absurd (.inr<|.inl ⟨m2,l▸o⟩) nm
  .exact absurd (.inr<|.inl ⟨m1,o▸l⟩) nm
  .exact k<|I.inj m1 m2 b l o
 .exists k;rcases tI j with⟨_,y⟩|⟨_,y⟩
  .exact absurd (.inl ⟨x,y▸i⟩) nm
  .exact I.bf x b m' i y
 .rcases tI i with⟨_,y⟩|⟨_,y⟩
  .exact absurd (.inr<|.inr ⟨D,d,y▸j⟩) nm
  .exact I.cv m' b D d y j
 .rw[r,oh _ _ (w n z).2];exact I.bR n (w n z).1
theorem Inv.gl(I:Inv G μ st h)(r:st.cell m=V)(hp:m≠ .L)(f:h.objs.size<=h'.objs.size)(e:h.objs.size<h'.objs.size)(d:a=h.objs.size)(l:∀b o,h.get? b=U o->h'.get? b=U o) (hc:km G (μ.bA m a) h' a c)(i:ae.L=st.L) (j:ae.cell=mQ st.cell m c) (k:∀n,ae.f<=n->st.f<=n/\iV.j n≠m):Inv G (μ.bA m a) ae h':=(I.keeps f l).fJ r hp ⟨d▸I.bn,d▸e⟩ (λq=>jI _ (d▸(I.bu a q).2)) (λp hp q=>jI _ (d▸q▸ih (I.t p hp).1)) hc i j k
theorem Inv.dI(I:Inv G μ st h){a}(i:μ.cell m=U a)(E:lD a h h')(hc:km G μ h' a c):Inv G μ (st.bh m c) h':=by
 haveI J:h_ μ a:=.inr<|.inl ⟨m,i⟩;have j:=E.1.symm;have k:∀(b:Nat) o,h.get? b=U o->b≠a->h'.get? b=U o:=λb o e q=>(E.2 b q).trans e;have f:m≠ .L:=λq=>by subst q;haveI:=I.cg .L I.c8;rw[this]at i;cases i
 have w:st.cell m≠none:=λq=>by rw[I.cg m q]at i;cases i
 refine⟨λb o e=>k b o (I.aU b o e)<|iw<|hD (I.cu b o e) (I.bu a J).1,I.cu,λp hp=>⟨k _ _ (I.t p hp).1 λq=>(I.t p hp).2.2 (q▸J),(I.t p hp).2⟩,λY A e=>(jr (I.cU Y A<|(vg st m c).symm.trans e) λx B M n l N Q T=>⟨x,B,M,n,l,N,k _ _ Q λq=>I.bf x B m l (q▸i),T⟩),(λe=>I.cA<|(vg st m c).symm.trans e),λm' L e=>?_,λm' e=>?_,λb D d e=>(kf λs=>jv (I.cO b D d e) λo A l r=>s ⟨o,A,k _ _ l λq=>I.cv m a D d i (q▸e),r⟩),λb e=>?_,I.inj,I.bf,I.c7,I.cv,λn y=>?_,?_,by rw[<-j];exact I.bn⟩
 .rw[ts f]at e;by_cases q:m'=m;.subst q;haveI:=e;rw[oQ]at this;cases this;exact h9 a i hc
  .haveI:=e;rw[oh _ _ q]at this;exact g6 (I.cp m' L this) λb C t=>h9 b C<|t.dj λo e=>k b o e λz=>q<|I.inj m' m b C (z▸i)
 .rw[ts f]at e;exists s;by_cases q:m'=m;.subst q;haveI:=e;rw[oQ]at this;cases this
  .haveI:=e;rw[oh _ _ q]at this;exact s<|I.cg m' this
 .haveI:=I.bu b e;exact⟨this.1,(ja<|lK<|lK (f2 (jP this.2) (jh j)))⟩
 .rw[CL]at y;haveI:iV.j n≠m:=λq=>w (q▸I.bR n y);show(st.bh m c).cell _=V;rw[ts f];rw[oh _ _ this];exact I.bR n y
 .rw[ts f];rw[oh _ _<|Ne.symm f];exact I.c8
theorem Inv.e8(I:Inv G μ st h){x a}{j:List _}{n}{ks:List _}{i:List AV}(hp:μ.L=U (x,a))(A:(x,ky G.T.a6 a)∈μ.t)(m:lD a h h')(hd:h'.get? a=U (i4 j n)) (y:iE G μ j ks i):Inv G μ {st with L:=U (ks,i)} h':=by
 haveI s:h_ μ a:=.inl ⟨x,hp⟩;haveI c:h.objs.size=h'.objs.size:=m.1.symm;have f:∀(b:Nat) o,h.get? b=U o->b≠a->h'.get? b=U o:=λb o e q=>(m.2 b q).trans e;refine⟨λb o e=>f b o (I.aU b o e)<|iw<|hD (I.cu b o e) (I.bu a s).1,I.cu,λp hp=>⟨f _ _ (I.t p hp).1 (λq=>(I.t p hp).2.2 (q▸s)),(I.t p hp).2⟩,λB C e=>?_,(λe=>nomatch e),λm' t e=>(g6 (I.cp m' t e) λb l k=>h9 b l<|k.dj λo e=>f b o e λz=>I.bf x a m' hp (z▸l)),I.cg,λb D d e=>(jv (I.cO b D d e) λo i w r=>⟨o,i,f _ _ w λq=>I.c7 x a D d hp (q▸e),r⟩),λb e=>?_,I.inj,I.bf,I.c7,I.cv,I.bR,I.c8,by rw[<-c];exact I.bn⟩;.cases e;exact l5 x a j n hp A hd y
 .haveI:=I.bu b e;exact⟨this.1,(ja<|lK<|lK (f2 (jP this.2) (jh c)))⟩
end
@[elab_as_elim]theorem RelV.e9 {st} (r:RelV G μ v<|.mut m) (I:Inv G μ st h) (hc:st.cell m=U c) {P:gZ->Prop} (k:∀a,μ.cell m=U a->m≠ .L->km G μ h a c->P (.ref a)):P v:=g6 r.R λa e z=>by rw[e];refine CE z (λz=>?_) λz=>g6 (I.cp m c hc) λb d q=>k a z.2 z.1 (ia (d.symm.trans z.2)▸q);rw[z.1]at hc;exact hu hc
end
section
open PySem PySem.W PySem.Calls PyProof.Rows
theorem tJ{α:Type}{l:List α}(k:l.Nodup){i j:Nat}{x}(e:l[i]?=U x)(f:l[j]?=U x):i=j:=by
 refine hz (jq.mp e) λc a=>hz (jq.mp f) λd b=>?_;have pw:=List.pairwise_iff_getElem.mp k;rcases Nat.lt_trichotomy i j with h|h|h
 .exact absurd (a.trans b.symm)<|pw i j c d h
 .exact h
 .exact absurd (b.trans a.symm)<|pw j i d c h
structure Fm where
 a:Gl
 C:ix
 r:jL
 slots:List g2
 a2:Nat
 bB:je
 b4:Mu
 ee:Array GenState
 ef:pe
 eg:Drawn
 bk:List jL
structure Fm.y (Φ:Fm):Prop where
 kind:Φ.r.scope.kind=.function
 j:Φ.r.locals=Φ.a2
 slot:∀(i:Nat) x,Φ.slots[i]?=U x->Φ.r.kindOf x=U .local
 nodup:Φ.slots.Nodup
 b2:Φ.bB.objs.size<=Φ.a2
 bn:Φ.a.b1<=Φ.bB.objs.size
 b7:∀h:je,Φ.a.K.In h->h.Ns Φ.r.globals Φ.a.c5
 cc:∀h:je,Φ.a.K.In h->h.Ns Φ.r.builtins Φ.a.dV
 dr:Φ.C.frames=U (Φ.r::Φ.bk)
 cK:Φ.r.frame=U Φ.a2
 c9:∀r∈Φ.bk,r.scope.kind≠ .module/\∃(a2:Nat) (o:iT),r.frame=U a2/\Φ.bB.get? a2=U o/\(∀b,o.data≠ .fields b)/\Φ.a.b1<=a2/\¬h_ Φ.b4 a2/\∀p∈Φ.b4.t,p.1≠a2
structure Dy (Φ:Fm)(μ:Mu)(ρ:Loc)(st:St)(s:hb):Prop where
 ext:h1 Φ.b4 μ
 N:Inv Φ.a μ st s.heap
 bv:∀(a:Nat) o,Φ.bB.get? a=U o->¬h_ Φ.b4 a->s.heap.get? a=U o
 ns:∃m,s.heap.Ns Φ.a2 m/\∀(i:Nat) x a,Φ.slots[i]?=U x->ρ[i]?=U (U a)->∃v,m x=U v/\RelV Φ.a μ v a
 bo:¬h_ μ Φ.a2
 bw:∀p∈μ.t,p.1≠Φ.a2
 a':∀a,h_ μ a->h_ Φ.b4 a\/Φ.bB.objs.size<=a
 bg:∀p∈μ.t,p∈Φ.b4.t\/Φ.bB.objs.size<=p.1
 bX:s.gens=Φ.ee
 bY:s.os=Φ.ef
 b3:s.drawn=Φ.eg
inductive PE (Φ:Fm)(ρ:Loc)(μ:Mu)(Q:AV->St->Prop)(v:gZ)(s:hb):Prop|e_ (af:Mu) (a:AV) (ae:St) (q:Q a ae) (e:h1 μ af) (r:RelV Φ.a af v a) (y:Dy Φ af ρ ae s):PE Φ ρ μ Q v s
section
variable{Φ:Fm}{μ af:Mu}{ρ:Loc}{st ae:St}{s:hb}{h':je}{Q:AV->St->Prop}
theorem PE.up(E:h1 μ af)(x:PE Φ ρ af Q v s):PE Φ ρ μ Q v s:=by obtain⟨b,a,ae,c,d,e,f⟩:=x;exact⟨_,a,_,c,E.trans d,e,f⟩
theorem PE.mk(h:Q a st)(r:RelV Φ.a μ v a)(D:Dy Φ μ ρ st s):PE Φ ρ μ Q v s:=⟨μ,a,st,h,h1.refl μ,r,D⟩
theorem Dy.toks(D:Dy Φ μ ρ st s)(t):Dy Φ μ ρ st {s with toks:=t}:=⟨D.ext,D.N,D.bv,D.ns,D.bo,D.bw,D.a',D.bg,D.bX,D.bY,D.b3⟩
theorem Dy.cB(D:Dy Φ μ ρ st s):Φ.a2<s.heap.objs.size:=g6 D.ns λm a b=>a.lt
theorem Dy.keeps(D:Dy Φ μ ρ st s)(f:s.heap.objs.size<=h'.objs.size)(b:∀a o,s.heap.get? a=U o->h'.get? a=U o):Dy Φ μ ρ st {s with heap:=h',toks:=t}:=g6 D.ns λm c d=>⟨D.ext,D.N.keeps f b,λa o e q=>b a o<|D.bv a o e q,⟨m,c.keeps b,d⟩,D.bo,D.bw,D.a',D.bg,D.bX,D.bY,D.b3⟩
theorem Dy.eE(D:Dy Φ μ ρ st s)(E:h1 μ af)(I:Inv Φ.a af ae s.heap)(k:¬h_ af Φ.a2)(j:∀p∈af.t,p.1≠Φ.a2)(n:∀a,h_ af a->h_ Φ.b4 a\/Φ.bB.objs.size<=a)(l:∀p∈af.t,p∈Φ.b4.t\/Φ.bB.objs.size<=p.1):Dy Φ af ρ ae s:=by refine g6 D.ns λm f h=>⟨D.ext.trans E,I,D.bv,⟨m,f,λi x a b c=>?_⟩,k,j,n,l,D.bX,D.bY,D.b3⟩;exact g6 (h i x a b c) λv d e=>h9 v d<|e.aR E
theorem Dy.ed(f:Φ.y)(D:Dy Φ μ ρ st s){o:iT}(d:o.isFreed=g){t:Nat}:Dy Φ (μ.bO s.heap.objs.size o) ρ st {s with heap:=s.heap.push o,toks:=t}:=by
 haveI D1:Dy Φ μ ρ st {s with heap:=s.heap.push o,toks:=t}:=D.keeps (by rw[kI];exact jo _) λa e=>jw _;refine D1.eE (h1.bO _ _ _) (D.N.ed d) D.bo (λp hp=>?_) D.a' λp hp=>?_
 .rcases ir.mp hp with b|hp;clear zz3 b
  .exact iP D.cB
  .exact D.bw p hp
 .rcases ir.mp hp with c|hp;clear zz3 c
  .exact .inr<|f2 f.b2<|jM D.cB
  .exact D.bg p hp
theorem Dy.fK(k:Φ.y)(D:Dy Φ μ ρ st s)(f:st.cell m=V)(hp:m≠ .L)(d:s.heap.objs.size<h'.objs.size)(e:∀b o,s.heap.get? b=U o->h'.get? b=U o)(hc:km Φ.a (μ.bA m s.heap.objs.size) h' s.heap.objs.size c)(h:ae.L=st.L) (i:ae.cell=mQ st.cell m c) (j:∀n,ae.f<=n->st.f<=n/\iV.j n≠m):Dy Φ (μ.bA m s.heap.objs.size) ρ ae {s with heap:=h',toks:=t}:=(D.keeps (jM d) e).eE (h1.bA<|D.N.cg m f) (D.N.gl f hp (jM d) d O e hc h i j) (λq=>q.bA.elim (iw D.cB) D.bo) D.bw (λa q=>q.bA.elim (λq=>.inr (q▸f2 k.b2 (jM D.cB)))<|D.a' a) D.bg
theorem vB{h:je}:h.objs.size<(h.push o).objs.size:=by rw[kI];exact kg _
theorem Dy.gm(i:Φ.y)(D:Dy Φ μ ρ st s)(f:st.cell m=V)(hp:m≠ .L)(hc:km Φ.a (μ.bA m s.heap.objs.size) (s.heap.push o) s.heap.objs.size c)(b:ae.L=st.L) (d:ae.cell=mQ st.cell m c) (e:∀n,ae.f<=n->st.f<=n/\iV.j n≠m):Dy Φ (μ.bA m s.heap.objs.size) ρ ae {s with heap:=s.heap.push o,toks:=t}:=D.fK i f hp vB (λa h=>jw _) hc b d e
theorem Lr(h:st.f+1<=k):st.f<=k/\iV.j k≠iV.j st.f:=⟨I8 h,λq=>jI _ (vl q▸h)⟩
theorem DF:iV.j n≠ .L:=λq=>by cases q
theorem PE.new(i:Φ.y)(D:Dy Φ μ ρ st s)(a:s.heap.objs.size<h'.objs.size)(e:∀b o,s.heap.get? b=U o->h'.get? b=U o)(hc:h1 μ (μ.bA (.j st.f) s.heap.objs.size)->km Φ.a (μ.bA (.j st.f) s.heap.objs.size) h' s.heap.objs.size c)(h:Q (.mut<|.j st.f)<|st.new c):PE Φ ρ μ Q (.ref s.heap.objs.size) {s with heap:=h',toks:=t}:=
 haveI d:=D.N.bR _<|hJ _
 haveI E:=h1.bA<|D.N.cg _ d
 ⟨_,_,_,h,E,.mut (oQ _ _ _) DF,D.fK i d DF a e (hc E) O (CM _ _) λf=>Lr⟩
theorem Dy.dI(D:Dy Φ μ ρ st s)(f:μ.cell m=U a)(d:lD a s.heap h')(hc:km Φ.a μ h' a c):Dy Φ μ ρ (st.bh m c) {s with heap:=h',toks:=t}:=by
 refine g6 D.ns λk i j=>?_;have h:h_ μ a:=.inr<|.inl ⟨m,f⟩;refine⟨D.ext,D.N.dI f d hc,λb o e q=>?_,⟨k,i.sameBut d λq=>D.bo (q▸h),j⟩,D.bo,D.bw,D.a',D.bg,D.bX,D.bY,D.b3⟩;refine(d.2 b λz=>?_).trans<|D.bv b o e q;clear zz3 z q e;rcases D.a' _ h with w|w
 .exact q w
 .exact absurd (ih e)<|jE.mpr w
theorem Dy.e8(D:Dy Φ μ ρ st s)(hp:μ.L=U (x,a))(k:(x,ky Φ.a.T.a6 a)∈μ.t)(d:lD a s.heap h')(hd:h'.get? a=U (i4 h n)) (c:iE Φ.a μ h ks m):Dy Φ μ ρ {st with L:=U (ks,m)} {s with heap:=h',toks:=t}:=by
 refine g6 D.ns λl i j=>?_;have f:h_ μ a:=.inl ⟨x,hp⟩;refine⟨D.ext,D.N.e8 hp k d hd c,λb o e q=>?_,⟨l,i.sameBut d λq=>D.bo (q▸f),j⟩,D.bo,D.bw,D.a',D.bg,D.bX,D.bY,D.b3⟩;refine(d.2 b λz=>?_).trans<|D.bv b o e q;clear zz3 z q e;rcases D.a' _ f with w|w
 .exact q w
 .exact absurd (ih e)<|jE.mpr w
theorem Dy.gn(E:Φ.y)(D:Dy Φ μ ρ st s)(f:Φ.slots[i]?=U x)(r:RelV Φ.a μ v a)(w:∀m,s.heap.Ns Φ.a2 m->h'.Ns Φ.a2 λy=>if y=x then U v else m y) (l:lD Φ.a2 s.heap h'):Dy Φ μ (ρ.set i<|U a) st {s with heap:=h',toks:=t}:=by
 refine g6 D.ns λC A B=>⟨D.ext,D.N.sameBut l (f2 E.bn E.b2) D.bo D.bw,λb o e q=>(l.2 b ?_).trans<|D.bv b o e q,⟨_,w C A,λj y b d c=>?_⟩,D.bo,D.bw,D.a',D.bg,D.bX,D.bY,D.b3⟩;.haveI:=ih e;exact iw<|hD this E.b2
 .by_cases q:y=x
  .clear zz3 q d;haveI:=(tJ E.nodup d f);subst this;have k:=by cases oD j _ with|inl h=>exact h|inr h=>rw[xy (by rw[xz];exact h)]at c;cases c
   rw[BB k]at c;cases c;exact h9 v (if_pos O) r
  .haveI:i≠j:=λz=>by clear zz3 z f;rw[f]at d;exact q (ia d).symm
   rw[BC this]at c;exact g6 (B j y b d c) λu n p=>h9 u ((if_neg q).trans n) p
end
end
section
open PySem PySem.W PySem.Calls PyProof.Rows
section
variable{Φ:Fm}{μ:Mu}{ρ:Loc}{st:St}{s:hb}{Q:AV->St->Prop}{E:gZ->hb->Prop}{A:ix}
noncomputable abbrev Fm.q(Φ:Fm):nD:=ii Φ.a.prog Φ.a.w
theorem zg(l:Φ.y)(D:Dy Φ μ ρ st s){i:Nat}(b:Φ.slots[i]?=U x)(hd:(x==("__debug__"))=g)(k:ρ[i]?=U (U a))(h:Q a st):g0 Φ.q A (eval (.Name x aa) Φ.r) (PE Φ ρ μ Q) E s:=kf λe=>g6 D.ns λm f j=>g6 (j i x a b k) λv c d=>e<|sM (qq l.kind (l.slot i x b) (l.j▸f) c<|.mk h d D) hd
theorem Ls(e:Φ.y)(D:Dy Φ μ ρ st s)(d:Φ.r.kindOf x=U .globalImplicit)(hd:(x==("__debug__"))=g)(c:Φ.a.c5 x=U v)(b:RelV Φ.a μ v a)(h:Q a st):g0 Φ.q A (eval (.Name x aa) Φ.r) (PE Φ ρ μ Q) E s:=BD e.kind d (loadGlobal_global (e.b7 _ D.N.aU) c<|.mk h b D) hd
theorem Lu(D:Dy Φ μ ρ st s)(h:Q .none st):g0 Φ.q A (eval (.Constant .none k aa) Φ.r) (PE Φ ρ μ Q) E s:=wpAny_Constant_none<|.mk h .none D
theorem Lv(D:Dy Φ μ ρ st s)(h:Q (.bool b) st):g0 Φ.q A (eval (.Constant (.bool b) k aa) Φ.r) (PE Φ ρ μ Q) E s:=wpAny_Constant_bool<|.mk h (.bool b) D
theorem Lw(D:Dy Φ μ ρ st s)(h:Q (.int i) st):g0 Φ.q A (eval (.Constant (.int i) k aa) Φ.r) (PE Φ ρ μ Q) E s:=xB<|.mk h (.int i _)<|D.toks _
theorem Lx(D:Dy Φ μ ρ st s)(a:x=S l)(hl:l.length<=1000000)(h:Q (.str l) st):g0 Φ.q A (eval (.Constant (.str x) k aa) Φ.r) (PE Φ ρ μ Q) E s:=by subst a;exact BE<|.mk h (.str l _ hl)<|D.toks _
theorem vC{P:AV->AV->St->Prop}{R:gZ->gZ->Sem gZ}(l:g0 Φ.q A (eval d Φ.r) (PE Φ ρ μ λx st=>∀af s',h1 μ af->Dy Φ af ρ st s'->g0 Φ.q A (eval e Φ.r) (PE Φ ρ af λy st=>P x y st) E s') E s)(m:∀af v u x y st s',h1 μ af->RelV Φ.a af v x->RelV Φ.a af u y->P x y st->Dy Φ af ρ st s'->g0 Φ.q A (R v u) (PE Φ ρ af Q) E s'):g0 Φ.q A (eval d Φ.r) (λv a=>g0 Φ.q A (eval e Φ.r) (λu b=>g0 Φ.q A (R v u) (PE Φ ρ μ Q) E b) E a) E s:=by refine g5 l (λv a q=>?_) λc c q=>q;obtain⟨af,x,ae,k,f,n,D1⟩:=q;refine g5 (k _ _ f D1) (λu b q=>?_) λc c q=>q;obtain⟨j,y,i,k2,h,o,D2⟩:=q;exact g5 (m _ v u x y _ _ (f.trans h) (n.aR h) o k2 D2) (λc c q=>q.up<|f.trans h) λc c q=>q
theorem DG(c)(b):kK c b=decide (c∈b):=by induction b with|nil=>rfl|cons x r a=>dsimp only[yH];induction h:jn c x with|true=>simp[oA h]|false=>haveI:=Bz h;rw[a];simp[this]
theorem tK(r:RelV Φ.a μ v<|.int i):∃t,v=.int i t:=r.R
theorem qY(r:RelV Φ.a μ v<|.str l):∃t,v=.str (S l) t:=r.R.imp λa h=>h.1
theorem DH(r:RelV Φ.a μ v<|.bool b):v=.bool b:=r.R
theorem zh(r:RelV Φ.a μ v .none):v=.none:=r.R
theorem Ly(l):(S l).cps.toList=l:=rfl
theorem vD(l):(S l).length=l.length:=rfl
theorem Lz(a b):S a++S b=S (a++b):=by show g2.append _ _=_;unfold g2.append S;simp
theorem DI:∀a b,pF a b=!decide (b<a)
 |[],b=>(congrArg not<|decide_eq_false<|List.not_lt_nil b).symm|x::a,[]=>(congrArg not<|decide_eq_true<|List.nil_lt_cons x a).symm|x::a,y::b=>by
  dsimp only[Kr];by_cases h:x=y;.subst h;rw[if_pos O,DI];simp
  .rw[if_neg h];by_cases q:x<y
   .haveI:¬(y::b<x::a):=by
     intro z
     rcases J2.mp z with z|⟨z,_⟩
     .exact Nat.lt_asymm q z
     .exact h z.symm
    simp[q,this]
   .haveI:y::b<x::a:=J2.mpr<|.inl<|I9 (Nat.le_of_not_lt q) λe=>h e.symm;simp[q,this]
noncomputable def nv:Op->rv| .add=>.Add| .sub=>.Sub| .mod=>.Mod| .fdiv=>.FloorDiv| .mul=>.Mult
theorem LB(D:Dy Φ μ ρ st s)(a:binI o i j=U r)(h:Q (.int r) st):g0 Φ.q A (pg (nv o) (.int i t)<|.int j u) (PE Φ ρ μ Q) E s:=by
 have h':∀k,xC k=U r->∀t n,PE Φ ρ μ Q (.int k t) {s with toks:=n}:=λk e t n=>ia e▸ .mk h (.int _ _) (D.toks _);induction o with
 |add=>exact PyProof.Rows.add_int<|h' _ a _ _|sub=>exact PyProof.Rows.sub_int<|h' _ a _ _|mul=>exact hu a|mod=>
  haveI a:(if 0<j then U _ else V)=U r:=a;exists c;by_cases b:0<j;.rw[if_pos b]at a;exact c<|I_ (Int.ne_of_gt b)<|h' _ a _ _
  .rw[if_neg b]at a;exact hu a
 |fdiv=>
  haveI a:(if 0<j/\j<1000000 then U _ else V)=U r:=a;exists c;by_cases b:0<j/\j<1000000;.rw[if_pos b]at a;exact c<|PyProof.Rows.floordiv_int (Int.ne_of_gt b.1) (h' _ a _ _)<|.inl<|PyProof.noPylong_small (ni.mp (by rw[Int.natAbs_of_nonneg (Int.le_of_lt b.1)];exact Int.lt_trans b.2 (by decide)))
  .rw[if_neg b]at a;exact hu a
end
end
section
open PySem PySem.W PySem.Calls PyProof.Rows
noncomputable def lp:Cm->CmpOp| .eq=>.Eq| .b'=>.NotEq| .lt=>.Lt| .le=>.LtE| .gt=>.Gt| .ge=>.GtE| .ck=>.Is| .cm=>.IsNot| .cH=>.In| .ct=>.NotIn
theorem tL(a:List _):∀b,hm a b=decide (a=b):=by
 induction a with
 |nil=>intro b;cases b<;>rfl
 |cons x a c=>
  intro b;cases b with|nil=>rfl|cons y b=>
   show(match jn x y with|true=>hm a b|false=>g)=_;by_cases h:x=y;.rw[h,BF];exact(c b).trans<|decide_eq_decide.mpr ⟨congrArg _,λe=>(BG e).2⟩
   .rw[show jn x y=g from BH.mpr λe=>h<|oA e];exact(decide_eq_false λe=>h (BG e).1).symm
theorem DJ(h:S a=S b):a=b:=by
 haveI:(S a).cps.toList=(S b).cps.toList:=by rw[h]
 exact this
section
variable{Φ:Fm}{μ:Mu}{ρ:Loc}{st:St}{s:hb}{Q:AV->St->Prop}{E:gZ->hb->Prop}{A:ix}
theorem LC(x y:List _)(b):(match hm x y with|true=>H|false=>b)=(S y==S x||b):=by
 rw[tL];by_cases z:x=y;.subst z;simp
 .haveI:¬S y=S x:=λk=>z (DJ k).symm;simp[z,this]
set_option tactic.hygienic true in
theorem LD{x:List _}{d:List _}{l:List AV}(h:hZ Φ.a μ d l):∀{b},mv x l=U b->∃e,StrsAre d e/\e.any (· ==S x)=b:=by
 induction l generalizing d with
 |nil=>cases h;exactλh=>⟨[],.nil,ia h⟩
 |cons a l f=>
  cases h with|cons r n=>
   intro b h;exists m;cases a<;>first|exact hu h|skip
   rename_i y;refine hz (qY r) λt i=>?_;refine m ?_;rw[i];revert h;show(match mv x l with|some b=>U (match hm x y with|true=>H|false=>b)|hU=>hU)=U b->_;generalize q:mv x l=o at f;intro h;cases o with|none=>exact hu h|some c=>exact g6 (f n O) λe j k=>⟨_,.cons _ _ j,by rw[BI,k,<-LC];exact ia h⟩
theorem vE(D:Dy Φ μ ρ st s){b:List gZ}(h:(a,({cls:=.type "tuple",data:=.seq b.toArray n}))∈μ.t\/Φ.a.K.lookup a=U ({cls:=.type "tuple",data:=.seq b.toArray n})):IsTup s.heap a b.toArray:=⟨_,h.elim (λh=>(D.N.t _ h).1) λh=>D.N.aU _ _ h,rfl,n,rfl⟩
theorem tq(e:U x=U b)(h:Q (.bool b) st):Q (.bool x) st:=ia e▸h
theorem LF(D:Dy Φ μ ρ st s)(a:CQ i j o=U b)(h:Q (.bool b) st):g0 Φ.q A (n2 (lp o) (.int i t)<|.int j u) (PE Φ ρ μ Q) E s:=by
 induction o<;>first|exact hu a|skip
 .exact P.eq_int<|.mk (tq a h) (.bool _) D
 .exact P.ne_int<|.mk (tq a h) (.bool _) D
 .exact P.lt_int<|.mk (tq a h) (.bool _) D
 .exact P.le_int<|.mk (tq a h) (.bool _) D
 .exact P.gt_int<|.mk (tq a h) (.bool _) D
 .exact P.ge_int<|.mk (tq a h) (.bool _) D
theorem DK(i j):((S i).cps.toList==(S j).cps.toList)=hm i j:=by rw[tL,Bool.eq_iff_iff];simp[Ly]
theorem DL(h:yM i j n=U b):∃c,i=[c]/\U (bif n then !kK c j else kK c j)=U b:=by induction i with|nil=>exact hu h|cons c r=>induction r with|nil=>exact h9 c O (by induction n<;>exact h)|cons=>exact hu h
theorem LG(D:Dy Φ μ ρ st s)(a:CR i j o=U b)(h:Q (.bool b) st):g0 Φ.q A (n2 (lp o) (.str (S i) t)<|.str (S j) u) (PE Φ ρ μ Q) E s:=by
 induction o<;>first|exact hu a|skip
 .exact P.eq_str<|.mk (by rw[DK];exact tq a h) (.bool _) D
 .exact P.ne_str<|.mk (by unfold bne;rw[DK];exact tq a h) (.bool _) D
 .exact P.le_str<|.mk (by rw[show(!decide _)=pF i j by rw[DI];exact congrArg _<|decide_eq_decide.mpr Iff.rfl];exact tq a h) (.bool _) D
 .exact g6 (DL (n:=g) a) λc e q=>by rw[e];exact P.in_str<|.mk (by rw[I',<-DG];exact tq q h) (.bool _) D
 .exact g6 (DL (n:=H) a) λc e q=>by rw[e];exact P.notIn_str<|.mk (by rw[I',<-DG];exact tq q h) (.bool _) D
end
end
section
open PySem PySem.W PySem.Calls PyProof.Rows
structure DM (l:List g2):Prop where
 b8:l.Nodup
 fL:∀x∈l,x.length<l.length
theorem zi(G:Gl)(k):(∃x,G.bJ[k]?=U x/\G.Y k=x)\/(G.bJ.length<=k/\G.Y k=⟨xw k 0⟩):=by unfold Gl.Y;induction h:G.bJ[k]? with|some x=>exact .inl ⟨x,rfl,rfl⟩|none=>exact .inr ⟨J3.mp h,rfl⟩
theorem tM(k):(⟨xw k 0⟩:g2).length=k:=by show(xw k 0).size=k;simp
theorem LH{G:Gl}(e:DM G.bJ)(k k')(h:G.Y k=G.Y k'):k=k':=by
 rcases zi G k with⟨x,c,a⟩|⟨c,a⟩<;>rcases zi G k' with⟨y,d,b⟩|⟨d,b⟩
 .rw[a,b]at h;subst h;exact tJ e.b8 c d
 .haveI:=e.fL x<|k_ c;rw[a,b]at h;rw[h,tM]at this;lia
 .haveI:=e.fL y<|k_ d;rw[a,b]at h;rw[<-h,tM]at this;lia
 .rw[a,b]at h;haveI:=congrArg g2.length h;rwa [tM,tM]at this
noncomputable def r3(l:List g2)(x:g2):Bool:=!l.contains x&&decide (x.length<l.length)
theorem DN{G:Gl}(h:r3 G.bJ x=H)(k):G.Y k≠x:=by
 rw[iG]at h;rcases zi G k with⟨y,a,b⟩|⟨a,b⟩
 .rw[b];intro q;clear zz3 q a;haveI:=k_ a;simp[this]at h
 .intro q;rw[b]at q;haveI:=congrArg g2.length q;rw[tM]at this;lia
noncomputable def oR(K:iY)(D:Nat):Bool:=iB K (.ref D) "__getattribute__"==U (U (.builtin "object.__getattribute__"))&&iB K (.ref D) "__getattr__"==U V&&nb K D
 &&iB K (.ref D) "__setattr__"==U (U (.builtin "object.__setattr__"))&&xD K D&&iB K (.ref D) "__bool__"==U V&&iB K (.ref D) "__len__"==U V
noncomputable def qZ(K:iY)(D:Nat)(x:g2):Bool:=(iB K (.ref D) x).any (noGet K)&&qr K D x==U V
noncomputable def zj(K:iY)(D:Nat)(x:g2)(v:gZ):Bool:=iB K (.ref D) x==U (U v)&&uU K v "__get__"==U V&&qp v&&!BJ.contains x
noncomputable def DO(v:gZ):CFound->Bool| .val u=>u==v|_=>g
theorem LI(h:DO v c=H):c=.val v:=by cases c<;>first|exact ff h|exact congrArg _<|beq_iff_eq.mp h
noncomputable def zk(K:iY)(D:Nat)(x:g2)(v:gZ):Bool:=readsIn K D (.type "type")&&(findCls K (.ref D) (.type "type") x).any (DO v)&&qp v
noncomputable def pQ(K:iY)(D f:Nat)(x:g2):Bool:=iB K (.ref D) x==U (U (.ref f))&&isFn K (.ref f)&&fnIn K f&&uU K (.ref f) "__get__"==U (U (.builtin "function.__get__"))&&takesIn K (.ref f)==U g&&!BJ.contains x
noncomputable def DP:gZ->Bool| .ref _=>H|_=>g
theorem LJ(h:DP v=H):∃c,v=.ref c:=by induction v<;>first|exact⟨_,rfl⟩|cases h
noncomputable def oS:List gZ->Bool|[]=>g|v::r=>(v::r==[.type "Exception",.type "BaseException",.type "object"])||(DP v&&oS r)
theorem DQ{P:List _->Prop}(d:P [.type "Exception",.type "BaseException",.type "object"])(f:∀c r,P r->P (.ref c::r))(l):oS l=H->P l:=l.rec nofun λv r i h=>(sN.mp h).elim (λe=>(eq_of_beq e).symm▸d) λe=>hn ((iG _ _).mp e) λa b=>hz (LJ a) λc e=>e.symm▸f c r (i b)
theorem tN(l)(h:oS l=H):l.contains (.type "object")=H/\l.contains (.type "Exception")=H/\l.contains (.type "BaseException")=H/\l.contains (.type "AttributeError")=g/\l.contains (.type "NameError")=false:=by
 refine DQ (P:=λl=>l.contains _=H/\l.contains _=H/\l.contains _=H/\l.contains _=g/\l.contains _=g) ?_ ?_ l h;.decide+kernel
 .rintro c r ⟨a,b,d,e,f⟩
  simp only[List.contains_cons,a,b,d,e,f,xE,Bool.or_false];exact nH trivial trivial trivial O O
theorem DR{K}{cd}(h:oE K C=U cd):∃c dd sl,K.lookup C=U ⟨c,dd,.cls cd,sl⟩:=by unfold oE at h;induction e:K.lookup C with|none=>rw[e]at h;exact hu h|some o=>rw[e]at h;obtain⟨c,dd,x,sl⟩:=o;cases x<;>first|exact hu h|exact ia h▸⟨c,dd,sl,rfl⟩
noncomputable def q0(K:iY)(C:lY):Bool:=(oE K C).any λcd=>oS cd.mro
noncomputable def vF(K:iY)(D:Nat):Bool:=q0 K D&&nb K D&&iB K (.ref D) "__getattribute__"==U (U (.builtin "BaseException.__getattribute__"))&&iB K (.ref D) "__getattr__"==U V&&iB K (.ref D) "__setattr__"==U (U (.builtin "object.__setattr__"))
theorem zl{K}(h:vF K D=H):q0 K D=H/\nb K D=H/\iB K (.ref D) "__getattribute__"=U (U<|.builtin "BaseException.__getattribute__")/\iB K (.ref D) "__getattr__"=U V/\iB K (.ref D) "__setattr__"=U (U<|.builtin "object.__setattr__"):=by unfold vF at h;simp only[iG,beq_iff_eq]at h;refine kf λi=>hn h λf e=>hn f λf d=>?_;obtain⟨⟨a,b⟩,c⟩:=f;exact i<|nH a b c d e
theorem DT{K}{D:Nat}(h:q0 K D=H):nE K D (.type "BaseException")=U true:=by refine g6 (qt h) λcd hc a=>?_;unfold nE;rw[hc,Ja,if_neg (by rw[(by induction q:cd.mro with|nil=>rw[q]at a;cases a|cons _ _=>rfl:cd.mro.isEmpty=g)];decide),(tN _ a).2.2.1]
section
open Builtin Builtin.ObjectAttr
variable{ai:m8}{w:iI}{A:ix}{E:gZ->hb->Prop}{s:hb}{K:iY}{x C:lY}{ox:iT}{od:Option iT}{name:g2}{aH:Bool}{Q:gZ->hb->Prop}
theorem LK(X:K.In s.heap)(I:InstAt s.heap x ox C od)(b:iB K (.ref C) "__getattribute__"=U (U<|.builtin "BaseException.__getattribute__"))(c:iB K (.ref C) "__getattr__"=U V)(j:nE K C (.type "BaseException")=U H)(k:findObj K C od name=U (.value v)) (l:qp v=H) (h:Q v {s with toks:=s.toks+1}):g0 (ii ai w) A (ph (.ref x) name aH) Q E s:=by obtain⟨hp,aM,d,t,os⟩:=s;haveI a:=I.type (M:=ii ai w);haveI e:=qu (M:=ii ai w) X b;haveI f:=qu (M:=ii ai w) X c;haveI i:=looks_find (M:=ii ai w) X I k;haveI m:=(F.attrBase_Exception).ga.bind<|.ref x;refine hk<|BK<|nc (hk (a.at (hk (e.at ?_))));refine hk<|f.at<|hk<|wpAny_attempt<|nc ?_;unfold callGetattribute;rw[show(aH&&onTheHeap _)=g by induction aH<;>rfl];refine oF<|Jb (F.attrBase_Exception).ga.plain F.entry_bexc_ga<|@check_slot _ _ _ _ _ _ "__getattribute__" _ _ _ _ (by decide+kernel) (by decide+kernel) (a.andThen<|uV X j) (F.args_bexc_ga _ _)<|hk<|ib<|hk (ib (hk (a.at (hk (i.at ?_)))));refine ib ?_;show g0 _ _ (handedOut v) _ _ _;rw[handedOut_of l];exact ib h
end
noncomputable def vG(K:iY)(a D:Nat)(b:Bool):Bool:=if b then isIn K (.ref a) D else
 kin_not K a D&&plainGet K a "__class__"&&nb K a&&iB K (.ref a) "__class__"==U (U (.builtin "object.__class__"))&&
 uU K (.builtin "object.__class__") "__get__"==U (U (.builtin "getset_descriptor.__get__"))&&takesIn K (.builtin "object.__class__")==U H&&nE K a (.type "object")==U H
structure Gl.y (G:Gl):Prop where
 eh:∀h:je,G.K.In h->h.NoLimit
 bn:2<=G.b1
 b7:∀h:je,G.K.In h->h.Ns pi G.c5
 cc:∀h:je,G.K.In h->h.Ns uW G.dV
 fM:DM G.bJ
 cls:∀D,(D=G.T.a6\/(G.T.cj D).isSome=H)->oR G.K D=H
 ei:∀D ks k,((D=G.T.a6/\k<G.bJ.length)\/(G.T.cj D=U ks/\k∈ks))->qZ G.K D (G.Y k)=H
 eF:∀D ks,G.T.cr D=U ks->vF G.K D=H/\∀k∈ks,qZ G.K D (G.Y k)=H
 bN:∀C D,(G.T.cr C).isSome=H->(G.T.cr D).isSome=H->nE G.K C (.ref D)=U (G.T.sub C D)
 cat:∀D k a,G.T.br D k=U a->∃v,(∀μ,RelV G μ v a)/\zj G.K D (G.Y k) v=H/\zk G.K D (G.Y k) v=H
 eU:∀D d,G.T.dN D=U d->D≠1/\∃b e,(∀h:je,G.K.In h->h.DictAt (strKind G.prog G.w) D b e)/\(∀μ,jR G μ S b d)/\∀p∈d,p.1.length<=1000000
 fN:∀c D,(G.T.cj c).isSome=H->G.T.eT D=H->vG G.K c D (G.T.sub c D)=H
theorem Gl.y.inj{G:Gl}(a:G.y)(k k')(h:G.Y k=G.Y k'):k=k':=LH a.fM k k' h
section
variable{Φ:Fm}{μ:Mu}{ρ:Loc}{st:St}{s:hb}{Q:AV->St->Prop}{E:gZ->hb->Prop}{A:ix}
theorem DU:j5 x (x::ks) (v::a)=U v:=by dsimp only[CH];rw[BF];rfl
theorem zm{k x:Nat}(q:jn k x=g):j5 k (x::ks) (v::a)=j5 k ks a:=by rw[CH,q];rfl
theorem bq(k x:Nat):k=x\/jn k x=false:=(Classical.em _).imp id λn=>BH.mpr λh=>n<|oA h
theorem DV{ks}:∀{b},j5 k ks b=U a->k∈ks:=ks.rec (motive:=λks=>∀{b},j5 k ks b=U a->k∈ks) (hu) λx ks c b=>b.casesOn (hu) λv b h=>(bq k x).elim (λe=>by clear zz3 e;exact .head _) λq=>.tail _<|c<|(zm q).symm.trans h
theorem LL:kQ x (⟨h,.str x t,v⟩::a)=U (U v):=by unfold kQ;rw[Jc (by simp[gZ.isStr])]
theorem zo(n:y≠x):kQ x (⟨h,.str y t,v⟩::a)=kQ x a:=by unfold kQ;rw[Jd (by simp[gZ.isStr,n])];rfl
theorem zp(a:Φ.a.y){k x:Nat}(q:jn k x=g):Φ.a.Y x≠Φ.a.Y k:=λz=>Bz q (a.inj _ _ z).symm
theorem vH(i:Φ.a.y)(h:iE Φ.a μ c ks d):j5 k ks d=U a->∃v,kQ (Φ.a.Y k) c=U (U v)/\RelV Φ.a μ v a:=iE.M (C:=λc ks d=>j5 k ks d=U a->∃v,kQ _ c=U (U v)/\RelV _ μ v a) (hu) (λ{x t v b c ks as} r _ f h=>(bq k x).elim (λe=>by clear zz3 e h;exact h9 v LL (ia (DU.symm.trans h)▸r)) λq=>(zo<|zp i q).symm▸f ((zm q).symm.trans h)) h
theorem zq(r:RelV Φ.a μ v a):qp v=true:=r.casesOn O (λb=>rfl) (λb b=>rfl) (λb b b=>rfl) (λb h=>h) (λb b b=>rfl) (λb b b b=>rfl) (λb b b b=>rfl) (λb b=>rfl) (λb=>rfl) λb b=>rfl
theorem DW(h:∀k,Φ.a.Y k≠x){ks}{c}(k:iE Φ.a μ a ks c):kQ x a=U none:=iE.M (C:=λa b b=>kQ x a=U _) O (λb b=>(zo<|h _).trans) k
theorem DX(i:Φ.a.y)(h:iE Φ.a μ a ks c):j5 k ks c=V->kQ (Φ.a.Y k) a=U none:=iE.M (C:=λa ks c=>j5 k ks c=V->kQ _ a=U _) (λf=>rfl) (λ{x t v b a ks as} _ _ d h=>(bq k x).elim (λe=>by subst e;cases DU.symm.trans h) λq=>(zo<|zp i q).trans<|d<|(zm q).symm.trans h) h
theorem r4{K}(h:oR K D=H):iB K (.ref D) "__getattribute__"=U (U<|.builtin "object.__getattribute__")/\iB K (.ref D) "__getattr__"=U V/\nb K D=H/\iB K (.ref D) "__setattr__"=U (U<|.builtin "object.__setattr__")/\xD K D=true:=by unfold oR at h;simp only[iG,beq_iff_eq]at h;exact kf λc=>hn h λb d=>hn b λa d=>c<|nH (a.1.1.1.1) (a.1.1.1.2) (a.1.1.2) (a.1.2) (a.2)
theorem DY{K}(h:oR K D=H):iB K (.ref D) "__bool__"=U V/\iB K (.ref D) "__len__"=U none:=by unfold oR at h;simp only[iG,beq_iff_eq]at h;exact⟨h.1.2,h.2⟩
theorem tO{K}(h:qZ K D x=H):(∃a,iB K (.ref D) x=U a/\noGet K a=H)/\qr K D x=U none:=by rw[iG]at h;exact⟨qt h.1,beq_iff_eq.mp h.2⟩
theorem LM(t:Φ.a.y)(D:Dy Φ μ ρ st s){x b k:Nat}{e}{n}{ks}{i}(I:InstAt s.heap x ox b<|U<|i4 e n)(r:iE Φ.a μ e ks i) (q:j5 k ks i=U a) (c:iB Φ.a.K (.ref b) "__getattribute__"=U (U<|.builtin "object.__getattribute__")) (hd:nb Φ.a.K b=H) (p:(iB Φ.a.K (.ref b)<|Φ.a.Y k).any (noGet Φ.a.K)=H)(h:Q a st):g0 Φ.q A (ph (.ref x) (Φ.a.Y k) aH) (PE Φ ρ μ Q) E s:=kf λo=>g6 (vH t r q) λv m f=>g6 (qt p) λd j l=>o<|get_value D.N.aU I c (BL hd j l m) (zq f)<|.mk h f<|D.toks _
theorem LN(J:Φ.a.y)(D:Dy Φ μ ρ st s){x c k:Nat}(I:InstAt s.heap x ox c<|U<|i4 m n)(t:iE Φ.a μ m ks z) (f:j5 k ks z=U a) (y:Φ.a.T.cr c=U ks) (h:Q a st):g0 Φ.q A (ph (.ref x) (Φ.a.Y k) aH) (PE Φ ρ μ Q) E s:=kf λr=>g6 (vH J t f) λv q e=>hn (J.eF c ks y) λj l=>l3 (zl j) λc1 c2 c3 i B=>hn (tO<|l k<|DV f) λb G=>g6 b λd o p=>r<|LK D.N.aU I c3 i (DT c1) (BL c2 o p q) (zq e)<|.mk h e<|D.toks _
theorem LO(t:Φ.a.y)(D:Dy Φ μ ρ st s){x d k:Nat}(I:InstAt s.heap x ox d<|U<|i4 j n)(p:iE Φ.a μ j ks q) (o:j5 k ks q=V) (f:iB Φ.a.K (.ref d) "__getattribute__"=U (U<|.builtin "object.__getattribute__")) (hd:nb Φ.a.K d=H) (hc:Φ.a.T.br d k=U a) (h:Q a st):g0 Φ.q A (ph (.ref x) (Φ.a.Y k) aH) (PE Φ ρ μ Q) E s:=by refine kf λm=>jj (t.cat d k a hc) λv l e r=>?_;unfold zj at e;simp only[iG,beq_iff_eq,rx]at e;refine hn e λb i=>hn b λc c3=>?_;obtain⟨c1,c2⟩:=c;exact m<|get_value D.N.aU I f (findObj_cls hd c1 c2 c3 i<|DX t p o) c3<|.mk h (l μ)<|D.toks _
theorem LP(l:Φ.a.y)(D:Dy Φ μ ρ st s)(hc:Φ.a.T.br e k=U a)(h:Q a st):g0 Φ.q A (ph (.ref e) (Φ.a.Y k) aH) (PE Φ ρ μ Q) E s:=by refine kf λi=>jj (l.cat e k a hc) λv f j d=>?_;unfold zk at d;simp only[iG]at d;exact hn d λb c3=>hn b λc1 c2=>i<|cls_value D.N.aU c1 (g6 (qt c2) λc q h=>q.trans<|congrArg _<|LI h) c3<|.mk h (f μ)<|D.toks _
end
end
section
open PySem PySem.W PySem.Calls PyProof.Rows
noncomputable def Fl(Sl:List Nat)(F:Nat->Prop)(h h':je):Prop:=h.objs.size<=h'.objs.size/\∀(b:Nat) o,h.get? b=U o->∃a,h'.get? b=U a/\a.cls=o.cls/\a.dict=o.dict/\ ((∃d c,o.data=.fields d/\a.data=.fields c)\/a.data=o.data)/\(b∉Sl->¬F b->a=o)
theorem Fl.trans(x:Fl Sl F a b)(y:Fl Sl F b c):Fl Sl F a c:=by
 refine⟨f2 x.1 y.1,λk o e=>?_⟩;refine kf λd=>lJ (x.2 k o e) λD t c1 d1 z B=>lJ (y.2 k D t) λG w c2 r j C=>d<|rR G w (c2.trans c1) (r.trans d1) ?_ λl f=>(C l f).trans<|B l f;exists d;rcases z with⟨m,h,p,q⟩|p
 .rcases j with⟨n,i,p2,f⟩|p2
  .exact d<|.inl ⟨m,_,p,f⟩
  .exact d<|.inl ⟨m,h,p,p2.trans q⟩
 .rcases j with⟨n,i,p2,f⟩|p2
  .exact d<|.inl ⟨n,_,p▸p2,f⟩
  .exact d<|.inr<|p2.trans p
theorem Fl.keeps(a:h.objs.size<=h'.objs.size)(k:∀b o,h.get? b=U o->h'.get? b=U o):Fl Sl F h h':=⟨a,λb o e=>⟨o,k b o e,rfl,rfl,.inr O,λc c=>rfl⟩⟩
theorem Fl.slots{Sl:List Nat}{h h'}(x:je.SlotsOnly Sl h h'):Fl Sl F h h':=by refine⟨jh x.1.symm,λb o e=>?_⟩;exact hz (x.2.2 b o e) λsl a=>rR _ a O O (.inr O) λq c=>ia<|a.symm.trans ((x.2.1 b q).trans e)
theorem Fl.field{a:Nat}(f)(c:h.get? a=U o)(hd:o.data=.fields k)(hF:F a):Fl Sl F h<|h.update a<|BM f:=by
 refine⟨jh (BN ..).symm,λb j e=>?_⟩;by_cases q:b=a;.subst q;rw[c]at e;cases e;have d:=BO hd f;exact⟨_,sO _ c<|BP d,iT.cls_mapFields _ _,by induction o;cases hd;rfl,.inl ⟨_,_,hd,d⟩,λi=>absurd hF⟩
 .exact rR j ((xF _ _<|Ne.symm q).trans e) O O (.inr O) λi i=>rfl
theorem Fl.fields(x:Fl Sl F h h'){b:Nat}{o}(k:h.get? b=U o)(d:∀a,o.data≠ .fields a):∃c,h'.get? b=U c/\∀a,c.data≠ .fields a:=by
 refine kf λj=>lJ (x.2 b o k) λc e i i f i=>?_;rcases f with⟨a,_,p,_⟩|p
 .exact absurd p<|d a
 .exact j<|h9 c e λa q=>d a (p▸q)
noncomputable def oi(h:je)(l:List jL):Prop:=∀ac∈l,ac.scope.kind≠ .module/\∃L o,ac.frame=U L/\h.get? L=U o/\∀a,o.data≠ .fields a
theorem oi.fun(x:oi h l):h.FunFrames ({}) l:=by induction l with|nil=>trivial|cons ac r i=>exists d;obtain⟨k,L,o,a,b,c⟩:=x _<|.head _;exact d<|lI k ⟨L,o,a,rfl,b,c⟩<|i λe f=>x e<|.tail _ f
theorem oi.J(x:oi h l)(y:Fl Sl F h h'):oi h' l:=λac i=>by exists f;obtain⟨k,L,o,a,b,c⟩:=x _ i;obtain⟨j,d,e⟩:=y.fields b c;exact f ⟨k,L,j,a,d,e⟩
noncomputable def jG(l:List jL):List Nat:=l.filterMap (·.frame)
noncomputable def nL(N:Nat->Prop)(d:gZ)(h:je)(e:Nat):Prop:=∃a c T oT b,h.get? e=U a/\a.data=.fields c/\c[1]?=U (.ref T)/\N T/\T≠e/\h.get? T=U oT/\oT.data=.fields b/\b[3]?=U d
noncomputable def LQ(h:je)(e:Nat):Prop:=∃a b,h.get? e=U a/\a.data=.fields b/\b[1]?=U .none
noncomputable def vJ(N:Nat->Prop)(a:gZ)(h:je)(e:Nat):Prop:=LQ h e\/nL N .none h e\/nL N a h e
theorem nL.aR(k:∀b,N b->c b)(x:nL N d h e):nL c d h e:=jO x λm o a=>lh a λT oT n f i j a=>hn a λl r=>⟨m,o,T,oT,n,f,i,j,k _ l,r⟩
section
variable{M:nD}{A:ix}{E:gZ->hb->Prop}{s:hb}
theorem DZ{L e:Nat}(r:A.frames=U (ac::i)) (hl:oi s.heap (ac::i)) (B:ac.frame=U L) (z:s.heap.get? e=U w) (hd:w.data=.fields C) (n:1<C.size) (hN:∀b,s.heap.objs.size<=b->N b)(h:∀h',Fl (jG (ac::i)) (λb=>b=e\/N b) s.heap h'->nL N (lE L) h' e->Q () {s with heap:=h'}):g0 M A (do let a <-frameOf ac;let y <-entryPlaceOf L m;let b <-EntryCells.newEntry x a .none (lE L) .none y;setField (.ref e) 1 b) Q E s:=by
 refine hk<|wpAny_frameOf_fun r hl.fun B λc f=>?_;haveI p:Fl _ (λb=>b=e\/N b) s.heap c:=Fl.slots f;refine hz (f.2.2 e w z) λsl k=>hk<|wpAny_entryPlaceOf λy t=>hk<|wpAny_newObj_type ?_<|t.sizeOk5 _ _ _ _ _;generalize hT:({cls:=.type _,dict:=V,data:=.fields _}:iT)=oT;haveI q:oT.isFreed=false:=by rw[<-hT];rfl
 haveI d:=jw oT k;haveI l:=iP<|ih k;haveI j:=BO (o:={w with slots:=sl}) hd (·.setIfInBounds 1<|kJ c.objs.size);refine BQ d hd n<|h _ ((p.trans<|Fl.keeps (by rw[kI];exact jo _) λb o=>jw _).trans (Fl.field (Sl:=jG (ac::i)) (F:=λb=>b=e\/N b) (·.setIfInBounds 1<|kJ c.objs.size) d hd<|.inl O)) ⟨_,_,_,_,_,(sO (BM (·.setIfInBounds 1 _)) d<|BP j),j,by simp[n],(hN _<|jh f.1.symm),l,((xF _ (BM (·.setIfInBounds 1<|kJ c.objs.size))<|Ne.symm l).trans<|m_ c q),(by rw[<-hT]),?_⟩;simp
theorem zr{L e:Nat}(k:A.frames=U (ac::a)) (hl:oi s.heap (ac::a)) (m:ac.frame=U L) (w:vJ N (lE L) s.heap e) (hN:∀b,s.heap.objs.size<=b->N b)(h:∀h',Fl (jG (ac::a)) (λb=>b=e\/N b) s.heap h'->nL N (lE L) h' e->Q () {s with heap:=h'}):g0 M A (noteFrame (.ref e) ac) Q E s:=by
 unfold noteFrame;simp only[m];exists l;rcases w with⟨o,p,f,hd,d⟩|⟨o,p,T,oT,t,f,hd,d,n,i,hT,c,j⟩|⟨o,p,T,oT,t,f,hd,d,n,i,hT,c,j⟩
 .exact l<|hk<|ry f hd d<|DZ k hl m f hd (uX.mp d).1 hN h
 .refine l<|hk<|ry f hd d<|hk<|ry hT c j<|hk<|BQ hT c (uX.mp j).1 ?_;have r:=Fl.field (Sl:=jG (ac::a)) (F:=λb=>b=e\/N b) (·.setIfInBounds 3 xG) hT c<|.inr n;exact DZ k (hl.J r) m ((xF _ _ i).trans f) hd (uX.mp d).1 (λb q=>hN b (by rw[BN]at q;exact q)) λh' x=>h h'<|r.trans x
 .refine l<|hk<|ry f hd d<|hk<|ry hT c j ?_;rw[if_pos (show(lE L==lE L)=H from by simp)];exact ib<|h _ (Fl.keeps (hJ _) λy y q=>q) ⟨o,p,T,oT,t,f,hd,d,n,i,hT,c,j⟩
theorem vK(n:nL N q s.heap e)(h:∀h',Fl Sl (λb=>b=e\/N b) s.heap h'->nL N (f.elim xG λf=>lE f) h' e->Q () {s with heap:=h'}):g0 M A (setFlight (.ref e) f) Q E s:=by exists m;obtain⟨o,p,T,oT,r,j,hd,i,k,c,hT,a,l⟩:=n;refine m<|hk<|ry j hd i ?_;haveI hl:=(uX.mp l).1;haveI d:=BO a (·.setIfInBounds 3<|f.elim xG λf=>lE f);refine BQ hT a hl<|h _ (Fl.field _ hT a<|.inr k) ⟨o,p,T,_,_,(xF _ _ c).trans j,hd,i,k,c,sO _ hT<|BP d,d,?_⟩;rw[Array.getElem?_setIfInBounds_self_of_lt hl]
theorem LS{L e:Nat}(c:A.frames=U (ac::a)) (hl:oi s.heap (ac::a)) (k:ac.frame=U L) (l:vJ N (lE L) s.heap e) (hN:∀b,s.heap.objs.size<=b->N b)(h:∀h',Fl (jG (ac::a)) (λb=>b=e\/N b) s.heap h'->nL N .none h' e->Q () {s with heap:=h'}):g0 M A (leaving ac<|.ref e) Q E s:=hk<|zr c hl k l hN λh' f d=>vK d λj i=>h _<|f.trans i
end
end
section
open PySem PySem.W PySem.Calls PyProof.Rows
noncomputable def nM(A:ix)(d:Nat):Prop:=A.depth+d<900/\A.units+8*d<9000
theorem nM.deeper(R:nM A (d+1))(ac):nM (A.deeper ac) d:=hn R λa b=>⟨(n3 (jh<|iZ _ 1 d) a),(n3 (f2 (jh<|iZ _ 3 _)<|iU (by decide:3<=8) _) b)⟩
noncomputable def vL(G:Gl)(h:je)(μ:Mu)(a:List jL):Prop:=∀ac∈a,ac.scope.kind≠ .module/\∃(L:Nat) (o:iT),ac.frame=U L/\h.get? L=U o/\(∀b,o.data≠ .fields b)/\G.b1<=L/\¬h_ μ L/\∀p∈μ.t,p.1≠L
structure Px (G:Gl)(f:je)(c:Mu)(k:List jL)(j:gZ)(X:hv->St->Prop)(e:Nat)(μ:Mu)(st:St)(x:hv)(s:hb):Prop where
 c_:X x st
 ext:h1 c μ
 N:Inv G μ st s.heap
 cw:∃d i n ks,(e,x.b_,d)∈μ.bN/\(d,i4 i n)∈μ.t/\G.T.cr x.b_=U ks/\iE G μ i ks x.dM
 new:f.objs.size<=e
 eG:vJ (λb=>f.objs.size<=b/\¬h_ μ b/\∀p∈μ.t,p.1≠b) j s.heap e
 bv:∀(a:Nat) o,f.get? a=U o->¬h_ c a->∃h,s.heap.get? a=U h/\h.cls=o.cls/\h.dict=o.dict/\h.data=o.data/\(a∉jG k->h=o)
 a':∀a,h_ μ a->h_ c a\/f.objs.size<=a
 bg:∀p∈μ.t,p∈c.t\/f.objs.size<=p.1
structure LU (s s':hb):Prop where
 bX:s'.gens=s.gens
 bY:s'.os=s.os
 b3:s'.drawn=s.drawn
noncomputable def RC(G:Gl)(s:hb)(μ:Mu)(c:List jL)(Q:AV->St->Prop)(X:hv->St->Prop)(r:Result)(s':hb):Prop:=
 LU s s'/\match r with
 | .ok (.ret v)=>∃af a ae,Q a ae/\h1 μ af/\RelV G af v a/\Inv G af ae s'.heap/\(∀(b:Nat) o,s.heap.get? b=U o->¬h_ μ b->s'.heap.get? b=U o)/\
  (∀b,h_ af b->h_ μ b\/s.heap.objs.size<=b)/\(∀p∈af.t,p∈μ.t\/s.heap.objs.size<=p.1)
 | .error v=>∃e af ae x,v=.ref e/\Px G s.heap μ c .none X e af ae x s'|_=>False
noncomputable def D0(o:iT):Option kR:=match o.data with| .func a=>U a|_=>V
noncomputable def kn(G:Gl)(f:Nat):Option kR:=(G.K.lookup f).bind D0
theorem r5(h:kn G f=U a):∃o,G.K.lookup f=U o/\o.data=.func a:=by refine g6 (sL.mp h) λo e h=>h9 o e ?_;obtain⟨c,d,x,sl⟩:=o;cases x<;>first|exact hu h|exact congrArg _<|ia h
noncomputable def it(a:kR):List g2:=a.params.args.map (·.arg)
noncomputable def iN(G:Gl)(d:Nat):PC:=λf args st Q X=>∀(A:ix) (s:hb) (μ:Mu) (b:List gZ) (e:List jL) (a:Args) (c:kR),nM A d->A.frames=U e->(A.handled=V\/G.quiet f=H)->vL G s.heap μ e->Inv G μ st s.heap->hZ G μ b args->kn G f=U c->rA s c a ((it c).zip b)->la (ii G.prog G.w) A (.call (.ref f) a) (RC G s μ e Q X) s
theorem Inv.J{st}(I:Inv G μ st h)(y:Fl Sl F h h')(hS:∀b∈Sl,G.b1<=b/\¬h_ μ b/\∀p∈μ.t,p.1≠b)(hF:∀b,F b->G.b1<=b/\(¬h_ μ b\/∃D d,(b,D,d)∈μ.bN)/\∀p∈μ.t,p.1≠b):Inv G μ st h':=by
 have k:∀(a:Nat) o,h.get? a=U o->a∉Sl->¬F a->h'.get? a=U o:=λa o e au av=>by refine lJ (y.2 a o e) λs J w w w z=>?_;rw[J,z au av]
 have C:=λa m q=>(hS a q).2.1 m;have B:∀a,h_ μ a->(∀D d,(a,D,d)∉μ.bN)->¬F a:=λa m n q=>by
  rcases(hF a q).2.1 with z|⟨D,d,z⟩
  .exact z m
  .exact n D d z
 refine⟨λa o e=>k a o (I.aU a o e) (λq=>(jI _<|hD (I.cu a o e) (hS a q).1)) λq=>(jI _<|hD (I.cu a o e) (hF a q).1),I.cu,λp hp=>⟨k _ _ (I.t p hp).1 (λq=>(hS _ q).2.2 p hp O) λq=>(hF _ q).2.2 p hp O,(I.t p hp).2⟩,λY t e=>?_,I.cA,λm c e=>?_,I.cg,λa D d e=>?_,λa e=>⟨(I.bu a e).1,hD (I.bu a e).2 y.1⟩,I.inj,I.bf,I.c7,I.cv,I.bR,I.c8,f2 I.bn y.1⟩;.refine kf λf=>jr (I.cU Y t e) λx l L n i j Q T=>?_;haveI m:h_ μ l:=.inl ⟨x,i⟩;exact f ⟨x,l,L,n,i,j,k _ _ Q (C _ m)<|B _ m λD d=>I.c7 x l D d i,T⟩
 .refine kf λf=>g6 (I.cp m c e) λa r hc=>?_;haveI E:h_ μ a:=.inr<|.inl ⟨m,r⟩;exact f<|h9 a r<|hc.dj λo e=>k a o e (C _ E)<|B _ E λD d=>I.cv m a D d r
 .refine kf λf=>mq (I.cO a D d e) λo t i c1 d1 M=>lJ (y.2 a o i) λs j c2 A N w=>?_;rcases N with⟨_,aN,_,z⟩|z
  .exact f<|to s _ j (c2.trans c1) (A.trans d1) z
  .exact f<|to s t j (c2.trans c1) (A.trans d1)<|z.trans M
theorem tP:∀{a:List g2} {c} {i:Nat} {x} {v:gZ},a.Nodup->a[i]?=U x->c[i]?=U v->(a.zip c).reverse.lookup x=U v:=by
 intro a c i x v m k h;haveI d:(x,v)∈(a.zip _).reverse:=by rw[Je];refine k_ (i:=i) ?_;rw[BR];exact⟨k,h⟩
 haveI b:∀u,(x,u)∈(a.zip c).reverse->u=v:=λu f=>by rw[Je]at f;refine hz (Jf f) λj e=>?_;rw[BR]at e;haveI:=tJ m e.1 k;subst this;rw[h]at e;exact(ia e.2).symm
 generalize (a.zip _).reverse=l at d b;induction l with
 |nil=>exists o;cases d
 |cons p r n=>
  obtain⟨y,u⟩:=p;by_cases q:x=y;.clear zz3 q b;rw[b u<|.head _];simp[n4]
  .haveI:(x==y)=false:=by simpa using q
   rw[n4,this];refine n ?_ λu f=>b u<|.tail _ f;rcases ir.mp d with z|z
   .exact absurd (congrArg xH z) q
   .exact z
theorem oU{i:Nat}{a}(h:hZ G μ b args):args[i]?=U a->∃v,b[i]?=U v/\RelV G μ v a:=hZ.M (C:=λd as=>∀i,as[i]?=U a->∃v,d[i]?=U v/\RelV G μ v a) (λi=>hu) (λr e c i=>i.casesOn (λh=>⟨_,rfl,ia h▸r⟩) c) h i
theorem hZ.len(h:hZ G μ a args):a.length=args.length:=hZ.M (C:=λb as=>b.length=as.length) O (λc c=>congrArg _) h
end
section
open PySem PySem.W PySem.Calls PyProof.Rows
noncomputable def PS(Φ:Fm)(k:KS)(f:Flow)(s:hb):Prop:=match f with| .next=>∃μ ρ st,k.n ρ st/\Dy Φ μ ρ st s| .ret v=>∃μ ρ a st,k.aS a st/\RelV Φ.a μ v a/\Dy Φ μ ρ st s| .brk=>∃μ ρ st,k.b ρ st/\Dy Φ μ ρ st s| .cont=>False
noncomputable def LR(Φ:Fm)(μ:Mu)(ρ:Loc)(h:je):Prop:=∃m,h.Ns Φ.a2 m/\∀(i:Nat) x a,Φ.slots[i]?=U x->ρ[i]?=U (U a)->∃v,m x=U v/\RelV Φ.a μ v a
theorem LR.at(x:LR Φ μ ρ h):∃o,h.get? Φ.a2=U o/\∀b,o.data≠ .fields b:=g6 x λm a e=>oM a λo i f c d e=>h9 o c λb q=>by rw[d]at q;cases q
theorem LR.dj(x:LR Φ μ ρ h)(k:∀o,h.get? Φ.a2=U o->(∀f,o.data≠ .fields f)->∃b,h'.get? Φ.a2=U b/\b.data=o.data):LR Φ μ ρ h':=g6 x λm a r=>oM a λo j i l c n=>g6 (k o l λf q=>by rw[c]at q;cases q) λb e d=>h9 m ⟨b,j,i,e,d.trans c,n⟩ r
theorem LR.aR(E:h1 μ af)(x:LR Φ μ ρ h):LR Φ af ρ h:=g6 x λm d r=>h9 m d λi x a b c=>g6 (r i x a b c) λv k1 k2=>h9 v k1<|k2.aR E
noncomputable def PX(Φ:Fm)(ρ:Loc)(X:hv->St->Prop)(v:gZ)(s:hb):Prop:=∃e μ st x,v=.ref e/\Px Φ.a Φ.bB Φ.b4 Φ.bk (lE Φ.a2) X e μ st x s/\(s.gens=Φ.ee/\s.os=Φ.ef/\s.drawn=Φ.eg)/\¬h_ μ Φ.a2/\(∀p∈μ.t,p.1≠Φ.a2)/\LR Φ μ ρ s.heap
noncomputable def mw(Φ:Fm)(X:Loc->hv->St->Prop)(v:gZ)(s:hb):Prop:=∃ρ,PX Φ ρ (X ρ) v s
structure vM (G:Gl)(f:Nat)(b:kR)(a:List g2)(body:List h4):Prop where
 at_:kn G f=U b
 body:b.body=.stmts body
 kind:b.scope.kind=.function
 dk:b.scope.isCoroutine=g
 dl:b.scope.isGenerator=g
 cell:∀x∈b.scope.names,x.2≠ .cell
 j:∀x∈a,b.scope.names.lookup x=U .local
 nodup:a.Nodup
 e':∃r,a=it b++r
 b7:b.globals=pi
 cc:b.builtins=uW
 code:sP G.K b.code b.qualname=H
theorem LV(a)(L f:Nat)(x):(rB a L f).kindOf x=a.scope.names.lookup x:=rfl
noncomputable def q1(G:Gl)(A:ix)(b:kR)(f:Nat)(a:List g2)(s:hb)(μ:Mu)(c:List jL):Fm:={a:=G,C:=A.deeper (rB b s.heap.objs.size f),r:=rB b s.heap.objs.size f,slots:=a,a2:=s.heap.objs.size,bB:=s.heap,b4:=μ,ee:=s.gens,ef:=s.os,eg:=s.drawn,bk:=c}
theorem zs{st}{c}(d:G.y)(F:vM G f b a j)(hA:A.frames=U c)(l:vL G s.heap μ c)(I:Inv G μ st s.heap):
 (q1 G A b f a s μ c).y where
 kind:=F.kind
 j:=rfl
 slot:=λi x e=>(LV b _ f x).trans<|F.j x<|k_ e
 nodup:=F.nodup
 b2:=hJ _
 bn:=I.bn
 b7:=λh k=>by show h.Ns b.globals G.c5;rw[F.b7];exact d.b7 h k
 cc:=λh k=>by show h.Ns b.builtins G.dV;rw[F.cc];exact d.cc h k
 dr:=ix.frames_deeper hA
 cK:=rfl
 c9:=l
theorem q2(x:vL G h μ c)(i:b∈jG c):∃o,h.get? b=U o/\(∀k,o.data≠ .fields k)/\G.b1<=b/\¬h_ μ b/\∀p∈μ.t,p.1≠b:=by exists f;obtain⟨ac,j,a⟩:=List.mem_filterMap.mp i;obtain⟨_,L,o,d,e⟩:=x _ j;rw[d]at a;cases a;exact f ⟨o,e⟩
theorem zt(a':Φ.y)(hx:PX Φ ρ X v s)(aP:∀a,a∈jG Φ.bk->a<Φ.bB.objs.size)(h:∀h' e μ st x,v=.ref e->Px Φ.a Φ.bB Φ.b4 Φ.bk .none X e μ st x {s with heap:=h'}->(s.gens=Φ.ee/\s.os=Φ.ef/\s.drawn=Φ.eg)->Q () {s with heap:=h'}):g0 Φ.q Φ.C (leaving Φ.r v) Q E s:=by
 refine kf λf=>jr hx λe μ st x t P hg a7=>ju a7 λlx lf lr=>?_;clear hx;subst t;refine g6 lr.at λa2 hL aY=>?_;haveI w:=a'.c9;haveI low:∀b,b∈jG _->Φ.a.b1<=b/\¬h_ μ b/\∀p∈μ.t,p.1≠b:=λb c=>by
  refine kf λf=>lJ (q2 w c) λo y A B aO N=>f ⟨B,λm=>?_,λp hp q=>?_⟩
  .exists f;rcases P.a' b m with z|z
   .exact aO z
   .exact absurd (aP b c)<|jE.mpr z
  .exists f;rcases P.bg p hp with z|z
   .exact N p z q
   .exact absurd (aP b c)<|jE.mpr (q▸z)
 haveI M:oi _ (Φ.r::Φ.bk):=λac Y=>by
  exists f;rcases ir.mp Y with i|Y;clear zz3 i f
  .exact f ⟨by rw[a'.kind];decide,_,a2,a'.cK,hL,aY⟩
  .obtain⟨k,L,o,y,A,B,aO,N,a_⟩:=w _ Y;exact lJ (P.bv L o A N) λaS G av av I av=>f ⟨k,L,aS,y,G,λvs q=>B vs (I▸q)⟩
 haveI n1:=a'.bn;refine jr P.cw λd es n ks C aV aW aX=>?_;have aQ:h_ μ e:=.inr<|.inr ⟨_,_,C⟩;refine f<|LS a'.dr M a'.cK P.eG (λb c=>⟨f2 (f2 a'.b2<|jM<|ih hL) c,λm=>(jI _<|hD (P.N.bu b m).2 c),λp hp q=>(jI _<|hD (ih (P.N.t p hp).1) (q▸c))⟩) λh' fl tr=>h h' e μ st x O ⟨P.c_,P.ext,?_,P.cw,P.new,.inr<|.inl tr,?_,P.a',P.bg⟩ hg
 .refine P.N.J fl (λb c=>?_) λb c=>?_
  .unfold jG at c;rw[rC,a'.cK]at c;rcases ir.mp c with j|c;clear zz3 j
   .exact lI (f2 n1 a'.b2) lx lf
   .exact low b c
  .rcases c with l|⟨y,A,B⟩;clear zz3 l
   .exact lI ((P.N.bu _ aQ).1) (.inr ⟨_,_,C⟩) λp hp q=>(P.N.t p hp).2.2 (q▸aQ)
   .exact lI (f2 n1 y) (.inl A) B
 .intro a o T nm;have D:=ih T;refine lJ (P.bv a o T nm) λaZ G c1 d1 J aU=>lJ (fl.2 a aZ G) λa0 I c2 d2 aT aN=>?_;have aR:¬(a=e\/Φ.bB.objs.size<=a/\¬h_ μ a/\∀p∈μ.t,p.1≠a):=λq=>by
   rcases q with r|⟨q,_⟩;clear zz3 r D
   .exact jI _<|hD D P.new
   .exact jI _<|hD D q
  have ns:a∉jG _->a∉jG (Φ.r::Φ.bk):=λa4 au=>by
   unfold jG at au;rw[rC,a'.cK]at au;exists f;rcases ir.mp au with z|z
   .exact(iw<|hD D a'.b2) z
   .exact a4 z
  refine rR a0 I (c2.trans c1) (d2.trans d1) ?_ λq=>(aN (ns q) aR).trans<|aU q;exists f;by_cases q:a∈jG Φ.bk
  .refine jj (q2 w q) λaS y A av=>?_;rw[T]at y;cases y;rcases aT with⟨vs,_,z,_⟩|z
   .exact absurd (J▸z)<|A vs
   .exact f<|z.trans J
  .refine f ?_;rw[aN (ns q) aR];exact J
theorem LW(N:G.y){n}{c}{h6}{args}{st}{Q}{X}(F:vM G f n c h6)(aT:args.length=(it n).length)(h:∀Φ μ s,Φ.y->Φ.a=G->Φ.slots=c->nM Φ.C d->(Φ.C.handled=V\/G.quiet f=H)->Φ.r.scope=n.scope->Dy Φ μ (args.map U++jD (c.length - args.length) V) st s->g0 Φ.q Φ.C (n5 h6 Φ.r) (PS Φ ⟨λl st=>Q .none st,Q,λl l=>False,λl=>X⟩) (mw Φ λl=>X) s):iN G (d+1) f args st Q X:=by
 intro A s μ E L a au room hA hh Y I R e B;rw[F.at_]at e;exists J;cases e;refine J<|g6 (r5 F.at_) λo aO hd=>kf λJ=>hz F.e' λaj j=>J<|xI (qw (qM room.1) (by decide)) (I.aU _ _ aO) hd (N.eh _ I.aU) (uY I.aU F.code) F.body B F.cell (λx hx=>?_) (λC w k=>?_) F.dk F.dl F.kind;.refine F.j _ ?_;rw[j];exact sQ _ (uZ hx).1
 .have T:=zs N F hA Y I;haveI dy:Dy (q1 G A n f _ s μ L) μ (args.map U++jD (c.length - args.length) V) st {s with heap:=C,toks:=s.toks+((it n).zip E).length}:=by
   refine⟨h1.refl μ,I.keeps (jM w.lt) k,λb aQ e l=>k b aQ e,⟨_,w,λi x b e1 m=>?_⟩,I.fresh,λp hp=>iw<|ih (I.t p hp).1,λb=>.inl,λp=>.inl,rfl,rfl,rfl⟩
   .have lt:=by
     cases oD i _ with
     |inl q=>exact q
     |inr q=>
      rw[sR (by rw[h8];exact q)]at m
      have:=k_ m
      rw[BS]at this
      cases this.2
    rw[rD (by rw[h8];exact lt),n6]at m
    haveI e3:args[i]?=U b:=by
     induction z:args[i]? with
     |none=>rw[z]at m;exists J;cases m
     |some y=>rw[z]at m;cases m;rfl
    refine g6 (oU R e3) λv aP r=>h9 v (tP ?_ ?_ aP) r
    .have:=F.nodup
     rw[j]at this
     exact(qF.mp this).1
    .haveI:c[i]?=U x:=e1
     rw[j,rD (‹args.length=(it n).length›▸‹i<args.length›)]at this
     exact this
  refine g5 (h _ μ _ T O O (room.deeper _) hh O dy) (λfl s' hp=>?_) λv s' hp=>?_
  .have t:∀v r af ak ae,Q r _->RelV G _ v r->Dy (q1 G A n f c s μ L) _ ak _ s'->RC G s μ L Q X (.ok<|.ret v) s':=λv r af ak ae q aR D=>
    ⟨⟨D.bX,D.bY,D.b3⟩,af,r,ae,q,D.ext,aR,D.N,D.bv,D.a',D.bg⟩
   induction fl with
   |next=>exact kA hp λaf ak ae q=>t _ _ _ _ _ q .none
   |ret v=>exact jO hp λaf ak aS=>jk aS λr ae=>t _ _ _ _ _
   |brk=>refine kA hp λl l l q l=>?_
         induction q
   |cont=>induction hp
  .exact hz hp λak hp=>zt T hp (λb aN=>(g6 (q2 Y aN) λo av l=>ih av)) λh' e af ae x ev P M=>⟨⟨M.1,M.2.1,M.2.2⟩,e,_,_,x,ev,P⟩
end
section
set_option backward.match.sparseCases true
open PySem PySem.W PySem.Calls PyProof.Rows
section
variable{Φ:Fm}{μ:Mu}{ρ:Loc}{st:St}{s s':hb}{Q:AV->St->Prop}{X:hv->St->Prop}
theorem Dy.gp(D:Dy Φ μ ρ st s):∃o,s.heap.get? Φ.a2=U o/\∀b,o.data≠ .fields b:=g6 D.ns λm a e=>oM a λo h f c d e=>h9 o c λb q=>by rw[d]at q;cases q
theorem Dy.c9(l:Φ.y)(D:Dy Φ μ ρ st s):vL Φ.a s.heap μ (Φ.r::Φ.bk):=λac e=>by
 exists b;rcases ir.mp e with a|e;clear zz3 a b
 .exact g6 D.gp λo d c=>b ⟨by rw[l.kind];decide,_,o,l.cK,d,c,f2 l.bn l.b2,D.bo,D.bw⟩
 .obtain⟨k,L,o,d,c,h,i,f,j⟩:=l.c9 _ e;haveI hl:=ih c;refine b ⟨k,L,o,d,D.bv L o c f,h,i,λm=>?_,λp hp q=>?_⟩
  .exists b;rcases D.a' L m with z|z
   .exact f z
   .exact jI _<|hD hl z
  .exists b;rcases D.bg p hp with z|z
   .exact j p z q
   .exact jI _<|hD hl (q▸z)
theorem Dy.ds(a:Φ.y)(D:Dy Φ μ ρ st s):Φ.bB.objs.size<=s.heap.objs.size:=f2 a.b2<|jM D.cB
theorem Dy.fO(D:Dy Φ μ ρ st s)(b:a<Φ.bB.objs.size)(h:¬h_ Φ.b4 a):¬h_ μ a:=λm=>by
 rcases D.a' a m with z|z
 .exact h z
 .exact jI _<|hD b z
theorem D3(G:Φ.y)(D:Dy Φ μ ρ st s)(h:RC Φ.a s μ (Φ.r::Φ.bk) Q X (.ok<|.ret v) s'):PE Φ ρ μ Q v s':=by
 exists c;obtain⟨d,af,a,ae,q,E,r,I,f,k,j⟩:=h;refine c ⟨_,a,_,q,E,r,D.ext.trans E,I,λb o e n=>(f b o (D.bv b o e n)<|D.fO (ih e) n),?_,λm=>?_,λp hp=>?_,λb m=>?_,λp hp=>?_,d.bX.trans D.bX,d.bY.trans D.bY,d.b3.trans D.b3⟩;.exists c;obtain⟨m,⟨o,y,w,A,B⟩,C⟩:=D.ns;refine c<|h9 m ⟨o,y,w,f _ _ A D.bo,B⟩ λi x b l t=>kf λc=>?_;obtain⟨u,k1,k2⟩:=C i x b l t;exact c<|h9 u k1<|k2.aR E
 .exists c;rcases k _ m with z|z
  .exact D.bo z
  .exact jI _<|hD D.cB z
 .exists c;rcases j p hp with z|z
  .exact c<|D.bw p z
  .exact c<|iP<|hD D.cB z
 .exists c;rcases k _ m with z|z
  .exact c<|D.a' b z
  .exact c<|.inr<|f2 (D.ds G) z
 .exists c;rcases j p hp with z|z
  .exact c<|D.bg p z
  .exact c<|.inr<|f2 (D.ds G) z
theorem D4(B:Φ.y)(D:Dy Φ μ ρ st s)(h:RC Φ.a s μ (Φ.r::Φ.bk) Q X (.error v) s'):PX Φ ρ X v s':=by
 exists c;obtain⟨j,e,af,ae,x,rfl,P⟩:=h;haveI d:=D.ds B;refine c ⟨e,af,ae,x,rfl,⟨P.c_,D.ext.trans P.ext,P.N,P.cw,f2 d P.new,?_,λa o t n=>?_,λb m=>?_,λp hp=>?_⟩,⟨j.bX.trans D.bX,j.bY.trans D.bY,j.b3.trans D.b3⟩,λm=>?_,λp hp=>?_,?_⟩
 .haveI k:∀b,(s.heap.objs.size<=b/\¬h_ af b/\∀p∈af.t,p.1≠b)->(Φ.bB.objs.size<=b/\¬h_ af b/\∀p∈af.t,p.1≠b):=λb z=>⟨f2 d z.1,z.2⟩;exists c;rcases P.eG with z|z|z
  .exact c<|.inl z
  .exact c<|.inr<|.inl<|z.aR k
  .exact c<|.inr<|.inl<|z.aR k
 .haveI r:=ih t;exists c;obtain⟨l,f,c1,d1,i,w⟩:=P.bv a o (D.bv a o t n)<|D.fO r n;refine c<|rR l f c1 d1 i λq=>w λz=>?_;unfold jG at z;rw[rC,B.cK]at z;exists c;rcases ir.mp z with z|z
  .exact iw (hD r B.b2) z
  .exact q z
 .exists c;rcases P.a' _ m with z|z
  .exact c<|D.a' b z
  .exact c<|.inr<|f2 d z
 .exists c;rcases P.bg p hp with z|z
  .exact c<|D.bg p z
  .exact c<|.inr<|f2 d z
 .exists c;rcases P.a' _ m with z|z
  .exact D.bo z
  .exact jI _<|hD D.cB z
 .exists c;rcases P.bg p hp with z|z
  .exact c<|D.bw p z
  .exact c<|iP<|hD D.cB z
 .refine(LR.aR P.ext D.ns).dj λo y A=>kf λc=>?_;obtain⟨l,f,_,_,i,_⟩:=P.bv _ o y D.bo;exact c<|h9 l f i
theorem zu(l:Φ.y)(D:Dy Φ μ ρ st s){d f}{b}{args:List AV}{a aa:List gZ}{kw:List (g2×gZ)}(R:nM Φ.C d)(j:Φ.C.handled=V\/Φ.a.quiet f=H)(i:kn Φ.a f=U b)(k:hZ Φ.a μ a args) (c:rA s b ⟨aa,kw⟩<|(it b).zip a) (h:iN Φ.a d f args st Q X):la Φ.q Φ.C (.call (.ref f) ⟨aa,kw⟩) (λr s'=>match r with| .ok<|.ret v=>PE Φ ρ μ Q v s'| .ok _=>False| .error e=>PX Φ ρ X e s') s:=by refine u0 (h _ s μ _ (Φ.r::Φ.bk) _ b R l.dr j (D.c9 l) D.N k i c) λr s' q=>?_;induction r with|error v=>exact D4 l D q|ok f=>induction f with|ret v=>exact D3 l D q|next=>exact q.2.elim|brk=>exact q.2.elim|cont=>exact q.2.elim
theorem D5(k:Φ.y)(D:Dy Φ μ ρ st s)(R:nM Φ.C d)(i:Φ.C.handled=V\/Φ.a.quiet f=H)(e:kn Φ.a f=U b)(j:hZ Φ.a μ a args) (c:rA s b ⟨aa,kw⟩<|(it b).zip a) (h:iN Φ.a d f args st Q X):g0 Φ.q Φ.C (kh (.ref f) aa kw) (PE Φ ρ μ Q) (PX Φ ρ X) s:=oF<|zu k D R i e j c h
end
end
section
open PySem PySem.W PySem.Calls PyProof.Rows
noncomputable def i5:List (g2×Bool)->Nat->List g2->Bool
 |[],n,ks=>match n with|0=>ks.isEmpty|_+1=>g
 |(x,b)::ps,n,ks=>match n with|n+1=>i5 ps n ks|0=>match ks with|k::r=>if k=x then i5 ps 0 r else b&&i5 ps 0 (k::r)|[]=>b&&i5 ps 0 []
noncomputable def fill:List (g2×Option gZ)->List gZ->List (g2×gZ)->List gZ|[],_,_=>[]|(x,b)::ps,a,kw=>match a with|v::a=>v::fill ps a kw|[]=>match kw with|(k,u)::kw=>if k=x then u::fill ps [] kw else b.getD .none::fill ps [] ((k,u)::kw)|[]=>b.getD .none::fill ps [] []
noncomputable def j_(ps:List (g2×Option gZ)):List (g2×Bool):=ps.map λp=>(p.1,p.2.isSome)
noncomputable def oV(ps:List (g2×Option gZ)):List (g2×gZ):=ps.filterMap λp=>p.2.map (p.1,·)
theorem D6{ps:List (g2×Bool)}:∀{n} {ks:List _},i5 ps n ks=H->ks.Sublist ((ps.map (·.1)).drop n):=by
 induction ps with
 |nil=>intro n ks h;cases n with|zero=>exact Jg.mp h▸ .slnil|succ n=>exact iR h
 |cons p ps a=>intro n ks h;cases n with
  |succ n=>exact a h|zero=>cases ks with
   |nil=>exact List.nil_sublist _|cons k r=>
    haveI h:(if k=p.1 then i5 ps 0 r else p.2&&i5 ps 0 _)=true:=h;by_cases q:k=p.1;.rw[if_pos q]at h;exact q▸(a h).cons₂ _
    .rw[if_neg q]at h;exact(a (kV.mp h).2).cons _
theorem LX{n}{ks:List _}(h:i5 ps n ks=H):∀k∈ks,k∈(ps.map (·.1)).drop n:=λa=>(D6 h).mem
theorem LY:∀{n} {ks},i5 ps n ks=H->n<=ps.length:=by
 induction ps with
 |nil=>intro n ks h;cases n with|zero=>exact hJ _|succ n=>exact iR h
 |cons p ps a=>intro n ks h;cases n with|zero=>exact i' _|succ n=>exact mj<|a h
theorem D7{α e:Type}{f aM:α->Option e}:∀{l:List α},(∀a∈l,f a=aM a)->l.filterMap f=l.filterMap aM:=by intro l;induction l with|nil=>exactλ_=>rfl|cons a r d=>intro h;rw[rC,rC,h a<|.head _,d λb c=>h b<|.tail _ c]
theorem zv{α:Type}(n)(a b:List (g2×α)):(a++b).lookup n=(a.lookup n).or (b.lookup n):=by induction a with|nil=>rfl|cons p r c=>obtain⟨x,v⟩:=p;rw[Jh,n4,n4];induction h:n==x with|true=>rfl|false=>exact c
theorem zw{α:Type}{n}{l:List (g2×α)}(h:n∉l.map (·.1)):l.lookup n=none:=by
 induction l with|nil=>rfl|cons p r a=>
  obtain⟨x,v⟩:=p;rw[n4];haveI:(n==x)=false:=by simpa using(λq=>h (by rw[q];exact .head _))
  rw[this];exact a λq=>h<|.tail _ q
noncomputable def putD(sl:List (g2×gZ))(p:g2×gZ):List (g2×gZ):=if(sl.lookup p.1).isNone then sl++[p]else sl
theorem LZ(n):∀(a:List _) sl,(a.foldl putD sl).lookup n=(sl.lookup n).or (a.lookup n):=by
 intro a;induction a with
 |nil=>intro sl;induction h:sl.lookup n<;>simp[h]
 |cons c r b=>
  obtain⟨m,d⟩:=c;intro sl;rw[b];unfold putD;by_cases q:n=m;.subst q;induction h:sl.lookup n with|none=>simp[h,zv,n4]|some v=>simp[h]
  .haveI e:(n==m)=false:=by simpa using q
   split;.rw[zv,];simp[n4,e]
   .simp[n4,e]
theorem zx{α:Type}(x)(v)(l:List (g2×α)):((x,v)::l).lookup x=U v:=by show(match x==x with|true=>U v|false=>l.lookup x)=_;rw[beq_self_eq_true]
theorem tQ{α:Type}(h:m≠x)(v)(l:List (g2×α)):((x,v)::l).lookup m=l.lookup m:=by show(match m==x with|true=>U v|false=>l.lookup m)=_;rw[beq_false_of_ne h]
theorem L0{α c:Type}{f}{a}{b}{l:List α}{r:List c}(h:f a=U b)(e:l.filterMap f=r):(a::l).filterMap f=b::r:=(List.filterMap_cons_some h).trans<|congrArg _ e
theorem zy{α:Type}{x m}(h:m=x)(v)(l:List (g2×α)):((x,v)::l).lookup m=U v:=h▸zx m v l
theorem D8(ps:List (g2×Option _)):(j_ ps).map (·.1)=ps.map (·.1):=qx ..
theorem L1{ps:List (g2×Option _)}:∀{aa:List gZ} {kw:List (g2×gZ)},(ps.map (·.1)).Nodup->i5 (j_ ps) aa.length (kw.map (·.1))=H->(ps.map (·.1)).filterMap (λn=>((((ps.map (·.1)).zip aa++kw).lookup n).or ((oV ps).lookup n)).map (n,·))=(ps.map (·.1)).zip (fill ps aa kw):=by
 induction ps with|nil=>exactλs s=>rfl|cons p ps j=>
  obtain⟨x,b⟩:=p;intro aa kw o h;have a:=pj.mp o;have t:∀m,m≠x->(oV ((x,b)::ps)).lookup m=(oV ps).lookup m:=λm c=>by clear o;cases b with|none=>rfl|some d=>exact tQ c d<|oV ps
  have i:∀{sl f:List _} {v},((sl.lookup x).or _)=U v->(∀m,m≠x->sl.lookup m=f.lookup m)->∀{r},(ps.map _).filterMap _=(ps.map _).zip r->(x::ps.map _).filterMap (λn=>((sl.lookup n).or<|(oV ((x,b)::ps)).lookup n).map _)=(x::ps.map (·.1)).zip (v::r):=λ{sl f v} B A {r} e=>by
   refine L0 (congrArg _ B)<|(D7 λm c=>?_).trans e
   haveI y:m≠x:=λq=>a.1 (q▸c)
   rw[A m y,t m y]
  have w:b.isSome=H->none.or ((oV ((x,b)::ps)).lookup x)=U (b.getD .none):=λhd=>by clear t o;cases b with|none=>exact iR hd|some d=>exact zx x d<|oV ps
  haveI zn:∀l,(ps.map (·.1)).zip ([]:List gZ)++l=l:=λl=>congrArg (· ++l) Ji;cases aa with|cons v C=>exact i (sl:=(x,v)::((ps.map _).zip C++kw)) (congrArg (Option.or · _)<|zx x v _) (λm c=>tQ c v _)<|j a.2 h|nil=>
   cases kw with|nil=>haveI h:=kV.mp (show(b.isSome&&i5 (j_ ps) 0 _)=H from h);exact i (sl:=[]) (w h.1) (λm s=>congrArg _ (zn _).symm)<|j a.2 h.2|cons p kw=>
    obtain⟨k,u⟩:=p;haveI h:(if k=x then i5 (j_ ps) 0 _ else b.isSome&&i5 (j_ ps) 0 (k::kw.map _))=true:=h;show _=(x::ps.map _).zip (if k=x then u::fill ps _ kw else b.getD _::fill ps _ _);by_cases q:k=x;.rw[if_pos q]at h;rw[if_pos q];exact i (congrArg (Option.or · _)<|zy q.symm u kw) (λm c=>(tQ (q▸c) u kw).trans<|congrArg _ (zn kw).symm)<|j a.2 h
    .rw[if_neg q]at h;haveI h:=kV.mp h;rw[if_neg q];refine i (sl:=(k,u)::kw) ?_ (λm s=>congrArg _ (zn _).symm)<|j a.2 h.2;rw[zw λz=>a.1 ?_];.exact w h.1
     .exact D8 ps▸LX h.2 x z
end
section
open PySem PySem.W PySem.Calls PyProof.Rows
noncomputable def D9(s:hb)(a:kR)(D:List gZ):Prop:=∀(M:nD) (A:ix) (E:gZ->hb->Prop) (Q:Option (Array gZ)->hb->Prop),(∀o,(o.getD #[]).toList=D->Q o s)->g0 M A (seqItems? a.defaults) Q E s
noncomputable def kC(a:kR)(D:List gZ):List (g2×Option gZ):=((it a).take ((it a).length - D.length)).map (·,V)++(((it a).drop ((it a).length - D.length)).zip D).map λp=>(p.1,U p.2)
theorem L2{a:List _}{f:(g2×gZ)->(List (g2×gZ)×List (g2×gZ))->Sem (ForInStep (List (g2×gZ)×List (g2×gZ)))}(j:∀x sl,x.1∈a->sl.lookup x.1=V->f x (sl,[])=pure (.yield (sl++[x],[]))):∀(kw sl:List (g2×gZ)),(∀x∈kw,x.1∈a)->(kw.map (·.1)).Nodup->(∀x∈kw,sl.lookup x.1=V)->forIn kw (sl,[]) f=pure (sl++kw,[]):=by
 intro kw;induction kw with|nil=>intro sl _ _ _;simp|cons x kw k=>
  intro sl d h e;have b:=pj.mp h;rw[xJ,j x sl (d x<|.head _)<|e x<|.head _];show forIn kw _ f=_;rw[k _ (λy c=>d y<|.tail _ c) b.2 λy c=>?_];.rw[i8];rfl
  .rw[zv,e y<|.tail _ c];refine zw λq=>b.1<|kf λi=>?_;rcases ir.mp q with q|q
   .exact i<|q▸xK c
   .cases q
theorem L3{f:(g2×gZ)->List (g2×gZ)->Sem (ForInStep _)}(b:∀x sl,f x sl=pure (.yield<|putD sl x)):∀(a sl:List (g2×gZ)),forIn a sl f=pure (a.foldl putD sl):=by intro a;induction a with|nil=>intro sl;simp|cons x a c=>intro sl;rw[xJ,b];exact c _
theorem zn{N:List g2}(l):N.zip ([]:List gZ)++l=l:=congrArg (· ++l) Ji
theorem L4{ps:List (g2×Option _)}:∀{aa:List gZ} {kw:List (g2×gZ)},(ps.map (·.1)).Nodup->i5 (j_ ps) aa.length (kw.map (·.1))=H->∀x,(x,V)∈ps->((((ps.map (·.1)).zip aa++kw).lookup x).isNone)=false:=by
 induction ps with|nil=>exactλm m m h=>(ji h).elim|cons p ps f=>
  obtain⟨y,d⟩:=p;intro aa kw n h x c;have b:=pj.mp n;have i:x≠y->(x,V)∈ps:=λe=>(ir.mp c).resolve_left λz=>e<|congrArg xH z;have j:d.isSome=H->(x,V)∈ps:=λe=>(ir.mp c).resolve_left λz=>iR<|(congrArg (λp=>p.2.isSome) z).trans e;have a:=λ{kw} h c=>(congrArg (λl=>(n4 x l).isNone) (zn kw).symm).trans<|f b.2 h x c;cases aa with
  |cons v o=>
   show(n4 x ((y,v)::((ps.map _).zip o++kw))).isNone=g;by_cases e:x=y;.rw[zy e];rfl
   .rw[tQ e];exact f b.2 h x<|i e
  |nil=>
   show(n4 x kw).isNone=g;cases kw with|nil=>haveI h:=kV.mp (show(d.isSome&&i5 (j_ ps) 0 _)=H from h);exact a h.2<|j h.1|cons p kw=>
    obtain⟨k,u⟩:=p;haveI h:(if k=y then i5 (j_ ps) 0 _ else d.isSome&&i5 (j_ ps) 0 (k::kw.map _))=true:=h;by_cases q:k=y
    .rw[if_pos q]at h;by_cases e:x=k;.rw[zy e];rfl
     .rw[tQ e];exact a h<|i (q▸e)
    .rw[if_neg q]at h;haveI h:=kV.mp h;exact a h.2<|j h.1
theorem zz(a){D:List _}(b:D.length<=(it a).length):(kC a D).map (·.1)=it a:=by rw[kU,qx,qx];haveI c:((λp:g2×Option gZ=>p.1)∘λx:g2=>(x,V))=id:=rfl;haveI d:((λp:g2×Option gZ=>p.1)∘λp:g2×gZ=>(p.1,U p.2))=(·.1):=rfl;rw[List.map_id,Jj (by rw[sS];exact jh<|Nat.sub_sub_self b),Jk]
theorem L5(c)(D):oV (kC c D)=((it c).drop ((it c).length - D.length)).zip D:=by
 unfold oV kC;rw[List.filterMap_append];haveI a:∀l:List g2,(l.map λx=>(x,(V:Option gZ))).filterMap (λp=>p.2.map (p.1,·))=[]:=λl=>by induction l with|nil=>rfl|cons x r d=>simp
 haveI b:∀l:List _,(l.map λp=>(p.1,U p.2)).filterMap (λp:g2×Option gZ=>p.2.map (p.1,·))=l:=λl=>by induction l with|nil=>rfl|cons x r d=>rw[rC,d];rfl
 rw[a,b,List.nil_append]
theorem L6{α a:Type}{Q:List a->Prop}{f}{l:List α}(h:Q<|l.filterMap f):Q<|(l++[]).filterMap f:=(j3 l).symm▸h
theorem wn{M}{A}{α}{c}[Decidable c]{a b}{Q:α->hb->Prop}{E}{s}(hc:¬c)(h:g0 M A b Q E s):g0 M A (if c then a else b) Q E s:=(if_neg hc).symm▸h
theorem L7{p:Arguments}(a:p.posonlyargs=[])(b:p.kwonlyargs=[])(c:p.vararg=V)(d:p.kwarg=V):p=⟨[],p.args,V,[],p.kw_defaults,V,p.defaults⟩:=by cases p;dsimp only at a b c d;rw[a,b,c,d]
theorem oW{s}{a:kR}{aa:List gZ}{kw:List (g2×gZ)}{D:List _}(L:a.params.posonlyargs=[])(N:a.params.kwonlyargs=[])(T:a.params.vararg=V)(Y:a.params.kwarg=V)(G:D.length<=(it a).length) (r:D9 s a D) (w:(it a).Nodup) (d:i5 (j_<|kC a D) aa.length (kw.map (·.1))=H):rA s a ⟨aa,kw⟩<|(it a).zip<|fill (kC a D) aa kw:=by
 haveI hp:=L7 L N T Y;intro M A E Q hq;haveI c:=zz a G;haveI k:=c.symm▸w;haveI f:=(D8 _).trans c;haveI sub:=f▸D6 d;haveI h:=List.filter_eq_nil_iff.mpr λn y q=>iR<|q.symm.trans (c▸L4 k d n (sQ _<|xK y));haveI C:=L1 k d;rw[c,L5]at C;haveI j:=((D7 λn aO=>congrArg _<|LZ n _ _).trans C)▸hq;rw[<-(by rw[Nat.sub_eq_zero_of_le G];rfl:D.drop (D.length - (it a).length)=D)]at h j;haveI J:∀x∈kw,((it a).zip _).lookup _=none:=λx z=>zw λq=>by
  haveI av:x.1∈(it a).take _:=by refine g6 (List.mem_map.mp q) λp hp e=>hz (Jf hp) λi t=>?_;rw[BR]at t;exact k_<|(List.getElem?_take_of_lt (jq.mp t.2).1).trans<|t.1.trans (congrArg _ e)
  haveI m:=w;rw[<-Jk aa.length<|it a]at m;exact(qF.mp m).2.2 _ av _ (sub.mem<|xK z) O
 refine CG (congrArg (λp=>bindArgs {a with params:=p} _) hp)<|hk<|sT (L2 (λx sl B aN=>?_) kw _ (λx z=>List.mem_of_mem_drop<|sub.mem<|xK z) ((sub.trans<|List.drop_sublist _ _).nodup w) J)<|hk (r M A E _ λo au=>?_);.show(if((a.params.args.map _).contains x.1||[].contains x.1)=H then _ else _)=_;haveI B:x.1∈a.params.args.map _:=B;rw[if_pos (by simp[B]),if_neg (by rw[aN];simp)]
 exists I;clear zz3 au I;refine I<|wn (λe=>(jE.mpr (f2 (LY d)<|jh<|(h8 ..).symm.trans (congrArg _ f))<|of_decide_eq_true (kV.mp e).1))<|wn (λe=>(iR<|e.symm.trans<|congrArg (λl=>!List.isEmpty l) h))<|hk (sT (L3 (λx sl=>?_) _ _) (ib (L6 (Q:=λb=>Q b _) j)))
 .unfold putD;show(if(sl.lookup _).isNone=H then _ else _)=_;by_cases q:(sl.lookup x.1).isNone=H;.rw[if_pos q,if_pos q]
  .rw[if_neg q,if_neg q]
end
section
open PySem PySem.W PySem.Calls PyProof.Rows
noncomputable def zA(v:gZ)(f:lY->Option (List gZ)):Option (List gZ):=match v with| .none=>U []| .ref T=>f T|_=>V
theorem L8(h:zA v f=U D){P:Prop}(k:v=.none->[]=D->P)(l:∀T,v=.ref T->f T=U D->P):P:=by cases v<;>first|exact hu h|exact k O<|ia h|exact l _ O h
noncomputable def zB(o:iT):Option (List gZ):=match o.data with| .seq a _=>U a.toList|_=>V
theorem L9(h:zB o=U D):∃a n,o.data=.seq a n/\a.toList=D:=by obtain⟨c,d,x,sl⟩:=o;cases x<;>first|exact hu h|exact ki _ _ O<|ia h
noncomputable def zC(G:Gl)(a:kR):Option (List gZ):=zA a.defaults λT=>(G.K.lookup T).bind zB
theorem oX(c:G.K.In s.heap)(h:zC G b=U D):D9 s b D:=by
 refineλM A E Q a=>L8 h (λe d=>?_) λT e h=>g6 (sL.mp h) λo f h=>jv (L9 h) λi n hd d=>?_;.rw[e];exact hk<|ib<|ib (a _ d)
 .rw[e];exact wpAny_seqItems (c _ _ f) hd<|a _ d
noncomputable def PL(Φ:Fm)(ρ:Loc)(μ:Mu)(P:List AV->St->Prop)(a:List gZ)(s:hb):Prop:=∃af l ae,P l ae/\h1 μ af/\hZ Φ.a af a l/\Dy Φ af ρ ae s
theorem hZ.aO(h:hZ G μ a x)(k:hZ G μ b y):hZ G μ (a++b) (x++y):=hZ.M (C:=λa x=>hZ G μ (a++b) (x++y)) k (λr c=>.cons r) h
end
section
open PySem PySem.W PySem.Calls PyProof.Rows
noncomputable def jm(e:g_):Bool:=e.ctorIdx !=22
noncomputable def q3(e:g_):Bool:=e.ctorIdx !=26
noncomputable def D_(e:g_):Bool:=e.ctorIdx !=20
noncomputable def lP(e:g_):Bool:=!(jf 8 e.ctorIdx&&jf e.ctorIdx 10)
noncomputable def vN(e:g_):Bool:=e.ctorIdx !=25
noncomputable def lq(e:g_):Bool:=e.ctorIdx !=7
noncomputable def D'(e:g_):Bool:=e.ctorIdx !=0&&((match e with| .UnaryOp op _ _=>op.ctorIdx !=1|_=>H)&&(e.ctorIdx !=5&&e.ctorIdx !=15))
noncomputable def L_(e:g_)(ac:jL):Prop:=jm e=H->∀aj,lF (e::aj) ac=(g,eval e ac)::lF aj ac
noncomputable def L'(e:g_):Prop:=q3 e=H->∀o i,subscripted e g o i=operate [o,i] (getItem o i)
noncomputable def Ma(e:g_)(ac:jL):Prop:=D_ e=H->∀args ag aa,eval (.Call e args ag aa) ac=(do u1 aa (<-eval e ac) [] (ml aa (lF args ac)) (mm aa (mK ag ac)))
noncomputable def Mb(e:g_)(ac:jL):Prop:=lP e=H->∀a b,swapsWith e a b ac=pure g
noncomputable def Mc(e:g_)(ac:jL):Prop:=vN e=H->∀a k p,rE [.Tuple a k p] e ac=pure V
noncomputable def Md(e:g_)(ac:jL):Prop:=lq e=H->∀y,BU e ac y=pure y
noncomputable def Me(e:g_):Prop:=lq e=H->∀op,behindInMarks op e=g
noncomputable def Mf(e:g_)(ac:jL):Prop:=D' e=H->∀a,isTrue e ac a=(do let v <-a;standAt e.pos;holding [v] (truthy v))
set_option tactic.hygienic true in
theorem pR(e)(ac):L_ e ac/\L' e/\Ma e ac/\Mb e ac/\Mc e ac/\Md e ac/\Me e/\Mf e ac:=by cases e<;>exact⟨by first|exactλa a=>rfl|exact ff,by first|exactλa a a=>rfl|exact ff,by first|exactλa a a a=>rfl|exact ff,by first|exactλa a a=>rfl|exact ff,by first|exactλa a a a=>rfl|exact ff,by first|exactλa a=>rfl|exact ff,by first|exactλa a=>rfl|exact ff,by first|exactλa a=>rfl|exact ff|(rename_i op _ _;cases op<;>first|exactλa a=>rfl|exact ff)⟩
theorem ny(h:jm e=H):lF (e::aj) ac=(g,eval e ac)::lF aj ac:=(pR e _).1 h _
theorem pT{ac}{aa}:∀{a:List g_},a.all jm=H->(ml aa<|lF a ac).any (·.1)=false:=by intro a;induction a with|nil=>exactλ_=>rfl|cons e r b=>intro h;rw[iG]at h;rw[ny h.1];show(g||(ml _ _).any _)=g;rw[b h.2];rfl
noncomputable def oj(ag:List oC):Bool:=ag.all λk=>k.arg.isSome
noncomputable def my(ag:List oC):List g2:=ag.filterMap (·.arg)
theorem tR{ac}{aa}:∀{ag:List oC},oj ag=H->(mm aa<|mK ag ac).all (·.1.isSome)=H/\(mm aa<|mK ag ac).any (·.1.isNone)=g/\(mm aa<|mK ag ac).filterMap (·.1)=my ag
 |[],_=>⟨rfl,rfl,rfl⟩|⟨n,v,p⟩::r,h=>by
  unfold oj at h;rw[iG]at h;refine ju (tR (ac:=ac) (aa:=aa) h.2) λa b c=>?_;induction n with
  |none=>cases h.1
  |some n=>exact lI a b<|congrArg _ c
section
variable{M:nD}{A:ix}{E:gZ->hb->Prop}{s:hb}
theorem oY{ac}{aa}{f}{d:List g_}{ag:List oC}{Q:Args->hb->Prop}(i:d.all jm=H)(k:oj ag=H)(h:g0 M A (spliced<|ml aa<|lF d ac) (λl b=>g0 M A (evalAll<|(mm aa<|mK ag ac).map (·.2)) (λks c=>Q ⟨l,(my ag).zip ks⟩ c) E b) E s):g0 M A (evalArgs f H (ml aa<|lF d ac)<|mm aa<|mK ag ac) Q E s:=by refine ju (tR (ac:=ac) (aa:=aa) k) λk1 m k3=>?_;induction d with|nil=>refine evalArgs_kw_nil k1 ?_;rw[k3];haveI:=h;exactλj p a=>this j p a j p a|cons e r=>rw[iG]at i;rw[ny i.1]at h ⊢;refine evalArgs_kw k1 ?_;rw[k3];exact h
end
end
section
open PySem PySem.W PySem.Calls PyProof.Rows
theorem Fm.y.fP{Φ:Fm}(e:Φ.y){b}(c:b∈jG Φ.bk):b<Φ.bB.objs.size:=g6 (q2 e.c9 c) λo a d=>ih a
theorem tS(aX:Φ.y){st}(P:Px Φ.a Φ.bB Φ.b4 Φ.bk fl X e μ st x s)(lx:¬h_ μ Φ.a2)(lf:∀p∈μ.t,p.1≠Φ.a2)(lr:LR Φ μ ρ s.heap)(f:Fl (jG (Φ.r::Φ.bk)) (λb=>b=e\/Φ.bB.objs.size<=b/\¬h_ μ b/\∀p∈μ.t,p.1≠b) s.heap h') (tr:vJ (λb=>Φ.bB.objs.size<=b/\¬h_ μ b/\∀p∈μ.t,p.1≠b) aK h' e):Px Φ.a Φ.bB Φ.b4 Φ.bk aK X e μ st x {s with heap:=h'}/\LR Φ μ ρ h':=by
 haveI t:=aX.c9;haveI M:=aX.bn;haveI low:∀b,b∈jG _->Φ.a.b1<=b/\¬h_ μ b/\∀p∈μ.t,p.1≠b:=λb c=>by
  refine lJ (q2 t c) λo w B D aN aO=>⟨D,λm=>?_,λp hp q=>?_⟩
  .rcases P.a' b m with z|z
   .exact aN z
   .exact absurd (aX.fP c)<|jE.mpr z
  .rcases P.bg p hp with z|z
   .exact aO p z q
   .exact absurd (aX.fP c)<|jE.mpr (q▸z)
 refine jr P.cw λd es n ks y aP aQ aS=>?_;haveI L:h_ μ e:=.inr<|.inr ⟨_,_,y⟩;have l:∀{b},b∈jG (Φ.r::Φ.bk)->b=Φ.a2\/b∈jG _:=λc=>by unfold jG at c;rw[rC,aX.cK]at c;exact ir.mp c
 refine⟨⟨P.c_,P.ext,?_,P.cw,P.new,tr,?_,P.a',P.bg⟩,lr.dj λo aR no=>?_⟩
 .refine P.N.J f (λb c=>?_) λb c=>?_
  .rcases l c with h|c;clear zz3 h
   .exact lI (f2 M aX.b2) lx lf
   .exact low b c
  .exists k;rcases c with i|⟨w,B,D⟩;clear zz3 i k
   .exact k<|lI ((P.N.bu _ L).1) (.inr ⟨_,_,y⟩) λp hp q=>(P.N.t p hp).2.2 (q▸L)
   .exact k<|lI (f2 M w) (.inl B) D
 .intro a o E nm;haveI A:=ih E;refine kf λk=>lJ (P.bv a o E nm) λaT C c1 d1 r av=>lJ (f.2 a aT C) λaU e2 c2 Y au J=>?_;have N:¬(a=e\/Φ.bB.objs.size<=a/\¬h_ μ a/\∀p∈μ.t,p.1≠a):=λq=>by
   rcases q with j|⟨q,_⟩;clear zz3 j A
   .exact jI _<|hD A P.new
   .exact jI _<|hD A q
  have Q:a∉jG _->a∉jG _:=λaV aW=>by
   exists k;rcases l aW with z|z
   .exact(iw<|hD A aX.b2) z
   .exact aV z
  refine k<|rR aU e2 (c2.trans c1) (Y.trans d1) ?_ λq=>(J (Q q) N).trans<|av q;exists k;by_cases q:a∈jG Φ.bk
  .refine jj (q2 t q) λT w B I=>?_;rw[E]at w;cases w;rcases au with⟨G,_,z,_⟩|z
   .exact absurd (r▸z)<|B G
   .exact k<|z.trans r
  .refine k ?_;rw[J (Q q) N];exact r
 .refine kf λk=>lJ (f.2 _ o aR) λT C I I r I=>?_;rcases r with⟨G,_,z,_⟩|z
  .exact absurd z<|no G
  .exact k<|h9 T C z
theorem Ea{Φ:Fm}(D:Φ.y){st}{s}(P:Px Φ.a Φ.bB Φ.b4 Φ.bk A X e μ st x s){d}(hL:s.heap.get? Φ.a2=U d)(y:∀f,d.data≠ .fields f):oi s.heap (Φ.r::Φ.bk)/\∀b,s.heap.objs.size<=b->Φ.bB.objs.size<=b/\¬h_ μ b/\∀p∈μ.t,p.1≠b:=by
 refine⟨λac c=>?_,λb a=>⟨f2 (f2 D.b2<|jM<|ih hL) a,λm=>(jI _<|hD (P.N.bu b m).2 a),λp hp q=>(jI _<|hD (ih (P.N.t p hp).1) (q▸a))⟩⟩
 .exists h;rcases ir.mp c with rfl|c
  .exact h ⟨by rw[D.kind];decide,_,d,D.cK,hL,y⟩
  .obtain⟨k,L,o,n,r,t,B,w,C⟩:=D.c9 _ c;exact lJ (P.bv L o r w) λz j i i l i=>h ⟨k,L,z,n,j,λf q=>t f (l▸q)⟩
theorem Mg(L:Φ.y)(hA:A.frames=U (Φ.r::Φ.bk))(l:PX Φ ρ X v s):n7 Φ.q A Φ.r (λe s'=>xL Φ.q z Φ.r (PX Φ ρ X) e s') v s:=by refine kf λc=>jr l λe μ st x a P w j=>ju j λi d m=>?_;clear l;subst a;refine g6 m.at λE hL y=>hn (Ea L P hL y) λr t=>c<|zr hA r L.cK P.eG t λB p b=>kf λc=>hn (tS L P i d m p<|.inr<|.inr b) λn f=>jO b λG J j=>lh j λT oT I k1 k2 k3 D=>c<|hk<|ry k1 k2 k3<|vK (Sl:=jG (Φ.r::Φ.bk)) b λC q k=>?_;rw[L.cK]at k;exact hn (tS L n i d f q<|.inr<|.inr k) λo h=>⟨e,μ,st,x,rfl,o,w,i,d,h⟩
end
section
open PySem PySem.W PySem.Calls PyProof.Rows
section
variable{Φ:Fm}{μ:Mu}{ρ:Loc}{st:St}{s:hb}{A:ix}
noncomputable def PB(Φ:Fm)(ρ:Loc)(μ:Mu)(P:Bool->St->Prop)(b:Bool)(s:hb):Prop:=∃af ae,P b ae/\h1 μ af/\Dy Φ af ρ ae s
theorem PB.up(E:h1 μ af)(x:PB Φ ρ af P b s):PB Φ ρ μ P b s:=jk x λa ae c d e=>ob _ _ c (E.trans d) e
theorem PB.mk(h:P b st)(D:Dy Φ μ ρ st s):PB Φ ρ μ P b s:=⟨μ,st,h,h1.refl μ,D⟩
theorem Eb{a:Nat}(b:h.get? a=U o):ng M h (typeOf<|.ref a) o.cls:=(BV b).andThen .now
theorem zD{K}(X:K.In s.heap){a:Nat}(b:s.heap.get? a=U o)(c:iB K o.cls "__bool__"=U V)(hl:iB K o.cls "__len__"=U V)(h:Q H s):g0 M A (truthy<|.ref a) Q E s:=by refine hk<|hk<|hk ((Eb b).here ((qu X c).here (ib ?_)));refine hk<|hk<|(Eb b).here ((qu X hl).here ?_);exact ib h
theorem Mh(K):iB K (.type "method") "__bool__"=U V/\iB K (.type "method") "__len__"=U none:=by constructor<;>(show fastLookup _ _=_;decide+kernel)
end
end
section
open PySem PySem.W PySem.Calls PyProof.Rows
section
variable{Φ:Fm}{μ:Mu}{ρ:Loc}{st:St}{s:hb}{Q:AV->St->Prop}{E:gZ->hb->Prop}{A:ix}
theorem vO(D:Dy Φ μ ρ st s){x a:Nat}(c:(x,ky Φ.a.T.a6 a)∈μ.t)(d:s.heap.get? a=U (i4 b n)):InstAt s.heap x (ky Φ.a.T.a6 a) Φ.a.T.a6<|U<|i4 b n:=⟨(D.N.t _ c).1,rfl,rfl,d⟩
theorem zE(D:Dy Φ μ ρ st s){x b}(hp:μ.L=U (x,b)):∃ks c a n,st.L=U (ks,c)/\(x,ky Φ.a.T.a6 b)∈μ.t/\s.heap.get? b=U (i4 a n)/\iE Φ.a μ a ks c:=by induction q:st.L with|none=>rw[D.N.cA q]at hp;exact hu hp|some p=>exact jr (D.N.cU _ _ q) λk d a n f h i j=>haveI e:=ia<|f.symm.trans hp;⟨_,_,a,n,rfl,Eq.subst (motive:=λp:Nat×Nat=>(p.1,ky _ p.2)∈μ.t) e h,Eq.subst (motive:=λp:Nat×Nat=>s.heap.get? p.2=U _) e i,j⟩
theorem RelV.fQ{μ}(r:RelV G μ v<|.mut .L):∃x a,v=.ref x/\μ.L=U (x,a):=r.R.imp λx h=>h.2.elim (λz=>z.2.imp λa hp=>⟨h.1,hp⟩) λz=>absurd O z.1
theorem Ec(j:Φ.a.y)(D:Dy Φ μ ρ st s){x C k:Nat}(I:InstAt s.heap x ox C<|U<|i4 f n)(a:iE Φ.a μ f ks c)(hc:oR Φ.a.K C=H)(i:∀b,j5 k ks c=U b->qZ Φ.a.K C (Φ.a.Y k)=H)(h:vp (j5 k ks c) (Φ.a.T.br C k) λv=>Q v st):g0 Φ.q A (ph (.ref x) (Φ.a.Y k) aH) (PE Φ ρ μ Q) E s:=l3 (r4 hc) λc1 d c3 d d=>Ky h (λv e=>LM j D I a e c1 c3 (kV.mp<|i v e).1) λv e=>LO j D I a e c1 c3
theorem zF{o:Option AV}{P:AV->Prop}(h:match o with|some v=>P v|hU=>False):iQ o P:=by induction o<;>exact h
theorem Ed{o c:Option AV}{P:AV->Prop}(h:match o with
 |some v=>P v|hU=>match c with|some v=>P v|hU=>False):vp o c P:=by
 induction o with|none=>exact zF h|some v=>exact h
theorem Mi(h:pL T (.mut m) k st Q):pJ st (.mut m) λks a=>vp (j5 k ks a) (T.br T.a6 k) λv=>Q v st:=by
 induction m<;>first|exact h.elim|skip
 unfold pL at h;unfold pJ;dsimp only at h ⊢;induction e:st.L with|none=>rw[e]at h;exact h|some p=>rw[e]at h;exact Ed h
theorem Mj(h:pL T (.val v) k st Q):CY v λD=>iQ (T.br D k) λv=>Q v st:=by induction v<;>first|exact zF h|exact h.elim
theorem Ee(aR:Φ.a.y)(D:Dy Φ μ ρ st s)(au:k<Φ.a.bJ.length)(r:RelV Φ.a μ v a)(h:pL Φ.a.T a k st Q):g0 Φ.q A (ph v (Φ.a.Y k) aH) (PE Φ ρ μ Q) E s:=by
 exists c;cases a with
 |«mut» m=>refine vo (Mi h) λks G T q p=>jv (T▸r).fQ λx dx e hp=>jr (zE D hp) λav aO B n aN j l i=>?_;subst e;cases q.symm.trans aN;exact c<|Ec aR D (vO D j l) i (aR.cls _<|.inl O) (λI I=>aR.ei _ [] k<|.inl ⟨rfl,au⟩) p
 |obj C ks G=>refine jr r.R λx d B n e t j w=>hn w λl i=>?_;subst e;exact c<|Ec aR D ⟨(D.N.t _ t).1,rfl,rfl,(D.N.t _ j).1⟩ l (aR.cls C<|.inr (by rw[i];rfl)) (λb z=>aR.ei C ks k<|.inr ⟨i,DV z⟩)<|Ed h|cG C ks G=>refine jr r.R λx d B n e t j w=>hn w λl i=>mq (D.N.cO _ _ _ t) λo aQ J L M N=>jx (zF h) λb z h=>?_;subst e;exact c<|LN aR D ⟨J,L,by obtain⟨_,_,_,_⟩:=o;cases N;rfl,by rw[M];exact(D.N.t _ j).1⟩ l z i h|val u=>refine c<|Kz (Mj h) λaP Y h=>jx h λb y p=>kf λc=>hn r.R λf I=>?_;clear zz3 f c;clear zz3 Y c;exact c<|LP aR D y p|_=>exact h.elim
end
end
section
open PySem PySem.W PySem.Calls PyProof.Rows
theorem Ef(p)(i:L)(v):∀l,(pG p i v l).length<=l.length+1:=by intro l;induction l with|nil=>exact hJ _|cons a r b=>obtain⟨j,u⟩:=a;dsimp only[yI];induction p j with|true=>simp|false=>simp;omega
theorem Mk(p:L->Bool):∀l,(rW p l).length<=l.length:=by intro l;induction l with|nil=>exact hJ _|cons a r b=>obtain⟨j,u⟩:=a;dsimp only[CP];induction p j with|true=>simp|false=>simp;omega
theorem Eg{L}{P:L->Prop}(p:L->Bool)(i)(v)(d:P i):∀l,(∀x∈l,P x.1)->∀x∈pG p i v l,P x.1
 |[],_=>λx a=>by rcases ir.mp a with rfl|a;exact d;cases a
 |(j,u)::r,h=>λx a=>by
  dsimp only[yI]at a;induction e:p j with
  |true=>
   rw[e]at a;rcases ir.mp a with c|a;clear zz3 c
   .exact h (j,u)<|.head _
   .exact h x<|.tail _ a
  |false=>
   rw[e]at a;rcases ir.mp a with b|a;clear zz3 b
   .exact h _<|.head _
   .exact Eg p i v d r (λy k=>h y<|.tail _ k) x a
section
variable{G:Gl}{μ:Mu}{K L:Type}{f:L->K}
theorem jR.len(h:jR G μ f a as):a.length=as.length:=by induction h with|nil=>rfl|cons _ _ b=>exact congrArg _ b
variable[DecidableEq K]
theorem r6(hp:∀j,p j=decide (f j=k)){a}{as}(h:jR G μ f a as):((valueAt a k).isSome=qO p as)/\(∀b,rV p as=U b->∃v,valueAt a k=U v/\RelV G μ v b):=by
 induction h with|nil=>exact⟨rfl,λi h=>hu h⟩|@cons j _ _ _ _ r _ c=>
  unfold valueAt;dsimp only[Kt,Ks];rw[hp];by_cases q:f j=k;.rw[Jc (by exact decide_eq_true q),decide_eq_true q];exact⟨rfl,λd e=>⟨_,rfl,ia e▸r⟩⟩
  .rw[Jd (by exactλz=>q<|of_decide_eq_true z),decide_eq_false q];exact c
theorem Eh{p}{i}(hp:∀j,p j=decide (f j=f i)){u}{c}(e:RelV G μ u c){d:List (K×gZ)}{as:List (L×AV)}(h:jR G μ f d as):(d.map (·.1)).Nodup->jR G μ f (stored d (f i) u) (pG p i c as):=by
 induction h with|nil=>exactλm=>.cons e .nil|@cons j _ _ _ _ r l a=>
  intro k;haveI b:=pj.mp k;dsimp only[yI];rw[hp];by_cases q:f j=f i;.rw[decide_eq_true q];unfold stored;rw[if_pos (by rw[BI,decide_eq_true q,Bool.true_or]),xM,if_pos q,map_store_of_not_mem _ _ u (q▸b.1)];exact .cons e l
  .haveI a:=a b.2;rw[decide_eq_false q];unfold stored at a ⊢;rw[BI,decide_eq_false q,Bool.false_or];split;.rename_i z;rw[if_pos z]at a;rw[xM,if_neg q];exact .cons r a
   .rename_i z;rw[if_neg z]at a;exact .cons r a
theorem Ml{p}{k}(hp:∀j,p j=decide (f j=k)){b:List (K×gZ)}{as:List (L×AV)}(h:jR G μ f b as):(b.map (·.1)).Nodup->jR G μ f (without b k) (rW p as):=by
 induction h with|nil=>exactλl=>.nil|@cons j _ _ _ _ r i d=>
  intro c;haveI a:=pj.mp c;unfold without;dsimp only[CP];rw[hp];by_cases q:f j=k;.rw[decide_eq_true q,Jl,if_neg (by simp[q])];haveI e:=without_of_not_mem _ k (q▸a.1);unfold without at e;rw[e];exact i
  .rw[decide_eq_false q,Jl,if_pos (by simp[q])];exact .cons r<|d a.2
end
theorem vP(j i):hm j i=decide (S j=S i):=by
 rw[tL];by_cases h:j=i;.subst h;simp
 .haveI:¬S j=S i:=λq=>h<|DJ q;simp[h,this]
theorem tT(j i:Int):decide (j=i)=decide (id j=id i):=rfl
section
variable{Φ:Fm}{μ:Mu}{ρ:Loc}{st:St}{s:hb}{Q:AV->St->Prop}{E:gZ->hb->Prop}{A:ix}
theorem Dy.eH(D:Dy Φ μ ρ st s)(h:μ.cell m=U a):Φ.a.b1<=a:=(D.N.bu a<|.inr<|.inl ⟨m,h⟩).1
theorem tU(c:Φ.a.y)(h:Φ.a.b1<=a):(a==xN)=false:=by
 haveI b:=c.bn;haveI:a≠1:=by exact iP (hD b h)
 exact beq_eq_false_iff_ne.mpr this
theorem q4(D:Dy Φ μ ρ st s)(d:μ.cell m=U a)(hc:st.cell m=U c):km Φ.a μ s.heap a c:=by refine kf λb=>g6 (D.N.cp m c hc) λi e h=>?_;rw[d]at e;cases e;exact b h
theorem vQ{n:Nat}(h:n<=1000000):(n:Int)<2^63:=xO (rF.mpr h) (by decide)
theorem zG{n:Nat}(h:n<=1000000):¬(n:Int)>=2^63:=Int.not_le.mpr<|vQ h
theorem pU(r:RelV Φ.a μ v<|.mut m)(h:m≠ .L):∃a,v=.ref a/\μ.cell m=U a:=r.R.imp λb k=>⟨k.1,k.2.elim (λq=>absurd q.1 h) And.right⟩
theorem tr{P:Bool->St->Prop}(e:U x=U b)(h:P b st)(q:y=x):P y st:=q▸ia e▸h
theorem zH{α a:Type}{l:List α}{r:List a}(h:l.length=r.length):(!l.isEmpty)=!r.isEmpty:=by cases l<;>induction r<;>first|rfl|cases h
theorem Ei{K L}[DecidableEq K]{aG:KeyKind Φ.a.prog Φ.a.w K}{f}(d:Φ.a.y)(D:Dy Φ μ ρ st s){a}{m}{c}{l:List (L×AV)}{P}{b}(hc:μ.cell m=U a)(c1:s.heap.DictOf aG a c)(c2:jR Φ.a μ f c l)(c3:l.length<=1000000)(e:U (!l.isEmpty)=U b)(h:P b st):g0 Φ.q A (truthy<|.ref a) (PB Φ ρ μ P) E s:=wpAny_truthy_dict (tU d<|D.eH hc) c1 (c2.len▸vQ c3)<|.mk (tr e h<|zH c2.len)<|(D.toks _).toks _
theorem q5(aN:Φ.a.y)(D:Dy Φ μ ρ st s)(r:RelV Φ.a μ v a)(h:jy a st P):g0 Φ.q A (truthy v) (PB Φ ρ μ P) E s:=by
 unfold jy at h;induction e:nk st a with|none=>rw[e]at h;exact h.elim|some b=>
  rw[e]at h;cases a with
  |none=>rw[show v=_ from r.R];exact truthy_none<|.mk (tr e h O) D|bool b=>rw[show v=_ from r.R];exact BW<|.mk (tr e h O) D|int i=>refine hz r.R λt j=>?_;rw[j];exact PySem.P.truthy_int<|.mk (tr e h (by by_cases q:i=0<;>simp[q])) D|str l=>refine g6 r.R λt j hl=>?_;rw[j];exact PySem.P.truthy_str (zG hl)<|.mk (tr e h (by induction l<;>simp[vD]<;>lia))<|(D.toks _).toks _|au l=>refine lh r.R λa B n j T z hl=>?_;rw[j];exact ktl_truthy (T.elim (λh=>(D.N.t _ h).1) λh=>D.N.aU _ _ h) (by rw[Jm,z.len];exact zG hl)<|.mk (tr e h (by rw[List.isEmpty_toArray];exact zH z.len))<|(D.toks _).toks _|obj C ks B=>refine jr r.R λa d o n j k w Y=>hn Y λM y=>?_;rw[j];exact hn (DY<|aN.cls _<|.inr (by rw[y];rfl)) λc1 c2=>zD D.N.aU (D.N.t _ k).1 c1 c2<|.mk (tr e h O) D|cG=>exact hu e|aP f=>refine oM r.R λa x I j k w=>?_;rw[j];exact hn (Mh _) λc1 c2=>zD D.N.aU (D.N.t _ k).1 c1 c2<|.mk (tr e h O) D|«mut» m=>
   refine g6 r.R λa' j h'=>?_;rw[j];rcases h' with h'|h'
   .obtain⟨rfl,I,hp⟩:=h';induction q:st.L with|none=>exact hu<|(D.N.cA q).symm.trans hp|some p=>exact jr (D.N.cU _ _ q) λau J o n k w M y=>hn (DY<|aN.cls _<|.inl O) λc1 c2=>zD D.N.aU (xP (ia<|hp.symm.trans k) |>.1▸(D.N.t _ w).1) c1 c2<|.mk (tr e h O) D
   .obtain⟨N,hc⟩:=h';have e:yF (st.cell m)=U b:=by induction m<;>first|exact absurd O N|exact e
    induction q:st.cell m with|none=>rw[q]at e;exact hu e|some c=>
     rw[q]at e;haveI C:=q4 D hc q;clear q;induction c<;>first|exact hu e|skip
     .exact jk C λB n c1 c2 c3=>wpAny_truthy_list ⟨_,c1,rfl,n,rfl⟩ (by rw[<-xQ,c2.len];exact vQ c3)<|.mk (tr e h ((Array.isEmpty_toList)▸zH c2.len))<|(D.toks _).toks _
     .exact jj C λo c1 c2 c3=>Ei aN D hc c1 c2 c3 e h
     .exact rQ C λo c1 c2 c3 av=>Ei aN D hc c1 c2 c3 e h
  |val=>exact hu e
end
end
section
open PySem PySem.W PySem.Calls PyProof.Rows
section
variable{Φ:Fm}{μ:Mu}{ρ:Loc}{st:St}{s:hb}{Q:AV->St->Prop}{E:gZ->hb->Prop}{A:ix}
theorem vR:(Jn p w).is i (.int i t)=true:=beq_self_eq_true i
theorem vU:(PySem.strKind p w).is i (.str i t)=true:=by first|exact beq_self_eq_true i|exact decide_eq_true _
theorem Ej(r:RelV Φ.a μ v a)(h:vj a=U b):(v==xG)=b:=by
 cases a with
 |none=>first|exact hu h|(rw[show v=_ from r.R];exact ia h)
 |bool=>first|exact hu h|(exact ia h)
 |int=>first|exact hu h|(refine hz r.R λt e=>?_;rw[e];exact ia h)
 |str=>first|exact hu h|(refine g6 r.R λt e c=>?_;rw[e];exact ia h)
 |val=>first|exact hu h|(exact ia h)
 |au=>first|exact hu h|(refine lh r.R λc c c e c c c=>?_;rw[e];exact ia h)
 |obj=>first|exact hu h|(refine jr r.R λc c c c e c c d=>hn d λc c=>?_;rw[e];exact ia h)
 |cG=>first|exact hu h|(exact ia h)
 |aP=>first|exact hu h|(exact ia h)
 |«mut»=>first|exact hu h|(refine g6 r.R λt e c=>?_;rw[e];exact ia h)
theorem zI{K}[DecidableEq K]{aG:KeyKind Φ.a.prog Φ.a.w K}{k}{a}{d}{f}(j:aG.is k a=H)(hd:(d==xN)=g)(l:s.heap.MapOf aG d f){b c}(e:U (f k).isSome=U b)(o)(i:qQ (U b) o=U c)(D:Dy Φ μ ρ st s)(h:Q (.bool c) st):g0 Φ.q A (n2 (lp o) a<|.ref d) (PE Φ ρ μ Q) E s:=by
 haveI e:=ia e;induction o<;>first|exact hu i|skip
 .exact wpAny_in_of j hd l<|.mk ((e.trans<|ia i)▸h) (.bool _)<|D.toks _
 .exact wpAny_notIn_of j hd l<|.mk (by rw[e,show(!b)=c from ia i];exact h) (.bool _)<|D.toks _
theorem Ek(h:qQ r o=U c):∃b,r=U b/\qQ (U b) o=U c:=by induction r with|some b=>exact h9 b O h|none=>induction o<;>exact hu h
theorem Mm(y:Φ.a.y)(D:Dy Φ μ ρ st s)(n:RelV Φ.a μ v k)(w:RelV Φ.a μ u<|.mut m)(e:rX st m k=U b)(o)(l:qQ (U b) o=U c)(h:Q (.bool c) st):g0 Φ.q A (n2 (lp o) v u) (PE Φ ρ μ Q) E s:=by
 haveI r:m≠ .L:=by rintro rfl;cases k<;>first|exact hu e|(exact hu e)
 refine kf λd=>g6 (pU w r) λa p hc=>d ?_;rw[p];exists d;cases k<;>first|exact hu e|skip
 .refine hz (tK n) λt f=>d ?_;rw[f];unfold rX at e;exists d;cases q:st.cell m with|none=>rw[q]at e;exact hu e|some x=>
   rw[q]at e;refine d ?_;induction x<;>first|exact hu e|skip
   exact jj (q4 D hc q) λi c1 c2 c3=>zI vR (tU y<|D.eH hc) c1.mapOf ((congrArg _ (r6 (λj=>tT j _) c2).1).trans e) o l D h
 .refine hz (qY n) λt f=>d ?_;rw[f];unfold rX at e;induction q:st.cell m with|none=>rw[q]at e;exact hu e|some x=>
   rw[q]at e;induction x<;>first|exact hu e|skip
   exact jj (q4 D hc q) λi c1 c2 c3=>zI vU (tU y<|D.eH hc) c1.mapOf ((congrArg _ (r6 (λj=>vP j _) c2).1).trans e) o l D h
theorem Mn(y:Φ.a.y)(D:Dy Φ μ ρ st s)(p:RelV Φ.a μ v k)(e:yK Φ.a.T d k=U b)(o)(m:qQ (U b) o=U c)(h:Q (.bool c) st):g0 Φ.q A (n2 (lp o) v<|.ref d) (PE Φ ρ μ Q) E s:=by
 exists l;cases k<;>first|exact hu e|skip
 refine hz (qY p) λt i=>l ?_;rw[i];unfold yK at e;induction q:Φ.a.T.dN d with|none=>rw[q]at e;exact hu e|some f=>rw[q]at e;exact hn (y.eU d f q) λd1 x=>jk x λn r a c2 w=>zI vU (beq_eq_false_iff_ne.mpr d1) (a _ D.N.aU).dictOf.mapOf ((congrArg _ (r6 (λj=>vP j _)<|c2 μ).1).trans e) o m D h
theorem Mo(D:Dy Φ μ ρ st s)(r:RelV Φ.a μ v x)(e:yN x o=U b)(h:Q (.bool b) st):g0 Φ.q A (n2 (lp o) v .none) (PE Φ ρ μ Q) E s:=by
 induction o<;>first|exact hu e|skip
 .exact is_none<|.mk (Ej r e▸h) (.bool _) D
 .unfold yN at e;induction q:vj x with|none=>rw[q]at e;exact hu e|some c=>rw[q]at e;exact isNot_none<|.mk (by rw[Ej r q,show(!c)=b by induction c<;>exact ia e];exact h) (.bool _) D
theorem Mp(D:Dy Φ μ ρ st s)(m:RelV Φ.a μ v<|.str a)(n:RelV Φ.a μ u<|.au l)(e:CT a l o=U b)(h:Q (.bool b) st):g0 Φ.q A (n2 (lp o) v u) (PE Φ ρ μ Q) E s:=by
 induction o<;>first|exact hu e|skip
 refine hz (qY m) λt c=>?_;rw[c];refine lh n.R λp r q d j k x=>?_;rw[d];.exact g6 (LD k e) λw f i=>in_tuple_strs (vE D j) (by simpa using f)<|.mk (i▸h) (.bool _) D
set_option tactic.hygienic true in
theorem Mq(k:Φ.a.y)(D:Dy Φ μ ρ st s)(a:RelV Φ.a μ v x)(f:RelV Φ.a μ u y)(e:nI Φ.a.T st o x y=U b)(h:Q (.bool b) st):g0 Φ.q A (n2 (lp o) v u) (PE Φ ρ μ Q) E s:=by
 cases y<;>first|exact hu e|skip
 .rw[zh f];exact Mo D a e h
 .refine hz (tK f) λt d=>?_;rw[d];cases x<;>first|exact hu e|skip
  .rw[zh a];induction o<;>first|exact hu e|exact EqNone.eq_none_int<|.mk (tq e h) (.bool _) D
  .exact hz (tK a) λt d=>d▸LF D e h
 .refine hz (qY f) λt d=>?_;rw[d];cases x<;>first|exact hu e|skip
  .rw[zh a];induction o<;>first|exact hu e|exact EqNone.eq_none_str<|.mk (tq e h) (.bool _) D
  .exact hz (qY a) λt d=>d▸LG D e h
 .rename_i w;induction w<;>first|exact hu e|skip
  rw[show u=_ from f.R.1];exact g6 (Ek e) λc i j=>Mn k D a i o j h
 .cases x<;>first|exact hu e|exact Mp D a f e h
 .exact g6 (Ek e) λc i j=>Mm k D a f i o j h
end
end
section
open PySem PySem.W PySem.Calls PyProof.Rows
theorem tV(h:q3 a=H):subscripted a g o i=operate [o,i] (getItem o i):=(pR _ default).2.1 h o i
theorem El{α:Type}(l:List α)(I J):(l.drop<|min I l.length).take (min J l.length - min I l.length)=(l.take J).drop I:=by
 rw[<-Jo,List.take_eq_take_iff.mpr (show min _ _=min J _ by rw[Nat.min_assoc,Nat.min_self])];rcases Nat.le_total I _ with h|h
 .rw[xR h]
 .rw[Nat.min_eq_right h,xS (by rw[pq];exact sU _ _),xS (by rw[pq];exact f2 (sU _ _) h)]
noncomputable def lu(d:Nat):Option Int->Nat|V=>d|U j=>j.toNat
noncomputable def vV(d:Nat)(n:Nat):Option Int->Int|V=>d|U i=>max 0 (min (if i<0 then i+n else i) n)
theorem Em(h:0<=o.getD 0)(hd:d<=n):vV d n o=((min (lu d o) n:Nat)):=by induction o with|none=>exact congrArg _ (xR hd).symm|some i=>refine hz (Int.eq_ofNat_of_zero_le h) λk e=>?_;subst e;show max 0 (min (if k<0 then(k:Int)+n else k) n)=((min k n:Nat));rw[Int.max_eq_right<|Int.le_min.mpr ⟨j9 _,j9 _⟩];exact(Lean.Omega.Int.ofNat_min k n).symm
theorem En{a b}{n}(c:0<=a.getD 0)(d:0<=b.getD 0):xT (vV 0 n a) (vV n n b) 1=(List.range (min (lu n b) n - min (lu 0 a) n)).map ((min (lu 0 a) n)+·):=by rw[Em c<|i' n,Em d<|hJ n,sliceRange_one]
theorem Mr{a b n}(c:a<=n)(d:b<=n)(h:a - b=n):b=0:=Nat.le_zero.mp<|Nat.le_of_add_le_add_left<|f2 (jh (h▸Nat.sub_add_eq_max a b)) (Nat.max_le.mpr ⟨c,d⟩)
theorem Ms(l)(lo a)(b:0<=lo.getD 0)(c:0<=a.getD 0):Txt.slice (S l) lo a=S ((l.take<|lu l.length a).drop<|lu 0 lo):=by
 haveI p:=El l (lu 0 lo)<|lu l.length a;show(if((1)==1&&(xT (vV 0 l.length lo) _ 1).length==l.length)=H then S l else S<|(xT _ _ 1).filterMap _)=_;rw[En b c,(pick_run l.toArray (min (lu 0 lo) l.length) (min (lu l.length a) l.length - min (lu 0 lo) l.length)),p,h8,List.length_range];split;.rename_i z;haveI z:=eq_of_beq (show(_==_)=H from z);rw[<-p,z,Mr (sU _ _) (sU _ _) z];exact congrArg S (Ct).symm
 .rfl
theorem Mt(b)(lo a)(c:0<=lo.getD 0)(d:0<=a.getD 0):slicePick b lo a V=((b.toList.take<|lu b.size a).drop<|lu 0 lo).toArray:=by show((xT _ _ 1).filterMap _).toArray=_;rw[En c d,pick_run];exact congrArg _<|El _ _ _
section
variable{Φ:Fm}{μ:Mu}{ρ:Loc}{st:St}{s:hb}{Q:AV->St->Prop}{E:gZ->hb->Prop}{A:ix}
theorem zJ(n)(h:hZ G μ a args):hZ G μ (a.take n)<|args.take n:=hZ.M (C:=λc as=>∀n,hZ G μ (c.take n)<|as.take n) (λn=>by rw[List.take_nil,List.take_nil];exact .nil) (λr d b n=>n.casesOn .nil λn=>.cons r<|b n) h n
theorem zK(n)(h:hZ G μ a args):hZ G μ (a.drop n)<|args.drop n:=hZ.M (C:=λd as=>∀n,hZ G μ (d.drop n)<|as.drop n) (λn=>by rw[List.drop_nil,List.drop_nil];exact .nil) (λr c b n=>n.casesOn (.cons r c) b) h n
theorem q6(D:Dy Φ μ ρ st s)(q:st.cell m=U c):m≠ .L:=λz=>by subst z;cases q
theorem jJ(h:placeOf j n=U k):j=k\/(j= -1/\k+1=n):=by
 unfold placeOf at h;exists d;by_cases a:0<=j;.rw[if_pos a]at h;exact d<|.inl<|(xU a).symm.trans<|congrArg _ (ia h)
 .rw[if_neg a]at h;by_cases b:j= -1
  .rw[if_pos b]at h;by_cases c:n=0;.rw[if_pos c]at h;exact hu h
   .rw[if_neg c]at h;exact d<|.inr ⟨b,ia h▸Nat.succ_pred_eq_of_ne_zero c⟩
  .rw[if_neg b]at h;exact hu h
theorem Eo:((-1:Int)+(n+1:Nat)).toNat=n:=congrArg _<|(Int.add_comm _ _).trans<|Int.add_neg_cancel_right n 1
theorem zL(h:placeOf j n=U k)(i:k<n)(d:n<=1000000): -(2^63)<=j/\j<2^63/\fitsSsize j=H/\seqIndex? j n=U k:=by
 have b: -n<=j/\j<n:=by
  rcases jJ h with rfl|⟨rfl,rfl⟩
  .exact⟨pu (Int.neg_nonpos_of_nonneg<|j9 n)<|j9 k,ni.mpr i⟩
  .exact⟨Int.neg_le_neg<|rF.mpr<|mj (i' k),sV (by decide)<|j9 _⟩
 have a:=pu (Int.neg_le_neg<|rF.mpr d) b.1;have c:j<9223372036854775808:=sV b.2<|pu (rF.mpr d) (by decide);refine⟨pu (by decide) a,c,fitsSsize_of (sV (by decide) a) c<|sW _,?_⟩;rcases jJ h with e|⟨e,f⟩
 .clear zz3 e b;exact seqIndex_of (j9 k) b.2
 .clear zz3 e b;clear zz3 (Eq.symm f) b;rw[seqIndex_neg (by decide) b.1,Eo]
theorem zM{α:Type}{l:List α}{c}(h:l[n]?=U c):n<l.length:=(jq.mp h).1
theorem Mv(D:Dy Φ μ ρ st s)(m:q3 a=H)(hl:l.length<=1000000)(k:placeOf j l.length=U n)(e:l[n]?=U c)(h:Q (.str [c]) st):g0 Φ.q A (sX b a (.str (S l) t)<|.int j p) (PE Φ ρ μ Q) E s:=by
 refine qK (zL k (zM e) hl) λo o f i=>?_;haveI d:Txt.charAt (S l) j=U c:=by unfold Txt.charAt;rw[i];exact(List.getElem?_toArray).trans e
 exact sY (qy _ _ _) Jp.lookup (SB.getItem f (by rw[d];rfl) (by rw[(by unfold Txt.item;rw[d];rfl:Txt.item _ j=S _)];exact .mk h (.str _ _<|jN O)<|D.toks _))<|tV m
theorem Mw(D:Dy Φ μ ρ st s)(t:q3 e=H){a:Nat}{l}{n}(L:s.heap.IsList a x)(r:hZ Φ.a μ x.toList l)(hl:l.length<=1000000)(o:placeOf j l.length=U n)(p:l[n]?=U b)(h:Q b st):g0 Φ.q A (sX k e (.ref a)<|.int j B) (PE Φ ρ μ Q) E s:=by
 refine sY L.typeIs slot_list_getitem.lookup (g6 (oU r p) λw i q=>?_)<|tV t;haveI f:=r.len;rw[xQ]at f;rw[oG]at i;refine qK (zL o (zM p) hl) λb1 m z z=>?_;rcases jJ o with c|⟨d,y⟩;clear zz3 c m;rotate_left 1;clear zz3 d b1;rotate_right 1
 .exact wpAny_getItem_list L (j9 n) m i<|.mk h q D
 .exact wpAny_getItem_list_neg L (by decide) (by lia) b1 (by rw[f,<-y,Eo];exact i)<|.mk h q D
theorem Mx(aQ:Φ.a.y)(D:Dy Φ μ ρ st s)(M:q3 o=H){x y}(T:RelV Φ.a μ v x)(N:RelV Φ.a μ u y)(h:li Φ.a.T x y st Q):g0 Φ.q A (sX p o v u) (PE Φ ρ μ Q) E s:=by
 have dI:∀{a} {r} {f},s.heap.DictOf _ a _->jR Φ.a μ id f r->(nJ y λi=>iQ (tu i r) _)->g0 Φ.q A (sX p o (.ref a) u) (PE Φ ρ μ Q) E s:=λc1 c2 h=>pN h λi B h=>jx h λb e h=>hz (N.cS B) λti z=>g6 ((r6 (k:=i) (λj=>tT j i) c2).2 b e) λw Y au=>z▸sY c1.typeIs slot_dict_getitem.lookup (wpAny_getItem_of vR c1.mapOf Y<|.mk h au<|D.toks _) (tV M);have dS:∀{a} {r} {f},s.heap.DictOf _ a _->jR Φ.a μ S f r->(pM y λi=>iQ (vi i r) _)->g0 Φ.q A (sX p o (.ref a) u) (PE Φ ρ μ Q) E s:=λc1 c2 h=>tz h λi B h=>jx h λb e h=>g6 (N.cT B) λti z G=>g6 ((r6 (λj=>vP j i) c2).2 b e) λw Y au=>z▸sY c1.typeIs slot_dict_getitem.lookup (wpAny_getItem_of vU c1.mapOf Y<|.mk h au<|D.toks _) (tV M);cases x with
 |str l=>exact g6 T.R λt e hl=>yT h λj n c B L J h=>hz (N.cS B) λaN z=>e▸z▸Mv D M hl L J h|au l=>refine lh T.R λa vs nn e hx av hl=>yT h λj n c B L J h=>hz (N.cS B) λaN z=>?_;subst e z;exact qK (zL L (zM J) hl) λb1 b2 G b4=>g6 (oU av J) λw e3 aO=>item_tupleT (vE D hx) b1 b2 (av.len.symm▸b4) e3 (.mk h aO D)<|tV M|«mut» m=>refine jx h λc q h=>g6 (pU T<|q6 D q) λa e hc=>?_;subst e;haveI C:=q4 D hc q;clear q;induction c with|m l=>exact jk C λvs nn c1 c2 c3=>yT h λj n c B L J h=>hz (N.cS B) λaN z=>z▸Mw D M ⟨_,c1,rfl,nn,rfl⟩ c2 c3 L J h|bQ r=>exact jj C λf c1 c2 G=>dI c1 c2 h|dq _ l=>exact h.elim|dc _ r=>exact jj C.2 λf c1 c2 G=>dI c1 c2 h|bD r=>exact rQ C λf c1 c2 G G=>dS c1 c2 h
 |val aP=>refine hn T.R λI G=>?_;subst I;induction v with|ref d=>exact jx h λr e h=>hn (aQ.eU d r e) λG h'=>jk h' λf ep c0 c2 G=>dS (c0 _ D.N.aU).dictOf (c2 μ) h|_=>exact h.elim
 |_=>exact h.elim
end
end
section
open PySem PySem.W PySem.Calls PyProof.Rows
noncomputable def j6:g_->Bool| .Call (.Attribute _ _ _) _ _ _=>H| .Call .. =>g|_=>H
theorem Ep(h:j6 o=H):xV o c ac b=b:=by
 cases o with
 |Call f a k p=>cases f<;>first|rfl|cases h
 |_=>first|rfl|cases h
noncomputable def jK(args:List g_)(ag:List oC)(a aa:ku):Bool:=args.all jm&&oj ag&&decide (args.length+ag.length+(if ag.isEmpty then 0 else 1)<30)&&a.endLine==aa.line
section
variable{M:nD}{A:ix}{E:gZ->hb->Prop}{s:hb}{ac:jL}
theorem My{aa}:∀{a:List g_},a.all jm=H->(ml aa<|lF a ac).all (!·.1)=true:=by intro a;induction a with|nil=>exactλ_=>rfl|cons e r b=>intro h;rw[iG]at h;rw[ny h.1];show(H&&(ml _ _).all _)=H;rw[b h.2];rfl
theorem Mz:∀{ag},(mm aa<|mK ag ac).isEmpty=ag.isEmpty|[]=>rfl|⟨_,_,_⟩::_=>rfl
theorem q7(h:jK args ag b aa=H):methodCallForm (args.length+ag.length) (ml aa<|lF args ac) (mm aa<|mK ag ac)=H/\args.all jm=H/\oj ag=H/\(b.endLine==aa.line)=true:=by unfold jK at h;simp only[iG]at h;refine kf λi=>hn h λa f=>hn a λa e=>?_;obtain⟨c,d⟩:=a;refine i<|⟨?_,c,d,f⟩;unfold methodCallForm;rw[My c,(tR d).1,Mz,e];rfl
theorem Er{ac}{a aa}(h:(a.endLine==aa.line)=H):methodCallPos b o ac a aa=pure aa:=by unfold methodCallPos;rw[h,xE];exact if_pos O
theorem MethodCall_(n:j6 o=H)(m:jK args ag c aa=H)(h:g0 M A (eval o ac) (λf a=>∀p,g0 M A (getMethod f name p) (λi b=>g0 M A (u1 aa i.1 i.2 (ml aa<|lF args ac)<|mm aa<|mK ag ac) Q E b) E a) E s):g0 M A (eval (.Call (.Attribute o name c) args ag aa) ac) Q E s:=by
 refine qK (q7 (ac:=ac) m) λk q r l=>?_;show g0 M A (do
  let f <-xV o _ _ _
  standAt _
  methodCall o _ _ _ _ f _ _ _) Q E s
 rw[Ep n];refine hk<|g5 h (λf a d=>hk<|oH ?_) λj j x=>x;unfold methodCall;rw[k];rw[Er l];exact hk<|nc<|g5 (d _) (λi b e=>hk (ib e)) λj j x=>x
theorem Call_(c:D_ f=H)(h:g0 M A (eval f ac) (λb a=>g0 M A (u1 aa b [] (ml aa<|lF args ac)<|mm aa<|mK ag ac) Q E a) E s):g0 M A (eval (.Call f args ag aa) ac) Q E s:=by rw[((pR f ac).2.2.1 c args ag aa)];exact hk h
end
theorem Es(j:j6 a=H)(h:g0 (ii ai w) A (eval a ac) (λo b=>g0 (ii ai w) A (ph o c H) Q E b) E s):g0 (ii ai w) A (eval (.Attribute a c aa) ac) Q E s:=by
 show g0 _ A (do
  let o <-xV _ _ _ _
  standAt _
  let r <-holding _ _
  letTemporaryGo _ o r
  pure r) Q E s
 rw[Ep j];refine hk<|g5 h (λo b d=>hk<|oH (hk (nc (g5 d (λr i e=>?_) λf f x=>x)))) λf f x=>x;exact hk<|wpAny_letTemporaryGo<|ib e
end
section
open PySem PySem.W PySem.Calls PyProof.Rows
theorem hZ.set(n)(h:hZ G μ b as)(r:RelV G μ v a):hZ G μ (b.set n v)<|as.set n a:=hZ.M (C:=λb as=>∀n,hZ G μ (b.set n v)<|as.set n a) (λn=>.nil) (λd e c n=>n.casesOn (.cons r e) λn=>.cons d<|c n) h n
theorem hZ.ints{G}{μ}{b:List (Int×gZ)}{as:List (Int×AV)}(h:jR G μ id b as):∀{a:List gZ},a.length=b.length->(∀(j:Nat) v,a[j]?=U v->∃(k:Int) (x:gZ),b[j]?=U (k,x)/\∃t,v=.int k t)->hZ G μ a (as.map λp=>.int p.1):=h.rec (motive:=λb as i=>∀{a:List gZ},a.length=b.length->(∀(j:Nat) v,a[j]?=U v->∃(k:Int) (x:gZ),b[j]?=U (k,x)/\∃t,v=.int k t)->hZ G μ a (as.map λp=>.int p.1)) (λh _=>BX h▸ .nil) λ{_ _ _ _ _} _ _ f a=>a.casesOn (λh=>nomatch h) λv a h d=>jv (d 0 v O) λk x e c=>hz c λt c=>c▸(xP<|ia e).1▸ .cons (.int _ _) (f (sZ h) λj=>d (j+1))
section
variable{Φ:Fm}{μ:Mu}{ρ:Loc}{st:St}{s:hb}{Q:AV->St->Prop}{E:gZ->hb->Prop}{A:ix}
theorem lv(h:n<=1000000):n<=qz:=f2 h (by decide)
theorem Dy.newList(e:Φ.y)(D:Dy Φ μ ρ st s)(r:hZ Φ.a μ b l)(hl:l.length<=1000000)(h:Q (.mut<|.j st.f)<|st.new<|.m l):PE Φ ρ μ Q (.ref s.heap.objs.size) {s with heap:=s.heap.push<|listOf b.toArray n,toks:=t}:=PE.new (c:=.m l) e D vB (λa d=>jw _) (λE=>⟨b.toArray,n,m_ _ O,r.aR E,hl⟩) h
theorem Dy.gq(e:Φ.y)(D:Dy Φ μ ρ st s){b:Bool}{t:Nat}(h:Q (.mut<|.j st.f)<|st.new (match b with|true=>.bD []|false=>.bQ [])):PE Φ ρ μ Q (.ref s.heap.objs.size) {s with heap:=s.heap.push {cls:=.type "dict",data:=.dict #[]},toks:=t}:=by induction b with|false=>exact PE.new (c:=.bQ _) e D vB (λa d=>jw _) (λE=>⟨[],BY _,.nil,i' _⟩) h|true=>exact PE.new (c:=.bD _) e D vB (λa d=>jw _) (λE=>⟨[],BY _,.nil,i' _,λp hp=>nomatch hp⟩) h
theorem tW(D:Dy Φ μ ρ st s)(hc:μ.cell m=U a)(q:st.cell m=U (.m l)):∃b n,xW s.heap a b n/\hZ Φ.a μ b.toList l/\l.length<=1000000/\b.size=l.length:=jk (q4 D hc q) λb n c1 c2 c3=>to b n c1 c2 c3 (c2.len)
theorem Dy.ej(D:Dy Φ μ ρ st s)(f)(hc:μ.cell m=U a)(c:xW s.heap a d n)(r:hZ Φ.a μ (f d).toList b)(hl:b.length<=1000000):Dy Φ μ ρ (st.bh m<|.m b) {s with heap:=s.heap.update a<|iT.mapSeq f,toks:=t}:=D.dI hc (BZ ..) ⟨_,_,xW.update c f,r,hl⟩
theorem ol(h:l7 n P):n<=1000000/\P:=by unfold l7 at h;induction z:jf n _ with|true=>rw[z]at h;exact⟨jN z,h⟩|false=>rw[z]at h;exact h.elim
theorem zN(D:Dy Φ μ ρ st s)(r:RelV Φ.a μ v x)(h:qR st x P){B:Prop}(k:∀m c a,v=.ref a->μ.cell m=U a->st.cell m=U c->km Φ.a μ s.heap a c->P m c->B):B:=CX h λm c e q h=>g6 (pU (e▸r)<|q6 D q) λa b hc=>k m c a b hc q (q4 D hc q) h
theorem zO{K}[DecidableEq K]{aG:KeyKind Φ.a.prog Φ.a.w K}{h:je}{a:Nat}{b:List (K×gZ)}(d:h.DictOf aG a b):(b.map (·.1)).Nodup:=d.elim λc d=>d.elim λc d=>d.elim λc d=>d.2.2.2.2.2
structure LA (Φ:Fm)(μ:Mu)(st:St)(s:hb)(v:gZ)(m:iV)(l:List AV)(a:Nat)(b:Array gZ)(n:Nat):Prop where
 d:v=.ref a
 aW:μ.cell m=U a
 bx:st.cell m=U (.m l)
 R:xW s.heap a b n
 aS:hZ Φ.a μ b.toList l
 dd:l.length<=1000000
 w:b.size=l.length
theorem on(D:Dy Φ μ ρ st s)(r:RelV Φ.a μ v x)(h:kW st x P){B:Prop}(k:∀m l a b n,LA Φ μ st s v m l a b n->P m l->B):B:=qS h λm l e q h=>g6 (pU (e▸r)<|q6 D q) λa d hc=>mq (tW D hc q) λb n c1 c2 c3 c=>k m l a b n ⟨d,hc,q,c1,c2,c3,c⟩ h
theorem MA(D:Dy Φ μ ρ st s)(b:RelV Φ.a μ v x)(c:RelV Φ.a μ u y)(h:yX x y st Q):g0 Φ.q A (kh (.builtin "list.append") [v,u]) (PE Φ ρ μ Q) E s:=by refine on D b h λm l a d n L h=>hn (ol h) λz h=>L.d▸u2 Jq ⟨_,L.R,rfl⟩ PySem.F.entry_list_append (PySem.F.args_list_append_2 _ _) (list_append a d n u<|lv (L.w▸L.dd)) ⟨L.R,?_⟩;refine PE.mk h .none<|D.ej _ L.aW L.R ?_ (by rw[io];exact z);rw[Array.toList_push];exact L.aS.aO<|.cons c .nil
theorem MB(D:Dy Φ μ ρ st s)(f:RelV Φ.a μ v x)(i:RelV Φ.a μ u y)(h:yY x y st Q):g0 Φ.q A (kh (.builtin "list.extend") [v,u]) (PE Φ ρ μ Q) E s:=by refine on D f h λm l a j n L h=>on D i h λm' o b us e c h=>hn (ol h.2) λz h=>L.d▸c.d▸?_;have d:=L.w.symm▸c.w.symm▸z;refine u2 Jr ⟨_,L.R,rfl⟩ PySem.F.entry_list_extend (PySem.F.args_list_extend_2 _ _) (PySem.AutoSeq1.list_extend_list_list_0 a j n b us e (λk=>(absurd (of_decide_eq_true (kV.mp k).2)<|jE.mpr<|lv d)) (lv<|f2 (iy _ _) d)<|lb<|lv d) ⟨L.R,c.R,?_⟩;.refine PE.mk h .none<|D.ej _ L.aW L.R ?_ (by rw[io];exact z);rw[Array.toList_append];exact L.aS.aO c.aS
end
end
section
open PySem PySem.W PySem.Calls PyProof.Rows
section
variable{Φ:Fm}{μ:Mu}{ρ:Loc}{st:St}{s:hb}{Q:AV->St->Prop}{E:gZ->hb->Prop}{A:ix}
theorem Et(a:Array gZ)(k)(h:k<a.size):(a.eraseIdxIfInBounds k).toList=a.toList.eraseIdx k:=by unfold Array.eraseIdxIfInBounds;rw[dif_pos h,Array.toList_eraseIdx]
theorem ME(r:hZ G μ c l)(h:l.getLast?=U a):∃v,c[c.length - 1]?=U v/\RelV G μ v a/\hZ G μ (c.eraseIdx (c.length - 1)) l.dropLast/\l.length≠0:=by
 haveI hl:l.length≠0:=by simpa using(by rintro rfl;cases h)
 haveI b:=r.len;refine g6 (oU r (by rw[<-List.getLast?_eq_getElem?];exact h)) λv d e=>⟨v,by rw[b];exact d,e,?_,hl⟩;haveI:=zJ (l.length - 1) r;rw[List.dropLast_eq_take,List.eraseIdx_eq_take_drop_succ,xS<|Nat.sub_le_iff_le_add.mp<|hJ _,j3,b];exact this
theorem MF(D:Dy Φ μ ρ st s)(i:RelV Φ.a μ v x)(h:C2 x st Q):g0 Φ.q A (kh (.builtin "list.pop") [v]) (PE Φ ρ μ Q) E s:=by refine on D i h λm l a j n L h=>jx h λb e h=>rQ (ME L.aS e) λu c d f z=>L.d▸?_;rw[oG]at c;refine u2 xX ⟨_,L.R,rfl⟩ Js (PySem.F.args_list_pop_1 _) (PySem.MeetsSeq.list_pop_last a j n u c<|lv (L.w▸L.dd)) ⟨L.R,?_⟩;refine PE.mk h d<|D.ej _ L.aW L.R ?_ (by rw[List.length_dropLast];exact f2 (B0 _ _) L.dd);rw[Et _ _<|Nat.sub_lt (L.w▸Jt z) Nat.one_pos];exact f
theorem MG(D:Dy Φ μ ρ st s)(j:RelV Φ.a μ v x)(h:C3 x st Q):g0 Φ.q A (kh (.builtin "list.pop") [v,.int 0 t]) (PE Φ ρ μ Q) E s:=by refine on D j h λm l a e n L h=>L.d▸?_;induction l with|nil=>exact h.elim|cons b l=>haveI d:0<e.size:=L.w▸rG _;refine g6 (oU (i:=0) L.aS O) λu c f=>?_;rw[oG]at c;refine u2 xX ⟨_,L.R,rfl⟩ Js (PySem.F.args_list_pop_2 _ _) (PySem.MeetsSeq.list_pop_at a e n 0 t 0 u O (seqIndex_of (sW 0)<|ni.mpr d) c<|lv (L.w▸L.dd)) ⟨L.R,?_⟩;refine PE.mk h f<|D.ej _ L.aW L.R ?_<|I8 L.dd;rw[Et _ _ d,List.eraseIdx_zero,<-List.drop_one];exact zK 1 L.aS
theorem MH(b:0<=n){a:Array gZ}(c:n.toNat<=a.size):((haveI k:=if n<0 then(n+(a.size:Int)).toNat else min n.toNat a.size;(a.extract 0 k).push u++a.extract k)).toList=a.toList.take n.toNat++u::a.toList.drop n.toNat:=by rw[if_neg<|oK.mpr b,xR c];simp;exact B1 (by simp)
theorem MI(D:Dy Φ μ ρ st s)(i:RelV Φ.a μ v x)(f:RelV Φ.a μ w j)(k:RelV Φ.a μ u y)(h:yZ x j y st Q):g0 Φ.q A (kh (.builtin "list.insert") [v,w,u]) (PE Φ ρ μ Q) E s:=by refine on D i h λm l a o nn L h=>pN h λn d h=>hz (f.cS d) λt e=>ju h λc b h=>hn (ol h) λz h=>L.d▸e▸?_;haveI r:=MH c (L.w▸b)▸(zJ _ L.aS).aO (.cons k<|zK _ L.aS);refine u2 Ju ⟨_,L.R,rfl⟩ PySem.F.entry_list_insert (PySem.F.args_list_insert_3 _ _ _) (PySem.AutoSeq1.list_insert_list_int_val_1 a o nn n t u (by rw[fitsIndex_of c<|sV ((B2 c).mp<|n3 b (s0 L.dd)) (by decide)];decide)<|lv (L.w▸L.dd)) ⟨L.R,?_⟩;refine PE.mk h .none<|D.ej _ L.aW L.R r ?_;rw[io,iD,pq,sS,xR b];exact f2 (jh<|congrArg Nat.succ<|Nat.add_sub_cancel' b) z
theorem MJ{c:Nat}(D:Dy Φ μ ρ st s)(l:0<=n)(m:n<=1000)(h:Q (.str (jD n.toNat c)) st):g0 Φ.q A (pg .Mult (.str (S [c]) t) (.int n o)) (PE Φ ρ μ Q) E s:=by
 have b:(2:Int)^63=9223372036854775808:=by decide
 have f:Txt.mul (S [c]) n=S (jD n.toNat c):=by
  unfold Txt.mul;by_cases d:n<1;.rw[if_pos d,show n.toNat=0 by omega];rfl
  .rw[if_neg d];by_cases e:n=1;.subst e;rfl
   .rw[if_neg (by simp[e,vD])];have:∀k:Nat,∀a:Array Nat,(jD k (S [c]).cps).foldl (· ++·) a=a++(jD k c).toArray:=by intro k;induction k with|zero=>intro a;simp|succ k i=>intro a;rw[Jv,Jw,i,Jv];show a++#[c]++_=_;rw[Array.append_assoc];congr 1;apply Array.toList_inj.mp;simp
    rw[this];show(⟨#[]++(jD n.toNat c).toArray⟩:g2)=_;simp[S]
 refine SB.mul ⟨by rw[b];simp;omega,λ_ _=>?_,λ_ _=>?_⟩ λj k=>?_
 .rw[vD,b];show ¬((1:Nat):Int)>(9223372036854775808 - 1)/n;have:(1:Int)<=(9223372036854775808 - 1)/n:=by apply Int.le_ediv_of_mul_le<;>omega
  omega
 .rw[vD];unfold Builtin.Str.tooLong;rw[sizeLine_eq];simp;omega
 .rw[f];exact .mk h (.str _ _ (by simp;omega)) (D.toks _)
theorem MK(aR:Φ.y)(D:Dy Φ μ ρ st s)(q:RelV Φ.a μ v x)(w:RelV Φ.a μ u y)(h:nr o x y st Q):g0 Φ.q A (pg (nv o) v u) (PE Φ ρ μ Q) E s:=by
 have B:(iQ (qN o x y) λr=>Q r st)->g0 Φ.q A (pg (nv o) v u) (PE Φ ρ μ Q) E s:=λh=>jx h λr e h=>lh (CO e) λi j k J M N T=>hz (q.cS J) λt f=>hz (w.cS M) λC d=>f▸d▸LB D N (T▸h);cases x with
 |«mut» m=>induction o with|add=>refine on D q h λm l a G n L h=>on D w h λm' aP b us aQ p h=>hn (ol h) λz h=>L.d▸p.d▸PySem.P.add_list L.R p.R ?_ (lv (L.w▸p.w▸z));haveI:=D.newList aR (n:=0) (t:=s.toks) (L.aS.aO p.aS) (by rw[io];exact z) h;rw[show(G.toList++us.toList).toArray=G++us from(Array.toList_append.symm▸Jx)]at this;exact this|_=>exact h.elim
 |str a=>induction o with|add=>refine tz h λb Y h=>g6 q.R λt f I=>g6 (w.cT Y) λC d I=>hn (ol h) λz h=>f▸d▸PyProof.Rows.add_str (λaO tk=>?_) (lv z);rw[Lz];exact .mk h (.str _ _ (by rw[io];exact z))<|D.toks _|mul=>exact pN h λn en h=>g6 h λc ec h=>ju h λau av aN=>g6 q.R λt f I=>hz (w.cS en) λC d=>by subst ec f d;exact MJ D au av aN|_=>exact h.elim
 |_=>exact B h
theorem ML(D:Dy Φ μ ρ st s){x}(d:RelV Φ.a μ v x)(h:yV x st Q):g0 Φ.q A (kh (.builtin "len") [v]) (PE Φ ρ μ Q) E s:=by have b:(kW st x λi l=>Q (.int l.length) st)->g0 Φ.q A (kh (.builtin "len") [v]) (PE Φ ρ μ Q) E s:=λh=>on D d h λm l a f n L h=>L.d▸Calls.call_len_list L.R.isList (L.w▸vQ L.dd) (L.w.symm▸ .mk h (.int _ _) ((D.toks _).toks _));exists c;cases x with|str l=>exact c<|g6 d.R λt e hl=>e▸PyProof.Rows.len_str (zG hl) (.mk h (.int _ _)<|(D.toks _).toks _)|_=>exact c<|b h
end
end
section
open PySem PySem.W PySem.Calls PyProof.Rows
section
variable{Φ:Fm}{μ:Mu}{ρ:Loc}{st:St}{s:hb}{Q:AV->St->Prop}{E:gZ->hb->Prop}{A:ix}
theorem MM(M:Φ.y)(b:Φ.a.y)(D:Dy Φ μ ρ st s)(z:A.handled=V)(I:RelV Φ.a μ v x)(h:C0 x st Q):g0 Φ.q A (kh (.type "list") [v]) (PE Φ ρ μ Q) E s:=by refine zN D I h λm c a e hc q C h=>?_;clear q;induction c with|bQ L=>exact jj C λG c1 c2 c3=>e▸oM c1 λo l J d1 f i=>kdl_call (kdl_dict<|tU b<|D.eH hc) z ⟨o,_,d1,f,i⟩ (c2.len▸lv c3) λh' tk d c B hL hI=>PE.new (c:=.m _) M D (ih hL) B (λE=>⟨_,c,hL,hZ.ints (c2.aR E) (hI.1) λj w e=>jv (hI.2 j w (oG▸e)) λk y n p=>(Jy p).elim λt r=>⟨k,y,n,t,r⟩,by rw[h8];exact c3⟩) h|_=>exact h.elim
theorem MN(au:Φ.y)(N:Φ.a.y)(D:Dy Φ μ ρ st s)(M:RelV Φ.a μ v a)(I:RelV Φ.a μ u j)(G:RelV Φ.a μ w b)(h:y5 a j b ρ st P):g0 Φ.q A (setItem v u w) (λY s'=>∃ae,P ρ ae/\Dy Φ μ ρ ae s') E s:=by refine zN D M h λm c d e hc q C h=>e▸?_;induction c with|m l=>refine pN h λn f h=>hz (I.cS f) λt o=>mq (tW D hc q) λT nn c1 c2 c3 r=>ju h λx J p=>o▸ki_setAt c1 x (sV ((B2 x).mp<|hD J c3) (by decide)) (r▸(B2 x).mp J) ⟨_,p,D.ej _ hc c1 ?_ (by rw[xz];exact c3)⟩;rw[Array.toList_setIfInBounds];exact c2.set _ G|bQ L=>exact pN h λi f h=>hz (I.cS f) λt o=>jj C λB c1 c2 c3=>hn (ol h) λz p=>o▸Jz vR c1 (λh' d1 y=>⟨_,p,D.dI hc y ⟨_,d1,Eh (λj=>tT j i) G c2<|zO c1,f2 (Ef _ _ _ _) z⟩⟩) (c2.len▸lv c3)|bD L=>exact tz h λi f h=>g6 (I.cT f) λt o hl=>rQ C λB c1 c2 c3 r=>hn (ol h) λz p=>o▸Jz vU c1 (λh' d1 y=>⟨_,p,D.dI hc y ⟨_,d1,Eh (λj=>vP j i) G c2<|zO c1,f2 (Ef _ _ _ _) z,Eg (P:=λk:List _=>k.length<=1000000) _ _ _ hl _ r⟩⟩) (c2.len▸lv c3)|_=>exact h.elim
theorem MO(D:Dy Φ μ ρ st s)(w:RelV Φ.a μ v a)(x:RelV Φ.a μ u j)(h:Dd a j ρ st P):g0 Φ.q A (delItem v u) (λy s'=>∃ae,P ρ ae/\Dy Φ μ ρ ae s') E s:=by
 refine zN D w h λm c d e hc q C h=>e▸?_;clear q;induction c with
 |bQ l=>refine pN h λi n h=>hz (x.cS n) λt o=>jj C λr c1 c2 c3=>o▸?_;haveI f:=(r6 (k:=i) (λj=>tT j i) c2).1;induction e:tt i l with|false=>rw[e]at h;exact h.elim|true=>rw[e]at h;rw[show qO _ l=H from e]at f;refine nc<|hk<|wpAny_sequenceKey c1.typeIs O ?_;exact hk<|wpAny_callSpecial?_slot c1.typeIs JA<|call_meetsIn JA c1.typeIs PySem.F.entry_dict_delitem (PySem.F.args_dict_delitem_2 _ _) (meets_dict_delitem_pairs _ d vR) ⟨_,c1,c2.len▸lv c3,f,λh' b p=>ib ⟨_,h,D.dI hc p ⟨_,b,Ml (λj=>tT j i) c2 (zO c1),f2 (Mk _ _) c3⟩⟩⟩
 |_=>exact h.elim
end
end
section
open PySem PySem.W PySem.Calls PyProof.Rows
set_option tactic.hygienic true in
theorem MP{l:List AV}{r:List _}(h:yQ l=U r){G}{μ}{d:List _}(k:hZ G μ d l):∃b:List<|List _,StrsAre d (b.map S)/\(∀s,JB s (b.map S)=S r)/\(b.map (·.length)).sum<=r.length/\b.length<=1:=by
 exists c;cases k with|nil=>exact c<|ia h▸⟨[],.nil,λf=>rfl,hJ _,i' _⟩|cons i j=>
  cases j with
  |nil=>rename_i a;cases a with|str x=>exact c<|g6 i.R λt e f=>ia h▸e▸⟨[x],.cons _ _ .nil,λf=>rfl,hJ _,hJ _⟩|_=>exact hu h
  |cons=>exact hu h
section
variable{Φ:Fm}{μ:Mu}{ρ:Loc}{st:St}{s:hb}{Q:AV->St->Prop}{E:gZ->hb->Prop}{A:ix}
theorem MQ(D:Dy Φ μ ρ st s)(d:b.length<=16)(o:RelV Φ.a μ v x)(h:y0 b x st Q):g0 Φ.q A (kh (.builtin "str.join") [.str (S b) t,v]) (PE Φ ρ μ Q) E s:=by
 refine on D o h λm l a q n L h=>jx h λr c h=>hn (ol h) λz h=>rQ (MP c L.aS) λw e f i j=>L.d▸join_list L.R.isList e ?_ λp k=>?_;.rw[qx,h8];exact f2 (j4 (f2 i z)<|Nat.mul_le_mul j d) (by decide)
 .show PE Φ ρ μ Q (.str (JB _ _) p) _;rw[f];exact .mk h (.str _ _ z)<|D.toks _
theorem vW{o:Option (Int×Tok)}{I:Option Nat}(h:o.map (·.1)=I.map s4):0<=(o.map (·.1)).getD 0:=by rw[h];induction I with|none=>exact sW 0|some i=>exact j9 i
theorem MR{l:List α}{I}:yP l I=l.drop (lu 0<|I.map s4):=by induction I<;>rfl
theorem MS{l:List α}{I}:yO l I=l.take (lu l.length<|I.map s4):=by induction I with|none=>exact Ct.symm|some i=>rfl
theorem part_of{G}{μ}{v}{i}{I:Option _}(r:RelV G μ v i)(h:pI i=U I):∃p:Option (Int×Tok),v=partValue p/\p.map (·.1)=I.map s4/\IsPart v (p.map (·.1)):=by
 exists a;cases i with
 |none=>exact a<|ia h▸r.R▸⟨V,rfl,rfl,.none⟩|int i=>
  refine hz r.R λt e=>?_;haveI h:(if 0<=i then U _ else V)=U I:=h;by_cases q:0<=i;.rw[if_pos q]at h;exact a<|ia h▸e▸⟨U (i,t),rfl,congrArg _ (xU q).symm,.int _ _⟩
  .rw[if_neg q]at h;exact hu h
 |_=>exact hu h
theorem Eu{l r:List α}(h:tv l i j=U r){B:Prop}(k:∀I J,pI i=U I->pI j=U J->r=(l.take<|lu l.length<|J.map s4).drop (lu 0<|I.map s4)->B):B:=g6 (sL.mp h) λI e h=>g6 (uS.mp h) λJ a h=>k I J e a<|h.symm.trans<|MR.trans (congrArg _ MS)
theorem Ew{α:Type}(l:List α)(a b):((l.take a).drop b).length<=l.length:=by rw[sS,pq];exact f2 (B0 _ _)<|sU _ _
theorem MT(D:Dy Φ μ ρ st s)(hc:μ.cell m=U a)(q:st.cell m=U c)(e:yR c=U l):∃b n,xW s.heap a b n/\hZ Φ.a μ b.toList l/\l.length<=1000000:=by haveI C:=q4 D hc q;clear q;induction c with|m l=>exact ia e▸C|dq o l=>exact ia e▸hn C λd C=>jk C λb n e c2 c3=>⟨b,n,d.trans<|congrArg _ e,c2,c3⟩|_=>exact hu e
theorem MU(aQ:Φ.y)(D:Dy Φ μ ρ st s){lo hi}{x i j}(au:RelV Φ.a μ v x)(T:RelV Φ.a μ u i)(Y:RelV Φ.a μ w j)(h:tB x i j st Q):g0 Φ.q A (sX C (.Slice lo hi V p) v<|.ref s.heap.objs.size) (PE Φ ρ μ Q) E {s with heap:=s.heap.push {cls:=.type "slice",data:=.fields #[u,w,.none]}}:=by
 have D1:Dy Φ μ ρ st {s with heap:=s.heap.push {cls:=.type "slice",data:=.fields #[u,w,.none]}}:=D.keeps (by rw[kI];exact jo _) λa aP=>jw _;exists B;cases x with
 |str l=>
  refine g6 au.R λt ex hl=>jx h λr e h=>Eu e λI J b1 y d=>jj (part_of T b1) λN e1 f G=>jj (part_of Y y) λpw e2 o G=>?_;subst e1 e2 ex;refine B<|sY (qy _ _ _) Jp.lookup (wpAny_getItem_str_slice (st:=V) ⟨_,m_ _ O,rfl,rfl⟩ rfl ?_) O;have L:Txt.slice (S l) (N.map (·.1)) (pw.map (·.1))=S r:=by rw[Ms l _ _ (vW f)<|vW o,f,o,d]
  haveI M:=d▸f2 (Ew _ _ _) hl;refine post_val_or_str ⟨?_,λaO k=>?_⟩;.show(Txt.slice _ _ _).length<=qz;rw[L];exact lv M
  .show PE Φ ρ μ Q (.str (Txt.slice _ _ _) aO) _;rw[L];exact .mk h (.str _ _ M)<|D1.toks _
 |«mut» m=>refine B<|jx h λc q h=>jx h λl e0 h=>jx h λr e h=>g6 (pU au<|q6 D q) λa ea hc=>jk (MT D hc q e0) λvs n c1 c2 c3=>Eu e λI J b1 y d=>jj (part_of T b1) λN G f av=>jj (part_of Y y) λpw G o aN=>?_;clear B;subst ea;haveI z:=c2.len;rw[xQ]at z;haveI b:=c1.isList.push {cls:=.type "slice",data:=.fields #[u,w,.none]};refine sY b.typeIs slot_list_getitem.lookup (wpAny_getItem_list_slice b (je.IsSliceOf.new ..) av aN .none (hu) ?_<|lv (z▸c3)) O;rw[Mt vs _ _ (vW f)<|vW o,f,o,z];exact D1.newList aQ (t:=s.toks) (d▸zK _ (zJ _ c2)) (d▸f2 (Ew _ _ _) c3) h|_=>exact h.elim
theorem MV{K}(e:vG K a D g=H):kin_not K a D=H/\plainGet K a "__class__"=H/\nb K a=H/\iB K (.ref a) "__class__"=U (U<|.builtin "object.__class__")/\ uU K (.builtin "object.__class__") "__get__"=U (U<|.builtin "getset_descriptor.__get__")/\takesIn K (.builtin "object.__class__")=U H/\nE K a (.type "object")=U true:=by unfold vG at e;rw[if_neg xY]at e;simp only[iG,beq_iff_eq,and_assoc]at e;exact e
theorem MW(j:Φ.a.y)(D:Dy Φ μ ρ st s)(i:RelV Φ.a μ v x)(h:C4 Φ.a.T C x st Q):g0 Φ.q A (kh (.builtin "isinstance") [v,.ref C]) (PE Φ ρ μ Q) E s:=by
 exists G;cases x with
 |obj b ks N=>refine jr i.R λa d w n e y z J=>hn J λL B=>?_;clear i;subst e;haveI h:kL _ _ _:=h;refine G ?_;induction c:Φ.a.T.eT C with|false=>rw[c]at h;exact h.elim|true=>rw[c]at h;have I:InstAt s.heap a (ky b d) b<|U<|i4 w n:=⟨(D.N.t _ y).1,rfl,rfl,(D.N.t _ z).1⟩;haveI e:=j.fN b C (by rw[B];rfl) c;have h:Q _ st:=h;induction f:Φ.a.T.sub b C with|true=>rw[f]at e h;exact isi_call D.N.aU (λM=>I.type) e (by intro q;cases q)<|.mk h (.bool _) D|false=>rw[f]at e h;exact l4 (MV e) λk l m o p r t=>kin_callC D.N.aU I k l m o p r t<|.mk h (.bool _)<|D.toks _
 |_=>exact h.elim
theorem MX(D:Dy Φ μ ρ st s){x}(b:RelV Φ.a μ v x)(h:C5 x st Q):g0 Φ.q A (kh (.builtin "isinstance") [v,.type "str"]) (PE Φ ρ μ Q) E s:=by exists a;cases x with|str l=>exact a<|g6 b.R λt e c=>e▸PySem.IsiPair.str_str (.mk h (.bool _) D)|_=>exact h.elim
theorem MY{K}(h:pQ K D f x=H):iB K (.ref D) x=U (U<|.ref f)/\isFn K (.ref f)=H/\fnIn K f=H/\uU K (.ref f) "__get__"=U (U<|.builtin "function.__get__")/\takesIn K (.ref f)=U g/\BJ.contains x=false:=by unfold pQ at h;simp only[iG,beq_iff_eq,rx,and_assoc]at h;exact h
theorem MZ(C:Φ.y)(D:Dy Φ μ ρ st s)(r:RelV Φ.a μ v a)(l:r3 Φ.a.bJ x=H)(k:pQ Φ.a.K Φ.a.T.a6 f x=H)(hc:oR Φ.a.K Φ.a.T.a6=H)(h:qT a<|Q (.aP f) st):g0 Φ.q A (ph v x aH) (PE Φ ρ μ Q) E s:=by obtain⟨rfl,h⟩:=y1 h;refine g6 r.R λb e z=>z.elim (λz=>hz z.2 λc hp=>jr (zE D hp) λks y w n B d i j=>l3 (r4 hc) λc1 c2 c3 p q=>l3 (MY k) λm1 m2 m3 m4 m=>hn m λm5 m6=>e▸?_) λz=>absurd O z.1;refine get_bind D.N.aU (vO D d i) c1 (findObj_fn c3 m1 m4 m5 m6<|DW (DN l) j) c2<|oF<|fn_get D.N.aU (beq_iff_eq.mp m2) (handed_on O ?_);exact⟨_,_,_,h,h1.bO _ _ _,.aP (.head _) (show(μ.bO _ _).L=U (b,c)from hp),D.ed C (o:=uT (.ref f)<|.ref b) O (t:=s.toks+1)⟩
end
end
section
open PySem PySem.W PySem.Calls PyProof.Rows
section
variable{ai:m8}{w:iI}{A:ix}{E:gZ->hb->Prop}{s:hb}{K:iY}
theorem Ex(name)(b)(c v):∀a,(nh name b c v a).length<=a.length+1:=by
 intro a;induction a with|nil=>exact hJ _|cons e r d=>
  haveI:=d;unfold nh;split;.simp
  .exact mj this
set_option tactic.hygienic true in
theorem Ey{name}{a:List _}(hl:(kQ name a).isSome=H):(!a.toArray.any (·.key.isStr name)&&a.toArray.any (·.refKey))=false:=by
 rw[<-JC,<-JC];unfold kQ at hl;induction z:a.find? _ with|some b=>rw[JZ.mpr ⟨b,List.mem_of_find?_eq_some z,List.find?_some z⟩];rfl|none=>
  rw[z]at hl;by_cases q:a.any (·.refKey)=H;.exact ff<|(congrArg _<|if_pos q).symm.trans hl
  .rw[BH.mpr q,Bool.and_false]
theorem M0{x C e:Nat}(X:K.In s.heap)(I:InstAt s.heap x ox C<|U<|i4 a n)(hd:ox.dict=U e)(hp:xD K C=H) (k:qr K C name=U V) (j:nb K C=H) (hl:(kQ name a).isSome=H) (m:a.length<=1000)(h:∀h' tk,lD e s.heap h'->h'.get? e=U (i4 (nh name (m9 w.params name) (.str name tk) v a)<|putN name a n)->R (.ok<|.ret .none) {s with heap:=h',toks:=s.toks+1}):la (ii ai w) A (.call (.builtin "object.__setattr__") ⟨[.ref x,.str name tk,v],[]⟩) R s:=by refine osa_open X I hp k λb=>kf λi=>?_;obtain⟨cd,hc,f⟩:=qt j;obtain⟨l,c,r,d⟩:=I;rw[hd]at d;haveI D:=d;obtain⟨t,p,o,q⟩:=ox;dsimp only at c hd;subst c hd;haveI y:=sO (iT.putName name (m9 w.params name) (.str name s.toks) v) D (by rw[xZ];rfl);rw[xZ]at y;refine i<|hk<|ib<|hk (hk (u3 l (hk ((u4 X hc).here ?_))));rw[f];refine ib<|hk<|ib (hk ?_);refine hk<|hk<|wpAny_askSetting (ib (hk (BK (hk (u3 D ?_)))));dsimp only;rw[JD,Ey hl];exact wpAny_updatePart D<|hk<|wpAny_lookBehind y (pastItsLine_dict<|qA (f2 (Ex name (m9 w.params name) (.str name s.toks) v a) (f2 (j4 m (hJ _)) (by decide))))<|ib<|h _ _ (BZ ..) y
theorem Ez{x C b:Nat}(X:K.In s.heap)(I:InstAt s.heap x ox C<|U<|i4 a n)(hd:ox.dict=U b)(d:iB K (.ref C) "__setattr__"=U (U<|.builtin "object.__setattr__")) (hp:xD K C=H) (e:qr K C name=U V) (c:nb K C=H) (hl:(kQ name a).isSome=H) (f:a.length<=1000)(h:∀h' tk,lD b s.heap h'->h'.get? b=U (i4 (nh name (m9 w.params name) (.str name tk) v a)<|putN name a n)->Q () {s with heap:=h',toks:=s.toks+2}):g0 (ii ai w) A (s5 (.ref x) name v) Q E s:=set_plain X I d<|M0 X I hd hp e c hl f h
end
section
variable{Φ:Fm}{μ:Mu}{ρ:Loc}{st:St}{s:hb}{Q:AV->St->Prop}{E:gZ->hb->Prop}{A:ix}
theorem M1(h:vk n P):n<=500/\P:=by unfold vk at h;induction z:jf n _ with|true=>rw[z]at h;exact⟨jN z,h⟩|false=>rw[z]at h;exact h.elim
theorem M2:nh x h (.str x t) v (⟨h',.str x b,u⟩::a)=⟨h',.str x b,v⟩::a:=if_pos<|beq_self_eq_true x
theorem M3(n:y≠x){a}:nh x h (.str x t) v (⟨h',.str y b,u⟩::a)=⟨h',.str y b,u⟩::nh x h (.str x t) v a:=if_neg λq=>n<|beq_iff_eq.mp q
theorem M4{a b}:lM k a (k::ks) (b::c)=(k::ks,a::c):=by dsimp only[CI];rw[BF];rfl
theorem EA{k x:Nat}(q:jn k x=g){a b}:lM k a (x::ks) (b::c)=(x::(lM k a ks c).1,b::(lM k a ks c).2):=by rw[CI,q];rfl
theorem zP(m:Φ.a.y){k}{t}{v}{a}(r:RelV Φ.a μ v a){ks}{c}(h:iE Φ.a μ d ks c):iE Φ.a μ (nh (Φ.a.Y k) (m9 Φ.a.w.params<|Φ.a.Y k) (.str (Φ.a.Y k) t) v d) (lM k a ks c).1 (lM k a ks c).2:=
 iE.M (C:=λd ks c=>iE _ μ (nh _ _ _ v d) (lM k a ks c).1 (lM k a ks c).2) (.cons r .nil) (λ{y l u b d ks as} i j f=>by
  rcases bq k y with e|q
  .subst e;rw[M2,M4];exact .cons r j
  .rw[M3<|zp m q,EA q];exact .cons i f) h
theorem EB(e:Φ.a.y)(k)(r:iE Φ.a μ a ks c):(kQ (Φ.a.Y k) a).isSome=true:=by induction z:j5 k ks c with|some b=>refine g6 (vH e r z) λv h d=>?_;rw[h];rfl|none=>rw[DX e r z];rfl
theorem EC(h:iE G μ a ks c):a.length=ks.length:=iE.M (C:=λa ks b=>a.length=ks.length) O (λb b=>congrArg _) h
theorem zQ(N:Φ.a.y)(D:Dy Φ μ ρ st s)(p:k<Φ.a.bJ.length)(B:RelV Φ.a μ u o)(y:RelV Φ.a μ v a)(h:y4 o k a ρ st P):g0 Φ.q A (s5 u (Φ.a.Y k) v) (λM s'=>∃ae,P ρ ae/\Dy Φ μ ρ ae s') E s:=by refine vo h λks J j q h=>hn (M1 h) λz l=>?_;subst j;refine g6 B.R λL e c=>c.elim (λc=>hz c.2 λG hp=>jr (zE D hp) λt C I n x d m b=>l3 (r4<|N.cls _<|.inl O) λc1 c2 c3 f i=>e▸?_) λz=>absurd O z.1;cases q.symm.trans x;refine Ez D.N.aU (vO D d m) O f i (tO<|N.ei _ [] k<|.inl ⟨rfl,p⟩).2 c3 (EB N k b) (EC b▸f2 z (by decide)) λh' tk r hd=>⟨_,l,?_⟩;exact D.e8 hp d r hd<|zP N y b
end
end
section
open PySem PySem.W PySem.Calls PyProof.Rows
theorem zR(h:lP a=H):swapsWith a b c ac=pure false:=(pR _ _).2.2.2.1 h _ _
theorem M5(h:vN y=H):rE [.Tuple a k p] y ac=pure none:=(pR y _).2.2.2.2.1 h a k p
theorem zS(h:lP b=H):swapsWithSole a b c ac=pure false:=by cases a with|nil=>rfl|cons t l=>cases l with|nil=>exact zR h|cons _ _=>rfl
section
variable{M:nD}{A:ix}{E:gZ->hb->Prop}{s:hb}{ac:jL}
theorem tX{t a}{aa}{Q:Flow->hb->Prop}(f:lP a=H)(e:(mn [t] ac).map (·.2)=[qB t ac])(hw:rE [t] a ac=pure V)(h:g0 M A (eval a ac) (λv b=>g0 M A (qB t ac v) (λd=>Q .next) E b) E s):g0 M A (exec (.Assign [t] a aa) ac) Q E s:=by refine B3 (g5 h (λv b c=>?_) λd d x=>x) (zS f) hw;rw[e];exact c
theorem vX{v}(h:g0 M A (eval o ac) (λe a=>g0 M A (s5 e b v) Q E a) E s):g0 M A (qB (.Attribute o b aa) ac v) Q E s:=hk<|nc<|g5 h (λe a c=>hk (oH (hk (nc (g5 c (λd f=>wpAny_release') λd d x=>x))))) λd d x=>x
end
noncomputable def l_(sn:g2)(ps b:List g2)(h6:List h4):Bool:=h6.rec (motive:=λc=>List g2->List g2->Bool) (λps b=>l0 ps&&l0 b) (λst c d ps b=>lc (λp ps=>lc (λf b=>pP (λe x=>jQ (λy=>y==p) x&&(d ps b&&l1 (lO λo a c=>a==f&&jQ (λy=>y==sn) o) e)) st) b) ps) ps b
noncomputable def r7(sn p f:g2)(st:h4):Prop:=∃c a d b,st=.Assign [.Attribute (.Name sn c) f a] (.Name p d) b
theorem ED{G:Gl}{st}(h:l_ sn ps (c.map G.Y) (st::r)=H){B:Prop}(k:∀p b f d,ps=p::b->c=f::d->r7 sn p (G.Y f) st->l_ sn b (d.map G.Y) r=H->B):B:=by refine kX (P:=λl=>ps=l->B) (f:=λp ps=>lc (λf c=>pP (λw x=>jQ _ x&&(l_ sn ps c r&&l1 _ w)) st) _) h (λp b h e=>?_) O;induction c with|nil=>exact ff h|cons f c=>haveI i:=r2 (P:=λst=>r7 sn p _ st/\l_ sn _ _ r=H) h λl x j h=>haveI h:=f1 h;haveI h':=f1 h.2;jY (P:=λx=>r7 sn p _ (.Assign l x j)/\l_ sn _ _ r=H) h.1 λy D n=>iL (P:=λl=>r7 sn p _ (.Assign l _ j)/\l_ sn _ _ r=H) h'.2 λt h=>l9 (P:=λt=>r7 sn p _ (.Assign [t] _ j)/\l_ sn _ _ r=H) h λo a m h=>haveI h:=f1 h;jY (P:=λo=>r7 sn p _ (.Assign [.Attribute o a m] _ j)/\l_ sn b (c.map _) r=H) h.2 λz C q=>⟨⟨C,m,D,j,by rw[eq_of_beq n,eq_of_beq h.1,eq_of_beq q]⟩,h'.1⟩;exact k p _ f c e O i.1 i.2
theorem EE{G:Gl}(h:l_ sn ps (a.map G.Y) []=H):ps=[]/\a=[]:=
 haveI h:=f1 h
 ⟨iH (P:=λl=>l=[]) h.1 O,List.map_eq_nil_iff.mp<|iH (P:=λl=>l=[]) h.2 O⟩
theorem M6{ks}:∀{b},ks.length=b.length->k∉ks->lM k a ks b=(ks++[k],b++[a]):=ks.rec (motive:=λks=>∀{b},ks.length=b.length->k∉ks->lM k a ks b=(ks++[k],b++[a])) (λh _=>by cases BX h.symm;rfl) λx ks d b=>b.casesOn (λh=>nomatch h) λv b h c=>by rw[EA<|(bq k x).resolve_left λe=>c (e▸ .head _),d (sZ h) λq=>c<|.tail _ q];rfl
section
variable{G:Gl}{μ:Mu}{A:ix}{E:gZ->hb->Prop}
noncomputable def M7(G:Gl)(A:ix)(E:gZ->hb->Prop)(x b:Nat)(ox:iT)(f:Nat):Prop:=∀{s:hb} {a:List nY} {n:Nat} {v:gZ} {Q:Unit->hb->Prop},G.K.In s.heap->s.heap.get? x=U ox->s.heap.get? b=U (i4 a n)->(kQ (G.Y f) a).isSome=H->a.length<=1000->
 (∀h' tk,lD b s.heap h'->h'.get? b=U (i4 (nh (G.Y f) (m9 G.w.params (G.Y f)) (.str (G.Y f) tk) v a) (putN (G.Y f) a n))->Q () {s with heap:=h',toks:=s.toks+2})->g0 (ii G.prog G.w) A (s5 (.ref x) (G.Y f) v) Q E s
structure vY (G:Gl)(ac:jL)(m:g2->Option gZ)(sn:g2)(x a L:Nat):Prop where
 i:ac.scope.kind=.function
 b9:ac.locals=L
 k:ac.kindOf sn=U .local
 aZ:(sn==("__debug__":g2))=g
 fR:m sn=U (.ref x)
 gr:L≠a
 gs:x≠a
 gu:∀o,G.K.lookup a≠U o
structure zT (G:Gl)(μ:Mu)(ac:jL)(m:g2->Option gZ)(x e L:Nat)(ox:iT)(ps:List g2)(a:List gZ)(c:List Nat)(h:je)(b:List nY)(n:Nat)(ks:List Nat)(d:List AV):Prop where
 b9:ps.length=a.length
 v:∀(i:Nat) p v,ps[i]?=U p->a[i]?=U v->ac.kindOf p=U .local/\(p==("__debug__":g2))=g/\m p=U v
 b8:(ks++c).Nodup
 dd:(ks++c).length<=500
 ek:ks.length=d.length
 K:G.K.In h
 ns:h.Ns L m
 fS:h.get? x=U ox
 cL:h.get? e=U (i4 b n)
 cP:iE G μ b ks d
noncomputable def M8(G:Gl)(μ:Mu)(s:hb)(b:Nat)(c:List Nat)(as:List AV)(f:Flow)(s':hb):Prop:=f=.next/\∃h' tk a d,s'={s with heap:=h',toks:=tk}/\lD b s.heap h'/\h'.get? b=U (i4 a d)/\iE G μ a c as
theorem EF(a':G.y){x B L}{ox}{ac}{m}{sn}(I:vY G ac m sn x B L):∀h6 {ps} {y} {c} {args} {s} {D} {n} {ks} {j},(∀f∈y,M7 G A E x B ox f)->l_ sn ps (y.map G.Y) h6=H->hZ G μ c args->zT G μ ac m x B L ox ps c y s.heap D n ks j->g0 (ii G.prog G.w) A (n5 h6 ac) (M8 G μ s B (ks++y) (j++args)) E s:=by
 intro h6;induction h6 with
 |nil=>intro ps y c args s D n ks j _ N av J;refine kf λaO=>hn (EE N) λd h=>?_;subst d;clear zz3 h aO;cases BX J.b9.symm;cases av;exact aO<|rH ⟨rfl,s.heap,s.toks,D,n,rfl,lD.refl ..,J.cL,(j3 ks).symm▸(j3 j).symm▸J.cP⟩
 |cons st r aT=>
  intro ps y c args s D n ks j ht N av J;refine ED N λp au f aQ e1 e2 e3 T=>?_;clear N;subst e1 e2;cases av with
  |nil=>cases J.b9
  |@cons v a c args aY aZ=>
   refine jO e3 λa7 z a2=>jO a2 λa_ pp e=>ju (J.v 0 p v O O) λk1 k2 k3=>?_;clear e3;subst e;haveI ns:=I.b9.symm▸J.ns;refine x0<|tX O O O<|sM (qq I.i k1 ns k3 (vX (sM (qq I.i I.k ns I.fR ?_) I.aZ))) k2;refine ht f (.head _) J.K J.fS J.cL (EB (Φ:=⟨G,A,ac,[],0,s.heap,μ,s.gens,s.os,s.drawn,[]⟩) a' f J.cP) (f2 ((EC J.cP)▸f2 (iy _ _) (io▸J.dd)) (by decide)) λaR tk Q Y=>?_;haveI C:=zP (Φ:=⟨G,A,ac,[],0,s.heap,μ,s.gens,s.os,s.drawn,[]⟩) a' (k:=f) (t:=tk) aY J.cP;rw[M6 J.ek λw=>(qF.mp J.b8).2.2 _ w _ (.head _) O]at C;haveI z:∀{α} l a (r:List α),(l++[a])++r=l++a::r:=λl a r=>by rw[i8];rfl
   refine g5 (aT (λaM hg=>ht aM<|.tail _ hg) T aZ (⟨sZ J.b9,λi=>J.v (i+1),(z ..).symm▸J.b8,(z ..).symm▸J.dd,by rw[io,io,J.ek];rfl,λb o e=>(Q.2 b λq=>by clear zz3 q e;exact I.gu o e).trans<|J.K b o e,J.ns.sameBut Q I.gr,(Q.2 x I.gs).trans J.fS,Y,C⟩:zT G μ _ m x B L ox au c _ aR _ _ (ks++[f]) (j++[a]))) (λfl s' q=>?_) λa4 a4 q=>q;refine hn q λaV q=>jr q λaS a0 aP aU e aN aW aX=>⟨aV,aS,_,_,aU,e,Q.trans aN,aW,?_⟩;exact(congr (congrArg _<|z ks f _)<|z j a _).mp aX
end
end
section
set_option backward.match.sparseCases true
open PySem PySem.W PySem.Calls PyProof.Rows
structure EG (G:Gl)(C f:Nat)(ks:List Nat)(a:kR)(sn:g2)(ps:List g2)(h6:List h4):Prop where
 tab:G.T.cj C=U ks
 fa:makesIn G.K C=H
 init:iB G.K (.ref C) "__init__"=U (U (.ref f))
 fn:nF G.K (.ref f)=U (.type "function")
 at_:kn G f=U a
 bC:a.body=.stmts h6
 kind:a.scope.kind=.function
 dk:a.scope.isCoroutine=g
 dl:a.scope.isGenerator=g
 cell:∀x∈a.scope.names,x.2≠ .cell
 L:it a=sn::ps
 nodup:(it a).Nodup
 j:∀x∈it a,a.scope.names.lookup x=U .local/\(x==("__debug__":g2))=g
 code:sP G.K a.code a.qualname=H
 co:l_ sn ps (ks.map G.Y) h6=H
 b8:ks.Nodup
 fb:ks.length<=500
set_option tactic.hygienic true in
section
variable{Φ:Fm}{μ:Mu}{ρ:Loc}{st:St}{s:hb}{Q:AV->St->Prop}{E:gZ->hb->Prop}{A:ix}
theorem Dy.fT(r:Φ.y)(D:Dy Φ μ ρ st s){od ox}(n:s.heap.objs.size+1<h'.objs.size)(l:∀a o,s.heap.get? a=U o->h'.get? a=U o)(hd:h'.get? s.heap.objs.size=U od)(q:h'.get? (s.heap.objs.size+1)=U ox):Dy Φ ((μ.bO s.heap.objs.size od).bO (s.heap.objs.size+1) ox) ρ st {s with heap:=h',toks:=t}:=by
 haveI D1:Dy Φ μ ρ st {s with heap:=h',toks:=t}:=D.keeps (jM<|B4 n) l;haveI h:=D.ds r;haveI i:=D.N.bn;haveI nm:=λa k m=>jI _<|hD (D.N.bu a m).2 k;haveI j:=D1.N.bO hd i<|nm _<|hJ _;haveI f:=D.cB;refine D1.eE ((h1.bO _ _ _).trans<|h1.bO _ _ _) (j.bO q (lb i) λm=>nm _ (jo _) m) D.bo (λp hp=>?_) D.a' λp hp=>?_
 .rcases ir.mp hp with b|hp;clear zz3 b
  .exact iP<|pv f
  .rcases ir.mp hp with c|hp;clear zz3 c
   .exact iP f
   .exact D.bw p hp
 .rcases ir.mp hp with d|hp;clear zz3 d
  .exact .inr<|lb h
  .rcases ir.mp hp with e|hp;clear zz3 e
   .exact .inr h
   .exact D.bg p hp
theorem EH(a4:Φ.y)(L:Φ.a.y)(D:Dy Φ μ ρ st s){C f}{ks:List _}{M}{sn}{ps:List _}{h6:List h4}(N:EG Φ.a C f ks M sn ps h6){aa:List gZ}{kw:List (g2×gZ)}{j:List gZ}{args:List AV}(aY:hZ Φ.a μ j args) (hl:ps.length=j.length) (aS:∀s' x,Φ.a.K.In s'.heap->rA s' M ⟨x::aa,kw⟩ ((it M).zip (x::j))) (room:A.depth<950) (aU:ks.length=args.length) (h:Q (.obj C ks args) st):g0 Φ.q A (kh (.ref C) aa kw) (PE Φ ρ μ Q) E s:=by
 haveI au:la Φ.q A (.call (.ref C) ⟨aa,kw⟩) (λr s'=>match r with| .ok<|.ret v=>PE Φ ρ μ Q v s'| .ok _=>False| .error e=>E e s') s:=by
  haveI aQ:=D;obtain⟨l,aM,d,t,os⟩:=s;haveI hK:=D.N.aU;dsimp only at hK;refine make_core (makes_of hK N.fa) (qu hK N.init) (λaP=>bind_fn hK _ N.fn) (.inl O) ?_;haveI k2:∀b o,l.get? b=U o->((l.push oI).push<|ky C l.objs.size).get? b=U o:=λb o e=>jw _<|jw _ e;haveI n:=λb o e=>k2 b o<|hK b o e;refine kf λY=>g6 (r5 N.at_) λof aV w=>Y<|xI (n3 room (by decide)) (n _ _ aV) w (L.eh _ n) (uY n N.code) N.bC (aS _ _ n) N.cell (λx hx=>(N.j _ (uZ hx).1).1) (λaN B a=>?_) N.dk N.dl N.kind
  .haveI G:=by
    haveI:=m_ (l.push oI) (o:=ky C l.objs.size) O
    rwa [kI]at this
   haveI c:=r4<|L.cls C<|.inr (by rw[N.tab];rfl)
   haveI y:=N.L
   haveI nd:=N.nodup
   rw[y]at nd B
   haveI av:∀i p v,(sn::ps)[i]?=U p->((kJ _)::j)[i]?=U v->((sn::ps).zip (kJ (l.objs.size+1)::j)).reverse.lookup p=U v:=λi p v=>tP nd
   haveI m:=λp hp=>N.j p (y▸hp)
   haveI I:vY _ (rB M _ f) (λx=>((sn::ps).zip _).reverse.lookup x) sn _ _ _:=⟨N.kind,rfl,(m sn<|.head _).1,(m sn<|.head _).2,av 0 sn _ O O,(by rw[kI,kI]:((l.push oI).push<|ky C l.objs.size).objs.size=l.objs.size+2)▸iP (B5 (by decide)),x9 _,λo e=>jI _<|ih<|hK _ _ e⟩
   refine g5 (EF (E:=λaZ aZ=>False) (ks:=[]) L I _ (λf aT {_ _ _ _ _} X hx hd hl z k=>Ez X ⟨hx,rfl,rfl,hd⟩ rfl c.2.2.2.1 c.2.2.2.2 (tO<|L.ei C ks f<|.inr ⟨N.tab,aT⟩).2 c.2.2.1 hl z k) N.co aY ⟨hl,λi p v T e2=>⟨(m p<|.tail _<|k_ T).1,(m p<|.tail _<|k_ T).2,av (i+1) p v T e2⟩,N.b8,N.fb,rfl,λb o e=>a b o<|n b o e,B,a _ _ G,a _ _ (jw _<|m_ l (o:=oI) O),.nil⟩) (λfl s' q=>?_) λe s' q=>q.elim
   .exists Y;obtain⟨rfl,a0,tk,aR,a2,rfl,aO,aW,aX⟩:=q
    refine Y ⟨rfl,?_⟩
    haveI kk:=λb o e=>(aO.2 b<|iw<|ih e).trans<|a _ _<|k2 b o e
    haveI J:=(aO.2 _<|x9 _).trans<|a _ _ G
    exact⟨_,_,_,h,(h1.bO _ _ _).trans<|h1.bO _ _ _,.obj (.head _) (.tail _<|.head _) (aX.aR<|(h1.bO _ _ _).trans<|h1.bO _ _ _) N.tab,(aQ.fT a4 (t:=tk) (ih J) kk aW J)⟩
 exact oF au
end
end
section
noncomputable section
open PySem PySem.W PySem.Calls PyProof.Rows
noncomputable def vA(n:Bool)(b:Bool->Bool)(i:Int->Bool)(s:List Nat->Bool)(v:gZ->Bool)(t:List AV->Bool):AV->Bool| .none=>n| .bool x=>b x| .int x=>i x| .str x=>s x| .val x=>v x| .au x=>t x|_=>g
theorem r8{P:AV->Prop}(h:vA n b i s v t a=H)(k1:n=H->P .none)(k2:∀x,b x=H->P (.bool x))(k3:∀x,i x=H->P (.int x))(d:∀x,s x=H->P (.str x))(k5:∀x,v x=H->P (.val x))(e:∀x,t x=H->P (.au x)):P a:=by cases a<;>first|exact k1 h|exact k2 _ h|exact k3 _ h|exact d _ h|exact k5 _ h|exact e _ h|exact ff h
noncomputable def pV(a:AV):AV->Bool:=a.rec (motive_1:=λb=>AV->Bool) (motive_2:=λb=>List AV->Bool) (vA H g8 g8 g8 g8 g8) (λx=>vA g (λy=>x==y) g8 g8 g8 g8) (λx=>vA g g8 (λy=>decide (x=y)) g8 g8 g8) (λx=>vA g g8 g8 (hm x) g8 g8) (λx=>vA g g8 g8 g8 (λy=>x==y) g8) (λb h=>vA g g8 g8 g8 g8 h) (λb b b b=>g8) (λb b b b=>g8) (λb=>g8) (λb=>g8) l0 λb b d e=>lc λy t=>d y&&e t
theorem vZ(a):∀b,pV a b=H->a=b:=a.rec (motive_2:=λl=>∀r,pV (.au l) (.au r)=H->l=r) (λb h=>r8 h (λd=>rfl) ip ip ip ip ip) (λx b h=>r8 h ff (λy h=>congrArg _<|eq_of_beq h) ip ip ip ip) (λx b h=>r8 h ff ip (λy h=>congrArg _<|of_decide_eq_true h) ip ip ip) (λx b h=>r8 h ff ip ip (λy h=>congrArg _<|of_decide_eq_true<|(tL x y).symm.trans h) ip ip) (λx b h=>r8 h ff ip ip ip (λy h=>congrArg _<|eq_of_beq h) ip) (λx i b h=>r8 h ff ip ip ip ip λy h=>congrArg _<|i y h) (λd d d d b=>ff) (λd d d d b=>ff) h7 h7 (λr h=>iH h O) λx l e f r h=>kX h λy t h=>e y (f1 h).1▸f t (f1 h).2▸rfl
noncomputable abbrev i6:=List (g2×Option AV)
structure Ck where
 slots:List g2
 eI:g2->Option NameKind
 bx:Bool
 cx:g2->Option AV
 bp:Nat->Option i6
 ch:Nat->Option i6
inductive hQ where
 |d (x:g_)
 |aS (b:List g_)
 |a9 (ps:i6) (a:List g_) (ag:List oC)
noncomputable def nN(G:Gl)(x:g2)(k:Nat):Bool:=x==G.Y k&&pf k G.bJ.length
theorem tY(h:nN G x k=H):x=G.Y k/\k<G.bJ.length:=by haveI h:=kV.mp h;exact⟨eq_of_beq h.1,jN h.2⟩
noncomputable def q8(a b:rv):Bool:=decide (b=a)
noncomputable def q9(a b:CmpOp):Bool:=decide (b=a)
noncomputable def EI:n0->Bool| .none=>H|_=>g
noncomputable def EJ(f:Bool->Bool):n0->Bool| .bool t=>f t|_=>g
theorem M9{P:n0->Prop}{k}(h:EI k=H)(p:P .none):P k:=by induction k<;>first|exact p|exact ff h
theorem M_{P:n0->Prop}(h:EJ f k=H)(p:∀b,f b=H->P (.bool b)):P k:=by induction k<;>first|exact p _ h|exact ff h
noncomputable def EK(a:AV)(k:n0):Bool:=match a with| .none=>EI k| .bool a=>EJ (λb=>a==b) k| .int a=>tG (λb=>decide (a=b)) k| .str l=>vx (λs=>decide (s=S l)&&jf l.length 1000000) k|_=>g
noncomputable def dA(a:Nat->Bool)(b:AV->Bool)(n:Bool):DE->Bool| .j i=>a i| .aV v=>b v| .c2=>n|_=>g
theorem v0{P:DE->Prop}(h:dA a b n e=H)(k1:∀i,a i=H->P (.j i))(k2:∀v,b v=H->P (.aV v))(k3:n=H->P .c2):P e:=by induction e<;>first|exact ff h|exact k1 _ h|exact k2 _ h|exact k3 h
noncomputable def tZ(a:DE)(d:Option AV):Bool:=oB d λy=>dA g8 (λx=>pV x y) g a
section
variable(G:Gl)(c:Ck)
noncomputable def mA(x:g2)(v:gZ):Bool:=c.eI x==U .globalImplicit&&x !=("__debug__":g2)&&G.c5 x==U v
noncomputable def kY(x:g2)(v:gZ):Bool:=c.eI x==U .globalImplicit&&x !=("__debug__":g2)&&G.c5 x==V&&G.dV x==U v&&qp v
noncomputable def oZ(a:List g_)(ag:List oC):Bool:=a.all jm&&oj ag
noncomputable def tE(f:g_->Bool):hQ->Bool| .d x=>f x| .aS _=>g| .a9 _ _ _=>g
noncomputable def zU:DE->Bool:=dA g8 g8 H
noncomputable def M':hQ->Bool| .d _=>g| .aS b=>l0 b| .a9 ps a ag=>l0 ps&&l0 a&&l0 ag
end
noncomputable def EL(c:Ck)(i:Nat)(t:hQ):Bool:=tE (jQ λx=>c.slots[i]?==U x&&x !=("__debug__":g2)) t
noncomputable def EM(c:Ck)(a:AV)(t:hQ):Bool:=tE (jQ λx=>c.eI x==U .globalImplicit&&x !=("__debug__":g2)&&oB (c.cx x) λb=>pV b a) t
noncomputable def EN(a:AV)(t:hQ):Bool:=tE (λx=>qW (EK a) x||y6 (λo y=>K_ o&&qW (tG λj=>pV a (.int (-j))) y) x) t
noncomputable def EO(G:Gl)(e:DE)(k:Nat)(a:hQ->Bool)(t:hQ):Bool:=tE (lO λo x b=>nN G x k&&j6 o&&a (.d o)) t
noncomputable def EP(o:Op)(a:hQ->Bool)(b:hQ->Bool)(t:hQ):Bool:=tE (vu λl op r=>q8 (nv o) op&&a (.d l)&&b (.d r)) t
noncomputable def EQ(o:Cm)(a:hQ->Bool)(b:hQ->Bool)(t:hQ):Bool:=tE (vv λl os d=>l1 (λop=>l1 (λr=>q9 (lp o) op&&lq r&&a (.d l)&&b (.d r)) d) os) t
noncomputable def ER(a:hQ->Bool)(b:hQ->Bool)(t:hQ):Bool:=tE (vv λl os d=>l1 (λop=>K' op&&l1 (λr=>lq r&&a (.d l)&&b (.d r)) d) os) t
noncomputable def ES(o:Cm)(p:Cm)(a:hQ->Bool)(b:hQ->Bool)(hd:hQ->Bool)(t:hQ):Bool:=tE (vv λl os e=>l2 (λop d=>l2 (λr t=>q9 (lp o) op&&q9 (lp p) d&&lq r&&lq t&&a (.d l)&&b (.d r)&&hd (.d t)) e) os) t
noncomputable def ET(a:hQ->Bool)(b:hQ->Bool)(t:hQ):Bool:=tE (y7 λo d p=>Di o&&lc (λx=>lc λy r=>a (.d x)&&b (.d (Dj o p y r))) d) t
noncomputable def EU(a:hQ->Bool)(b:hQ->Bool)(t:hQ):Bool:=tE (y7 λo d p=>!Di o&&lc (λx=>lc λy r=>a (.d x)&&b (.d (Dj o p y r))) d) t
noncomputable def EV(a:hQ->Bool)(t:hQ):Bool:=tE (y6 λo x=>K9 o&&a (.d x)) t
noncomputable def EW(d:hQ->Bool)(a:hQ->Bool)(b:hQ->Bool)(u:hQ):Bool:=tE (Df λx y z=>d (.d x)&&a (.d y)&&b (.d z)) u
noncomputable def EX(t:hQ):Bool:=M' t
noncomputable def EY(a:DE)(r:DE)(e:hQ->Bool)(b:hQ->Bool)(t:hQ):Bool:=match t with| .d _=>g| .aS d=>lc (λx d=>jm x&&e (.d x)&&b (.aS d)) d| .a9 ps f ag=>lc (λp ps=>match f with|x::d=>e (.d x)&&b (.a9 ps d ag)|[]=>match ag with|[]=>tZ a p.2&&b (.a9 ps [] [])|kw::ag=>La (λk x h=>if k=p.1 then e (.d x)&&b (.a9 ps [] ag)else tZ a p.2&&b (.a9 ps [] (⟨U k,x,⟨0,0,0,0⟩⟩::ag))) kw) ps
noncomputable def EZ(a:hQ->Bool)(t:hQ):Bool:=tE (vw λb=>a (.aS b)) t
noncomputable def E0(a:hQ->Bool)(t:hQ):Bool:=tE (y8 λb=>a (.aS b)) t
noncomputable def E1(t:hQ):Bool:=tE y9 t
noncomputable def E2(G:Gl)(c:Ck)(f:Nat)(a:hQ->Bool)(t:hQ):Bool:=tE (kj λaM b ag d=>jQ (λx=>mA G c x (.ref f)&&oZ b ag&&mL G.K (.ref f)&&(!c.bx||G.quiet f)&&oB (c.bp f) λps=>a (.a9 ps b ag)) aM) t
noncomputable def E3(G:Gl)(c:Ck)(f:Nat)(e:DE)(h:hQ->Bool)(a:hQ->Bool)(t:hQ):Bool:=tE (kj λaM d ag aa=>lO (λo x b=>pQ G.K G.T.a6 f x&&r3 G.bJ x&&j6 o&&jK d ag b aa&&mL G.K (.ref f)&&(!c.bx||G.quiet f)&&h (.d o)&&oB (c.bp f) (lc λi ps=>a (.a9 ps d ag))) aM) t
noncomputable def E4(G:Gl)(c:Ck)(e:DE)(k:Nat)(d:hQ->Bool)(t:hQ):Bool:=tE (kj λaM b ag aa=>l0 b&&l0 ag&&lO (λo x a=>!c.bx&&nN G x k&&iB G.K (.ref G.T.a6) x==U V&&j6 o&&jK [] [] a aa&&d (.d o)) aM) t
noncomputable def E5(G:Gl)(f:Nat)(e:DE)(a:hQ->Bool)(t:hQ):Bool:=tE (lO λo x b=>pQ G.K G.T.a6 f x&&r3 G.bJ x&&j6 o&&a (.d o)) t
noncomputable def E6(G:Gl)(c:Ck)(C:Nat)(a:hQ->Bool)(t:hQ):Bool:=tE (kj λaM b ag d=>jQ (λx=>mA G c x (.ref C)&&oZ b ag&&mL G.K (.ref C)&&oB (c.ch C) λps=>a (.a9 ps b ag)) aM) t
noncomputable def E7(c:Ck)(i:Nat)(a:hQ->Bool)(t:hQ):Bool:=tE (kj λaM b ag d=>l0 ag&&jQ (λx=>c.slots[i]?==U x&&x !=("__debug__":g2)&&a (.aS b)) aM) t
noncomputable def E8(G:Gl)(c:Ck)(e:DE)(b:hQ->Bool)(t:hQ):Bool:=tE (kj λaM a ag d=>l0 ag&&jQ (λx=>l1 (λy=>kY G c x (.builtin "len")&&jm y&&b (.d y)) a) aM) t
noncomputable def E9(G:Gl)(c:Ck)(e:DE)(D:Nat)(b:hQ->Bool)(t:hQ):Bool:=tE (kj λaM a ag d=>l0 ag&&jQ (λx=>l2 (λy z=>jQ (λz=>kY G c x (.builtin "isinstance")&&jm y&&mA G c z (.ref D)&&b (.d y)) z) a) aM) t
noncomputable def E_(G:Gl)(c:Ck)(e:DE)(b:hQ->Bool)(t:hQ):Bool:=tE (kj λaM a ag d=>l0 ag&&jQ (λx=>l2 (λy z=>jQ (λz=>kY G c x (.builtin "isinstance")&&jm y&&kY G c z (.type "str")&&b (.d y)) z) a) aM) t
noncomputable def E'(G:Gl)(c:Ck)(e:DE)(b:hQ->Bool)(t:hQ):Bool:=tE (kj λaM a ag d=>l0 ag&&jQ (λx=>l1 (λy=>!c.bx&&kY G c x (.type "list")&&jm y&&b (.d y)) a) aM) t
noncomputable def Fa(e:DE)(a:hQ->Bool)(b:hQ->Bool)(t:hQ):Bool:=tE (tF λv s=>q3 s&&a (.d v)&&b (.d s)) t
noncomputable def Fb(e:DE)(a:DE)(b:DE)(h:hQ->Bool)(d:hQ->Bool)(f:hQ->Bool)(t:hQ):Bool:=tE (tF λv s=>Dg (λj i st=>qX H (λk=>g) st&&h (.d v)&&qX (zU a) (λx=>d (.d x)) j&&qX (zU b) (λx=>f (.d x)) i) s) t
noncomputable def Fc(e:DE)(d:hQ->Bool)(f:hQ->Bool)(t:hQ):Bool:=tE (kj λaM b ag aa=>l0 ag&&lO (λo x a=>l1 (λz=>x==("append":g2)&&j6 o&&jK [z] [] a aa&&d (.d o)&&f (.d z)) b) aM) t
noncomputable def Fd(e:DE)(d:hQ->Bool)(f:hQ->Bool)(t:hQ):Bool:=tE (kj λaM b ag aa=>l0 ag&&lO (λo x a=>l1 (λz=>x==("extend":g2)&&j6 o&&jK [z] [] a aa&&d (.d o)&&f (.d z)) b) aM) t
noncomputable def Fe(e:DE)(d:hQ->Bool)(t:hQ):Bool:=tE (kj λaM b ag aa=>l0 ag&&lO (λo x a=>l0 b&&x==("pop":g2)&&j6 o&&jK [] [] a aa&&d (.d o)) aM) t
noncomputable def Ff(e:DE)(d:hQ->Bool)(t:hQ):Bool:=tE (kj λaM b ag aa=>l0 ag&&lO (λo x a=>l1 (λz=>qW (tG λj=>decide (j=0)) z&&x==("pop":g2)&&j6 o&&jK [z] [] a aa&&d (.d o)) b) aM) t
noncomputable def Fg(e:DE)(d:hQ->Bool)(f:hQ->Bool)(h:hQ->Bool)(t:hQ):Bool:=tE (kj λaM b ag aa=>l0 ag&&lO (λo x a=>l2 (λu z=>x==("insert":g2)&&j6 o&&jK [u,z] [] a aa&&d (.d o)&&f (.d u)&&h (.d z)) b) aM) t
noncomputable def Fh(l:List Nat)(e:DE)(d:hQ->Bool)(t:hQ):Bool:=tE (kj λaM b ag aa=>l0 ag&&lO (λo x a=>qW (vx λt=>l1 (λz=>j6 o&&x==("join":g2)&&decide (t=S l)&&jf l.length 16&&jK [z] [] a aa&&d (.d z)) b) o) aM) t
noncomputable def Fi(l:List Nat)(e:DE)(a:hQ->Bool)(t:hQ):Bool:=tE (vu λf o r=>Dh o&&qW (vx λt=>decide (t=S l)&&a (.d r)) f) t
noncomputable def jS(G:Gl)(c:Ck)(t:DE):hQ->Bool:=DE.rec (motive:=λd=>hQ->Bool)
 (j:=λi=>EL c i)
 (cZ:=λa=>EM c a)
 (aV:=λa=>EN a)
 (c0:=λe k h=>EO G e k h)
 (a1:=λo d d m n=>EP o m n)
 (Q:=λo d d m n=>EQ o m n)
 (dQ:=λd d m n=>ER m n)
 (b5:=λo p d d d m n hd=>ES o p m n hd)
 (and:=λd d m n=>ET m n)
 (or:=λd d m n=>EU m n)
 (not:=λd m=>EV m)
 (bI:=λd d d x m n=>EW x m n)
 (nil:=EX)
 (cons:=λa r m w=>EY a r m w)
 (au:=λd m=>EZ m)
 (m:=λd m=>E0 m)
 (dict:=λ_=>E1)
 (call:=λf d j=>E2 G c f j)
 (bV:=λf e d h j=>E3 G c f e h j)
 (d9:=λe k h=>E4 G c e k h)
 (bd:=λf e h=>E5 G f e h)
 (new:=λC d j=>E6 G c C j)
 (dO:=λi d j=>E7 c i j)
 (len:=λe h=>E8 G c e h)
 (cN:=λe D h=>E9 G c e D h)
 (d_:=λe h=>E_ G c e h)
 (A:=λe h=>E' G c e h)
 (sub:=λe d h s=>Fa e h s)
 (c1:=λe a b h m n=>Fb e a b h m n)
 (aO:=λe d h q=>Fc e h q)
 (ext:=λe d h q=>Fd e h q)
 (cn:=λe h=>Fe e h)
 (d':=λe h=>Ff e h)
 (dP:=λe d d h s q=>Fg e h s q)
 (join:=λl e h=>Fh l e h)
 (ca:=λl e h=>Fi l e h)
 (av:=λd=>g)
 (c2:=λd=>g)
 (dR:=λd d d d=>g)
 (di:=λd d d d=>g)
 (dS:=λd d d d=>g) t
theorem i9{P:hQ->Prop}(h:tE f t=H)(k:∀x,f x=H->P (.d x)):P t:=by induction t with|d x=>exact k x h|aS=>exact iR h|a9=>exact iR h
end
end
section
open PySem PySem.W PySem.Calls PyProof.Rows
class inductive jH (G:Gl):List (g2×Option gZ)->i6->Prop
 |nil:jH G [] []
 |none {x:g2} {ps:List (g2×Option gZ)} {sg:i6}:jH G ps sg->jH G ((x,V)::ps) ((x,V)::sg)
 |some {x:g2} {v:gZ} {a:AV} {ps:List (g2×Option gZ)} {sg:i6}:(∀μ,RelV G μ v a)->jH G ps sg->jH G ((x,U v)::ps) ((x,U a)::sg)
noncomputable def jH.e7(G:Gl)(b:List (g2×Option gZ)):i6->Prop|[]=>True|p::ps=>∃w a,b=(p.1,w)::a/\(p.2=hU->w=hU)/\jH G a ps
theorem jH.R(h:jH G a ps):jH.e7 G a ps:=by induction h with|nil=>trivial|none r=>exact⟨_,_,rfl,λb=>rfl,r⟩|some _ r=>exact⟨_,_,rfl,λe=>hu e.symm,r⟩
theorem jH.cC{ps:i6}(h:jH G b (p::ps)){B:Prop}(k:∀w a,b=(p.1,w)::a->(p.2=hU->w=hU)->jH G a ps->B):B:=jk h.R k
theorem jH.gv{ps:i6}(h:jH G d ((x,xC a)::ps)){B:Prop}(k:∀v b,d=(x,xC v)::b->(∀μ,RelV G μ v a)->jH G b ps->B):B:=by cases h with|some c r=>exact k _ _ O c r
theorem jH.len(h:jH G ps b):ps.length=b.length:=by induction h with|nil=>rfl|none _ a=>exact congrArg _ a|some _ _ a=>exact congrArg _ a
structure o0 (G:Gl)(f:Nat)(a:kR)(D:List gZ)(ps:i6):Prop where
 at_:kn G f=U a
 dt:a.params.posonlyargs=[]
 du:a.params.kwonlyargs=[]
 dv:a.params.vararg=V
 dw:a.params.kwarg=V
 cV:zC G a=U D
 cW:D.length<=(it a).length
 b8:(it a).Nodup
 cw:jH G (kC a D) ps
section
variable{M:nD}{A:ix}{E:gZ->hb->Prop}{s:hb}{ac:jL}
theorem Fj{a}{R:α->d->hb->Prop}(h:g0 M A (pure a) (λv s=>g0 M A t (R v) E s) E s):g0 M A t (R a) E s:=λc p b=>h c p b c p b
theorem r9{K}{aa}{f}{first}{c}{ag:List _}{Q:gZ->hb->Prop}(i:mL K f=H)(d:c.all jm=H)(e:oj ag=H)(h:g0 M A (spliced<|ml aa<|lF c ac) (λj b=>g0 M A (evalAll<|(mm aa<|mK ag ac).map (·.2)) (λks a=>K.In a.heap/\g0 M A (kh f (first++j)<|(my ag).zip ks) Q E a) E b) E s):g0 M A (u1 aa f first (ml aa<|lF c ac)<|mm aa<|mK ag ac) Q E s:=ju (tR (ac:=ac) (aa:=aa) e) λk k2 k=>n8 (by rw[pT d,k2];rfl) (keeps_K i)<|oY d e h
end
section
variable{Φ:Fm}{μ:Mu}{ρ:Loc}{st:St}{s:hb}{Q:AV->St->Prop}{X:hv->St->Prop}{A:ix}
noncomputable def PA(Φ:Fm)(ρ:Loc)(μ:Mu)(c:List (g2×Option gZ))(n:Nat)(a:List g2)(P:List AV->St->Prop)(b ks:List gZ)(s:hb):Prop:=b.length=n/\ks.length=a.length/\∃af l ae,P l ae/\h1 μ af/\hZ Φ.a af (fill c b (a.zip ks)) l/\Dy Φ af ρ ae s
noncomputable def TP(P:AV->Bool->St->Prop)(b:Bool)(st:St):Prop:=∃y,nk st y=U b/\P y b st
theorem v8(h:jy a st<|P a):jy a st<|TP P:=by unfold jy at h ⊢;induction e:nk st a with|none=>rw[e]at h;exact h.elim|some b=>rw[e]at h;exact h9 a e h
noncomputable def Good(Φ:Fm)(c:Ck)(d:Nat)(e:DE):hQ->Prop
 | .d x=>(∀μ ρ st s Q X,Dy Φ μ ρ st s->WE Φ.a.T (iN Φ.a d) e ρ st Q X->g0 Φ.q Φ.C (eval x Φ.r) (PE Φ ρ μ Q) (PX Φ ρ X) s)/\
  ∀μ ρ st s P X,Dy Φ μ ρ st s->WE Φ.a.T (iN Φ.a d) e ρ st (λy st=>jy y st (P y)) X->g0 Φ.q Φ.C (isTrue x Φ.r (eval x Φ.r)) (PB Φ ρ μ (TP P)) (PX Φ ρ X) s
 | .aS i=>i.all jm=H/\∀μ ρ st s P X aa,Dy Φ μ ρ st s->WE Φ.a.T (iN Φ.a d) e ρ st (λy st=>nt y st P) X->g0 Φ.q Φ.C (spliced (ml aa (lF i Φ.r))) (PL Φ ρ μ P) (PX Φ ρ X) s| .a9 ps f ag=>∀h,jH Φ.a h ps->f.all jm=H->oj ag=H->i5 (j_ h) f.length (my ag)=H/\∀μ ρ st s P X aa,Dy Φ μ ρ st s->WE Φ.a.T (iN Φ.a d) e ρ st (λy st=>nt y st P) X->
  g0 Φ.q Φ.C (spliced (ml aa (lF f Φ.r))) (λj a=>g0 Φ.q Φ.C (evalAll ((mm aa (mK ag Φ.r)).map (·.2))) (λks b=>PA Φ ρ μ h f.length (my ag) P j ks b) (PX Φ ρ X) a) (PX Φ ρ X) s
theorem jT(j:Φ.a.y){d}{e}{x}(hp:D' x=H)(h:∀μ ρ st s Q X,Dy Φ μ ρ st s->WE Φ.a.T (iN Φ.a d) e ρ st Q X->g0 Φ.q Φ.C (eval x Φ.r) (PE Φ ρ μ Q) (PX Φ ρ X) s):Good Φ c d e<|.d x:=by refine⟨h,λμ ρ st s P X D w=>?_⟩;refine isTrue_plain (g5 (h μ ρ st s _ X D w) (λv f q=>?_) λb b q=>q)<|(pR x _).2.2.2.2.2.2.2 hp _;.obtain⟨af,a,ae,k,i,l,D1⟩:=q;exact g5 (q5 j D1 l<|v8 k) (λb b q=>q.up i) λb b q=>q
theorem zV{R:gZ->Sem _}(e:g0 Φ.q A (eval x Φ.r) (PE Φ ρ μ P) E s) (f:∀af v a st s',h1 μ af->RelV Φ.a af v a->P a st->Dy Φ af ρ st s'->g0 Φ.q A (R v) (PE Φ ρ af Q) E s'):g0 Φ.q A (eval x Φ.r) (λv b=>g0 Φ.q A (R v) (PE Φ ρ μ Q) E b) E s:=by refine g5 e (λv b q=>?_) λc c q=>q;obtain⟨af,a,ae,k,d,h,D1⟩:=q;exact g5 (f _ v a _ _ d h k D1) (λc c q=>q.up d) λc c q=>q
end
end
section
open PySem PySem.W PySem.Calls PyProof.Rows
noncomputable def q_(G:Gl)(C:Nat)(ps:i6):Prop:=∃f ks a sn b h6 D,EG G C f ks a sn b h6/\o0 G f a D ((sn,V)::ps)/\ps.length=ks.length
structure Cx (Φ:Fm)(c:Ck)(d:Nat):Prop where
 go:Φ.a.y
 ok:Φ.y
 cX:Φ.slots=c.slots
 dx:∀x,Φ.r.kindOf x=c.eI x
 room:nM Φ.C d
 fU:Φ.C.handled=V\/c.bx=H
 cx:∀x a,c.cx x=U a->∃v,Φ.a.c5 x=U v/\∀μ,RelV Φ.a μ v a
 bp:∀f ps,c.bp f=U ps->∃b D,o0 Φ.a f b D ps
 ch:∀C ps,c.ch C=U ps->q_ Φ.a C ps
 el:∀C,(Φ.a.T.cj C).isSome=H->∃ps,q_ Φ.a C ps/\mL Φ.a.K (.ref C)=H
 cs:∀f e,Φ.a.T.cs f=U e->fnIn Φ.a.K f=H/\∃b D sn ps,o0 Φ.a f b D ((sn,V)::ps)/\ps.map (·.2)=e.map U
 de:c.bx=g->Φ.C.handled=V
 ca:∀A E Q s f l t u,Φ.a.T.dF f l=H->(∀r h k,r.length<=1000000->Q (.str (S r) h) {s with toks:=k})->g0 Φ.q A (pg .Mod (.str (S f) t) (.str (S l) u)) Q E s
theorem Fk:∀{a},ps.length=a.length->fill ps a []=a:=by
 induction ps with
 |nil=>intro a h;induction a with|nil=>rfl|cons=>cases h
 |cons p ps b=>
  intro a h;induction a with
  |nil=>cases h
  |cons v a=>exact congrArg _<|b<|sZ h
theorem Fn:∀{n},ps.length=n->i5 ps n []=true:=by induction ps with|nil=>intro n h;clear zz3 (Eq.symm h);rfl|cons p ps a=>intro n h;clear zz3 (Eq.symm h);exact a O
section
variable{Φ:Fm}{c:Ck}{d:Nat}{A:ix}
theorem r_(h:(x !=("__debug__":g2))=H):(x==("__debug__"))=false:=by simpa using h
theorem zW{ρ:Loc}{i:Nat}{F:AV->Prop}(w:match ρ[i]? with
 |some<|U a=>F a|_=>False):∃a,ρ[i]?=U (U a)/\F a:=by
 revert w
 cases ρ[i]? with|none=>exact nZ|some o=>induction o with|none=>exact nZ|some a=>exactλw=>⟨a,rfl,w⟩
theorem Na{ρ:Loc}{i:Nat}{F:Nat->Prop}(w:match ρ[i]? with
 |some<|U<|.val (.ref D)=>F D|_=>False):∃D,ρ[i]?=U (U<|.val<|.ref D)/\F D:=by
 revert w
 cases ρ[i]? with|none=>exact nZ|some o=>induction o with
  |none=>exact nZ|some a=>cases a with
   |val v=>induction v with|ref D=>exactλw=>⟨D,rfl,w⟩|_=>exact nZ
   |_=>exact nZ
theorem Nb(C:Cx Φ c d)(h:(c.slots[i]?==U x&&x !=("__debug__":g2))=H):Good Φ c d (.j i)<|.d<|.Name x aa:=by rw[iG]at h;exact jT C.go O λμ ρ st s Q X D w=>g6 (zW w) λa=>zg C.ok D (by rw[C.cX];exact beq_iff_eq.mp h.1)<|r_ h.2
theorem Nc(C:Cx Φ c d){a b}(f:c.eI x=U .globalImplicit)(h:(x !=("__debug__"))=H)(e:c.cx x=U b)(i:pV b a=H):Good Φ c d (.cZ a)<|.d<|.Name x aa:=by refine g6 (C.cx x b e) λv k1 k2=>?_;haveI:=vZ _ _ i;subst this;exact jT C.go O λμ ρ st s Q X D=>Ls C.ok D (by rw[C.dx];exact f) (r_ h) k1<|k2 μ
theorem Nd(C:Cx Φ c d)(h:EK a k=H):Good Φ c d (.aV a)<|.d<|.Constant k n aa:=by refine jT C.go O λμ ρ st s Q X D w=>?_;haveI j:Q a st:=w;exists f;clear w;cases a with|none=>exact f<|M9 (P:=λk=>g0 _ _ (eval (.Constant k n _) _) _ _ s) h<|Lu D j|bool b=>exact f<|M_ (P:=λk=>g0 _ _ (eval (.Constant k n _) _) _ _ s) h λm e=>Lv D (eq_of_beq e▸j)|int i=>exact f<|vz (P:=λk=>g0 _ _ (eval (.Constant k n _) _) _ _ s) h λm e=>Lw D (of_decide_eq_true e▸j)|str l=>exact f<|ze (P:=λk=>g0 _ _ (eval (.Constant k n _) _) _ _ s) h λm e=>Lx D (of_decide_eq_true (f1 e).1) (jN (f1 e).2) j|_=>exact ff h
theorem Nf(C:Cx Φ c d)(f:(nN Φ.a x k&&j6 o)=H)(j:Good Φ c d e<|.d o):Good Φ c d (.c0 e k)<|.d<|.Attribute o x aa:=by rw[iG]at f;refine hn (tY f.1) λb i=>?_;subst b;exact jT C.go O λμ ρ st s Q X D w=>Es f.2<|zV (j.1 μ ρ st s _ X D w) λaf v a ae s' l r k h=>Ee C.go h i r k
theorem zX(h:q8 (nv o) op=H):op=nv o:=of_decide_eq_true h
theorem zY(h:q9 (lp o) op=H):op=lp o:=of_decide_eq_true h
theorem Ng(C:Cx Φ c d)(h:q8 (nv o) op=H)(n:Good Φ c d a<|.d l)(p:Good Φ c d b<|.d r):Good Φ c d (.a1 o a b)<|.d<|.BinOp l op r aa:=by haveI:=zX h;subst this;refine jT C.go O λμ ρ st s Q X D w=>B6<|vC (P:=λx y st=>nr o x y st Q) ?_ λaf v u x y ae s' E e t k j=>MK C.ok j e t k;.refine g5 (n.1 μ ρ st s _ X D w) (λv f q=>?_) λB B q=>q;obtain⟨af,x,ae,k,m,e,D1⟩:=q;exact⟨_,x,_,λi z G D2=>p.1 _ ρ _ _ _ X D2 k,m,e,D1⟩
theorem r'{st}(f:Φ.a.y)(D:Dy Φ μ ρ st s)(a:RelV Φ.a μ v x)(b:RelV Φ.a μ u y)(h:l8 Φ.a.T o Q x y st):g0 Φ.q A (n2 (lp o) v u) (PE Φ ρ μ Q) E s:=KR h λe=>Mq f D a b
theorem t0(h:lq e=H):behindInMarks op e=false:=(pR e default).2.2.2.2.2.2.1 h op
theorem Nh(C:Cx Φ c d)(h:(q9 (lp o) op&&lq r)=H)(G:Good Φ c d a<|.d l)(I:Good Φ c d b<|.d r):Good Φ c d (.Q o a b)<|.d<|.Compare l [op] [r] aa:=by
 rw[iG]at h;haveI:=zY h.1;subst this;haveI j:∀μ ρ st s (P:AV->AV->St->Prop) X (R:gZ->gZ->Sem _) Q,Dy Φ μ ρ st s->WE _ _ a ρ st _ X->(∀af v u x y st s',h1 μ _->RelV _ _ v x->RelV _ _ u y->P x y st->Dy Φ _ ρ st s'->g0 _ Φ.C (R v u) (PE Φ ρ _ Q) (PX Φ ρ X) s')->g0 _ Φ.C (eval l _) (λv f=>g0 _ _ (eval r _) _ _ _) (PX Φ ρ X) s:=by
  refineλμ ρ st s P X R Q D w=>vC<|g5 (G.1 μ ρ st s _ X D w) (λv f q=>?_) λe e q=>q
  obtain⟨af,x,ae,k,n,i,D1⟩:=q
  exact⟨_,x,_,λB J L D2=>I.1 _ ρ _ _ _ X D2 k,n,i,D1⟩
 refine⟨λμ ρ st s Q X D w=>wpAny_Compare1 (j μ ρ st s _ X _ Q D w λaf v u x y ae s' E i p k m=>r' C.go m i p k)<|t0 h.2,λμ ρ st s P X D w=>JE (g5 (j μ ρ st s _ X _ (λy st=>jy y st _) D w λaf v u x y ae s' E i p k m=>r' C.go m i p k) (λv f q=>g5 q (λu t q=>g5 q (λx z q=>?_) λe e q=>q) λe e q=>q) λe e q=>q)<|t0 h.2⟩;obtain⟨af,M,ae,k,n,i,D1⟩:=q;exact g5 (q5 C.go D1 i<|v8 k) (λe e q=>q.up n) λe e q=>q
theorem Fo(a:lq t=H):lastMarks [o,p] [r,t]=false:=t0 a
theorem nO(h:kL b P R):(b=H/\P)\/(b=g/\R):=by induction b with|true=>exact .inl ⟨rfl,h⟩|false=>exact .inr ⟨rfl,h⟩
theorem Ni(C:Cx Φ c d){l r t}(h:(q9 (lp o) op&&q9 (lp p) aZ&&lq r&&lq t)=H)(i1:Good Φ c d a<|.d l)(aV:Good Φ c d b<|.d r)(aW:Good Φ c d e<|.d t):Good Φ c d (.b5 o p a b e)<|.d<|.Compare l [op,aZ] [r,t] aa:=by
 haveI h:=f1 h;haveI aM:=f1 h.1;haveI f:=f1 aM.1;clear aM;cases zY f.1;cases zY f.2;refine⟨λμ ρ st s Q X D w=>Compare_chain (g5 (i1.1 μ ρ st s _ X D w) (λv I q=>?_) λi i q=>q)<|Fo h.2,λμ ρ st s P X D w=>isTrue_chain (g5 (i1.1 μ ρ st s _ X D w) (λv I q=>?_) λi i q=>q)<|Fo h.2⟩
 .obtain⟨aR,x,aN,k1,n,au,D1⟩:=q;refine chain_link<|g5 (aV.1 _ ρ _ _ _ X D1 k1) (λu J q=>?_) λi i q=>q;obtain⟨aS,y,aO,k2,j,E,D2⟩:=q;refine g5 (r' C.go D2 (au.aR j) E k2) (λz L q=>?_) λi i q=>q;obtain⟨aT,a4,aP,k3,k,G,m⟩:=q;refine C9 k3 λT e k3=>?_;clear zz3 e G;cases DH G;refine BW ?_;cases T with
  |true=>refine chain_last<|g5 (aW.1 _ ρ _ _ _ X m k3) (λv4 M q=>?_) λi i q=>q;obtain⟨aU,a7,aQ,Y,B,av,N⟩:=q;exact g5 (r' C.go N ((E.aR k).aR B) av Y) (λi i q=>q.up<|(n.trans j).trans<|k.trans B) λi i q=>q
  |false=>exact PE.up ((n.trans j).trans k)<|.mk k3 (.bool _) m
 .obtain⟨aR,x,aN,k1,n,au,D1⟩:=q;refine test_link<|g5 (aV.1 _ ρ _ _ _ X D1 k1) (λu J q=>?_) λi i q=>q;obtain⟨aS,y,aO,k2,j,E,D2⟩:=q;refine g5 (r' C.go D2 (au.aR j) E k2) (λz L q=>?_) λi i q=>q;obtain⟨aT,a4,aP,k3,k,G,m⟩:=q;refine C9 k3 λT e k3=>?_;clear zz3 e G;cases DH G;refine BW ?_;cases T with
  |true=>refine test_last<|g5 (aW.1 _ ρ _ _ _ X m k3) (λv4 M q=>?_) λi i q=>q;obtain⟨aU,a7,aQ,Y,B,av,N⟩:=q;refine g5 (r' C.go N ((E.aR k).aR B) av Y) (λx5 a' q=>?_) λi i q=>q;obtain⟨a_,z5,a2,k5,aY,a0,aX⟩:=q;exact g5 (q5 C.go aX a0<|v8 k5) (λi i q=>q.up<|((n.trans j).trans<|k.trans B).trans aY) λi i q=>q
  |false=>exact PB.up ((n.trans j).trans k)<|.mk ⟨_,rfl,k3⟩ m
end
end
section
open PySem PySem.W PySem.Calls PyProof.Rows
section
variable{Φ:Fm}{c:Ck}{d:Nat}{A:ix}
theorem Fp{st}(h:jy a st P)(e:nk st a=U b):P b st:=by unfold jy at h;rw[e]at h;exact h
theorem Nj(C:Cx Φ c d){a b}{x y}{r:List _}{aa:ku}(G:Good Φ c d a<|.d x)(n:match r with|[]=>Good Φ c d b<|.d y|_=>Good Φ c d b<|.d<|.BoolOp .And (y::r) aa):Good Φ c d (.and a b)<|.d<|.BoolOp .And (x::y::r) aa:=by
 have m:(∀μ ρ st s Q X,Dy Φ μ ρ st s->WE Φ.a.T (iN Φ.a d) b ρ st Q X->g0 Φ.q Φ.C (eval (.BoolOp .And (y::r) aa) Φ.r) (PE Φ ρ μ Q) (PX Φ ρ X) s)/\ ∀μ ρ st s P X e,Dy Φ μ ρ st s->WE Φ.a.T (iN Φ.a d) b ρ st (λy st=>jy y st<|P y) X->g0 Φ.q Φ.C (isTrue (.BoolOp .And (y::r) aa) Φ.r e) (PB Φ ρ μ<|TP P) (PX Φ ρ X) s:=by
  induction r with
  |nil=>refine⟨λμ ρ st s Q X D w=>BoolOp_one<|n.1 μ ρ st s Q X D w,λμ ρ st s P X e D w=>isTrue_and<|g5 (n.2 μ ρ st s P X D w) (λL i q=>?_) λf f q=>q⟩;induction L with|true=>exact isTrue_and_nil q|false=>exact q
  |cons z r=>exact⟨n.1,λμ ρ st s P X e=>n.2 μ ρ st s P X⟩
 refine⟨λμ ρ st s Q X D w=>BoolOp_and<|g5 (G.1 μ ρ st s _ X D w) (λv i q=>?_) λf f q=>q,λμ ρ st s P X D w=>isTrue_and<|g5 (G.2 μ ρ st s _ X D w) (λt i q=>?_) λf f q=>q⟩
 .exists j;obtain⟨B,x1,p,k1,l,I,D1⟩:=q;refine j<|g5 (q5 C.go D1 I k1) (λt J q=>?_) λf f q=>q;refine kf λj=>jk q λN M k2 o D2=>?_;rcases nO k2 with⟨rfl,k⟩|⟨rfl,k⟩
  .exact j<|g5 (m.1 _ ρ _ _ Q X D2 k) (λf f q=>q.up<|l.trans o) λf f q=>q
  .exact j<|PE.up (l.trans o)<|.mk k (I.aR o) D2
 .refine kf λj=>jk q λB p h l D1=>?_;clear q;refine g6 h λx1 E k1=>?_;clear h;rcases nO k1 with⟨rfl,k⟩|⟨rfl,k⟩
  .exact j<|g5 (m.2 _ ρ _ _ P X _ D1 k) (λf f q=>q.up l) λf f q=>q
  .exact j<|PB.up l<|.mk ⟨x1,E,Fp k E⟩ D1
theorem Nk(C:Cx Φ c d){a b}{x y}{r:List _}{aa:ku}(G:Good Φ c d a<|.d x)(n:match r with|[]=>Good Φ c d b<|.d y|_=>Good Φ c d b<|.d<|.BoolOp .Or (y::r) aa):Good Φ c d (.or a b)<|.d<|.BoolOp .Or (x::y::r) aa:=by
 have m:(∀μ ρ st s Q X,Dy Φ μ ρ st s->WE Φ.a.T (iN Φ.a d) b ρ st Q X->g0 Φ.q Φ.C (eval (.BoolOp .Or (y::r) aa) Φ.r) (PE Φ ρ μ Q) (PX Φ ρ X) s)/\ ∀μ ρ st s P X e,Dy Φ μ ρ st s->WE Φ.a.T (iN Φ.a d) b ρ st (λy st=>jy y st<|P y) X->g0 Φ.q Φ.C (isTrue (.BoolOp .Or (y::r) aa) Φ.r e) (PB Φ ρ μ<|TP P) (PX Φ ρ X) s:=by
  induction r with
  |nil=>refine⟨λμ ρ st s Q X D w=>BoolOp_one<|n.1 μ ρ st s Q X D w,λμ ρ st s P X e D w=>isTrue_or<|g5 (n.2 μ ρ st s P X D w) (λL i q=>?_) λf f q=>q⟩;induction L with|true=>exact q|false=>exact isTrue_or_nil q
  |cons z r=>exact⟨n.1,λμ ρ st s P X e=>n.2 μ ρ st s P X⟩
 refine⟨λμ ρ st s Q X D w=>BoolOp_or<|g5 (G.1 μ ρ st s _ X D w) (λv i q=>?_) λf f q=>q,λμ ρ st s P X D w=>isTrue_or<|g5 (G.2 μ ρ st s _ X D w) (λt i q=>?_) λf f q=>q⟩
 .exists j;obtain⟨B,x1,p,k1,l,I,D1⟩:=q;refine j<|g5 (q5 C.go D1 I k1) (λt J q=>?_) λf f q=>q;refine kf λj=>jk q λN M k2 o D2=>?_;rcases nO k2 with⟨rfl,k⟩|⟨rfl,k⟩
  .exact j<|PE.up (l.trans o)<|.mk k (I.aR o) D2
  .exact j<|g5 (m.1 _ ρ _ _ Q X D2 k) (λf f q=>q.up<|l.trans o) λf f q=>q
 .refine kf λj=>jk q λB p h l D1=>?_;clear q;refine g6 h λx1 E k1=>?_;clear h;rcases nO k1 with⟨rfl,k⟩|⟨rfl,k⟩
  .exact j<|PB.up l<|.mk ⟨x1,E,Fp k E⟩ D1
  .exact j<|g5 (m.2 _ ρ _ _ P X _ D1 k) (λf f q=>q.up l) λf f q=>q
theorem Nl(C:Cx Φ c d)(n:Good Φ c d a<|.d x):Good Φ c d (.not a)<|.d<|.UnaryOp .Not x aa:=⟨λμ ρ st s Q X D w=>UnaryOp_<|zV (n.1 μ ρ st s _ X D w) λaf v a ae s' i r k o=>not_of<|g5 (q5 C.go o r k) (λb h q=>(jk q λm l k2 j D2=>PE.up j<|.mk k2 (.bool _) D2)) λi i q=>q,λμ ρ st s P X D w=>isTrue_not<|g5 (n.2 μ ρ st s (λx r=>P _ _) X D w) (λb h q=>(kf λp=>jk q λm l f j D2=>g6 f λy e k2=>p<|PB.up j<|.mk ⟨_,rfl,k2⟩ D2)) λi i q=>q⟩
theorem Nm(C:Cx Φ c d)(G:Good Φ c d t<|.d x)(I:Good Φ c d a<|.d y)(J:Good Φ c d b<|.d z):Good Φ c d (.bI t a b)<|.d<|.IfExp x y z aa:=by
 refine⟨λμ ρ st s Q X D w=>IfExp_<|g5 (G.2 μ ρ st s _ X D w) (λr p q=>?_) λe e q=>q,λμ ρ st s P X D w=>isTrue_IfExp<|g5 (G.2 μ ρ st s _ X D w) (λr p q=>?_) λe e q=>q⟩
 .refine kf λl=>jk q λE B m o D1=>g6 m λe e k1=>?_;rcases nO k1 with⟨i,k⟩|⟨j,k⟩;clear zz3 i l;rotate_left 1;clear zz3 j l;rotate_right 1
  .exact l<|g5 (I.1 _ ρ _ _ Q X D1 k) (λe e q=>q.up o) λe e q=>q
  .exact l<|g5 (J.1 _ ρ _ _ Q X D1 k) (λe e q=>q.up o) λe e q=>q
 .refine kf λl=>jk q λE B n o D1=>g6 n λe e k1=>?_;rcases nO k1 with⟨f,k⟩|⟨h,k⟩;clear zz3 f l;rotate_left 1;clear zz3 h l;rotate_right 1
  .exact l<|g5 (I.2 _ ρ _ _ P X D1 k) (λe e q=>q.up o) λe e q=>q
  .exact l<|g5 (J.2 _ ρ _ _ P X D1 k) (λe e q=>q.up o) λe e q=>q
theorem No:Good Φ c d .nil<|.aS []:=⟨rfl,λμ ρ st s P X aa D w=>n9 ⟨μ,_,st,w,h1.refl μ,.nil,D⟩⟩
theorem Np(hp:jm x=H)(m:Good Φ c d a<|.d x)(h:Good Φ c d r<|.aS y):Good Φ c d (.cons a r)<|.aS (x::y):=by refine⟨by rw[qC,hp,h.1];rfl,λμ ρ st s P X aa D w=>n_ (g5 (m.1 μ ρ st s _ X D w) (λv i q=>?_) λe e q=>q)<|ny hp⟩;exists b;obtain⟨z,x1,p,k1,k,n,D1⟩:=q;refine b<|g5 (h.2 _ ρ _ _ (λl=>P _) X _ D1 k1) (λC j q=>?_) λe e q=>q;exists b;obtain⟨B,l,t,k2,f,o,D2⟩:=q;exact b<|CD _ _ _ k2 (k.trans f) (.cons (n.aR f) o) D2
theorem Nq(C:Cx Φ c d){a}{aa}(m:Good Φ c d a<|.aS p):Good Φ c d (.au a)<|.d<|.Tuple p k aa:=by refine jT C.go O λμ ρ st s Q X D w=>wpAny_Tuple<|g5 (m.2 μ ρ st s _ X _ D w) (λo b q=>?_) λr r q=>q;refine kf λj=>lh q λe l n k1 i h D1=>hn (ol k1) λz k1=>j ⟨by rw[h.len];exact lv z,?_⟩;haveI f:=h1.bO e b.heap.objs.size ({cls:=.type "tuple",data:=.seq o.toArray});exact⟨_,_,_,k1,i.trans f,.au (.inl<|.head _) (h.aR f) z,D1.ed C.ok O⟩
theorem Nr(C:Cx Φ c d)(i:Good Φ c d a<|.aS k):Good Φ c d (.m a)<|.d<|.List k aa:=by refine jT C.go O λμ ρ st s Q X D w=>wpAny_List<|g5 (i.2 μ ρ st s _ X _ D w) (λo e q=>?_) λm m q=>q;exact kf λh=>lh q λn l j k1 f b D1=>hn (ol k1) λz k1=>h ⟨by rw[b.len];exact lv z,PE.up f<|D1.newList C.ok b z k1⟩
theorem Nt(C:Cx Φ c d):Good Φ c d (.dict b)<|.d<|.Dict [] [] aa:=jT C.go O λμ ρ st s Q X D w=>wpAny_Dict_empty<|D.gq C.ok w
theorem Nu:Good Φ c d .nil<|.a9 [] [] []:=by intro a hp _ _;cases hp;exact⟨rfl,λμ ρ st s P X aa D w=>n9<|oJ ⟨rfl,rfl,μ,_,st,w,h1.refl μ,.nil,D⟩⟩
theorem Nv(z:Good Φ c d a<|.d x)(B:Good Φ c d r<|.a9 ps Q ag):Good Φ c d (.cons a r)<|.a9 (p::ps) (x::Q) ag:=by intro j hp h t;rw[iG]at h;refine hp.cC λw0 j e b y=>?_;subst e;obtain⟨C,E⟩:=B j y h.2 t;refine⟨C,λμ ρ st s P X aa D w=>n_ (g5 (z.1 μ ρ st s _ X D w) (λv k q=>?_) λb b q=>q)<|ny h.1⟩;exists f;obtain⟨T,x1,M,k1,o,J,D1⟩:=q;refine f<|g5 (E _ ρ _ _ (λl=>P _) X _ D1 k1) (λvs m q=>g5 q (λks n q=>?_) λb b q=>q) λb b q=>q;exists f;obtain⟨G,I,Y,l,N,k2,i,L,D2⟩:=q;exact f ⟨congrArg _ G,I,_,_,_,k2,o.trans i,.cons (J.aR i) L,D2⟩
theorem Nw(z:Good Φ c d a<|.d x)(B:Good Φ c d r<|.a9 ps [] ag):Good Φ c d (.cons a r)<|.a9 ((k,T)::ps) [] (⟨U k,x,kp⟩::ag):=by
 intro b hp Y i;haveI j:oj ag=true:=by unfold oj at i;rw[iG]at i;exact i.2
 refine hp.cC λt b e f y=>?_;subst e;obtain⟨C,E⟩:=B b y O j;refine⟨?_,λμ ρ st s P X aa D w=>n9 ?_⟩;.show i5 _ 0 _=H;exact(if_pos O).trans C
 .show g0 _ _ (evalAll ((do let v <-eval x _;standAt _;pure v)::(mm _ _).map _)) _ _ _;refine wpAny_evalAll_cons<|hk<|g5 (z.1 μ ρ st s _ X D w) (λv n q=>hk (oH (ib ?_))) λf f q=>q;exists h;obtain⟨N,x1,L,k1,p,I,D1⟩:=q;refine h<|g5 (Fj<|E _ ρ _ _ (λl=>P _) X _ D1 k1) (λks o q=>?_) λf f q=>q;exists h;obtain⟨n1,G,Q,l,M,k2,m,J,D2⟩:=q;refine h ⟨rfl,congrArg _ G,_,_,_,k2,p.trans m,?_,D2⟩;rw[show fill ((k,t)::b) [] ((k,v)::(my _).zip ks)=v::fill b _ _ from if_pos O];exact .cons (I.aR m) J
theorem Ny(h:tZ a b=H):∃x,a=.aV x/\b=U x:=(jF h λy e h=>v0 (P:=λa=>∃x,a=.aV x/\b=U x) h ip (λv h=>⟨y,congrArg _<|vZ _ _ h,e⟩) ff)
theorem Fq(hd:tZ a N=H)(h:∀k x i m,ag=⟨U k,x,i⟩::m->k≠p)(Y:Good Φ c d r<|.a9 ps [] ag):Good Φ c d (.cons a r)<|.a9 ((p,N)::ps) [] ag:=by
 refineλj hp hx o=>g6 (Ny hd) λx b f=>?_;clear hd;subst b;subst f;refine jH.gv hp λv j e C T=>?_;subst e
 .refine hn (Y j T O o) λt G=>?_;haveI J:i5 (j_ ((p,U v)::j)) 0 (my ag)=true:=by
   induction ag with|nil=>exact t|cons k0 m=>
    obtain⟨n,y,i⟩:=k0;induction n with
    |none=>cases o
    |some n=>exact(if_neg<|h n y i m O).trans t
  refine⟨J,λμ ρ st s P X aa D w=>?_⟩;refine n9<|g5 (Fj<|G μ ρ st s _ X _ D w) (λks L q=>?_) λaN aN q=>q;obtain⟨n1,I,aO,l,av,k2,M,B,D2⟩:=q;refine⟨rfl,I,_,_,_,k2,M,?_,D2⟩;haveI E:∀k u z,(my ag).zip ks=(k,u)::z->k≠p:=by
   intro k u z e;clear I J G t;cases ag with
   |nil=>cases e
   |cons k0 m=>
    obtain⟨n,y,i⟩:=k0;induction n with
    |none=>cases o
    |some n=>
     exists Q;cases ks with
     |nil=>cases e
     |cons k1 ks=>cases e;exact Q<|h _ y i m O
  generalize (my _).zip ks=au at B E ⊢;induction au with|nil=>exact .cons (C _) B|cons q z=>obtain⟨k,u⟩:=q;rw[show fill ((p,U v)::j) [] ((k,u)::z)=v::fill j _ _ from if_neg<|E k u z O];exact .cons (C _) B
end
end
section
open PySem PySem.W PySem.Calls PyProof.Rows
section
variable{Φ:Fm}{c:Ck}{d:Nat}{A:ix}
theorem v9:∀{a:List g2} {ks:List gZ},ks.length=a.length->(a.zip ks).map (·.1)=a:=by intro a ks h;rw[Jj ((jh h.symm))]
theorem sa(C:Cx Φ c d){st}(h:mA Φ.a c x v=H)(D:Dy Φ μ ρ st s)(q:Q v s):g0 Φ.q A (eval (.Name x aa) Φ.r) Q E s:=by unfold mA at h;simp only[iG,beq_iff_eq]at h;exact kf λi=>hn h λa f=>hn a λb e=>i<|BD C.ok.kind (by rw[C.dx];exact b) (loadGlobal_global (C.ok.b7 _ D.N.aU) f q)<|r_ e
theorem v_(C:Cx Φ c d){st}(h:kY Φ.a c x v=H)(D:Dy Φ μ ρ st s)(q:Q v s):g0 Φ.q A (eval (.Name x aa) Φ.r) Q E s:=by unfold kY at h;simp only[iG,beq_iff_eq]at h;exact kf λe=>hn h λa f=>hn a λa b=>e<|BD C.ok.kind (by rw[C.dx];exact(a.1.1)) (loadGlobal_builtin (C.ok.b7 _ D.N.aU) (a.2) (C.ok.cc _ D.N.aU) b q)<|r_ (a.1.2)
theorem v'(C:Cx Φ c d)(h:(!c.bx||Φ.a.quiet f)=H):Φ.C.handled=V\/Φ.a.quiet f=true:=by
 rcases C.fU with a|a
 .exact .inl a
 .rw[a]at h;exact .inr (by simpa using h)
theorem Nz(C:Cx Φ c d){f:Nat}(m:mA Φ.a c x (.ref f)=H)(b:oZ h ag=H)(n:mL Φ.a.K (.ref f)=H)(o:(!c.bx||Φ.a.quiet f)=H)(p:c.bp f=U ps)(r:Good Φ c d args<|.a9 ps h ag):Good Φ c d (.call f args)<|.d<|.Call (.Name x M) h ag aa:=by rw[iG]at b;exists e;obtain⟨L,J,T⟩:=C.bp f ps p;obtain⟨t,y⟩:=r _ T.cw b.1 b.2;refine e<|jT C.go O λμ ρ st s Q X D w=>Call_ O<|sa C m D<|r9 n b.1 b.2 (g5 (y μ ρ st s _ X _ D w) (λN i q=>g5 q (λks j q=>?_) λa a q=>q) λa a q=>q);exists e;obtain⟨z,B,I,l,G,k2,k,E,D2⟩:=q;refine e ⟨D2.N.aU,?_⟩;exact g5 (D5 C.ok D2 C.room (v' C o) T.at_ E (oW T.dt T.du T.dv T.dw T.cW (oX D2.N.aU T.cV) T.b8 (by rw[z,v9 B];exact t)) k2) (λa a q=>q.up k) λa a q=>q
theorem zZ{st}(D:Dy Φ μ ρ st s)(r:RelV Φ.a μ v<|.mut .L):∃x b ks a e n,v=.ref x/\μ.L=U (x,b)/\st.L=U (ks,a)/\iE Φ.a μ e ks a/\InstAt s.heap x (ky Φ.a.T.a6 b) Φ.a.T.a6 (U<|i4 e n):=by
 refine Ki λt o=>jv r.fQ λx b i hp=>?_
 .obtain⟨ks,a,q⟩:∃ks a,st.L=U (ks,a):=by
   induction q:st.L with
   |none=>rw[D.N.cA q]at hp;cases hp
   |some p=>exact pE p.1 p.2 O
  refine kf λm=>jr (D.N.cU ks a q) λw h e n f j k l=>?_
  rw[hp]at f
  cases f
  exact m<|o x b ks a e n i hp q l<|vO D j k
theorem NA(C:Cx Φ c d){f}{ps:i6}(k:pQ Φ.a.K Φ.a.T.a6 f x=H)(hx:r3 Φ.a.bJ x=H)(aN:j6 o=H)(G:jK z ag h aa=H)(Y:mL Φ.a.K (.ref f)=H) (au:(!c.bx||Φ.a.quiet f)=H) (av:c.bp f=U (a2::ps)) (aP:Good Φ c d e<|.d o) (aQ:Good Φ c d args<|.a9 ps z ag):Good Φ c d (.bV f e args)<|.d<|.Call (.Attribute o x h) z ag aa:=by
 haveI ff:=q7 (ac:=Φ.r) G;refine jO (C.bp f _ av) λE t a4=>a4.cw.cC λw0 n j b hr=>kf λi=>hn (aQ n hr ff.2.1 ff.2.2.1) λaR aS=>?_;unfold pQ at k;simp only[iG,beq_iff_eq,rx]at k;obtain⟨c1,c2,c3,c4,c5⟩:=r4<|C.go.cls _<|.inl O;refine i<|jT C.go O λμ ρ st s Q X D w=>MethodCall_ aN G<|g5 (aP.1 μ ρ st s _ X D w) (λv L q=>?_) λb b q=>q;exists i;obtain⟨aZ,a,aX,k1,T,J,D1⟩:=q;obtain⟨rfl,k1⟩:=y1 k1;obtain⟨r,dx,pk,aV,aU,pn,rfl,hp,aO,m,I⟩:=zZ D1 J;refine i λpl=>method_fn D1.N.aU I c1 c2 (k.1.1.1.1.1) (beq_iff_eq.mp (k.1.1.1.1.2)) ?_ ?_;.show(lookIn x _).map _=U _;rw[lookIn_dict,DW (DN hx) m];rfl
 .refine r9 Y ff.2.1 ff.2.2.1<|g5 (aS _ ρ _ _ _ X _ D1 k1) (λp M q=>g5 q (λks N q=>?_) λb b q=>q) λb b q=>q;exists i;obtain⟨n1,aT,a0,l,aY,k2,y,aW,D2⟩:=q;refine i ⟨D2.N.aU,?_⟩;haveI ok:i5 (j_<|kC E t) (kJ r::p).length (((my _).zip ks).map _)=true:=by rw[j,v9 aT];show i5 (j_ n) _ _=H;rw[n1];exact aR
  haveI B:=oW a4.dt a4.du a4.dv a4.dw a4.cW (oX D2.N.aU a4.cV) a4.b8 ok;rw[(by rw[j];rfl:fill (kC E t) (kJ r::p) _=kJ r::fill n p ((my ag).zip ks))]at B;exact g5 (D5 C.ok D2 C.room (v' C au) a4.at_ (.cons (J.aR y) aW) B k2) (λb b q=>q.up<|T.trans y) λb b q=>q
theorem NB(C:Cx Φ c d){f}{e}{o}{x}{aa}(h:pQ Φ.a.K Φ.a.T.a6 f x=H)(j:r3 Φ.a.bJ x=H)(i:j6 o=H)(l:Good Φ c d e<|.d o):Good Φ c d (.bd f e)<|.d<|.Attribute o x aa:=jT C.go O λμ ρ st s Q X D w=>Es i<|zV (l.1 μ ρ st s _ X D w) λaf v a ae s' m r k b=>MZ C.ok b r j h (C.go.cls _<|.inl O) k
theorem NC{G}{μ}{e:List (g2×Option _)}{ps}{b:List AV}(r:jH G e ps)(h:ps.map (·.2)=b.map U):i5 (j_ e) 0 []=H/\hZ G μ (fill e [] []) b:=by
 induction r generalizing b with
 |nil=>induction b with|nil=>exact⟨rfl,.nil⟩|cons=>cases h
 |none r=>
  induction b with
  |nil=>cases h
  |cons a b=>cases h
 |some j r k=>
  cases b with
  |nil=>cases h
  |cons a b=>
   injection h with f i
   cases f;exact hn (k i) λk1 k2=>⟨k1,.cons (j μ) k2⟩
theorem ND{ps:i6}(h:jH G b ((x,V)::ps)){B:Prop}(k:∀q a,b=q::a->jH G a ps->B):B:=(h.cC λw a e f=>k _ _ e)
theorem NE(C:Cx Φ c d)(hq:(!c.bx)=H)(hx:nN Φ.a x k=H)(aS:iB Φ.a.K (.ref Φ.a.T.a6) x=U V)(aT:j6 o=H)(aP:jK [] [] h aa=H)(aU:Good Φ c d e<|.d o):Good Φ c d (.d9 e k)<|.d<|.Call (.Attribute o x h) [] [] aa:=by
 exists f;obtain⟨rfl,aQ⟩:=tY hx;obtain⟨c1,c2,c3,c4,c5⟩:=r4<|C.go.cls _<|.inl O;refine f<|jT C.go O λμ ρ st s Q X D w=>MethodCall_ aT aP<|g5 (aU.1 μ ρ st s _ X D w) (λv b q=>?_) λE E q=>q;exists f;obtain⟨a0,a,aZ,k1,J,y,D1⟩:=q;refine vo k1 λks vs N n k1=>jx k1 λr hl k1=>KG k1 λfm T k1=>jx k1 λL aR k5=>?_;subst N T;obtain⟨xa,dx,pk,aY,aX,pn,rfl,hp,l,m,I⟩:=zZ D1 y;cases n.symm.trans l;refine f λpl=>kf λf=>hn (tO<|C.go.ei Φ.a.T.a6 [] k<|.inl ⟨rfl,aQ⟩) λau E=>g6 au λp fa fn=>g6 (vH C.go m hl) λu av t=>f<|method_usual D1.N.aU I c1 c2 aS O<|get_value D1.N.aU I c1 (BL c3 fa fn av) (zq t)<|kf λf=>oM t.R λa7 a_ M Y aN aO=>?_;subst Y;cases hp.symm.trans aO;obtain⟨m1,fd,G,sn,ps,a',m2⟩:=C.cs fm L aR;refine f<|ND a'.cw λa4 a2 i hr=>kf λf=>?_;obtain⟨aV,aW⟩:=NC hr m2;haveI j:=(D1.N.t _ aN).1;refine f<|n8 O (keeps_M m1)<|evalArgs_nil3 ⟨⟨j,D1.N.aU⟩,?_⟩;haveI ok:i5 (j_<|kC fd G) [kJ xa].length (([]:List (g2×gZ)).map (·.1))=true:=by rw[i];exact aV
 haveI B:=oW (s:={b with toks:=b.toks+1}) a'.dt a'.du a'.dv a'.dw a'.cW (oX D1.N.aU a'.cV) a'.b8 ok;rw[i]at B;exact oF<|method_call j<|u0 (zu C.ok (D1.toks (b.toks+1)) C.room (.inl (C.de (by simpa using hq))) a'.at_ (.cons (y) aW) B k5) λr s' z=>by induction r with|error e=>exact z|ok fl=>induction fl with|ret v=>exact PE.up J z|_=>exact z.elim
end
end
section
open PySem PySem.W PySem.Calls PyProof.Rows
section
variable{Φ:Fm}{c:Ck}{d:Nat}{A:ix}
theorem z0{ps:i6}(i:o0 G f b D ((sn,V)::ps)):∃a,kC b D=(sn,V)::a/\jH G a ps:=(i.cw.cC λw h e z r=>⟨_,by rw[e,z O],r⟩)
theorem z1(h:D.length<=(it a).length):(kC a D).length=(it a).length:=by rw[<-zz a h,h8]
theorem z2:∀{b} {kw},(fill ps b kw).length=ps.length:=by
 induction ps with|nil=>intros;rfl|cons p ps a=>intro b kw;cases b with
  |cons v b=>exact congrArg (· +1) a|nil=>cases kw with
   |nil=>exact congrArg (· +1) a|cons q kw=>
    show(if q.1=p.1 then q.2::fill ps _ kw else p.2.getD _::fill ps _ (q::kw)).length=_;by_cases z:q.1=p.1;.rw[if_pos z];exact congrArg (· +1) a
    .rw[if_neg z];exact congrArg (· +1) a
theorem NF(C:Cx Φ c d){st}(N:q_ Φ.a m ps)(D:Dy Φ μ ρ st s)(w:ks.length=a.length)(j:∀e,jH Φ.a e ps->i5 (j_ e) i.length a=H/\hZ Φ.a μ (fill e i<|a.zip ks) l) (h:rY Φ.a.T m l st Q):g0 Φ.q Φ.C (kh (.ref m) i<|a.zip ks) (PE Φ ρ μ Q) E s:=by
 refine kf λt=>nj N λf kk p k=>jO k λsn L k=>jk k λh6 o N M n=>g6 (z0 M) λe b y=>hn (j e y) λz G=>?_;unfold rY at h;rw[N.tab]at h;refine hn h λq r=>?_;haveI J:L.length=(fill e i<|a.zip ks).length:=by rw[z2];haveI:=z1 M.cW;rw[b,N.L]at this;simpa using this.symm
 refine t<|EH C.ok C.go D N G J (λs' x hK=>?_) (qw (qM C.room.1) (by decide)) q r;haveI I:i5 (j_<|kC p o) (x::i).length ((a.zip ks).map _)=true:=by rw[b,v9 w];exact z
 haveI B:=oW M.dt M.du M.dv M.dw M.cW (oX hK M.cV) M.b8 I;rw[b]at B;exact B
theorem NG(C:Cx Φ c d){i:Nat}(M:mA Φ.a c x (.ref i)=H)(a:oZ p ag=H)(N:mL Φ.a.K (.ref i)=H)(T:c.ch i=U ps)(y:Good Φ c d args<|.a9 ps p ag):Good Φ c d (.new i args)<|.d<|.Call (.Name x np) p ag aa:=by
 rw[iG]at a;exists j;obtain⟨f,kk,L,sn,pn,h6,I,k,aQ,r⟩:=(C.ch i ps T);obtain⟨av,b,t⟩:=z0 aQ;obtain⟨_,Y⟩:=y _ t a.1 a.2;refine j<|jT C.go O λμ ρ st s Q X D w=>Call_ O<|sa C M D<|r9 N a.1 a.2 (g5 (Y μ ρ st s _ X _ D w) (λG z q=>g5 q (λks E q=>?_) λh h q=>q) λh h q=>q);exists j;obtain⟨n1,au,aP,l,aO,k2,J,aN,D2⟩:=q;refine j ⟨D2.N.aU,?_⟩;haveI B:=(y _ t a.1 a.2).1;rw[<-n1]at B;refine g5 (?_:g0 _ _ _ (PE Φ ρ _ Q) (PX Φ ρ X) _) (λh h q=>q.up J) λh h q=>q;haveI e:=k2;unfold rY at e;rw[k.tab]at e;exists j;obtain⟨m,n⟩:=e;haveI pl:pn.length=(fill _ G<|(my ag).zip ks).length:=by rw[z2];haveI:=z1 aQ.cW;rw[b,k.L]at this;simpa using this.symm
 refine j<|EH C.ok C.go D2 k aN pl (λs' x hK=>?_) (qw (qM C.room.1) (by decide)) m n;haveI ok:i5 (j_<|kC L I) (x::G).length (((my _).zip ks).map _)=true:=by rw[b,v9 au];exact B
 haveI o:=oW aQ.dt aQ.du aQ.dv aQ.dw aQ.cW (oX hK aQ.cV) aQ.b8 ok;rw[b]at o;exact o
theorem NH(C:Cx Φ c d)(h:(c.slots[i]?==U x&&x !=("__debug__":g2))=H)(t:Good Φ c d args<|.aS L):Good Φ c d (.dO i args)<|.d<|.Call (.Name x np) L [] aa:=by
 rw[iG]at h;refine jT C.go O λμ ρ st s Q X D w=>g6 (Na w) λo e w=>?_
 .refine Call_ O<|g5 (zg (Q:=λa ae=>a=.val (.ref o)/\ae=st) C.ok D (by rw[C.cX];exact beq_iff_eq.mp h.1) (r_ h.2) e ⟨rfl,rfl⟩) (λv z q=>?_) λj j q=>q;exists r;obtain⟨aO,a0,av,⟨rfl,rfl⟩,G,au,E⟩:=q;clear zz3 au.R.1 r
  .rcases nO w with⟨T,w⟩|⟨_,w⟩
   .refine g6 (C.el o T) λps N m=>r<|r9 m t.1 O<|g5 (t.2 _ ρ _ _ _ X _ E w) (λvs B q=>?_) λj j q=>q;refine lh q λaP l aN k1 I y D1=>oJ ⟨D1.N.aU,?_⟩;refine g5 (NF C N D1 O (λY M=>?_) k1) (λj j q=>q.up<|G.trans I) λj j q=>q;refine nj N λf kk fd n=>jO n λsn pn n=>jk n λh6 aQ J aR k=>?_;haveI b:=k1;unfold rY at b;rw[J.tab]at b;haveI p:Y.length=vs.length:=by rw[M.len,y.len,<-b.1,k]
    exact⟨Fn (by rw[h8];exact p),by rw[Fk p];exact y⟩
   .exact w.elim
end
end
section
open PySem PySem.W PySem.Calls PyProof.Rows
section
variable{Φ:Fm}{c:Ck}{d:Nat}{A:ix}
theorem z3(ac:jL)(h:jK b [] a aa=H):b.all jm=true:=(q7 (ac:=ac) h).2.1
theorem Ft(C:Cx Φ c d){j}{b}{P:AV->St->(AV->St->Prop)->Prop}(p:kY Φ.a c j b=H)(hp:jm y=H)(a:∃k,(k=x_\/k=x'\/k=ya)/\∀h,ng Φ.q h (yb b) k) (t:Good Φ c d e<|.d y) (i:∀ρ st Q X,WE Φ.a.T (iN Φ.a d) n ρ st Q X->WE Φ.a.T (iN Φ.a d) e ρ st (λx st=>P x st Q) X)(h:∀μ ρ st s v x Q X,Dy Φ μ ρ st s->RelV Φ.a μ v x->P x st Q->g0 Φ.q Φ.C (kh b [v]) (PE Φ ρ μ Q) (PX Φ ρ X) s):Good Φ c d n<|.d<|.Call (.Name j G) [y] [] aa:=by exists o;obtain⟨k,r,L⟩:=a;refine o<|jT C.go O λμ ρ st s Q X D w=>Call_ O<|v_ C p D<|n8 (P:=λf=>True) (by rw[pT (by rw[qC,hp];rfl)];rfl) (λh f=>⟨k,r,L h⟩) (oY (by rw[qC,hp];rfl) O (n_ (g5 (t.1 μ ρ st s _ X D (i ρ st Q X w)) (λv l q=>?_) λf f q=>q) (ny hp)));obtain⟨E,x,B,k1,m,z,D1⟩:=q;refine n9<|oJ ⟨trivial,?_⟩;exact g5 (h _ ρ _ _ v x Q X D1 z k1) (λf f q=>q.up m) λf f q=>q
theorem Fu:∃k,(k=x_\/k=x'\/k=ya)/\∀h,ng M h (yb<|.builtin i) k:=⟨.machine,.inr<|.inl O,λa=>.now⟩
theorem z4:∃k,(k=x_\/k=x'\/k=ya)/\∀h,ng M h (yb<|.type i) k:=⟨.machine,.inr<|.inl O,λa=>.now⟩
theorem NI(C:Cx Φ c d){e}{b}(f:kY Φ.a c b (.builtin "len")=H)(hp:jm y=H)(h:Good Φ c d e<|.d y):Good Φ c d (.len e)<|.d<|.Call (.Name b i) [y] [] aa:=Ft C f hp Fu h (λa a a a w=>w) λμ ρ st s v x Q X D r k=>ML D r k
theorem NJ(C:Cx Φ c d){e}{b}{y}{j aa}(h:(!c.bx)=H)(f:kY Φ.a c b (.type "list")=H)(hp:jm y=H)(i:Good Φ c d e<|.d y):Good Φ c d (.A e)<|.d<|.Call (.Name b j) [y] [] aa:=Ft C f hp z4 i (λa a a a w=>w) λμ ρ st s v x Q X D=>MM C.ok C.go D<|C.de (by simpa using h)
theorem Fv(C:Cx Φ c d){j z}{G f aa}{P:AV->St->(AV->St->Prop)->Prop}(o:kY Φ.a c j (.builtin "isinstance")=H)(hp:jm y=H)(B:Good Φ c d e<|.d y)(b:∀ρ st Q X,WE Φ.a.T (iN Φ.a d) n ρ st Q X->WE Φ.a.T (iN Φ.a d) e ρ st (λx st=>P x st Q) X)(r:∀μ ρ st s Q E,Dy Φ μ ρ st s->Q t s->g0 Φ.q Φ.C (eval (.Name z f) Φ.r) Q E s)(h:∀μ ρ st s v x Q X,Dy Φ μ ρ st s->RelV Φ.a μ v x->P x st Q->g0 Φ.q Φ.C (kh (.builtin "isinstance") [v,t]) (PE Φ ρ μ Q) (PX Φ ρ X) s):Good Φ c d n<|.d<|.Call (.Name j G) [y,.Name z f] [] aa:=by
 obtain⟨k,p,L⟩:=Fu;haveI i:[y,g_.Name z f].all jm=true:=by rw[qC,hp];rfl
 refine jT C.go O λμ ρ st s Q X D w=>Call_ O<|v_ C o D<|n8 (P:=λa=>True) (by rw[pT i];rfl) (λh a=>⟨k,p,L h⟩) (oY i O (n_ (g5 (B.1 μ ρ st s _ X D (b ρ st Q X w)) (λv l q=>?_) λa a q=>q) (ny hp)));obtain⟨M,x,J,k1,m,I,D1⟩:=q;refine n_ (r _ ρ _ _ _ _ D1<|n9<|oJ ⟨trivial,?_⟩) O;exact g5 (h _ ρ _ _ v x Q X D1 I k1) (λa a q=>q.up m) λa a q=>q
theorem NK(C:Cx Φ c d){b:Nat}{f z}(h:kY Φ.a c f (.builtin "isinstance")=H)(hp:jm y=H)(i:mA Φ.a c z (.ref b)=H)(j:Good Φ c d e<|.d y):Good Φ c d (.cN e b)<|.d<|.Call (.Name f k) [y,.Name z l] [] aa:=Fv C h hp j (λa a a a w=>w) (λμ ρ st s Q E=>sa C i) λμ ρ st s v x Q X=>MW C.go
theorem NL(C:Cx Φ c d){b z}{y}{j l aa}(f:kY Φ.a c b (.builtin "isinstance")=H)(hp:jm y=H)(h:kY Φ.a c z (.type "str")=H)(i:Good Φ c d e<|.d y):Good Φ c d (.d_ e)<|.d<|.Call (.Name b j) [y,.Name z l] [] aa:=Fv C f hp i (λa a a a w=>w) (λμ ρ st s Q E=>v_ C h) λμ ρ st s v x Q X D r k=>MX D r k
theorem NM(C:Cx Φ c d)(l:q3 s'=H)(m:Good Φ c d e<|.d v)(n:Good Φ c d i<|.d s'):Good Φ c d (.sub e i)<|.d<|.Subscript v s' aa:=by refine jT C.go O λμ ρ st s Q X D w=>Subscript_<|vC ?_ λaf v u x y ae s' E a o k h=>Mx C.go h l a o k;refine g5 (m.1 μ ρ st s _ X D w) (λv b q=>?_) λr r q=>q;obtain⟨af,x,ae,k,j,a,D1⟩:=q;exact⟨_,x,_,λf p t D2=>n.1 _ ρ _ _ _ X D2 k,j,a,D1⟩
noncomputable def t5(Φ:Fm)(c:Ck)(d:Nat)(a:DE)(b:Option g_):Prop:=match b with|U x=>Good Φ c d a (.d x)|V=>a=.c2
theorem Fw{b}(h:t5 Φ c d a b){st}(D:Dy Φ μ ρ st s)(w:WE Φ.a.T (iN Φ.a d) a ρ st Q X):g0 Φ.q Φ.C (evalPart b Φ.r) (PE Φ ρ μ Q) (PX Φ ρ X) s:=by induction b with|some x=>exact h.1 μ ρ st s Q X D w|none=>have:=h;exists e;subst this;exact e<|JF<|.mk w .none D
theorem NN(C:Cx Φ c d){m l}(z:Good Φ c d e<|.d v)(B:t5 Φ c d a m)(E:t5 Φ c d b l):Good Φ c d (.c1 e a b)<|.d<|.Subscript v (.Slice m l V sp) aa:=by refine jT C.go O λμ ρ st s Q X D w=>Subscript_<|g5 (z.1 μ ρ st s _ X D w) (λo n q=>?_) λf f q=>q;obtain⟨T,x,L,k1,y,G,D1⟩:=q;refine wpAny_Slice<|g5 (Fw B D1 k1) (λu p q=>?_) λf f q=>q;obtain⟨Y,i,M,k2,k,I,D2⟩:=q;refine g5 (Fw E D2 k2) (λav r q=>?_) λf f q=>q;obtain⟨au,j,N,k3,h,J,t⟩:=q;exact JF<|g5 (MU C.ok t ((G.aR k).aR h) (I.aR h) J k3) (λf f q=>q.up<|(y.trans k).trans h) λf f q=>q
theorem wa{st}{s}{j}(f:Slot "list" name j)(i:typeOf (.builtin j)=pure (.type "method_descriptor"))(D:Dy Φ μ ρ st s)(r:RelV Φ.a μ v<|.mut m)(hc:st.cell m=U (.m l))(h:Q (.builtin j,[v]) s):g0 Φ.q Φ.C (getMethod v name p) Q E s:=by refine g6 (pU r<|q6 D hc) λa b k=>?_;subst b;exact mq (tW D k hc) λq n c1 c2 c3 o=>getMethod_builtin ⟨_,c1,rfl⟩ PySem.F.plainAttrs_list f i (λa e=>by cases e;exact h9 _ c1 O) h
theorem Fx(C:Cx Φ c d){r}(j:Slot "list" name r)(p:typeOf (.builtin r)=pure (.type "method_descriptor")){W:AV->AV->St->(AV->St->Prop)->Prop}(M:j6 o=H)(B:jK [z] [] i aa=H)(N:Good Φ c d e<|.d o)(T:Good Φ c d y<|.d z)(n:∀ρ st Q X,WE Φ.a.T (iN Φ.a d) L ρ st Q X->WE Φ.a.T (iN Φ.a d) e ρ st (λa st=>r0 a st<|WE Φ.a.T (iN Φ.a d) y ρ st (λb st=>W a b st Q) X) X)(h:∀μ ρ st s v u x b Q X,Dy Φ μ ρ st s->RelV Φ.a μ v x->RelV Φ.a μ u b->W x b st Q->g0 Φ.q Φ.C (kh (.builtin r) [v,u]) (PE Φ ρ μ Q) (PX Φ ρ X) s):Good Φ c d L<|.d<|.Call (.Attribute o name i) [z] [] aa:=by haveI k:=z3 Φ.r B;refine jT C.go O λμ ρ st s Q X D w=>MethodCall_ M B<|g5 (N.1 μ ρ st s _ X D<|n ρ st Q X w) (λv G q=>?_) λf f q=>q;obtain⟨aN,x,au,k1,J,E,D1⟩:=q;refine qS k1 λm l e hc k1=>?_;subst e;refineλpl=>wa j p D1 E hc<|n8 (P:=λf=>True) (by rw[pT k];rfl) (λh f=>⟨_,.inr<|.inl O,.now⟩)<|oY k O<|n_ (g5 (T.1 _ ρ _ _ _ X D1 k1) (λu I q=>?_) λf f q=>q) (ny (by rw[iG]at k;exact k.1));obtain⟨aO,b,av,k2,t,Y,D2⟩:=q;refine n9<|oJ ⟨trivial,?_⟩;exact g5 (h _ ρ _ _ v u _ b Q X D2 (E.aR t) Y k2) (λf f q=>q.up<|J.trans t) λf f q=>q
theorem NO(C:Cx Φ c d){e y}(i:j6 o=H)(h:jK [z] [] a aa=H)(j:Good Φ c d e<|.d o)(k:Good Φ c d y<|.d z):Good Φ c d (.aO e y)<|.d<|.Call (.Attribute o "append" a) [z] [] aa:=Fx C Jq PySem.F.type_list_append i h j k (λf f f f w=>w) λμ ρ st s v u x b Q X=>MA
theorem NP(C:Cx Φ c d){e y}(i:j6 o=H)(h:jK [z] [] a aa=H)(j:Good Φ c d e<|.d o)(k:Good Φ c d y<|.d z):Good Φ c d (.ext e y)<|.d<|.Call (.Attribute o "extend" a) [z] [] aa:=Fx C Jr PySem.F.type_list_extend i h j k (λf f f f w=>w) λμ ρ st s v u x b Q X=>MB
end
end
section
open PySem PySem.W PySem.Calls PyProof.Rows PyProof.V PySem.Spec
mutual
noncomputable def nP:AV->PyData| .none=>.none| .bool b=>.bool b| .int i=>.int i| .str l=>.str (S l)| .au l=>.tuple (lQ l)|_=>.none
noncomputable def lQ:List AV->List PyData|[]=>[]|a::r=>nP a::lQ r
end
noncomputable def NQ:AV->Bool| .none=>H| .bool _=>H| .int _=>H| .str _=>H| .au _=>H|_=>g
theorem t6{P:Prop}{a}(h:lN n a=H)(e:NQ a=g):P:=by cases a<;>first|exact iR e|(cases n<;>exact ff h)
theorem AV.fc{P:Nat->AV->Prop}{R:Nat->List AV->Prop}(f:∀n,P n .none)(k:∀n b,P n<|.bool b)(m:∀n i,P n<|.int i)(o:∀n l,l.all (pf · 1114112)=H->P n (.str l))(q:∀n l,R n l->P (n+1) (.au l))(p:∀n,R n [])(hc:∀n a l,P n a->R n l->R n (a::l))(a):∀n,lN n a=H->P n a:=
 AV.rec (motive_2:=λl=>∀n,l.all (lN n)=H->R n l) (λn e=>f n) (λb n e=>k n b) (λi n e=>m n i) (λl n h=>o n l (by cases n<;>exact h)) (λe e h=>t6 h O) (λl r n h=>by
  cases n with|zero=>exact ff h|succ n=>exact q n l<|r n h) (λe e e e e h=>t6 h O) (λe e e e e h=>t6 h O) (λe e h=>t6 h O) (λe e h=>t6 h O) (λn e=>p n) (λa l i j n h=>haveI h:=f1 h
  hc n a l (i n h.1)<|j n h.2) a
section
variable{Φ:Fm}{μ:Mu}{ρ:Loc}{st:St}{s:hb}
theorem z6(D:Dy Φ μ ρ st s){a}(n)(r:RelV Φ.a μ v a)(h:lN n a=H):∃as,Reads s.heap v (nP a) as:=AV.fc (P:=λf a=>∀v,RelV _ μ v a->∃as,Reads _ v (nP a) as) (R:=λf l=>∀k,hZ _ μ k l->∃as,ReadsAll _ k _ as) (λf f r=>r.R▸⟨_,Reads.none⟩) (λf b f r=>r.R▸⟨_,Reads.bool b⟩) (λf i f r=>hz r.R λt e=>e▸⟨_,Reads.int i t⟩) (λf l f f r=>g6 r.R λt e f=>e▸⟨_,Reads.str _ t⟩) (λf l B f r=>lh r.R λa k n e A w f=>hz (B k w) λas q=>jj (vE D A) λo x y h=>hz h λm z=>e▸⟨as,reads_tuple_at x y z q⟩) (λf f r=>by cases r;exact⟨_,JG⟩) (λf a l i j f r=>by cases r with|cons r w=>exact hz (i _ r) λas q=>hz (j _ w) λbs p=>⟨_,JH q p⟩) a n h v r
theorem Fy(D:Dy Φ μ ρ st s){l}(n)(r:hZ Φ.a μ b l):(∀a∈l,lN n a=H)->∃as,ReadsAll s.heap b (lQ l) as:=hZ.M (C:=λb l=>(∀a∈l,lN n a=H)->∃as,ReadsAll _ b (lQ l) as) (λf=>⟨_,JG⟩) (λr f j k=>hz (z6 D n r<|k _<|.head _) λas q=>hz (j λa e=>k a<|.tail _ e) λbs p=>⟨_,JH q p⟩) r
end
theorem Fz(p:(nP a).canLay0=H/\(nP a).depth<=n)(q:u5 (lQ r)=H/\u6 (lQ r)<=n):u5 (lQ (a::r))=H/\u6 (lQ (a::r))<=n:=⟨kV.mpr ⟨p.1,q.1⟩,Nat.max_le.mpr ⟨p.2,q.2⟩⟩
theorem FA:∀a n,lN n a=H->(nP a).canLay0=H/\(nP a).depth<=n:=AV.fc (R:=λn l=>u5 _=H/\u6 _<=n) (λb=>⟨rfl,i' _⟩) (λb b=>⟨rfl,i' _⟩) (λb b=>⟨rfl,i' _⟩) (λb l h=>⟨by show(S l).cps.all _=H;rw[<-Array.all_toList];exact lH.mpr λx e=>decide_eq_true<|jN<|lH.mp h x e,i' _⟩) (λb b h=>⟨h.1,mj h.2⟩) (λb=>⟨rfl,i' _⟩) λb b b=>Fz
theorem NS:∀l n,(∀a∈l,lN n a=H)->u5 (lQ l)=H/\u6 (lQ l)<=n:=by intro l;induction l with|nil=>exactλ_ _=>⟨rfl,i' _⟩|cons a r e=>exactλn h=>Fz (FA a n<|h _<|.head _)<|e n λa b=>h a<|.tail _ b
theorem FC(p:B7 (nP a) (nP a)=H)(q:yc (lQ r) (lQ r)=H):yc (lQ (a::r)) (lQ (a::r))=true:=kV.mpr ⟨p,q⟩
theorem FD:∀a n,lN n a=H->B7 (nP a) (nP a)=true:=AV.fc (R:=λe l=>yc _ _=H) (λe=>rfl) (λe=>beq_self_eq_true) (λe=>beq_self_eq_true) (λe b e=>beq_self_eq_true _) (λe e h=>h) (λe=>rfl) λe e e=>FC
theorem NT:∀l n,(∀a∈l,lN n a=H)->yc (lQ l) (lQ l)=true:=by intro l;induction l with|nil=>exactλ_ _=>rfl|cons a r e=>exactλn h=>FC (FD a n<|h _<|.head _)<|e n λa b=>h a<|.tail _ b
section
variable{Φ:Fm}{c:Ck}{d:Nat}{μ:Mu}{ρ:Loc}{st:St}{s:hb}{Q:AV->St->Prop}{E:gZ->hb->Prop}
theorem FE(D:Dy Φ μ ρ st s)(R:nM Φ.C d)(B:RelV Φ.a μ v x)(C:RelV Φ.a μ u y)(h:vq x y st Q):g0 Φ.q Φ.C (n2 .Eq v u) (PE Φ ρ μ Q) E s:=by
 have I:Φ.C.units+64<cLine:=(qw (Nat.add_lt_add_right (qM R.2) _) (by decide));refine kf λG=>CE h (λh=>?_) λh=>?_
 .refine lh h λm m' l N T q au=>ju au λJ j t=>?_;rw[N]at B;rw[T]at C
  .refine g6 (pU B<|q6 D q) λa e hc=>?_;subst e;refine g6 (pU C<|q6 D J) λb f w=>?_;subst f;refine mq (tW D hc q) λvs n c1 c3 c4 c5=>mq (tW D w J) λY av p r L M=>?_;have k:=lH.mp j;refine hz (Fy D 6 c3 k) λas z=>hz (Fy D 6 r k) λbs A=>hn (NS l 6 k) λl1 l2=>?_;haveI o:=by show(u5 _&&decide (u6 _+1<=64))=H;rw[l1,decide_eq_true<|up l2 (by decide)];rfl
   refine G<|eq_dataH (reads_list_at c1 O O (by simpa [W.listOf]using z)) (reads_list_at p O O (by simpa [W.listOf]using A)) o o I ?_;rw[show B7 (.list _) (.list _)=H from NT l 6 k];exact .mk t (.bool _) D
 .refine ju h λi j t=>?_;clear h;subst i;refine hz (z6 D 6 B j) λas z=>hz (z6 D 6 C j) λbs A=>hn (FA x 6 j) λl1 l2=>?_;haveI o:SeqAt.shaped _=true:=by unfold SeqAt.shaped;rw[l1,decide_eq_true<|f2 l2 (by decide)];rfl
  refine G<|eq_dataH z A o o I ?_;rw[FD x 6 j];exact .mk t (.bool _) D
theorem NU(C:Cx Φ c d)(h:lq r=H)(A:Good Φ c d a<|.d l)(B:Good Φ c d b<|.d r):Good Φ c d (.dQ a b)<|.d<|.Compare l [.Eq] [r] aa:=by
 haveI j:∀μ ρ st s (P:AV->AV->St->Prop) X (R:gZ->gZ->Sem _) Q,Dy Φ μ ρ st s->WE _ _ a ρ st _ X->(∀af v u x y st s',h1 μ _->RelV _ _ v x->RelV _ _ u y->P x y st->Dy Φ _ ρ st s'->g0 _ Φ.C (R v u) (PE Φ ρ _ Q) (PX Φ ρ X) s')->g0 _ Φ.C (eval l _) (λv f=>g0 _ _ (eval r _) _ _ _) (PX Φ ρ X) s:=by
  refineλμ ρ st s P X R Q D w=>vC<|g5 (A.1 μ ρ st s _ X D w) (λv f q=>?_) λe e q=>q
  obtain⟨af,x,ae,k,n,i,D1⟩:=q
  exact⟨_,x,_,λz G I D2=>B.1 _ ρ _ _ _ X D2 k,n,i,D1⟩
 refine⟨λμ ρ st s Q X D w=>wpAny_Compare1 (j μ ρ st s _ X _ Q D w λaf v u x y ae s' E i o k m=>FE m C.room i o k)<|t0 h,λμ ρ st s P X D w=>?_⟩;.refine JE ?_<|t0 h;haveI:=j μ ρ st s _ X (n2 _) (λy st=>jy y st _) D w λaf v u x y ae s' E i o k m=>FE m C.room i o k;refine g5 this (λv f q=>g5 q (λu p q=>g5 q (λx t q=>?_) λe e q=>q) λe e q=>q) λe e q=>q;obtain⟨af,J,ae,k,n,i,D1⟩:=q;exact g5 (q5 C.go D1 i<|v8 k) (λe e q=>q.up n) λe e q=>q
end
end
section
open PySem PySem.W PySem.Calls PyProof.Rows
section
variable{Φ:Fm}{c:Ck}{d:Nat}{A:ix}
theorem NV(C:Cx Φ c d)(n:j6 o=H)(k:jK [] [] b aa=H)(p:Good Φ c d e<|.d o):Good Φ c d (.cn e)<|.d<|.Call (.Attribute o "pop" b) [] [] aa:=by refine jT C.go O λμ ρ st s Q X D w=>MethodCall_ n k<|g5 (p.1 μ ρ st s _ X D w) (λv i q=>?_) λa a q=>q;obtain⟨t,x,r,k1,j,f,D1⟩:=q;refine qS k1 λm l e hc a=>?_;subst e;refineλy=>wa xX JI D1 f hc<|n8 (P:=λa=>True) O (λh a=>⟨.machine,.inr<|.inl O,.now⟩)<|evalArgs_nil3 ⟨trivial,?_⟩;exact g5 (MF D1 f k1) (λa a q=>q.up j) λa a q=>q
theorem NW(C:Cx Φ c d)(r:j6 o=H)(n:jK [.Constant (.int 0) k p] [] b aa=H)(t:Good Φ c d e<|.d o):Good Φ c d (.d' e)<|.d<|.Call (.Attribute o "pop" b) [.Constant (.int 0) k p] [] aa:=by refine jT C.go O λμ ρ st s Q X D w=>MethodCall_ r n<|g5 (t.1 μ ρ st s _ X D w) (λv i q=>?_) λa a q=>q;obtain⟨z,x,y,k1,j,f,D1⟩:=q;refine qS k1 λm l e hc a=>?_;subst e;refineλB=>wa xX JI D1 f hc<|n8 (P:=λa=>True) O (λh a=>⟨.machine,.inr<|.inl O,.now⟩)<|oY O O<|n_ (xB (n9 (oJ ⟨trivial,?_⟩))) O;exact g5 (MG (D1.toks _) f k1) (λa a q=>q.up j) λa a q=>q
theorem NX(C:Cx Φ c d)(L:j6 o=H)(r:jK [u,z] [] f aa=H)(M:Good Φ c d e<|.d o)(N:Good Φ c d i<|.d u)(T:Good Φ c d y<|.d z):Good Φ c d (.dP e i y)<|.d<|.Call (.Attribute o "insert" f) [u,z] [] aa:=by
 haveI j:=z3 Φ.r r;have t:jm u=H/\jm z=true:=by simp only[qC,List.all_nil,iG]at j;exact⟨j.1,j.2.1⟩
 refine jT C.go O λμ ρ st s Q X D w=>MethodCall_ L r<|g5 (M.1 μ ρ st s _ X D w) (λv B q=>?_) λa a q=>q;obtain⟨aP,x,av,k1,J,n,D1⟩:=q;refine qS k1 λm l e hc k1=>?_;clear zz3 e n k1;refineλpl=>wa Ju PySem.F.type_list_insert D1 n hc<|n8 (P:=λa=>True) (by rw[pT j];rfl) (λh a=>⟨_,.inr<|.inl O,.now⟩)<|oY j O<|n_ (g5 (N.1 _ ρ _ _ _ X D1 k1) (λaS E q=>?_) λa a q=>q) (ny t.1);obtain⟨aQ,b,aN,k2,p,Y,D2⟩:=q;refine n_ (g5 (T.1 _ ρ _ _ _ X D2 k2) (λaT G q=>?_) λa a q=>q)<|ny t.2;obtain⟨aR,b3,aO,k3,k,au,I⟩:=q;refine n9<|oJ ⟨trivial,?_⟩;exact g5 (MI I ((n.aR p).aR k) (Y.aR k) au k3) (λa a q=>q.up<|(J.trans p).trans k) λa a q=>q
theorem NY(C:Cx Φ c d){l:List _}{e}{t}{k}{p a aa}{z}(r:t=S l)(hl:l.length<=16)(m:jK [z] [] a aa=H)(x:Good Φ c d e<|.d z):Good Φ c d (.join l e)<|.d<|.Call (.Attribute (.Constant (.str t) k p) "join" a) [z] [] aa:=by
 subst r;haveI i:=z3 Φ.r m;haveI j:jm z=true:=by rw[qC,iG]at i;exact i.1
 refine jT C.go O λμ ρ st s Q X D w=>MethodCall_ O m<|BE ?_;intro G;refine getMethod_builtin (qy _ _ _) PySem.F.plainAttrs_str PySem.F.slot_str_join PySem.F.type_str_join (λf e=>nomatch e) ?_;refine n8 (P:=λf=>True) (by rw[pT i];rfl) (λh f=>⟨_,.inr<|.inl O,.now⟩)<|oY i O<|n_ (g5 (x.1 μ ρ st _ _ X (D.toks (s.toks+1)) w) (λu n q=>?_) λf f q=>q) (ny j);obtain⟨E,b,B,k2,o,y,D2⟩:=q;refine n9<|oJ ⟨trivial,?_⟩;exact g5 (MQ D2 hl y k2) (λf f q=>q.up o) λf f q=>q
theorem NZ(C:Cx Φ c d){l}(x:t=S l)(y:Good Φ c d e<|.d z):Good Φ c d (.ca l e)<|.d<|.BinOp (.Constant (.str t) k p) .Mod z aa:=by exists a;clear zz3 x a;refine a<|jT C.go O λμ ρ st s Q X D w=>B6<|BE<|g5 (y.1 μ ρ st _ _ X (D.toks _) w) (λu j q=>?_) λm m q=>q;exists a;obtain⟨G,b,B,k2,o,i,D2⟩:=q;refine tz k2 λm e k=>?_;clear zz3 e i;obtain⟨I,rfl⟩:=qY i;exact a<|(nO k).elim (λh=>C.ca _ _ _ _ _ _ _ _ h.1 λr E n f=>⟨_,_,_,h.2 r f,o,.str _ _ f,D2.toks _⟩) λh=>h.2.elim
theorem N0(C:Cx Φ c d){j}{p aa}(h:pV a (.int (-j))=H):Good Φ c d (.aV a)<|.d<|.UnaryOp .USub (.Constant (.int j) k p) aa:=by haveI:=vZ _ _ h;clear zz3 this;exact jT C.go O λμ ρ st s Q X D w=>UnaryOp_<|xB<|PySem.P.neg_int (.mk w (.int _ _) ((D.toks _).toks _))
theorem FF{e:hQ->Bool}(f:∀t,e t=H->Good Φ c d a t){b}(h:qX (zU a) (λx=>e<|.d x) b=H):t5 Φ c d a b:=by induction b with|some x=>exact f _ h|none=>exact v0 (P:=λa=>t5 Φ c d a _) h ip ip λi=>rfl
theorem N1(C:Cx Φ c d):∀t,EL c i t=H->Good Φ c d (.j i) t:=λt h=>i9 h λx h=>jY (P:=λx=>Good Φ c d _ _) h λx p=>Nb C
theorem N2(C:Cx Φ c d):∀t,EM c a t=H->Good Φ c d (.cZ a) t:=λt h=>i9 h λx h=>jY (P:=λx=>Good Φ c d _ _) h λx p h=>haveI h:=f1 h;haveI e:=f1 h.1;jF h.2 λb=>Nc C (beq_iff_eq.mp e.1) e.2
theorem N3(C:Cx Φ c d){a}:∀t,EN a t=H->Good Φ c d (.aV a) t:=λt h=>i9 h λx h=>(sN.mp h).elim (λh=>r1 (P:=λx=>Good Φ c d _ _) h λk n p=>Nd C) λh=>Dv (P:=λx=>Good Φ c d _ _) h λo y p h=>haveI h:=f1 h;r1 (P:=λy=>Good Φ c d _<|.d<|.UnaryOp o y p) h.2 λk n q h'=>vz (P:=λk=>Good Φ c d _<|.d<|.UnaryOp o (.Constant k n q) p) h' λj h'=>by induction o<;>first|exact absurd h.1 (by decide)|exact N0 C h'
theorem N4(C:Cx Φ c d)(b:∀t,a t=H->Good Φ c d e t):∀t,EO Φ.a e k a t=H->Good Φ c d (.c0 e k) t:=λt h=>i9 h λx h=>l9 (P:=λx=>Good Φ c d _ _) h λo y p h=>haveI h:=f1 h;Nf C h.1<|b _ h.2
theorem N5(C:Cx Φ c d){f i}(j:∀t,f t=H->Good Φ c d a t)(k:∀t,i t=H->Good Φ c d b t):∀t,EP o f i t=H->Good Φ c d (.a1 o a b) t:=λt h=>i9 h λx h=>zb (P:=λx=>Good Φ c d _ _) h λl op r p h=>haveI h:=f1 h;haveI e:=f1 h.1;Ng C e.1 (j _ e.2)<|k _ h.2
theorem N6(C:Cx Φ c d){i j}(k:∀t,i t=H->Good Φ c d a t)(m:∀t,j t=H->Good Φ c d b t):∀t,EQ o i j t=H->Good Φ c d (.Q o a b) t:=λt h=>i9 h λx h=>zc (P:=λx=>Good Φ c d _ _) h λl os e p h=>iL (P:=λos=>Good Φ c d _<|.d<|.Compare l os e p) h λop h=>iL (P:=λe=>Good Φ c d _<|.d<|.Compare l _ e p) h λr h=>haveI h:=f1 h;haveI f:=f1 h.1;Nh C f.1 (k _ f.2)<|m _ h.2
theorem N7(C:Cx Φ c d){k m}(n:∀t,k t=H->Good Φ c d a t)(o:∀t,m t=H->Good Φ c d b t):∀t,ER k m t=H->Good Φ c d (.dQ a b) t:=λt h=>i9 h λx h=>zc (P:=λx=>Good Φ c d _ _) h λl os e p h=>iL (P:=λos=>Good Φ c d _<|.d<|.Compare l os e p) h λop h=>haveI f:=f1 h;iL (P:=λe=>Good Φ c d _<|.d<|.Compare l _ e p) f.2 λr h=>haveI i:=f1 h;haveI j:=f1 i.1;by induction op<;>first|exact absurd f.1 (by decide)|exact NU C j.1 (n _ j.2)<|o _ i.2
theorem N8(C:Cx Φ c d){o}{p}{k m hd}(n:∀t,k t=H->Good Φ c d a t)(s:∀t,m t=H->Good Φ c d b t)(w:∀t,hd t=H->Good Φ c d e t):∀t,ES o p k m hd t=H->Good Φ c d (.b5 o p a b e) t:=λt h=>i9 h λx h=>zc (P:=λx=>Good Φ c d _ _) h λl os f q h=>tH (P:=λos=>Good Φ c d _<|.d<|.Compare l os f q) h λy z h=>tH (P:=λf=>Good Φ c d _<|.d<|.Compare l _ f q) h λr t h=>haveI h:=f1 h;haveI i:=f1 h.1;haveI j:=f1 i.1;Ni C j.1 (n _ j.2) (s _ i.2)<|w _ h.2
theorem N9(C:Cx Φ c d){f i}(k:∀t,f t=H->Good Φ c d a t)(l:∀t,i t=H->Good Φ c d b t):∀t,ET f i t=H->Good Φ c d (.and a b) t:=
 λt h=>i9 h λx h=>Dw (P:=λx=>Good Φ c d _ _) h λo j p h=>haveI e:=f1 h;kX (P:=λj=>Good Φ c d _<|.d<|.BoolOp o j p) e.2 λx r h=>kX (P:=λr=>Good Φ c d _<|.d<|.BoolOp o _ p) h λy r h=>haveI h:=f1 h;by
  induction o with
  |And=>induction r<;>exact Nj C (k _ h.1)<|l _ h.2
  |Or=>cases e.1
theorem N_(C:Cx Φ c d){f i}(k:∀t,f t=H->Good Φ c d a t)(l:∀t,i t=H->Good Φ c d b t):∀t,EU f i t=H->Good Φ c d (.or a b) t:=
 λt h=>i9 h λx h=>Dw (P:=λx=>Good Φ c d _ _) h λo j p h=>haveI e:=f1 h;kX (P:=λj=>Good Φ c d _<|.d<|.BoolOp o j p) e.2 λx r h=>kX (P:=λr=>Good Φ c d _<|.d<|.BoolOp o _ p) h λy r h=>haveI h:=f1 h;by
  induction o with
  |Or=>induction r<;>exact Nk C (k _ h.1)<|l _ h.2
  |And=>cases e.1
theorem N'(C:Cx Φ c d)(e:∀t,b t=H->Good Φ c d a t):∀t,EV b t=H->Good Φ c d (.not a) t:=λt h=>i9 h λx h=>Dv (P:=λx=>Good Φ c d _ _) h λo y p h=>haveI h:=f1 h;by induction o<;>first|exact absurd h.1 (by decide)|exact Nl C<|e _ h.2
theorem Oa(C:Cx Φ c d){j f i}(m:∀t,j t=H->Good Φ c d u t)(k:∀t,f t=H->Good Φ c d a t)(l:∀t,i t=H->Good Φ c d b t):∀t,EW j f i t=H->Good Φ c d (.bI u a b) t:=λt h=>i9 h λx h=>Lb (P:=λx=>Good Φ c d _ _) h λx y z p h=>haveI h:=f1 h;haveI e:=f1 h.1;Nm C (m _ e.1) (k _ e.2)<|l _ h.2
theorem Ob(C:Cx Φ c d):∀t,EX t=H->Good Φ c d (.nil) t:=
 λt h=>by
  induction t with
  |d=>exists f;cases h
  |aS e=>exact iH (P:=λe=>Good Φ c d _ _) h No|a9 ps a ag=>exact haveI h:=f1 h;haveI b:=f1 h.1;iH (P:=λps=>Good Φ c d _<|.a9 ps a _) b.1<|iH (P:=λa=>Good Φ c d _<|.a9 _ a _) b.2<|iH (P:=λag=>Good Φ c d _ _) h.2 Nu
theorem Oc(C:Cx Φ c d){a}{j i}(l:∀t,j t=H->Good Φ c d a t)(b:∀t,i t=H->Good Φ c d r t):∀t,EY a r j i t=H->Good Φ c d (.cons a r) t:=
 λt h=>by
  induction t with
  |d=>exists B;cases h
  |aS m=>exact kX (P:=λm=>Good Φ c d _ _) h λx m h=>haveI h:=f1 h;haveI o:=f1 h.1;Np o.1 (l _ o.2)<|b _ h.2|a9 ps n ag=>
   exact kX (P:=λps=>Good Φ c d _<|.a9 ps n _) h λp ps h=>by
    induction n with|cons x m=>exact haveI h:=f1 h;Nv (l _ h.1)<|b _ h.2|nil=>
     obtain⟨p,s⟩:=p;cases ag with|nil=>exact haveI h:=f1 h;Fq h.1 (λk x y z e=>by cases e)<|b _ h.2|cons kw ag=>
      obtain⟨k,x,q⟩:=kw;induction k with|none=>exact iR h|some k=>
       haveI f:(if k=p then j _&&i _ else tZ a s&&i _)=true:=h;by_cases e:k=p;.rw[if_pos e]at f;clear zz3 e;exact haveI h:=f1 f;Nw (l _ h.1)<|b _ h.2
       .rw[if_neg e]at f;haveI h:=f1 f;haveI aM:=Fq h.1 (λk x y z w=>by cases w;exact e)<|b _ h.2;exact aM
theorem Od(C:Cx Φ c d)(e:∀t,b t=H->Good Φ c d a t):∀t,EZ b t=H->Good Φ c d (.au a) t:=λt h=>i9 h λx h=>zd (P:=λx=>Good Φ c d _ _) h λl n p h=>Nq C<|e _ h
theorem Oe(C:Cx Φ c d)(e:∀t,b t=H->Good Φ c d a t):∀t,E0 b t=H->Good Φ c d (.m a) t:=λt h=>i9 h λx h=>Dx (P:=λx=>Good Φ c d _ _) h λl p h=>Nr C<|e _ h
theorem Of(C:Cx Φ c d){b}:∀t,E1 t=H->Good Φ c d (.dict b) t:=λt h=>i9 h λx h=>Dz (P:=λx=>Good Φ c d _ _) h λp=>Nt C
theorem Og(C:Cx Φ c d)(m:∀t,a t=H->Good Φ c d args t):∀t,E2 Φ.a c f a t=H->Good Φ c d (.call f args) t:=λt h=>i9 h λx h=>kl (P:=λx=>Good Φ c d _ _) h λaM l ag aa h=>jY (P:=λaM=>Good Φ c d _<|.d<|.Call aM l _ _) h λx p h=>haveI h:=f1 h;haveI b:=f1 h.1;haveI i:=f1 b.1;haveI j:=f1 i.1;jF h.2 λps e k=>Nz C j.1 j.2 i.2 b.2 e<|m _ k
theorem Oh(C:Cx Φ c d){s a}(y:∀t,s t=H->Good Φ c d e t)(z:∀t,a t=H->Good Φ c d args t):∀t,E3 Φ.a c f e s a t=H->Good Φ c d (.bV f e args) t:=λt h=>i9 h λx h=>kl (P:=λx=>Good Φ c d _ _) h λaM w ag aa h=>l9 (P:=λaM=>Good Φ c d _<|.d<|.Call aM w _ _) h λo x p h=>haveI h:=f1 h;haveI j:=f1 h.1;haveI l:=f1 j.1;haveI m:=f1 l.1;haveI n:=f1 m.1;haveI q:=f1 n.1;haveI r:=f1 q.1;jF h.2 λb i k=>kX (P:=λb=>c.bp f=U b->Good Φ c d _ _) k (λB ps k i=>NA C r.1 r.2 q.2 n.2 m.2 l.2 i (y _ j.2)<|z _ k) i
theorem Oi(C:Cx Φ c d)(q:∀t,n t=H->Good Φ c d e t):∀t,E4 Φ.a c e k n t=H->Good Φ c d (.d9 e k) t:=λt h=>i9 h λx h=>kl (P:=λx=>Good Φ c d _ _) h λaM a ag aa h=>haveI b:=f1 h;haveI m:=f1 b.1;iH (P:=λa=>Good Φ c d _<|.d<|.Call aM a _ _) m.1<|iH (P:=λag=>Good Φ c d _<|.d (.Call aM _ ag _)) m.2<|l9 (P:=λaM=>Good Φ c d _ (.d (.Call aM _ _ _))) b.2 λo x p h=>haveI h:=f1 h;haveI f:=f1 h.1;haveI i:=f1 f.1;haveI j:=f1 i.1;haveI l:=f1 j.1;NE C l.1 l.2 (beq_iff_eq.mp j.2) i.2 f.2 (q _ h.2)
theorem Oj(C:Cx Φ c d)(j:∀t,i t=H->Good Φ c d e t):∀t,E5 Φ.a f e i t=H->Good Φ c d (.bd f e) t:=λt h=>i9 h λx h=>l9 (P:=λx=>Good Φ c d _ _) h λo x p h=>haveI h:=f1 h;haveI a:=f1 h.1;haveI b:=f1 a.1;NB C b.1 b.2 a.2<|j _ h.2
theorem Ol(C:Cx Φ c d)(j:∀t,a t=H->Good Φ c d args t):∀t,E6 Φ.a c D a t=H->Good Φ c d (.new D args) t:=λt h=>i9 h λx h=>kl (P:=λx=>Good Φ c d _ _) h λaM i ag aa h=>jY (P:=λaM=>Good Φ c d _<|.d<|.Call aM i _ _) h λx p h=>haveI h:=f1 h;haveI b:=f1 h.1;haveI f:=f1 b.1;jF h.2 λps e k=>NG C f.1 f.2 b.2 e<|j _ k
theorem Om(C:Cx Φ c d)(f:∀t,a t=H->Good Φ c d args t):∀t,E7 c i a t=H->Good Φ c d (.dO i args) t:=λt h=>i9 h λx h=>kl (P:=λx=>Good Φ c d _ _) h λaM b ag aa h=>haveI e:=f1 h;iH (P:=λag=>Good Φ c d _<|.d<|.Call aM b ag _) e.1<|jY (P:=λaM=>Good Φ c d _<|.d (.Call aM b _ _)) e.2 λx p h=>haveI h:=f1 h;NH C h.1<|f _ h.2
theorem On(C:Cx Φ c d)(j:∀t,i t=H->Good Φ c d e t):∀t,E8 Φ.a c e i t=H->Good Φ c d (.len e) t:=λt h=>i9 h λx h=>kl (P:=λx=>Good Φ c d _ _) h λaM a ag aa h=>haveI b:=f1 h;iH (P:=λag=>Good Φ c d _<|.d<|.Call aM a ag _) b.1<|jY (P:=λaM=>Good Φ c d _<|.d (.Call aM a _ _)) b.2 λx p h=>iL (P:=λa=>Good Φ c d _<|.d (.Call _ a _ _)) h λy h=>haveI h:=f1 h;haveI f:=f1 h.1;NI C f.1 f.2<|j _ h.2
theorem Oo(C:Cx Φ c d)(k:∀t,j t=H->Good Φ c d e t):∀t,E9 Φ.a c e D j t=H->Good Φ c d (.cN e D) t:=λt h=>i9 h λx h=>kl (P:=λx=>Good Φ c d _ _) h λaM a ag aa h=>haveI b:=f1 h;iH (P:=λag=>Good Φ c d _<|.d<|.Call aM a ag _) b.1<|jY (P:=λaM=>Good Φ c d _<|.d (.Call aM a _ _)) b.2 λx p h=>tH (P:=λa=>Good Φ c d _<|.d (.Call _ a _ _)) h λy z h=>jY (P:=λz=>Good Φ c d _<|.d (.Call _ [y,z] _ _)) h λz q h=>haveI h:=f1 h;haveI f:=f1 h.1;haveI i:=f1 f.1;NK C i.1 i.2 f.2<|k _ h.2
theorem Oq(C:Cx Φ c d)(k:∀t,j t=H->Good Φ c d e t):∀t,E_ Φ.a c e j t=H->Good Φ c d (.d_ e) t:=λt h=>i9 h λx h=>kl (P:=λx=>Good Φ c d _ _) h λaM a ag aa h=>haveI b:=f1 h;iH (P:=λag=>Good Φ c d _<|.d<|.Call aM a ag _) b.1<|jY (P:=λaM=>Good Φ c d _<|.d (.Call aM a _ _)) b.2 λx p h=>tH (P:=λa=>Good Φ c d _<|.d (.Call _ a _ _)) h λy z h=>jY (P:=λz=>Good Φ c d _<|.d (.Call _ [y,z] _ _)) h λz q h=>haveI h:=f1 h;haveI f:=f1 h.1;haveI i:=f1 f.1;NL C i.1 i.2 f.2<|k _ h.2
theorem Ot(C:Cx Φ c d)(k:∀t,j t=H->Good Φ c d e t):∀t,E' Φ.a c e j t=H->Good Φ c d (.A e) t:=λt h=>i9 h λx h=>kl (P:=λx=>Good Φ c d _ _) h λaM a ag aa h=>haveI b:=f1 h;iH (P:=λag=>Good Φ c d _<|.d<|.Call aM a ag _) b.1<|jY (P:=λaM=>Good Φ c d _<|.d (.Call aM a _ _)) b.2 λx p h=>iL (P:=λa=>Good Φ c d _<|.d (.Call _ a _ _)) h λy h=>haveI h:=f1 h;haveI f:=f1 h.1;haveI i:=f1 f.1;NJ C i.1 i.2 f.2<|k _ h.2
theorem Ou(C:Cx Φ c d){b f}(j:∀t,b t=H->Good Φ c d e t)(k:∀t,f t=H->Good Φ c d i t):∀t,Fa e b f t=H->Good Φ c d (.sub e i) t:=λt h=>i9 h λx h=>vy (P:=λx=>Good Φ c d _ _) h λv s p h=>haveI h:=f1 h;haveI a:=f1 h.1;NM C a.1 (j _ a.2)<|k _ h.2
theorem Ov(C:Cx Φ c d){l j k}(o:∀t,l t=H->Good Φ c d e t)(m:∀t,j t=H->Good Φ c d a t)(n:∀t,k t=H->Good Φ c d b t):∀t,Fb e a b l j k t=H->Good Φ c d (.c1 e a b) t:=
 λt h=>i9 h λx h=>vy (P:=λx=>Good Φ c d _ _) h λv s p h=>Lc (P:=λs=>Good Φ c d _<|.d<|.Subscript v s p) h λy w st q h=>haveI h:=f1 h;haveI f:=f1 h.1;haveI i:=f1 f.1;by
  induction st with
  |some=>exists r;cases i.1
  |none=>exact NN C (o _ i.2) (FF m f.2)<|FF n h.2
theorem Ow(C:Cx Φ c d){k l}(m:∀t,k t=H->Good Φ c d e t)(n:∀t,l t=H->Good Φ c d y t):∀t,Fc e k l t=H->Good Φ c d (.aO e y) t:=λt h=>i9 h λx h=>kl (P:=λx=>Good Φ c d _ _) h λaM a ag aa h=>haveI b:=f1 h;iH (P:=λag=>Good Φ c d _<|.d<|.Call aM a ag _) b.1<|l9 (P:=λaM=>Good Φ c d _<|.d (.Call aM a _ _)) b.2 λo x p h=>iL (P:=λa=>Good Φ c d _<|.d (.Call _ a _ _)) h λz h=>by haveI h:=f1 h;haveI f:=f1 h.1;haveI i:=f1 f.1;haveI j:=f1 i.1;cases eq_of_beq j.1;exact NO C j.2 i.2 (m _ f.2)<|n _ h.2
theorem Ox(C:Cx Φ c d){k l}(m:∀t,k t=H->Good Φ c d e t)(n:∀t,l t=H->Good Φ c d y t):∀t,Fd e k l t=H->Good Φ c d (.ext e y) t:=λt h=>i9 h λx h=>kl (P:=λx=>Good Φ c d _ _) h λaM a ag aa h=>haveI b:=f1 h;iH (P:=λag=>Good Φ c d _<|.d<|.Call aM a ag _) b.1<|l9 (P:=λaM=>Good Φ c d _<|.d (.Call aM a _ _)) b.2 λo x p h=>iL (P:=λa=>Good Φ c d _<|.d (.Call _ a _ _)) h λz h=>by haveI h:=f1 h;haveI f:=f1 h.1;haveI i:=f1 f.1;haveI j:=f1 i.1;cases eq_of_beq j.1;exact NP C j.2 i.2 (m _ f.2)<|n _ h.2
theorem Oy(C:Cx Φ c d)(l:∀t,k t=H->Good Φ c d e t):∀t,Fe e k t=H->Good Φ c d (.cn e) t:=λt h=>i9 h λx h=>kl (P:=λx=>Good Φ c d _ _) h λaM a ag aa h=>haveI b:=f1 h;iH (P:=λag=>Good Φ c d _<|.d<|.Call aM a ag _) b.1<|l9 (P:=λaM=>Good Φ c d _<|.d (.Call aM a _ _)) b.2 λo x p h=>haveI h:=f1 h;haveI f:=f1 h.1;haveI i:=f1 f.1;haveI j:=f1 i.1;iH (P:=λa=>Good Φ c d _<|.d (.Call _ a _ _)) j.1 (by cases eq_of_beq j.2;exact NV C i.2 f.2<|l _ h.2)
theorem Oz(C:Cx Φ c d){e}(s:∀t,m t=H->Good Φ c d e t):∀t,Ff e m t=H->Good Φ c d (.d' e) t:=λt h=>i9 h λx h=>kl (P:=λx=>Good Φ c d _ _) h λaM a ag aa h=>haveI b:=f1 h;iH (P:=λag=>Good Φ c d _<|.d<|.Call aM a ag _) b.1<|l9 (P:=λaM=>Good Φ c d _<|.d (.Call aM a _ _)) b.2 λo x p h=>iL (P:=λa=>Good Φ c d _<|.d (.Call _ a _ _)) h λz h=>by haveI h:=f1 h;haveI f:=f1 h.1;haveI i:=f1 f.1;haveI l:=f1 i.1;cases eq_of_beq l.2;exact r1 (P:=λz=>jK [z] _ p _=H->Good Φ c d _ (.d<|.Call _ [z] _ _)) l.1 (λk n q h'=>vz (P:=λk=>jK _ [] p aa=H->Good Φ c d _ (.d<|.Call _ [.Constant k n q] _ _)) h' λj h'=>by cases of_decide_eq_true h';exactλr=>NW C i.2 r<|s _ h.2) f.2
theorem OA(C:Cx Φ c d){m n q}(r:∀t,m t=H->Good Φ c d e t)(s:∀t,n t=H->Good Φ c d i t)(w:∀t,q t=H->Good Φ c d y t):∀t,Fg e m n q t=H->Good Φ c d (.dP e i y) t:=λt h=>i9 h λx h=>kl (P:=λx=>Good Φ c d _ _) h λaM a ag aa h=>haveI b:=f1 h;iH (P:=λag=>Good Φ c d _<|.d<|.Call aM a ag _) b.1<|l9 (P:=λaM=>Good Φ c d _<|.d (.Call aM a _ _)) b.2 λo x p h=>tH (P:=λa=>Good Φ c d _<|.d (.Call _ a _ _)) h λu z h=>by haveI h:=f1 h;haveI f:=f1 h.1;haveI j:=f1 f.1;haveI k:=f1 j.1;haveI l:=f1 k.1;cases eq_of_beq l.1;exact NX C l.2 k.2 (r _ j.2) (s _ f.2)<|w _ h.2
theorem OB(C:Cx Φ c d)(r:∀t,m t=H->Good Φ c d e t):∀t,Fh l e m t=H->Good Φ c d (.join l e) t:=λt h=>i9 h λx h=>kl (P:=λx=>Good Φ c d _ _) h λaM a ag aa h=>haveI b:=f1 h;iH (P:=λag=>Good Φ c d _<|.d<|.Call aM a ag _) b.1<|l9 (P:=λaM=>Good Φ c d _<|.d (.Call aM a _ _)) b.2 λo x p h=>r1 (P:=λo=>Good Φ c d _<|.d (.Call (.Attribute o x p) a _ _)) h λk n q h=>ze (P:=λk=>Good Φ c d _<|.d (.Call (.Attribute (.Constant k n q) x p) a _ _)) h λt h=>iL (P:=λa=>Good Φ c d _<|.d (.Call _ a _ _)) h λz h=>by haveI h:=f1 h;haveI f:=f1 h.1;haveI i:=f1 f.1;haveI j:=f1 i.1;cases eq_of_beq (f1 j.1).2;exact NY C (of_decide_eq_true j.2) (jN i.2) f.2<|r _ h.2
theorem OC(C:Cx Φ c d)(j:∀t,i t=H->Good Φ c d e t):∀t,Fi l e i t=H->Good Φ c d (.ca l e) t:=λt h=>i9 h λx h=>zb (P:=λx=>Good Φ c d _ _) h λf o r p h=>haveI a:=f1 h;r1 (P:=λf=>Good Φ c d _<|.d<|.BinOp f o r p) a.2 λk n q h=>ze (P:=λk=>Good Φ c d _<|.d<|.BinOp (.Constant k n q) o r p) h λt h=>haveI b:=f1 h;by induction o<;>first|exact absurd a.1 (by decide)|exact NZ C (of_decide_eq_true b.1)<|j _ b.2
theorem jU(C:Cx Φ c d)(i):∀t,jS Φ.a c i t=H->Good Φ c d i t:=by induction i with|j _=>exact N1 C|cZ _=>exact N2 C|aV _=>exact N3 C|c0 _ _ f=>exact N4 C f|a1 _ _ _ b e=>exact N5 C b e|Q _ _ _ b e=>exact N6 C b e|dQ _ _ b e=>exact N7 C b e|b5 _ _ _ _ _ b e a=>exact N8 C b e a|and _ _ b e=>exact N9 C b e|or _ _ b e=>exact N_ C b e|not _ b=>exact N' C b|bI _ _ _ l b e=>exact Oa C l b e|nil=>exact Ob C|cons _ _ b k=>exact Oc C b k|au _ b=>exact Od C b|m _ b=>exact Oe C b|dict _=>exact Of C|call _ _ f=>exact Og C f|bV _ _ _ a f=>exact Oh C a f|d9 _ _ a=>exact Oi C a|bd _ _ a=>exact Oj C a|new _ _ f=>exact Ol C f|dO _ _ f=>exact Om C f|len _ a=>exact On C a|cN _ _ a=>exact Oo C a|d_ _ a=>exact Oq C a|A _ a=>exact Ot C a|sub _ _ a j=>exact Ou C a j|c1 _ _ _ a b e=>exact Ov C a b e|aO _ _ a h=>exact Ow C a h|ext _ _ a h=>exact Ox C a h|cn _ a=>exact Oy C a|d' _ a=>exact Oz C a|dP _ _ _ a j h=>exact OA C a j h|join _ _ a=>exact OB C a|ca _ _ a=>exact OC C a|av=>exactλt=>iR|c2=>exactλt=>iR|dR=>exactλt=>iR|di=>exactλt=>iR|dS=>exactλt=>iR
end
end
section
open PySem PySem.W PySem.Calls PyProof.Rows
theorem Inv.fd{st}(I:Inv G μ st h)(m:h_ μ a):∃o,h.get? a=U o:=by
 refine vf λJ i=>kf λb=>?_;rcases m with⟨x,e⟩|⟨m,e⟩|⟨C,d,e⟩
 .refine b ?_;induction q:st.L with
  |none=>rw[I.cA q]at e;cases e
  |some p=>refine kf λb=>jr (I.cU p.1 p.2 (by rw[q])) λQ z y n f r D N=>?_;rw[e]at f;cases f;exact b<|i _ D
 .refine b ?_;induction q:st.cell m with
  |none=>rw[I.cg m q]at e;cases e
  |some c=>refine kf λb=>g6 (I.cp m c q) λL w hc=>?_;rw[e]at w;cases w;refine b ?_;induction c with|m l=>exact kf λb=>jv hc λt n f j=>b<|i _ f|bQ l=>exact kf λb=>g6 hc λt f j=>kA f λo y B r j=>b<|i _ r|bD l=>exact kf λb=>g6 hc λt f j=>kA f λo y B r j=>b<|i _ r|dc o l=>exact i _ hc.1|dq o l=>exact i _ hc.1
 .exact jv (I.cO _ _ _ e) λo t f j=>b<|i o f
theorem Inv.eV{st}(I:Inv G μ st h)(z:G.b1<=h'.objs.size)(b:∀a o,h.get? a=U o->h'.get? a=U o):Inv G μ st h':=⟨λa o e=>b a o<|I.aU a o e,I.cu,λp hp=>⟨b _ _ (I.t p hp).1,(I.t p hp).2⟩,λB i e=>(jr (I.cU B i e) λx j l n f q t w=>l5 x j l n f q (b _ _ t) w),I.cA,λm c e=>(g6 (I.cp m c e) λa y hc=>h9 a y<|hc.dj λo e=>b a o e),I.cg,λa D d e=>(jv (I.cO a D d e) λo i f r=>ki o i (b _ _ f) r),λa e=>(hz (I.fd e) λo f=>⟨(I.bu a e).1,ih<|b _ _ f⟩),I.inj,I.bf,I.c7,I.cv,I.bR,I.c8,z⟩
theorem Dy.eV(j:Φ.y){st}(D:Dy Φ μ ρ st s)(f:∀a o,s.heap.get? a=U o->h'.get? a=U o):Dy Φ μ ρ st {s with heap:=h',toks:=t}:=by refine g6 D.ns λm h i=>?_;haveI b:=h.keeps f;exact⟨D.ext,D.N.eV (f2 j.bn<|f2 j.b2<|jM b.lt) f,λa o e q=>f a o<|D.bv a o e q,⟨m,b,i⟩,D.bo,D.bw,D.a',D.bg,D.bX,D.bY,D.b3⟩
noncomputable def ha(Φ:Fm)(d:Nat)(a:DS)(l:List h4):Prop:=∀μ ρ st s k,Dy Φ μ ρ st s->WS Φ.a.T (iN Φ.a d) a ρ st k->g0 Φ.q Φ.C (n5 l Φ.r) (PS Φ k) (mw Φ k.z) s
section
variable{M:nD}{A:ix}{E:gZ->hb->Prop}{s:hb}{ac:jL}
theorem OD(h:g0 M A (n5 [x] ac) Q E s):g0 M A (exec x ac) Q E s:=λe p a=>by haveI h:=h e p a;rw[Sem.wp_bind']at h;refine Sem.wp_mono M e _ (λf i s' h'=>?_) (λb b b h'=>h') _ _ h;induction f<;>exact h'
theorem jV(h:g0 M A (exec x ac) Q E s):g0 M A (n5 [x] ac) Q E s:=by refine x0<|g5 h (λf s' q=>?_) λa a q=>q;induction f with|next=>exact rH q|_=>exact q
end
section
variable{Φ:Fm}{c:Ck}{d:Nat}{A:ix}{μ:Mu}{ρ:Loc}{st:St}{s:hb}{k:KS}
theorem jz(h:PX Φ ρ (X ρ) v s):mw Φ X v s:=⟨ρ,h⟩
theorem FG(a:Φ.y):interactive Φ.r=false:=by unfold interactive;rw[a.kind];rfl
theorem pk(a:Φ.y):(Φ.r.scope.kind== .class||(Φ.r.scope.kind== .module&&Φ.r.locals !=Φ.r.globals))=false:=by rw[a.kind];rfl
theorem z7(p:Φ.y)(D:Dy Φ μ ρ st s)(e:Φ.slots[i]?=U x)(r:RelV Φ.a μ v a)(h:∀s',Dy Φ μ (ρ.set i<|U a) st s'->Q () s'):g0 Φ.q A (storeName Φ.r x v) Q E s:=by refine g6 D.ns λo f n=>JJ (p.slot i x e) (p.j▸f) (λh' j l=>h _<|D.gn p e r (λm b=>?_) (p.j▸l))<|pk p;clear zz3 (b.eq_nsMap.trans f.eq_nsMap.symm);exact p.j▸j
noncomputable def lR(a:List g2):List Nat->List g_->Bool|[],b=>l0 b|i::e,b=>lc (λy r=>jQ (λx=>a[i]?==U x) y&&lR a e r) b
theorem t7{P:List _->Prop}(h:lR a (i::b) f=H)(k:∀x p r,a[i]?=U x->lR a b r=H->P (.Name x p::r)):P f:=kX h λy r h=>haveI h:=f1 h;jY (P:=λy=>P (y::r)) h.1 λx p e=>k x p r (beq_iff_eq.mp e) h.2
theorem FH(h:lR b e a=H):rE a x ac=pure none:=by induction e with|nil=>exact iH (P:=λa=>rE a x _=pure _) h O|cons i e=>exact t7 (P:=λa=>rE a x _=pure _) h λx p r f f=>by induction r<;>rfl
theorem OE{b:List g2}{ac}{e:List _}{a:List _}(h:lR b e a=H):(mn a ac).length=e.length/\(mn a ac).findIdx? (·.1)=none:=by induction e generalizing a with|nil=>exact iH (P:=λa=>(mn a _).length=0/\(mn a _).findIdx? _=V) h ⟨rfl,rfl⟩|cons i e f=>exact t7 (P:=λa=>(mn a _).length=e.length+1/\(mn a _).findIdx? _=V) h λx p r j h=>⟨congrArg (· +1) (f h).1,List.findIdx?_cons.trans (by rw[(f h).2];rfl)⟩
theorem OF(e:qV b l ρ=U ak):b.length=l.length:=by
 induction b generalizing l ρ with
 |nil=>induction l with|nil=>rfl|cons=>exact hu e
 |cons i b f=>induction l with|nil=>exact hu e|cons a l=>exact congrArg _<|f e
theorem wb(e:Φ.y)(D:Dy Φ μ ρ st s)(b:Φ.slots[i]?=U x)(r:RelV Φ.a μ v a)(h:∀s',Dy Φ μ (ρ.set i<|U a) st s'->Q () s'):g0 Φ.q A (qB (.Name x aa) Φ.r v) Q E s:=wpAny_assign_Name<|z7 e D b r h
theorem FI(w:Φ.y){v}{a}{Q:Unit->hb->Prop}{E:gZ->hb->Prop}(l:List _)(b:List _)(ρ)(s)(f:lR Φ.slots l b=H)(D:Dy Φ μ ρ st s)(r:RelV Φ.a μ v a)(h:∀s',Dy Φ μ (qU a l ρ) st s'->Q () s'):g0 Φ.q A (u7 v<|(mn b Φ.r).map (·.2)) Q E s:=by induction l generalizing b ρ s with|nil=>exact iH (P:=λb=>g0 _ A (u7 v<|(mn b _).map _) Q E s) f<|ib<|h s D|cons i l n=>refine t7 (P:=λb=>g0 _ A (u7 v<|(mn b _).map _) Q E s) f λx p b e f=>?_;induction l with|nil=>exact iH (P:=λb=>g0 _ A (u7 v<|(mn _ _).map _) Q E s) f<|wb w D e r h|cons j l=>exact t7 (P:=λb=>lR _ _ b=H->g0 _ A (u7 v<|(mn _ _).map _) Q E s) f (λy q t o o f=>hk<|nc<|wb w D e r λs' m=>n _ _ s' f m h) f
set_option tactic.hygienic true in
theorem OG(w:Φ.y){Q:Unit->hb->Prop}{E:gZ->hb->Prop}(l:List _)(b:List _)(f:List _)(as:List AV)(ρ ak)(s)(j:lR Φ.slots l b=H)(D:Dy Φ μ ρ st s)(r:hZ Φ.a μ f as)(e:qV l as ρ=U ak)(h:∀s',Dy Φ μ ak st s'->Q () s'):g0 Φ.q A (B8 ((mn b Φ.r).map (·.2)) f) Q E s:=by
 induction l generalizing b f as ρ s with
 |nil=>refine iH (P:=λb=>g0 _ A (B8 ((mn b _).map _) f) Q E s) j ?_;cases r with|nil=>exact ib<|h s (ia e▸D)|cons=>exact hu e
 |cons i l o=>cases r with|nil=>exact hu e|cons q t=>rename_i v a f as;exact t7 (P:=λb=>g0 _ A (B8 ((mn b _).map _) (v::f)) Q E s) j λx p b n j=>hk<|nc<|wb w D n q λs' m=>o b _ _ _ s' j m t e
theorem FJ(z:Φ.y)(D:Dy Φ μ ρ st s)(q:A.handled=V)(b:lR Φ.slots f j=H)(r:RelV Φ.a μ v<|.au l)(e:qV f l ρ=U ak)(h:∀s',Dy Φ μ ak st s'->Q () s'):g0 Φ.q A (qB (.Tuple j kk aa) Φ.r v) Q E s:=by refine lh r.R λw y x m t i hl=>?_;rw[m];.haveI n:=OE (ac:=Φ.r) b;exact assign_Tuple_tuple q (vE D t) (by rw[n.1,Jm,i.len,OF e]) n.2 λh' p=>OG z f j _ l ρ _ _ b (D.eV z λa o e=>p a o (iw<|ih e) e) i e h
end
end
section
open PySem PySem.W PySem.Calls PyProof.Rows
section
variable{ai:m8}{w:iI}{A:ix}{E:gZ->hb->Prop}{R:Result->hb->Prop}{s:hb}
theorem OH{k}{h6 j:List h4}{ac}
 (h:g0 (ii ai w) A (isTrue k ac<|eval k ac) (λb l=>
  if b then g0 (ii ai w) A (n5 h6 ac) (λf a=>match f with
   | .next| .cont=>la (ii ai w) A (.whileLoop k h6 j ac) R a
   | .brk=>R (.ok .next) a
   | .ret v=>R (.ok<|.ret v) a) (n7 (ii ai w) A ac λe s'=>R (.error e) s') l
  else g0 (ii ai w) A (n5 j ac) (λf a=>R (.ok f) a) (n7 (ii ai w) A ac λe s'=>R (.error e) s') l)
  (n7 (ii ai w) A ac λe s'=>R (.error e) s') s):la (ii ai w) A (.whileLoop k h6 j ac) R s:=by
 refine B9 ?_
 show g0 _ A _ _ _ s
 refine wpAny_noted<|hk<|g5 h (λb l m=>?_) λn n h'=>h'
 induction b with
 |false=>
  exact hk<|g5 m (λf a i=>ib i) λn n h'=>h'
 |true=>
  refine hk<|g5 m (λf a i=>?_) λn n h'=>h'
  induction f with
  |next=>exact ib ⟨rfl,i⟩
  |cont=>exact ib ⟨rfl,i⟩
  |brk=>exact ib i
  |ret v=>exact ib i
theorem FK{a}{o}{h6:List h4}{ac}(h:g0 (ii ai w) A (pyNext o) (λr b=>match r with|none=>R (.ok .next) b|some v=>g0 (ii ai w) A (yd a o v) (λl b=>g0 (ii ai w) A (qB a ac v) (λl m=>g0 (ii ai w) A (n5 h6 ac) (λf k=>match f with| .next| .cont=>la (ii ai w) A (.forLoop a o h6 [] ac) R k| .brk=>R (.ok .next) k| .ret v=>R (.ok<|.ret v) k) (n7 (ii ai w) A ac λe s'=>R (.error e) s') m) (n7 (ii ai w) A ac λe s'=>R (.error e) s') b) (n7 (ii ai w) A ac λe s'=>R (.error e) s') b) (n7 (ii ai w) A ac λe s'=>R (.error e) s') s):la (ii ai w) A (.forLoop a o h6 [] ac) R s:=by refine B9<|wpAny_noted<|hk<|oH<|hk (wpAny_onRaise (g5 h (λr b i=>?_) λl l h'=>oH h'));induction r with|none=>exact ib ⟨rfl,codeAny_block<|rH i⟩|some v=>refine hk<|g5 i (λl b i=>?_) λl l h'=>h';refine hk<|g5 i (λl m n=>hk<|g5 n (λf k j=>?_) λl l h'=>h') λl l h'=>h';induction f with|next=>exact ib ⟨rfl,j⟩|cont=>exact ib ⟨rfl,j⟩|brk=>exact ib j|ret v=>exact ib j
end
section
variable{Φ:Fm}{c:Ck}{d:Nat}
theorem z8(f:Φ.y)(b:PX Φ ρ (X ρ) v s):n7 Φ.q Φ.C Φ.r (λe s'=>xL Φ.q Φ.C Φ.r (mw Φ X) e s') v s:=g5 (Mg f f.dr b) (λa a q=>g5 q (λa a q=>⟨ρ,q⟩) λa a q=>⟨ρ,q⟩) λa a q=>g5 q (λa a q=>⟨ρ,q⟩) λa a q=>⟨ρ,q⟩
theorem OI:ha Φ d .dG []:=λμ ρ st s k D w=>rH ⟨μ,ρ,st,w,D⟩
theorem OJ:ha Φ d .dG [.Pass aa]:=λμ ρ st s k D w=>jV<|wpAny_Pass ⟨μ,ρ,st,w,D⟩
theorem OK(h:ha Φ d a [x])(i:ha Φ d b r):ha Φ d (.seq a b) (x::r):=by refineλμ ρ st s k D w=>x0<|g5 (OD<|h μ ρ st s _ D w) (λf s' q=>?_) λj j q=>q;induction f with|next=>exact kA q λaf ak ae k' e=>i _ _ _ s' k e k'|ret v=>exact q|brk=>exact q|cont=>exact q.elim
theorem OL(C:Cx Φ c d)(hc:lP x=H)(f:Good Φ c d e<|.d x):ha Φ d (.as e) [.Expr x aa]:=by refineλμ ρ st s k D w=>jV<|wpAny_Expr_any (g5 (f.1 μ ρ st s _ _ D w) (λv b q=>?_) λi i=>jz) (FG C.ok)<|zR hc;obtain⟨j,a,h,k1,l,m,D1⟩:=q;exact qL _ ρ _ k1 D1
theorem OM(C:Cx Φ c d)(hc:lP x=H)(b:lR c.slots f i=H)(l:Good Φ c d e<|.d x):ha Φ d (.bW f e) [.Assign i x aa]:=by intro μ ρ st s k D w;rw[<-C.cX]at b;refine jV<|B3 (g5 (l.1 μ ρ st s _ _ D w) (λv h q=>?_) λo o=>jz) (zS hc)<|FH b;obtain⟨p,a,n,k1,r,m,D1⟩:=q;exact FI C.ok f i ρ _ b D1 m λs' j=>⟨_,_,_,k1,j⟩
theorem ON(C:Cx Φ c d)(m:(!c.bx)=H)(hc:lP x=H)(n:vN x=H)(b:lR c.slots p y=H)(o:Good Φ c d e<|.d x):ha Φ d (.cI p e) [.Assign [.Tuple y kk I] x aa]:=by intro μ ρ st s k D w;rw[<-C.cX]at b;refine jV<|tX hc O (M5 n)<|g5 (o.1 μ ρ st s _ _ D w) (λv f q=>?_) λz z=>jz;obtain⟨B,a,t,k1,G,r,D1⟩:=q;exact K7 k1 λl j k1=>jx k1 λak i k1=>FJ C.ok D1 (C.de (by simpa using m)) b (j▸r) i λs' h=>⟨_,_,_,k1,h⟩
theorem OO(C:Cx Φ c d)(r:nN Φ.a n k=H)(hc:lP y=H)(t:Good Φ c d x<|.d y)(z:Good Φ c d e<|.d o):ha Φ d (.dT e k x) [.Assign [.Attribute o n T] y aa]:=by intro μ ρ st s kk D w;obtain⟨rfl,p⟩:=tY r;refine jV<|tX hc O O<|g5 (t.1 μ ρ st s _ _ D w) (λv h q=>vX ?_) λf f=>jz;obtain⟨M,a,I,k1,Q,B,D1⟩:=q;refine g5 (z.1 _ ρ _ _ _ _ D1 k1) (λu i q=>?_) λf f=>jz;obtain⟨N,b,J,k2,m,G,D2⟩:=q;exact g5 (zQ C.go D2 p G (B.aR m) k2) (λf j q=>by obtain⟨L,k3,l⟩:=q;exact qL _ ρ _ k3 l) λf f q=>q
theorem OP(C:Cx Φ c d)(hc:lP y=H)(B:Good Φ c d x<|.d y)(G:Good Φ c d e<|.d o)(I:Good Φ c d i<|.d j):ha Φ d (.c4 e i x) [.Assign [.Subscript o j tp] y aa]:=by refineλμ ρ st s kk D w=>jV<|wpAny_Assign_Subscript (g5 (B.1 μ ρ st s _ _ D w) (λv k q=>?_) λf f=>jz)<|zR hc;obtain⟨av,a,Q,k1,aP,L,D1⟩:=q;refine g5 (G.1 _ ρ _ _ _ _ D1 k1) (λu l q=>?_) λf f=>jz;obtain⟨aN,b,T,k2,z,M,D2⟩:=q;refine g5 (I.1 _ ρ _ _ _ _ D2 k2) (λt m q=>?_) λf f=>jz;obtain⟨aO,b3,Y,k3,h,N,p⟩:=q;exact g5 (MN C.ok C.go p (M.aR h) N ((L.aR z).aR h) k3) (λf n q=>by obtain⟨au,J,r⟩:=q;exact qL _ ρ _ J r) λf f q=>q
theorem OQ(C:Cx Φ c d)(p:Good Φ c d e<|.d o)(r:Good Φ c d i<|.d j):ha Φ d (.dH e i) [.Delete [.Subscript o j Q] aa]:=by refineλμ ρ st s kk D w=>jV<|wpAny_Delete<|wpAny_deleteEach_cons (wpAny_delete_Subscript (g5 (p.1 μ ρ st s _ _ D w) (λu f q=>?_) λa a=>jz));obtain⟨J,b,B,k2,M,y,D2⟩:=q;refine g5 (r.1 _ ρ _ _ _ _ D2 k2) (λt h q=>?_) λa a=>jz;obtain⟨L,N,G,k3,n,z,l⟩:=q;exact g5 (MO l (y.aR n) z k3) (λa k q=>by obtain⟨I,x,m⟩:=q;exact wpAny_deleteEach_nil ⟨_,ρ,_,x,m⟩) λa a q=>q
theorem FL{μ}{ρ}{st}{s}{Q}(D:Dy Φ μ ρ st s)(q:o=.add\/o=.sub)(z:RelV Φ.a μ v x)(B:RelV Φ.a μ u y)(e:qN o x y=U r)(h:Q r st):g0 Φ.q A (inplaceOp (nv o) v u) (PE Φ ρ μ Q) E s:=by
 refine lh (CO e) λi j k f l b m=>hz (z.cS f) λt p=>hz (B.cS l) λC a=>p▸a▸?_;haveI h':∀k',xC k'=U k->∀t n,PE Φ ρ μ Q (.int k' t) {s with toks:=n}:=λk' e t n=>ia e▸ .mk (m▸h) (.int _ _) (D.toks _);clear e;rcases q with rfl|rfl
 .exact PySem.P.iadd_int<|h' _ b _ _
 .exact PySem.P.isub_int<|h' _ b _ _
noncomputable def t8:Op->Bool| .add| .sub=>H|_=>g
theorem FM(h:t8 o=H):o=.add\/o=.sub:=by induction o<;>first|exact .inl O|exact .inr O|cases h
theorem OR(C:Cx Φ c d){aO aa}(h:(c.slots[i]?==U x)=H)(k:(t8 o&&q8 (nv o) op)=H)(Y:Good Φ c d e<|.d y):ha Φ d (.cJ i o e) [.AugAssign (.Name x aO) op y aa]:=by
 intro μ ρ st s kk D w;rw[iG]at k;haveI:=zX k.2;subst this;refine g6 (zW w) λa I w=>?_
 .have j:Φ.slots[i]?=U x:=by rw[C.cX];exact beq_iff_eq.mp h
  refine kf λf=>g6 D.ns λaS N T=>g6 (T i x a j I) λv L M=>f<|jV<|wpAny_AugAssign_Name<|qq C.ok.kind (C.ok.slot i x j) (C.ok.j▸N) L (g5 (Y.1 μ ρ st s _ _ D w) (λu n q=>?_) λm m=>jz);exists f;obtain⟨aP,b,l,k2,G,au,D2⟩:=q;refine jx k2 λr J k2=>?_;.refine f<|g5 (FL (Q:=λz ae=>z=r/\ae=l) D2 (FM k.1) (M.aR G) au J ⟨rfl,rfl⟩) (λz p q=>?_) λm m q=>q;exists f;obtain⟨aQ,aT,aN,⟨rfl,rfl⟩,aR,av,B⟩:=q;exact f<|z7 C.ok B j av λs' t=>⟨_,_,_,k2,t⟩
theorem OS(C:Cx Φ c d){k}(aN:nN Φ.a n k=H)(i:(t8 o&&q8 (nv o) op)=H)(i1:Good Φ c d e<|.d q)(aO:Good Φ c d x<|.d y):ha Φ d (.cz e k o x) [.AugAssign (.Attribute q n tp) op y aa]:=by intro μ ρ st s kk D w;rw[iG]at i;haveI:=zX i.2;subst this;obtain⟨rfl,m⟩:=tY aN;refine jV<|wpAny_AugAssign_AttributeAny<|g5 (i1.1 μ ρ st s _ _ D w) (λv B z=>?_) λf f=>jz;obtain⟨aW,a,aS,k1,a0,p,D1⟩:=z;refine g5 (Ee C.go D1 m p k1) (λu G z=>?_) λf f z=>z;exists h;obtain⟨aX,b,aT,k2,au,aP,D2⟩:=z;refine h<|g5 (aO.1 _ ρ _ _ _ _ D2 k2) (λt I z=>?_) λf f=>jz;exists h;obtain⟨aY,b3,j,k3,l,aQ,N⟩:=z;refine jx k3 λr er k3=>?_;.refine h<|g5 (FL (Q:=λz ae=>z=r/\ae=j) N (FM i.1) (aP.aR l) aQ er ⟨rfl,rfl⟩) (λz J M=>?_) λf f z=>z;exists h;obtain⟨aZ,M,aU,⟨rfl,rfl⟩,av,aR,T⟩:=M;exact h<|g5 (zQ C.go T m (((p.aR au).aR l).aR av) aR k3) (λf L z=>by obtain⟨aV,k5,Y⟩:=z;exact qL _ ρ _ k5 Y) λf f z=>z
theorem OT(C:Cx Φ c d)(n:Good Φ c d t<|.d x)(o:ha Φ d a l)(p:ha Φ d b r):ha Φ d (.ite t a b) [.If x l r aa]:=by
 refineλμ ρ st s k D w=>jV<|wpAny_If<|g5 (n.2 μ ρ st s _ _ D w) (λr m q=>?_) λj j=>jz;refine kf λi=>jk q λz y h B D1=>g6 h λj j k1=>?_;rcases nO k1 with⟨e,k'⟩|⟨f,k'⟩;clear zz3 e i;rotate_left 1;clear zz3 f i;rotate_right 1
 .exact i<|o _ ρ _ _ k D1 k'
 .exact i<|p _ ρ _ _ k D1 k'
theorem OU(C:Cx Φ c d){e}{aa}(f:Good Φ c d e<|.d x):ha Φ d (.ret e) [.Return (U x) aa]:=by refineλμ ρ st s k D w=>jV<|wpAny_Return_some<|g5 (f.1 μ ρ st s _ _ D w) (λv b q=>?_) λj j=>jz;obtain⟨l,a,i,k1,m,h,D1⟩:=q;exact⟨_,ρ,a,_,k1,h,D1⟩
theorem OV:ha Φ d (.ret<|.aV .none) [.Return V aa]:=λμ ρ st s k D w=>jV<|wpAny_Return_none ⟨μ,ρ,_,st,w,.none,D⟩
theorem OW:ha Φ d .brk [.Break aa]:=λμ ρ st s k D w=>jV<|wpAny_Break ⟨μ,ρ,st,w,D⟩
theorem OX(C:Cx Φ c d)(j:Good Φ c d e<|.d x):ha Φ d (.eb e) [.Assert x m aa]:=by
 refineλμ ρ st s k D w=>jV<|wpAny_Assert_holds<|g5 (j.2 μ ρ st s _ _ D w) (λr i q=>?_) λf f=>jz;refine kf λh=>jk q λn l b o D1=>g6 b λf f k1=>?_;rcases nO k1 with⟨a,k'⟩|⟨_,k'⟩;clear zz3 a h
 .exact h ⟨rfl,_,ρ,_,k',D1⟩
 .exact k'.elim
set_option tactic.hygienic true in
theorem OY(C:Cx Φ c d)(I:Good Φ c d t<|.d x)(J:ha Φ d b l):ha Φ d (.bm t b) [.While x l [] aa]:=by
 refineλμ ρ st s k D w=>jV<|wpAny_While ?_;haveI o:∀ρ st,jb _ _ k ρ st->∀μ s,Dy Φ μ ρ st s->la Φ.q _ (.whileLoop x l _ _) (λr s'=>match r with| .ok f=>PS Φ k f s'| .error e=>xL _ _ _ _ e s') s:=by
  intro ρ st L
  induction L with|turn R Y h M=>
   rename_i ρ st;refineλμ s D=>OH<|g5 (I.2 μ ρ st s _ _ D h) (λr B q=>?_) λn n=>z8 C.ok;refine kf λj=>jk q λQ N m T D1=>g6 m λn n k1=>?_;rcases nO k1 with⟨a,k'⟩|⟨i,k'⟩;clear zz3 a j;rotate_left 1;clear zz3 i j;rotate_right 1
   .refine j<|g5 (J _ ρ _ _ _ D1 k') (λf G q=>?_) λn n q=>(kf λj=>hz q λak q=>j<|z8 C.ok q);.induction f with|next=>refine kf λj=>kA q λy z p k2 D2=>j ?_;exact M _ _ k2 _ _ D2|cont=>exact q.elim|brk=>exact kf λj=>kA q λy z p k2 D2=>j<|qL _ _ _ k2 D2|ret v=>exact q
   .exact j<|rH ⟨_,ρ,_,k',D1⟩
 exact o ρ st w μ s D
end
end
section
open PySem PySem.W PySem.Calls PyProof.Rows
noncomputable def Fm.at(Φ:Fm)(μ:Mu):Fm:={Φ with b4:=μ}
theorem h1.mut(E:h1 μ af)(m:h_ μ a):h_ af a:=by
 rcases m with⟨x,e⟩|⟨m,e⟩|⟨C,d,e⟩
 .exact .inl ⟨x,E.L _ e⟩
 .exact .inr<|.inl ⟨m,E.cell _ _ e⟩
 .exact .inr<|.inr ⟨C,d,E.bN _ e⟩
section
variable{Φ:Fm}{c:Ck}{d:Nat}{A:ix}{μ af:Mu}{ρ ak:Loc}{st ae:St}{s s':hb}{k:KS}
theorem OZ(r:Φ.y)(D:Dy Φ μ ρ st s):(Φ.at μ).y where
 kind:=r.kind
 j:=r.j
 slot:=r.slot
 nodup:=r.nodup
 b2:=r.b2
 bn:=r.bn
 b7:=r.b7
 cc:=r.cc
 dr:=r.dr
 cK:=r.cK
 c9:=λac n=>by exists l;obtain⟨k,L,o,e,a,f,h,i,j⟩:=r.c9 _ n;haveI b:=ih a;exact l ⟨k,L,o,e,a,f,h,λm=>(D.a' L m).elim i λq=>absurd b<|jE.mpr q,λp hp q=>(D.bg p hp).elim (λz=>j p z q) λz=>absurd b<|jE.mpr (q▸z)⟩
theorem Cx.at(C:Cx Φ c d)(D:Dy Φ μ ρ st s):Cx (Φ.at μ) c d:=⟨C.go,OZ C.ok D,C.cX,C.dx,C.room,C.fU,C.cx,C.bp,C.ch,C.el,C.cs,C.de,C.ca⟩
theorem Dy.gw(D:Dy Φ μ ρ st s):Dy (Φ.at μ) μ ρ st s:=⟨h1.refl μ,D.N,λa o e n=>D.bv a o e λm=>n<|D.ext.mut m,D.ns,D.bo,D.bw,λa=>.inl,λp=>.inl,D.bX,D.bY,D.b3⟩
theorem Dy.fe(D:Dy Φ μ ρ st s)(b:Dy (Φ.at μ) af ak ae s'):Dy Φ af ak ae s':=⟨D.ext.trans b.ext,b.N,λa o e n=>b.bv a o e λm=>(D.a' a m).elim n λq=>jE.mpr q<|ih e,b.ns,b.bo,b.bw,λa m=>(b.a' a m).elim (D.a' a) .inr,λp hp=>(b.bg p hp).elim (D.bg p) .inr,b.bX,b.bY,b.b3⟩
theorem O0(D:Dy Φ μ ρ st s)(x:PX (Φ.at μ) ak X v s'):PX Φ ak X v s':=by exists b;obtain⟨e,af,ae,x,rfl,P,f,j,h,i⟩:=x;refine b ⟨e,_,ae,x,rfl,⟨P.c_,D.ext.trans P.ext,P.N,P.cw,P.new,P.eG,λa o e n=>P.bv a o e λm=>(D.a' a m).elim n λq=>jE.mpr q<|ih e,λa m=>(P.a' a m).elim (D.a' a) .inr,λp hp=>(P.bg p hp).elim (D.bg p) .inr⟩,f,j,h,?_⟩;exact i
noncomputable def O1(Φ:Fm)(μ:Mu)(k:KS)(f:Flow)(s:hb):Prop:=match f with| .next=>∃af ρ st,k.n ρ st/\h1 μ af/\Dy Φ af ρ st s| .ret v=>∃af ρ a st,k.aS a st/\RelV Φ.a af v a/\Dy Φ af ρ st s| .brk=>∃af ρ st,k.b ρ st/\h1 μ af/\Dy Φ af ρ st s| .cont=>False
noncomputable def pW(Φ a:Fm):Prop:=a.a=Φ.a/\a.bk=Φ.bk/\a.r=Φ.r/\a.slots=Φ.slots/\a.C=Φ.C
theorem O2(C:Cx Φ c d)(i:∀h,Cx h c d->pW Φ h->ha h d b l)(D:Dy Φ μ ρ st s)(w:WS Φ.a.T (iN Φ.a d) b ρ st k):g0 Φ.q Φ.C (n5 l Φ.r) (O1 Φ μ k) (mw Φ k.z) s:=by refine g5 (i _ (C.at D) ⟨rfl,rfl,rfl,rfl,rfl⟩ μ ρ st s k D.gw w) (λf s' q=>?_) λv s' q=>(hz q λak q=>⟨ak,O0 D q⟩);.induction f with|next=>exact kA q λaf ak ae k' e=>yB af _ _ k' e.ext<|D.fe e|ret v=>exact jO q λaf ak m=>jk m λa ae k' j e=>⟨_,ak,a,_,k',j,D.fe e⟩|brk=>exact kA q λaf ak ae k' e=>yB af _ _ k' e.ext<|D.fe e|cont=>exact q.elim
end
section
variable{Φ:Fm}{μ:Mu}{ρ:Loc}{st:St}{s:hb}
noncomputable def Mu.swap(μ:Mu)(J:List Nat)(js:List (Nat×iT)):Mu:={μ with t:=js++μ.t.filter λp=>!J.contains p.1}
theorem z9(h:p∈(μ.swap J js).t):p∈js\/(p∈μ.t/\p.1∉J):=by
 rcases lg.mp h with h|h
 .exact .inl h
 .exact hn (B_.mp h) λa b=>.inr ⟨a,by simpa using b⟩
theorem FN(h:p∈μ.t)(n:p.1∉J):p∈(μ.swap J js).t:=B' _<|B_.mpr ⟨h,by simpa using n⟩
theorem Dy.swap(aP:Φ.y)(D:Dy Φ μ ρ st s)(T:∀b∈J,∃o,(b,o)∈μ.t/\mT o)(N:∀b∈J,∀p∈Φ.b4.t,p.1≠b)(z:∀(a:Nat) o,a∉J->s.heap.get? a=U o->h'.get? a=U o) (j:∀p∈js,h'.get? p.1=U p.2/\(p.1∈J\/s.heap.objs.size<=p.1)):oP μ (μ.swap J js)/\Dy Φ (μ.swap J js) ρ st {s with heap:=h',toks:=t}:=by
 have I:=D.N;refine g6 D.ns λaO aN hr=>?_;have l:∀b∈J,Φ.a.b1<=b/\¬h_ μ b/\Φ.bB.objs.size<=b/\b≠Φ.a2:=λb Q=>g6 (T b Q) λo f E=>⟨((I.t _ f).2.1),((I.t _ f).2.2),((D.bg _ f).elim (λq=>absurd O<|N b Q _ q) id),D.bw _ f⟩;have mk:=λa o m=>z a o λq=>(l a q).2.1 m;haveI fk:∀p∈μ.t,¬mT _->p.1∉J:=λp hp L q=>by refine g6 (T _ q) λo f w=>?_;haveI G:=(I.t _ f).1;have e3:U o=U _:=G.symm.trans ((I.t _ hp).1);cases e3;exact L w
 have y:oP μ<|μ.swap J js:=⟨λE h=>h,λE E h=>h,λp hp L=>FN hp<|fk p hp L,λE h=>h⟩;haveI B:=aN.at' λo=>z _ o λq=>(l _ q).2.2.2 O;refine⟨y,⟨⟨D.ext.L,D.ext.cell,λp hp=>FN (D.ext.t p hp) λq=>N _ q p hp O,D.ext.bN⟩,?_,λa o e n=>z a o (λq=>absurd (ih e)<|jE.mpr (l a q).2.2.1)<|D.bv a o e n,⟨aO,B,λi x a G e2=>(g6 (hr i x a G e2) λv f w=>h9 v f<|w.b6 y)⟩,D.bo,λp hp=>?_,D.a',λp hp=>?_,D.bX,D.bY,D.b3⟩⟩
 .refine⟨λa o e=>z a o (λq=>absurd (I.cu a o e)<|jE.mpr (l a q).1)<|I.aU a o e,I.cu,λp hp=>?_,λks M e=>(jr (I.cU ks M e) λx Y es n f w au av=>l5 x Y es n f (y.t _ w DD) (mk _ _ (.inl ⟨x,f⟩) au)<|av.b6 y),I.cA,λm c e=>(g6 (I.cp m c e) λa f w=>h9 a f<|(w.b6 y).dj λo=>mk _ _<|.inr (.inl ⟨m,f⟩)),I.cg,λa C d e=>(jv (I.cO a C d e) λo M f r=>ki o M (mk _ _ (.inr<|.inr ⟨C,d,e⟩) f) r),λa m=>⟨(I.bu a m).1,(hz (I.fd m) λo f=>ih<|mk _ _ m f)⟩,I.inj,I.bf,I.c7,I.cv,I.bR,I.c8,(f2 aP.bn<|f2 aP.b2<|jM B.lt)⟩
  .rcases z9 hp with h|⟨h,n⟩
   .refine⟨(j p h).1,?_⟩;rcases(j p h).2 with q|q
    .exact⟨(l _ q).1,(l _ q).2.1⟩
    .exact⟨f2 I.bn q,λm=>absurd (I.bu _ m).2<|jE.mpr q⟩
   .exact⟨z _ _ n (I.t p h).1,(I.t p h).2⟩
 .rcases z9 hp with h|⟨h,n⟩
  .rcases(j p h).2 with q|q
   .exact(l _ q).2.2.2
   .exact iP<|hD D.cB q
  .exact D.bw p h
 .rcases z9 hp with h|⟨h,n⟩
  .rcases(j p h).2 with q|q
   .exact .inr (l _ q).2.2.1
   .exact .inr<|f2 (D.ds aP) q
  .exact D.bg p h
end
end
section
open PySem PySem.W PySem.Calls PyProof.Rows
noncomputable def pY(a:List g2)(b:List Nat):g_->Bool:=xA (λx f=>l1 (λi=>a[i]?==U x) b) g8 hW hf hf hf hf hf (λe=>lR a b e&&jf 2 b.length) g8 hW hW hf iq iq
section
variable{Φ:Fm}{c:Ck}{d:Nat}{A:ix}{μ af:Mu}{ρ ak:Loc}{st ae:St}{s s':hb}{k:KS}
theorem O3(h:2<=b.length)(e:vr b a ρ=U ak):∃l,a=.au l/\qV b l ρ=U ak:=by cases b with|nil=>exact absurd h (by decide)|cons i b=>cases b with|nil=>exact absurd (show 2<=1 from h) (by decide)|cons j b=>cases a<;>first|exact hu e|exact h9 _ O e
theorem O4(w:Φ.y)(D:Dy Φ μ ρ st s)(n:A.handled=V)(o:pY Φ.slots j b=H)(r:RelV Φ.a μ v a)(e:vr j a ρ=U ak)(h:∀s',Dy Φ μ ak st s'->Q () s'):g0 Φ.q A (qB b Φ.r v) Q E s:=(ll (P:=λt=>g0 _ A (qB t _ v) Q E s) o (λx p f=>iL (P:=λj=>vr j a ρ=U _->g0 _ A _ Q E s) f (λi f e=>wb w D (beq_iff_eq.mp f) r (ia e▸h)) e) g9 g9 g9 he he g9 he (λq kk p f=>haveI f:=f1 f;g6 (O3 (jN f.2) e) λl m e=>FJ w D n f.1 (m▸r) e h) h7 g9 g9 he he he)
noncomputable def z_:List String:=["enumerate","zip","dict_itemiterator","dict_reverseitemiterator","odict_iterator","itertools.zip_longest","itertools.pairwise"]
theorem O5{I:Nat}{o}{n}{Q}{E}{M}(a:s.heap.get? I=U o)(hc:o.cls=.type n)(b:z_.contains n=g)(h:Q () s):g0 M A (yd (.Tuple [] 0 p) (.ref I) v) Q E s:=by
 induction v<;>first|exact ib h|skip
 refine hk<|wpAny_load a ?_;clear a;induction o with|mk c x dd sl=>
 clear zz3 hc;clear hc;induction dd<;>first|exact ib h|skip
 show g0 M A (if(z_.contains n&&_)=H then _ else pure _) Q E s;rw[b];exact ib h
theorem z'{I:Nat}(e:s.heap.get? I=U o)(hc:o.cls=.type n)(b:z_.contains n=g)(h:Q () s):g0 M A (yd a (.ref I) v) Q E s:=by cases a<;>first|exact ib h|exact O5 (p:=default) e hc b h
noncomputable def Step(Φ:Fm)(e:g_)(i:gZ)(f:St->Prop)(P:Mu->List AV->Prop):Prop:=∀l μ ρ st s E,P μ l->f st->Dy Φ μ ρ st s->match l with|[]=>g0 Φ.q Φ.C (pyNext i) (λr b=>r=V/\∃af,Dy Φ af ρ st b) E s|a::j=>g0 Φ.q Φ.C (pyNext i) (λr b=>∃v,r=U v/\g0 Φ.q Φ.C (yd e i v) (λm h=>∃af,P af j/\RelV Φ.a af v a/\Dy Φ af ρ st h) E b) E s
theorem t9(C:Cx Φ c d)(hq:(!c.bx)=H){Q}{h}{T}{b}{h6}{j}{P}{R}(N:pY c.slots Q h=H)(aO:∀I,Cx I c d->pW Φ I->ha I d b h6) (o:∀μ af l,h1 μ af->P μ l->P af l) (m:Step Φ h T j P)(B:∀f s',PS Φ k f s'->R (.ok f) s') (aN:∀v s',mw Φ k.z v s'->n7 Φ.q Φ.C Φ.r (λe s'=>R (.error e) s') v s'):∀l μ ρ st s,P μ l->Dy Φ μ ρ st s->lj (WS Φ.a.T (iN Φ.a d) b) Q j k l ρ st->la Φ.q Φ.C (.forLoop h T h6 [] Φ.r) R s:=by
 rw[<-C.cX]at N;intro l;induction l with
 |nil=>refineλμ ρ st s hP D w=>kf λi=>hn w λG w2=>i<|FK<|g5 (m _ μ ρ st s _ hP G D) (λr p q=>?_) λn n q=>q;exists i;obtain⟨rfl,af,x⟩:=q;exact i<|B _ _ ⟨_,ρ,st,w2,x⟩
 |cons a l il=>refineλμ ρ st s hP D w=>kf λi=>hn w λG w2=>i<|FK<|g5 (m _ μ ρ st s _ hP G D) (λr p q=>?_) λn n q=>q;exists i;obtain⟨v,rfl,q⟩:=q;refine i<|g5 q (λn Y q=>?_) λn n q=>q;refine kf λi=>jj q λaf z aP x=>jx w2 λak e w2=>?_;.refine i<|O4 C.ok x (C.de (by simpa using hq)) N aP e λau av=>g5 (O2 C aO av w2) (λf t q=>?_) λv t=>aN v _;induction f with|next=>exact kf λi=>oM q λJ L E w4 M y=>i<|il _ _ _ _ (o _ _ _ M z) y w4|ret v=>exact B _ _ q|brk=>exact kf λi=>oM q λJ L E w4 M y=>i<|B _ _ ⟨_,_,_,w4,y⟩|cont=>exact q.elim
end
end
section
open PySem PySem.W PySem.Calls PyProof.Rows
section
variable{Φ:Fm}{c:Ck}{d:Nat}{A:ix}{μ af:Mu}{ρ ak:Loc}{st ae:St}{s s':hb}{k:KS}
structure One (Φ:Fm)(μ:Mu)(I:Nat)(o:iT):Prop where
 mem:(I,o)∈μ.t
 eJ:mT o
 dJ:∀p∈Φ.b4.t,p.1≠I
theorem One.aR(E:h1 μ af)(x:One Φ μ I o):One Φ af I o:=⟨E.t _ x.mem,x.eJ,x.dJ⟩
theorem One.get(D:Dy Φ μ ρ st s)(x:One Φ μ I o):s.heap.get? I=U o:=(D.N.t _ x.mem).1
theorem Aa(m:Φ.y)(D:Dy Φ μ ρ st s)(x:One Φ μ I o)(j:mT e)(l:∀a o,a≠I->s.heap.get? a=U o->h'.get? a=U o)(i:h'.get? I=U e):oP μ (μ.swap [I] [(I,e)])/\One Φ (μ.swap [I] [(I,e)]) I e/\Dy Φ (μ.swap [I] [(I,e)]) ρ st {s with heap:=h',toks:=t}:=by
 obtain⟨E,h⟩:=D.swap m (J:=[I]) (js:=[(I,e)]) (λb f=>by rw[iJ.mp f];exact h9 o x.mem x.eJ) (λb f=>by rw[iJ.mp f];exact x.dJ) (λa o n=>l a o λq=>n (q▸iJ.mpr O)) λp hp=>by rw[iJ.mp hp];exact⟨i,.inl<|iJ.mpr O⟩
 exact lI E ⟨sQ _<|.head _,j,x.dJ⟩ h
theorem Ab(h:Φ.y)(D:Dy Φ μ ρ st s)(x:One Φ μ I o)(f:∀a o,a≠I->s.heap.get? a=U o->h'.get? a=U o):Dy Φ (μ.swap [I] []) ρ st {s with heap:=h',toks:=t}:=(D.swap h (λb e=>by rw[iJ.mp e];exact h9 o x.mem x.eJ) (λb e=>by rw[iJ.mp e];exact x.dJ) (λa o n=>f a o λq=>n (q▸iJ.mpr O)) λp hp=>by cases hp).2
theorem wc(e:Φ.y)(D:Dy Φ μ ρ st s)(b:o.isFreed=g)(a:mT o):One Φ (μ.bO s.heap.objs.size o) s.heap.objs.size o/\Dy Φ (μ.bO s.heap.objs.size o) ρ st {s with heap:=s.heap.push o,toks:=t}:=⟨⟨.head _,a,λp hp q=>by haveI:=ih (D.N.t p<|D.ext.t p hp).1;exact jI _ (q▸this)⟩,D.ed e b⟩
theorem Ac{α:Type}{l:List α}{a}{r}(h:a::r=l.drop i):l[i]?=U a/\r=l.drop (i+1):=by
 haveI:l.drop i≠[]:=by rw[<-h];simp
 have b:=by cases oD i _ with|inl q=>exact q|inr q=>exact absurd (xS q) this
 rw[ye b]at h;cases h;exact⟨mo b,rfl⟩
theorem FO{α:Type}{l:List α}(h:[]=l.drop i):l.length<=i:=by haveI:=congrArg Ca h;rw[sS]at this;exact JK this.symm
noncomputable def Ad(Φ:Fm)(m:iV)(a:List AV)(I b:Nat)(μ:Mu)(l:List AV):Prop:=∃i o,One Φ μ I o/\o.cls=.type "list_iterator"/\o.data=.fields #[.ref b,.int (i:Nat) 0]/\l=a.drop i/\μ.cell m=U b
theorem O6(aP:Φ.y)(Y:Φ.C.handled=V){I q:Nat}(aO:m≠ .L):Step Φ p (.ref I) (λst=>st.cell m=U (.m h))<|Ad Φ m h I q:=by refineλl μ ρ st s E hP au D=>kf λb=>mq hP λi o w N Q aN=>hn aN λC G=>?_;clear hP;obtain⟨a',j,vs,n,c1,c2,c3⟩:=D.N.cp m _ au;rw[G]at j;cases j;have e:s.heap.IsListIter I q i:=⟨o,w.get D,N,Q⟩;have hl:s.heap.IsList q vs:=⟨_,c1,rfl,n,rfl⟩;refine b ?_;induction l with|nil=>haveI:=FO C;exact wpAny_pyNext_list_end Y e hl (JL<|f2 (jh c2.len) this) λh' T=>⟨rfl,_,Ab aP D w T⟩|cons a l=>refine kf λb=>hn (Ac C) λj L=>g6 (oU c2 j) λv v1 v2=>?_;rw[oG]at v1;refine b<|wpAny_pyNext_list_item e hl v1 λh' f y=>⟨v,rfl,?_⟩;exact kf λb=>jj f λav B r M=>ju (Aa aP D (t:=s.toks) w ⟨_,r,by decide,by decide,by decide⟩ (λa o n=>(y.2 a n).trans) B) λz x J=>b<|z' B r O ⟨_,⟨_,av,x,r,M,L,z.cell _ _ G⟩,v2.b6 z,J⟩
theorem O7:∀μ af l,h1 μ af->Ad Φ m a I e μ l->Ad Φ m a I e af l:=λb b b E h=>mq h λi o f j n r=>hn r λp q=>⟨i,o,f.aR E,j,n,p,E.cell _ _ q⟩
noncomputable def Ae(Φ:Fm)(n:Nat)(I:Nat)(μ:Mu)(l:List AV):Prop:=∃(i:Nat),i<=n/\One Φ μ I {cls:=.type "range_iterator",dict:=V,data:=.fields #[lE i,lE ((n:Int) - i),lE 1],slots:=#[]}/\l=tw i (n - i)
theorem O8(M:Φ.y)(C:Φ.C.handled=V){n I:Nat}:Step Φ j (.ref I) (λL=>True)<|Ae Φ n I:=by
 refineλl μ ρ st s E hP J D=>jj hP λi w m e=>?_;clear hP;haveI f:=m.get D;cases l with
 |nil=>
  haveI:n - i=0:=by induction q:n - i with|zero=>rfl|succ k=>rw[q]at e;cases e
  exact wpAny_pyNext_range_end C f (by rw[rU w,this];exact sW _) λh' B=>⟨rfl,_,Ab M D m B⟩
 |cons a l=>
  obtain⟨k,q⟩:∃k,n - i=k+1:=by
   induction q:n - i with
   |zero=>rw[q]at e;cases e
   |succ k=>exact⟨k,rfl⟩
  rw[q]at e;clear zz3 e;refine wpAny_pyNext_range_item f (by rw[rU w,q];exact ni.mpr<|rG k) λh' h r=>⟨_,rfl,?_⟩;haveI y:(i+1)=((i+1:Nat):Int):=rfl;haveI b:=by haveI z:=h;rw[(Int.sub_sub n i 1)]at z;exact z
  refine ju (Aa M D (t:=s.toks+1) m ⟨_,rfl,by decide,by decide,by decide⟩ (λa o n=>(r.2 a n).trans) b) λG p x=>z' b O O ⟨_,⟨i+1,Nat.lt_of_sub_eq_succ q,p,?_⟩,.int _ _,x⟩;rw[show n - (i+1)=k from(Nat.sub_sub n i 1).symm.trans<|congrArg (· - 1) q,y]
theorem O9:∀μ af l,h1 μ af->Ae Φ n I μ l->Ae Φ n I af l:=λa a a E h=>jj h λi b e f=>ve i b (e.aR E) f
noncomputable def Af(Φ:Fm)(a:List AV)(n I b e:Nat)(f:Mu->Prop)(μ:Mu)(l:List AV):Prop:=∃i o,One Φ μ I o/\o.cls=.type "dict_keyiterator"/\o.data=.fields #[.ref b,.int (i:Nat) 0,.int n 0,.int e 0]/\l=a.drop i/\f μ
theorem FP{K}[DecidableEq K]{aG:KeyKind Φ.a.prog Φ.a.w K}(aY:Φ.y)(hh:Φ.C.handled=V){b}{e}{I w y:Nat}{f}{h}{r}(L:∀μ af,oP μ af->r μ->r af)(J:∀μ ρ st s,h st->r μ->Dy Φ μ ρ st s->s.heap.DictAt aG w b y) (hl:e.length=b.length) (aV:∀(i:Nat) a k x v μ,e[i]?=U a->b[i]?=U (k,x)->aG.is k v=H->RelV Φ.a μ v a):Step Φ f (.ref I) h<|Af Φ e b.length I w y r:=by refineλl μ ρ st s E hP aU D=>mq hP λi o B aQ aR aX=>hn aX λY au=>?_;clear hP;have j:s.heap.IsKeyIter I w i _ y:=⟨o,B.get D,aQ,aR⟩;haveI av:=J μ ρ st s aU au D;induction l with|nil=>haveI:=FO Y;exact wpAny_pyNext_dict_end hh j av (xy (hl▸this)) λh' aS=>⟨rfl,_,Ab aY D B aS⟩|cons a l=>refine kf λG=>hn (Ac Y) λN e2=>?_;obtain⟨⟨q,x⟩,Q⟩:∃p,b[i]?=U p:=⟨b[i]'(hl▸(jq.mp N).1),mo _⟩;refine G<|wpAny_pyNext_dict_item j av Q λv h' aT m M=>⟨v,rfl,?_⟩;exact kf λG=>jj m λaW T z aP=>ju (Aa aY D (t:=s.toks) B ⟨_,z,by decide,by decide,by decide⟩ (λa o n=>(M.2 a n).trans) T) λaO C aN=>G<|z' T z O ⟨_,⟨_,aW,C,z,aP,e2,L _ _ aO au⟩,aV i a q x v _ N Q aT,aN⟩
theorem FQ{b}(e:∀μ af,oP μ af->b μ->b af):∀μ af l,h1 μ af->Af Φ a n I j m b μ l->Af Φ a n I j m b af l:=λf f f E h=>mq h λi o p q r x=>hn x λt w=>⟨i,o,p.aR E,q,r,t,e _ _ E.ec w⟩
end
end
section
open PySem PySem.W PySem.Calls PyProof.Rows
section
variable{Φ:Fm}{c:Ck}{d:Nat}{A:ix}{μ af:Mu}{ρ ak:Loc}{st ae:St}{s s':hb}{k:KS}
theorem O_(b:A.handled=V)(a)(x)(t):Draws ai w A a [a] x.cps.size (λi v=>∃c u,x.cps[i]?=U c/\v=.str ⟨#[c]⟩ u) λi h=>h.IsStrIter a (qD x) x t i:=by induction q:x.cps.all _ with|true=>rw[show qD x="str_ascii_iterator" by unfold qD;rw[if_pos q]];exact Draws.strAscii b a x t|false=>rw[show qD x="str_iterator" by unfold qD;rw[if_neg (by rw[q];decide)]];exact Draws.strWide b a x t
theorem FR(x)(h:o.cls=.type (qD x)):mT o:=by refine h9 _ h ?_;unfold qD;split<;>exact⟨by decide,by decide,by decide⟩
noncomputable abbrev Ag(b:Nat)(i:Int)(a:gZ):iT:={cls:=.type "enumerate",dict:=V,data:=.fields #[.none,.bool g,.ref b,lE i,.none,a],slots:=#[]}
theorem FS:mT<|Ag b i a:=⟨_,rfl,by decide,by decide,by decide⟩
noncomputable def Ah(Φ:Fm)(b:List Nat)(t:Tok)(e h:Nat)(μ:Mu)(l:List AV):Prop:=∃(i:Nat) (a:iT) (f:gZ),One Φ μ e (Ag h i f)/\One Φ μ h a/\a.cls=.type (qD (S b))/\a.data=.fields #[.str (S b) t,.int (i:Nat) 0]/\i<=b.length/\l=vn i (b.drop i)
theorem O'(bh:Φ.y)(hh:Φ.C.handled=V){e B:Nat}(N:e≠B):Step Φ (.Tuple aS bf aa) (.ref e) (λbg=>True)<|Ah Φ C t e B:=by
 refineλl μ ρ st s E hP be D=>lh hP λi a' ba Y au a2 bb=>ju bb λaU bd Q=>?_;clear hP;have aP:=Y.get D;have aO:s.heap.IsStrIter B _ _ t i:=⟨_,au.get D,a2,aU⟩;haveI aR:=O_ (ai:=Φ.a.prog) (w:=Φ.a.w) (A:=Φ.C.in1) hh B (S C) t;have sz:(S C).cps.size=C.length:=by show C.toArray.size=_;simp
 have aN:∀b∈[e,B],∃o,(b,o)∈μ.t/\mT o:=λb L=>by
  exists av;rcases ir.mp L with h|L;clear zz3 h av
  .exact av<|h9 _ Y.mem Y.eJ
  .refine av ?_;rw[iJ.mp L];exact h9 _ au.mem au.eJ
 have G:∀b∈[e,B],∀p∈Φ.b4.t,p.1≠b:=λb L=>by
  rcases ir.mp L with j|L;clear zz3 j
  .exact Y.dJ
  .rw[iJ.mp L];exact au.dJ
 cases l with
 |nil=>
  haveI hi:=by induction q:C.drop i with|nil=>haveI:=congrArg Ca q;rw[sS]at this;exact py (by assumption)<|JK this|cons a r=>rw[q]at Q;cases Q
  clear aU;subst hi;exact wpAny_pyNext_enum_endD aR aP (aO) λh' hx=>⟨rfl,_,(D.swap bh (js:=[]) aN G (λa o n=>hx a o λz=>n (z▸ .tail _ (.head _))) λp hp=>by cases hp).2⟩
 |cons a l=>
  obtain⟨ch,r,q⟩:∃ch r,C.drop i=ch::r:=by
   induction q:C.drop i with
   |nil=>rw[q]at Q;cases Q
   |cons ch r=>exact pE ch r O
  rw[q]at Q;clear zz3 Q;refine hn (Ac q.symm) λe1 e2=>?_;haveI lt:=(jq.mp e1).1;refine wpAny_pyNext_enum_itemD aR aP aO (lt) N (λq=>N<|iJ.mp q) λx h' tk hx a7 aQ hT a_ a4=>⟨_,rfl,?_⟩;refine kf λav=>jv hx λaY u c1 I=>?_;clear hx;subst I;haveI T:=by haveI:C.toArray[i]?=U _:=c1;simpa using this
  rw[e1]at T;cases T;refine av<|wpAny_letOwnedTupleGo_enum a7 λaV M f=>?_;replace f:=f;refine jj aQ λaW aZ aT a0=>?_;haveI J:=(f.2 _<|iP<|ih aP).trans hT;obtain⟨bc,aX⟩:=D.swap bh (js:=[(e,Ag B _ _),(B,aW),(s.heap.objs.size,{cls:=.type _,data:=.seq _})]) aN G (λa o n q=>(f.2 a λz=>n (z▸ .head _)).trans<|a4 a o (λz=>n (z▸ .head _)) (λz=>n (z▸ .tail _ (.head _))) q) λp hp=>by
   rcases ir.mp hp with m|hp;clear zz3 m
   .exact⟨M,.inl<|.head _⟩
   .rcases ir.mp hp with y|hp;clear zz3 y
    .exact⟨((f.2 B<|Ne.symm N).trans aZ),.inl<|.tail _ (.head _)⟩
    .rw[iJ.mp hp];exact⟨J,.inr<|hJ _⟩
  refine ve _ ⟨_,aW,_,⟨.head _,FS,Y.dJ⟩,⟨.tail _<|.head _,FR _ aT,au.dJ⟩,aT,a0,lt,?_⟩ ?_ aX;.rw[<-e2,<-(by rfl:(i+1)=((i+1:Nat):Int))]
  .refine .au (.inl<|.tail _<|.tail _ (.head _)) (.cons (.int _ _)<|.cons ?_ .nil) (by show 2<=1000000;decide);exact RelV.str _ u (by show 1<=1000000;decide)
theorem Pa:∀μ af l,h1 μ af->Ah Φ f t e n μ l->Ah Φ f t e n af l:=λb b b E h=>oM h λi o a j m h=>yB i o a (j.aR E) (m.aR E) h
end
end
section
open PySem PySem.W PySem.Calls PyProof.Rows
section
variable{Φ:Fm}{c:Ck}{d:Nat}{A:ix}{μ af:Mu}{ρ ak:Loc}{st ae:St}{s s':hb}{k:KS}
theorem t_(h:lq x=H)(y):BU x ac y=pure y:=(pR x _).2.2.2.2.2.1 h y
theorem FT(C:Cx Φ c d){j}(m:kY Φ.a c j b=H)(hp:jm y=H)(a:∃k,(k=x_\/k=x'\/k=ya)/\∀h,ng Φ.q h (yb b) k) (o:Good Φ c d e<|.d y) (D:Dy Φ μ ρ st s) (w:WE Φ.a.T (iN Φ.a d) e ρ st P X)(h:∀af x ae v s',P x ae->RelV Φ.a af v x->Dy Φ af ρ ae s'->g0 Φ.q Φ.C (kh b [v]) Q (PX Φ ρ X) s'):g0 Φ.q Φ.C (eval (.Call (.Name j B) [y] [] aa) Φ.r) Q (PX Φ ρ X) s:=by exists f;obtain⟨k,n,L⟩:=a;refine f<|Call_ O<|v_ C m D<|n8 (P:=λi=>True) (by rw[pT (by rw[qC,hp];rfl)];rfl) (λh i=>⟨k,n,L h⟩) (oY (by rw[qC,hp];rfl) O (n_ (g5 (o.1 μ ρ st s P X D w) (λv l q=>?_) λi i q=>q) (ny hp)));exists f;obtain⟨t,x,r,k1,z,p,D1⟩:=q;exact f<|n9<|oJ ⟨trivial,h _ x _ v _ k1 p D1⟩
noncomputable def RF(Φ:Fm)(k:KS)(r:Result)(s':hb):Prop:=match r with| .ok f=>PS Φ k f s'| .error e=>xL Φ.q Φ.C Φ.r (mw Φ k.z) e s'
theorem wd(a:Φ.y)(h:mw Φ k.z v s):n7 Φ.q Φ.C Φ.r (λe s'=>RF Φ k (.error e) s') v s:=hz h λρ=>z8 a
theorem Pb(C:Cx Φ c d)(z:(!c.bx)=H){h i}(L:pY c.slots Q h=H)(J:lq i=H)(M:Good Φ c d e<|.d i)(N:∀y,Cx y c d->pW Φ y->ha y d b j):ha Φ d (.cb .m Q e b) [.For h i j [] aa]:=by
 refineλμ ρ st s k D w=>jV<|yf (g5 (M.1 μ ρ st s _ _ D w) (λv p q=>?_) λY Y=>jz)<|t_ J;exists r;obtain⟨au,x,T,k1,av,B,D1⟩:=q;refine qS k1 λm l E hc k1=>?_;rw[E]at B
 ··revert r;refine RelV.e9 B D1.N hc ?_;intro a G I q r
   obtain⟨vs,n,c1,c2,c3⟩:=q
   exact hn (wc C.ok D1 (o:={cls:=.type "list_iterator",data:=.fields #[.ref a,.int 0 0]}) O ⟨_,rfl,by decide,by decide,by decide⟩ (t:=p.toks)) λx1 x2=>r<|wpAny_pyIter_list ⟨_,c1,rfl,n,rfl⟩<|t9 C z L N O7 (O6 C.ok (C.de (by simpa using z)) I) (λf s' q=>q) (λv s'=>wd C.ok) l _ ρ _ _ ⟨0,_,x1,rfl,rfl,rfl,G⟩ x2 k1
theorem Pd(C:Cx Φ c d)(G:(!c.bx)=H){I}(ht:pY c.slots is j=H)(T:kY Φ.a c I (.type "range")=H)(hp:jm y=H)(au:Good Φ c d e<|.d y)(av:∀E,Cx E c d->pW Φ E->ha E d b m):ha Φ d (.cb .d7 is e b) [.For j (.Call (.Name I np) [y] [] cp) m [] aa]:=by
 refineλμ ρ st s k D w=>jV<|yf (g5 (FT C T hp z4 au (Q:=λv i=>g0 _ _ _ (λaQ L=>la _ _ _ (RF Φ k) _) _ _) D w ?_) (λv i q=>q) λaO aO=>jz)<|t_ O;refineλaP x aN v i k1 J D1=>kf λB=>pN k1 λn M k1=>?_;rw[M]at J
 .refine ju k1 λp Y k2=>hz (tK J) λt l=>?_;subst l;haveI N:∀h:je,∀r,(h.push r).objs.size=h.objs.size+1:=λh o=>kI ..;refine B<|call_range_1<|wpAny_pyIter_range (IsRange.new ..) (small_one (by decide) (by decide) (pu (by decide) p)<|xO Y (by decide)) ?_;haveI sz:Builtin.Range.rangeSize 0 n 1=((n.toNat:Nat)) - ((0:Nat)):=by
   rw[rangeSize_one];split;.exact congrArg (· - (0)) (xU p).symm
   .rename_i z;rw[Int.toNat_of_nonpos<|oK.mp z];rfl
  rw[sz];exact kf λB=>hn (wc C.ok (D1.keeps (by rw[N];exact jo _) λa o=>jw _) (o:={cls:=.type "range_iterator",dict:=V,data:=.fields #[lE ((0:Nat)),lE (((n.toNat:Nat)) - ((0:Nat))),lE 1],slots:=#[]}) O ⟨_,rfl,by decide,by decide,by decide⟩ (t:=i.toks+1+1)) λx1 x2=>B<|t9 C G ht av O9 (O8 C.ok<|C.de (by simpa using G)) (λf s' q=>q) (λv s'=>wd C.ok) _ _ ρ _ _ ⟨0,i' _,x1,rfl⟩ x2 k2
theorem Pe(C:Cx Φ c d)(B:(!c.bx)=H){E}(ht:pY c.slots is (.Tuple i aQ tp)=H)(Y:kY Φ.a c E (.type "enumerate")=H)(hp:jm y=H)(av:Good Φ c d e<|.d y)(aN:∀o,Cx o c d->pW Φ o->ha o d b h):ha Φ d (.cb .eC is e b) [.For (.Tuple i aQ tp) (.Call (.Name E np) [y] [] cp) h [] aa]:=by refineλμ ρ st s k D w=>jV<|yf (g5 (FT C Y hp z4 av (Q:=λv a=>g0 _ _ _ (λaT J=>la _ _ _ (RF Φ k) _) _ _) D w ?_) (λv a q=>q) λaR aR=>jz)<|t_ O;refineλaS x aP v a k1 G D1=>kf λj=>tz k1 λl M k1=>?_;rw[M]at G;.refine g6 G.R λt L hl=>?_;clear zz3 L j;.refine j<|call_enumerate_str λh' z m n au=>wpAny_pyIter_enum z<|kf λj=>jj m λaO N r T=>?_;haveI j':∀I,a.heap.objs.size<=I->∀p∈Φ.b4.t,p.1≠I:=λI hI p hp q=>absurd (ih (D1.N.t p<|D1.ext.t p hp).1)<|jE.mpr (q▸hI);exact j<|t9 C B ht aN Pa (O' C.ok (C.de (by simpa using B))<|x9 _) (λf s' q=>q) (λv s'=>wd C.ok) _ _ ρ _ _ ⟨0,aO,_,⟨.head _,FS,j' _<|jo _⟩,⟨.tail _<|.head _,FR _ r,j' _<|hJ _⟩,r,T,i' _,rfl⟩ (D1.fT C.ok (t:=a.toks) (by rw[n];exact kg _) au N z) k1
theorem FU(a:Nat)(h):lD a h h:=⟨rfl,λb b=>rfl⟩
theorem FV{K L}{f}{b:List (K×gZ)}{as:List (L×AV)}(h:jR G μ f b as):as.length=b.length/\∀(i:Nat) a k v,as[i]?=U a->b[i]?=U (k,v)->k=f a.1:=by
 induction h with|nil=>exact⟨rfl,λi a k v h=>hu h⟩|cons r _ l=>exact⟨congrArg _ l.1,λi a k v e j=>by
  induction i with
  |zero=>cases e;cases j;rfl
  |succ i=>exact l.2 i a k v e j⟩
theorem Pf(C:Cx Φ c d)(hq:(!c.bx)=H)(ht:pY c.slots is r=H)(au:lq iter=H)(aW:Good Φ c d e<|.d iter)(aU:∀Ψ,Cx Ψ c d->pW Φ Ψ->ha Ψ d b G):ha Φ d (.cb .d8 is e b) [.For r iter G [] aa]:=by
 refineλμ ρ st s k D w=>jV<|yf (g5 (aW.1 μ ρ st s _ _ D w) (λv J q=>?_) λj j=>jz)<|t_ au;exists h;obtain⟨aQ,x,aP,k1,a0,aO,D1⟩:=q;have hh:=C.de (by simpa using hq);refine KA k1 (λm I ex hc k1=>?_) λaV I ex hc k1=>?_<;>rw[ex]at aO
 ··revert h;refine RelV.e9 aO D1.N hc ?_;intro a L a4 q h
   obtain⟨av,c1,c2,c3⟩:=q
   refine hz (D1.N.fd<|.inr<|.inl ⟨m,L⟩) λo aT=>hz c1.dictAt λep hd=>?_
   have D2:Dy Φ _ ρ (aP.bh m<|.dc o I) J:=D1.dI L (FU _ _) ⟨aT,_,c1,c2,c3⟩
   refine h<|wpAny_pyIter_dict (tU C.go<|D2.eH L) hd<|kf λh=>?_;obtain⟨x1,x2⟩:=wc C.ok D2 (o:={cls:=.type "dict_keyiterator",data:=.fields _}) O ⟨_,rfl,by decide,by decide,by decide⟩
   refine hn (FV c2) λln aN=>h<|t9 C hq ht aU (FQ λμ af E=>E.cell _ _)
    (FP (aG:=Jn _ _) C.ok hh (λμ af E=>E.cell _ _) (λμ ρ st s au Y D=>?_) (by rw[h8];exact ln) λi b q x v af l T M=>?_) (λf s' q=>?_) (λv s' q=>?_) _ _ ρ _ _ ⟨0,_,x1,rfl,rfl,rfl,L⟩ x2<|k1 o
   .exists h;obtain⟨a2,N,Q, -⟩:=D.N.cp m _ au
    rw[Y]at N
    cases N
    refine h<|hd.at' λa7 e=>by
     rw[aT]at e
     exists h;clear zz3 e Q
     exact h Q
   .rw[n6]at l
    exists h;induction z:I[i]? with
    |none=>rw[z]at l;exists h;cases l
    |some p=>
     rw[z]at l
     cases l
     haveI:=aN i p q x z T
     subst this
     refine hz (Jy M) λt y=>?_
     clear zz3 y h
     exact h<|.int _ _
   .exists h;induction f with
    |next=>
     exact kA q λaR aZ aX B aS=>hn B λaY w2=>g6 (aS.N.cp m _ aY) λa3 N Q=>h<|qL aR _ _ w2<|aS.dI N (FU _ _) Q.2
    |ret v=>obtain⟨-,_,_,_,q,_⟩:=q;exact q.elim
    |brk=>exact kA q λj j j q j=>q.elim
    |cont=>exact q.elim
   .exists h;obtain⟨_,_,_,_,_,_,P,_⟩:=q
    exact P.c_.elim
 ··obtain⟨d1,av,ep,c1,c2,c3⟩:=C.go.eU aV I hc
   clear zz3 aO.R.1 h
   .refine h<|wpAny_pyIter_dict (beq_eq_false_iff_ne.mpr d1) (c1 _ D1.N.aU)<|kf λh=>?_;obtain⟨x1,x2⟩:=wc C.ok D1 (o:={cls:=.type "dict_keyiterator",data:=.fields _}) O ⟨_,rfl,by decide,by decide,by decide⟩
    refine hn (FV<|c2 aQ) λln aN=>h<|t9 C hq ht aU (FQ λj j j j=>trivial)
     (FP C.ok hh (λj j j j=>trivial) (λμ ρ st s j j D=>c1 _ D.N.aU) (by rw[h8];exact ln) λi b q x v af l T M=>?_) (λf s' q=>q) (λv s'=>wd C.ok) _ _ ρ _ _ ⟨0,_,x1,rfl,rfl,rfl,trivial⟩ x2 k1
    rw[n6]at l
    exists h;induction z:I[i]? with
    |none=>rw[z]at l;exists h;cases l
    |some p=>
     rw[z]at l
     cases l
     haveI:=aN i p q x z T
     clear zz3 this M
     refine hz (gZ.isStrOf_shape M) λt n=>?_
     clear zz3 n h
     exact h<|.str _ _<|c3 p<|k_ z
end
end
section
open PySem PySem.W PySem.Calls PyProof.Rows
section
variable{Φ:Fm}{c:Ck}{d:Nat}{A:ix}{μ af:Mu}{ρ ak:Loc}{st ae:St}{s s':hb}{k:KS}
noncomputable def Ai(m:iV)(y:g_):Bool:=match m with| .cF=>y9 y|_=>y8 l0 y
theorem Pg{c}(h:vt m=U c):m≠ .L/\∀n,m≠ .j n:=by
 refine⟨λq=>?_,λn q=>?_⟩;.clear zz3 q h;exact hu h
 .clear zz3 q h;exact hu h
theorem Ph{c}{y}(h:vt m=U c)(a:Ai m y=H):(c=.bQ []/\∃p,y=.Dict [] [] p)\/(c=.m []/\∃p,y=.List [] p):=by induction m<;>first|exact hu h|exact .inr ⟨(ia h).symm,(λh=>Dx (P:=λy=>∃p,y=.List _ p) h λl p h=>iH (P:=λl=>∃q,g_.List l p=.List [] q) h ⟨p,rfl⟩) a⟩|exact .inl ⟨(ia h).symm,Dz (P:=λy=>∃p,y=.Dict _ _ p) a λp=>⟨p,rfl⟩⟩
theorem Pj(w:Φ.y)(D:Dy Φ μ ρ st s)(j:st.cell m=V)(hc:vt m=U b)(r:(b=.bQ []/\∃p,y=.Dict [] [] p)\/(b=.m []/\∃p,y=.List [] p))(h:∀a s',RelV Φ.a (μ.bA m a) (.ref a) (.mut m)->h1 μ (μ.bA m a)->Dy Φ (μ.bA m a) ρ (st.bh m b) s'->Q (.ref a) s'):g0 Φ.q Φ.C (eval y Φ.r) Q E s:=by
 haveI hp:=Pg hc;haveI i:∀o,km _ _ _ _ b->∀t,Q _ {s with heap:=s.heap.push o,toks:=t}:=λo hc t=>h _ _ (.mut (oQ _ _ _) hp.1) (h1.bA (a:=s.heap.objs.size)<|D.N.cg _ j)<|D.gm w j hp.1 hc (vg ..) (ts hp.1) λn l=>⟨(CL st m b).symm▸l,λq=>hp.2 n q.symm⟩;clear hc h;rcases r with⟨e,p,f⟩|⟨e,p,f⟩
 .subst e f;exact wpAny_Dict_empty<|i _ ⟨[],BY _,.nil,i' _⟩ _
 .subst e f;exact wpAny_List<|oJ ⟨by decide,i _ ⟨#[],0,m_ _ O,.nil,i' _⟩ _⟩
theorem Pk(C:Cx Φ c d){i k}(T:(c.slots[i]?==U x&&x !=("__debug__":g2))=H)(au:nN Φ.a n k=H)(av:Ai m y=H):ha Φ d (.co (.j i) k m) [.Assign [.Attribute (.Name x aR) n tp] y aa]:=by
 refineλμ ρ st s kk D w=>hn (tY au) λN Y=>hn (f1 T) λt z=>?_;subst N;refine kf λr=>g6 (zW (F:=λa=>Dc a k m ρ st _) w) λa e w=>vo w λks vs M j w=>C7 w λf w=>jx w λmc h w0=>?_;subst M;haveI l:=Ph h av;haveI hc:lP y=H/\rE [.Attribute (.Name x aR) (Φ.a.Y k) tp] y Φ.r=pure none:=by rcases l with⟨_,p,B⟩|⟨_,p,B⟩<;>(subst B;exact⟨rfl,rfl⟩)
 refine r<|jV<|tX hc.1 O hc.2<|Pj C.ok D f h l λb E aN aT D1=>?_;refine vX<|g5 (zg (Q:=λv ae=>v=.mut .L/\ae=st.bh m mc) C.ok D1 (by rw[C.cX];exact beq_iff_eq.mp t) (r_ z) e ⟨rfl,rfl⟩) (λu G q=>?_) λo o q=>q;exists r;obtain⟨aS,v,aP,⟨rfl,rfl⟩,L,aO,D2⟩:=q;refine r<|g5 (zQ C.go D2 Y aO (aN.aR L) ?_) (λo I q=>g6 q λaQ k3 J=>⟨_,ρ,_,k3,J⟩) λo o q=>q;show pJ _ _ _;unfold pJ;dsimp only;rw[vg,j];exact w0
theorem Pl(j:ha Φ d b e):ha Φ d (.eD b) [.Try e (i::n) [] [] aa]:=by refineλμ ρ st s k D w=>jV<|wpAny_Try_except<|g5 (j μ ρ st s _ D w) (λf h q=>?_) λv h q=>(kf λm=>nj q λa a a l=>jk l λa a a P a=>P.c_.elim);.induction f with|next=>exact rH q|_=>exact q
end
end
section
open PySem PySem.W PySem.Calls PyProof.Rows Builtin Builtin.ObjectAttr
theorem Pm(a)(l)(h:oS l=H):refuseLoop a "__setattr__" l=pure ():=DQ (P:=λl=>refuseLoop _ _ l=pure _) (PySem.F.store_Exception.passes _) (λc r h=>by rw[refuseLoop_ref];exact h) l h
section
variable{ai:m8}{w:iI}{A:ix}{E:gZ->hb->Prop}{s:hb}{K:iY}{x C:lY}{R:Result->hb->Prop}
theorem FW{ox:iT}{od:Option _}{name}{tk}{v}(X:K.In s.heap)(I:InstAt s.heap x ox C od)(hp:q0 K C=H)(r:qr K C name=U V)(h:∀b,g0 (ii ai w) A.in1 (storeInOwnDict (.ref x) (.ref C) (.str name tk) name v b) (λj s'=>match j with| .done f=>R (.ok f) s'| .again k=>k.quiet=H/\la (ii ai w) A k R s') (λe=>R<|.error e) s):la (ii ai w) A (.call (.builtin "object.__setattr__") ⟨[.ref x,.str name tk,v],[]⟩) R s:=by
 haveI d:=PySem.F.store_object;refine g6 (qt hp) λcd hc i=>?_;haveI t:cd.mro.isEmpty=false:=by induction q:cd.mro with|nil=>rw[q]at i;cases i|cons _ _=>rfl
 refine Jb d.slot.plain d.entry<|@check_slot _ _ _ s _ "object" "__setattr__" _ _ _ _ d.kind d.split (I.type.andThen<|uV X (by unfold nE;rw[hc,Ja,if_neg (by rw[t];decide),(tN _ i).1])) (d.args _ _ v)<|g6 (sL.mp r) λc n p=>?_;haveI o:ng (ii ai w) _ (mroOf<|.ref C) cd.mro:=(u4 X hc).andThen .now;haveI m:ng (ii ai w) _ (storeTaker? c) _:=by
  induction c with|none=>exact .now|some a=>
   refine g6 (uS.mp p) λb l q=>(looks_takesIn X l).andThen ?_;clear l;induction b;.exact .now
   .exists y;cases q
 rw[osa_eq,refuse_eq];refine hk<|hk<|I.type.here (hk (o.here ?_));rw[Pm _ _ i];refine ib<|hk<|I.type.here (hk ((qu X n).here (hk (m.here ?_))));exact h _
set_option tactic.hygienic true in
theorem FX{b:Nat}(D:s.heap.get? b=U (i4 a n))(hl:(kQ name a).isSome=H)(c:a.length<=1000)(h:∀h' tk,lD b s.heap h'->h'.get? b=U (i4 (nh name (m9 w.params name) (.str name tk) v a)<|putN name a n)->Q (.done<|.ret .none) {s with heap:=h',toks:=s.toks+1}):g0 (ii ai w) A (storeInDict b (.str name tk) name v) Q E s:=by haveI d:=sO (iT.putName name (m9 w.params name) (.str name s.toks) v) D (by rw[xZ];rfl);rw[xZ]at d;refine hk<|ib<|hk ?_;refine hk<|hk<|wpAny_askSetting (ib (hk (BK (hk (u3 D ?_)))));dsimp only;rw[JD,Ey hl];exact wpAny_updatePart D<|hk<|wpAny_lookBehind d (pastItsLine_dict<|qA (f2 (Ex name (m9 w.params name) (.str name s.toks) v a) (f2 (j4 c (hJ _)) (by decide))))<|ib<|h _ _ (BZ ..) d
theorem Po(X:K.In s.heap)(f:s.heap.get? x=U {cls:=.ref C,dict:=V,data:=.fields r,slots:=sl})(p:iB K (.ref C) "__setattr__"=U (U<|.builtin "object.__setattr__")) (hp:q0 K C=H) (q:qr K C name=U V) (n:nb K C=H) (l:∀o,K.lookup x≠U o)(h:∀h' tk,h'.objs.size=s.heap.objs.size+1->(∀b o,b≠x->s.heap.get? b=U o->h'.get? b=U o)->h'.get? x=U {cls:=.ref C,dict:=U s.heap.objs.size,data:=.fields r,slots:=sl}->h'.get? s.heap.objs.size=U (i4 (nh name (m9 w.params name) (.str name tk) v [])<|putN name [] 0)->Q () {s with heap:=h',toks:=s.toks+2}):g0 (ii ai w) A (s5 (.ref x) name v) Q E s:=by
 haveI I:InstAt _ x _ C none:=⟨f,rfl,rfl,trivial⟩;refine set_plain X I p<|FW X I hp q λb=>g6 (qt n) λcd hc i=>?_;haveI k:ng (ii ai w) ({s with toks:=s.toks+1}).heap _ cd:=u4 X hc;refine hk<|ib<|hk (hk (u3 f (hk (k.here ?_))));rw[i];haveI a:(s.heap.push oI).get? x=U _:=jw _ f;haveI j:=iw<|ih f;show g0 _ _ (do
  let d <-alloc _
  update x _
  dictMade (.ref C) x d) _ _ _
 refine hk<|wpAny_alloc<|hk (wpAny_update a ?_);refine ib<|FX (s:={s with heap:=(s.heap.push oI).update x _,toks:=s.toks+1}) ((JM _ _ _ _<|Ne.symm j).trans<|m_ _ O) O (i' _) λh' tk c hd=>?_;replace c:lD s.heap.objs.size ((s.heap.push _).update x λo=>{cls:=o.cls,dict:=U s.heap.objs.size,data:=o.data,slots:=o.slots}) h':=c;refine h h' tk ?_ (λb o m e=>((c.2 b<|iw<|ih e).trans<|(JM _ _ _ _ m).trans<|jw _ e)) ((c.2 x j).trans<|sO (λo=>{cls:=o.cls,dict:=U s.heap.objs.size,data:=o.data,slots:=o.slots}) a O) hd;.rw[c.1,BN,kI]
theorem Pp{a:Nat}(X:K.In s.heap)(e:s.heap.get? x=U {cls:=.ref C,dict:=U a,data:=.fields m,slots:=sl}) (hd:s.heap.get? a=U (i4 c n))(j:iB K (.ref C) "__setattr__"=U (U<|.builtin "object.__setattr__")) (hp:q0 K C=H) (k:qr K C name=U V) (i:nb K C=H) (hl:(kQ name c).isSome=H) (l:c.length<=1000)(h:∀h' tk,lD a s.heap h'->h'.get? a=U (i4 (nh name (m9 w.params name) (.str name tk) v c)<|putN name c n)->Q () {s with heap:=h',toks:=s.toks+2}):g0 (ii ai w) A (s5 (.ref x) name v) Q E s:=by haveI I:InstAt _ x _ C<|U _:=⟨e,rfl,rfl,hd⟩;refine set_plain X I j<|FW X I hp k λb=>g6 (qt i) λcd hc d=>?_;haveI f:ng (ii ai w) ({s with toks:=s.toks+1}).heap _ cd:=u4 X hc;refine hk<|ib<|hk (hk (u3 e (hk (f.here ?_))));rw[d];exact ib<|FX hd hl l h
end
end
section
open PySem PySem.W PySem.Calls PyProof.Rows
section
variable{ai:m8}{w:iI}{A:ix}{E:gZ->hb->Prop}{h:je}{aM:Array GenState}{d:Drawn}{t:Nat}{os:pe}{K:iY}
variable{nm q:g2}{C N:lY}{bs bm:List gZ}{aF:Bool}{sn:List g2}{sub:List gZ}{ab:Bool}{aB:Option Bool}{dd:Option lY}{k0 k1 k2 k3 k5:Option gZ}
theorem Pq(k:oS (.ref C::bm)=H)(b:h.get? C=U (s6 nm q C N bs bm aF sn sub ab aB dd k0 k1 k2 k3 k5 "Exception.__new__"))(l:R (.ok<|.ret<|.ref (h.objs.size+1)) ⟨(h.push {cls:=.type "tuple",data:=.seq aj.toArray}).push {cls:=.ref C,data:=.fields #[.ref h.objs.size,.none,.none,.none,.bool g,.none]},aM,d,t,os⟩) (j:aj.length<=qz):la (ii ai w) A (.builtin "Exception.__new__" ⟨.ref C::aj,[]⟩) R ⟨h,aM,d,t,os⟩:=by
 haveI F:=F.excBase_Exception;haveI i:=F.ends;refine l3 (tN _ k) λm e m c f=>codeAny_builtinAt F.entry<|Cb<|Cb<|PySem.wpAt_stack λp a=>yg ?_;wp_walk;refine yg ?_;rw(occs:=.all) [F.owner];repeat(first|with_reducible refine wpAny_madeHere_exc F.canon b ?_|with_reducible refine rI b ?_|(with_reducible refine Cc b ?_;first|rw(occs:=.all) [e]|rw(occs:=.all) [c]|rw(occs:=.all) [f])|wp_step)
 show R _ _;rw(occs:=.all) [kI];exact l
theorem Pr(X:K.In h)(k:oS (.ref C::bm)=H)(c:h.get? C=U (s6 nm q C N bs bm aF sn sub ab aB dd k0 k1 k2 k3 k5 "Exception.__new__"))(s:iB K (.ref C) "__init__"=U (U<|.ref i)) (p:nF K (.ref i)=U (.type "function"))(y:g0 (ii ai w) (A.under<|.builtin "type.__call__" ⟨.ref C::aj,[]⟩) (kh (.ref i) (.ref (h.objs.size+1)::aj)) (λr s'=>r=.none/\Q (.ref (h.objs.size+1)) s') E ⟨(h.push {cls:=.type "tuple",data:=.seq aj.toArray}).push {cls:=.ref C,data:=.fields #[.ref h.objs.size,.none,.none,.none,.bool g,.none]},aM,d,t,os⟩) (f:aj.length<=qz):g0 (ii ai w) A (kh (.ref C) aj) Q E ⟨h,aM,d,t,os⟩:=by
 haveI D:=tc_lookup;haveI G:=tc_bind<|.ref C;haveI hT:(⟨h,aM,d,t,os⟩:hb).TypeIs (.ref C) "type":=⟨_,c,rfl⟩;refine oF<|B9 ?_;show g0 _ _ _ _ _ _;repeat(any_goals (first|assumption|with_reducible refine rI c ?_|wp_step))
 refine⟨rfl,?_⟩;refine codeAny_call_builtin_at (JN _ (by decide+kernel)) entry_typeCall<|wpAny_check_type_call_sub c ?_;repeat(first|with_reducible refine rI c ?_|with_reducible refine wpAny_madeBy_exc c ?_|wp_step)
 refine codeAny_call_builtin_code (JN _ F.excBase_Exception.quiet)<|wpAny_check_new_subU F.excBase_Exception (bmB:=bm) (show(kJ C::bm).contains _=H from(tN _ k).2.1) .base c<|Pq k c ?_ f;haveI a:K.In<|(h.push {cls:=.type "tuple",data:=.seq aj.toArray}).push {cls:=.ref C,data:=.fields #[.ref h.objs.size,.none,.none,.none,.bool g,.none]}:=λb o e=>jw _<|jw _<|X b o e;haveI j:=by heap_get
 haveI l:=qu (M:=ii ai w) a s;haveI m:=bind_fn (M:=ii ai w) a (.ref (h.objs.size+1)) p;unfold isInstance;repeat(first|with_reducible refine rI _ ?_|(with_reducible rw(occs:=.all) [(by simp)])|wp_step)
 refine Cc (jw {cls:=.ref C,data:=.fields #[.ref h.objs.size,.none,.none,.none,.bool g,.none]}<|jw {cls:=.type "tuple",data:=.seq aj.toArray} c) ?_;repeat(first|with_reducible refine rI _ ?_|wp_step)
 refine l.at<|nc<|hk<|m.at ?_;refine hk<|g5 y (λr s' z=>?_) λB B x=>x;obtain⟨rfl,n⟩:=z;wp_walk;exact n
end
end
section
open PySem PySem.W PySem.Calls PyProof.Rows
section
variable{G:Gl}{μ:Mu}{A:ix}{E:gZ->hb->Prop}
theorem Pt(bb:G.y){C L x:Nat}{s}(I:vY G ac m sn x s.heap.objs.size L)(aP:iB G.K (.ref C) "__setattr__"=U (U<|.builtin "object.__setattr__")) (hp:q0 G.K C=H) (hh:nb G.K C=H) (T:L≠x) (w:∀o,G.K.lookup x≠U o)(h) (ps) (l) (c) (args) (N:l_ sn ps (l.map G.Y) h=H) (aZ:hZ G μ c args) (hl:ps.length=c.length) (D:ps≠[])(aQ:∀(i:Nat) p v,ps[i]?=U p->c[i]?=U v->ac.kindOf p=U .local/\(p==("__debug__"))=g/\m p=U v) (ht:∀f∈l,qr G.K C (G.Y f)=U V) (au:l.Nodup) (B:l.length<=500)(hK:G.K.In s.heap) (M:s.heap.Ns L m) (y:s.heap.get? x=U ({cls:=.ref C,dict:=V,data:=.fields a4,slots:=a0})):g0 (ii G.prog G.w) A (n5 h ac) (λf s'=>f=.next/\(∃h' tk d es n,s'={s with heap:=h',toks:=tk}/\d=s.heap.objs.size/\(∀b o,b≠x->s.heap.get? b=U o->h'.get? b=U o)/\ h'.get? x=U ({cls:=.ref C,dict:=U d,data:=.fields a4,slots:=a0})/\h'.get? d=U (i4 es n)/\iE G μ es l args)) E s:=by
 cases h with|nil=>exact absurd (EE N).1 D|cons st r=>
  refine ED N λp av f Q e1 e2 e3 Y=>kf λaS=>?_;clear D;subst e1 e2;cases aZ with
  |nil=>cases hl
  |@cons v a c args aX aY=>refine jO e3 λa' ap a7=>jO a7 λba pp e=>ju (aQ 0 p v O O) λk1 k2 k3=>?_;clear e3;subst e;haveI ns:=I.b9.symm▸M;refine aS<|x0<|tX O O O<|sM (qq I.i k1 ns k3 (vX (sM (qq I.i I.k ns I.fR ?_) I.aZ))) k2;refine Po hK y aP hp (ht f<|.head _) hh w λaN tk sz kp gx gd=>?_;haveI J:zT G μ ac m x _ L _ av c Q aN _ _ [f] [a]:=⟨sZ hl,λi=>aQ (i+1),au,B,rfl,λb o e=>kp b o (λq=>w o (q▸e))<|hK b o e,M.at' λo=>kp _ _ T,gx,gd,(zP (Φ:=⟨G,A,ac,[],0,s.heap,μ,s.gens,s.os,s.drawn,[]⟩) bb (k:=f) (t:=tk) aX<|.nil (G:=G))⟩;refine g5 (EF bb I r (λaM hg {_ _ _ _ _} X hx hd hl z k=>Pp X hx hd aP hp (ht aM<|.tail _ hg) hh hl z k) Y aY J) (λfl s' q=>?_) λa_ a_ q=>q;exact hn q λaU q=>jr q λaO a2 aR aT e j aV aW=>haveI j:lD _ aN aO:=j;⟨aU,aO,_,_,_,aT,e,rfl,λb o N e=>(j.2 b<|iw<|ih e).trans<|kp b o N e,(j.2 x<|iw<|ih y).trans gx,aV,aW⟩
end
end
section
open PySem PySem.W PySem.Calls PyProof.Rows
structure FY (G:Gl)(C f:Nat)(ks:List Nat)(a:kR)(sn:g2)(ps:List g2)(h6:List h4):Prop where
 tab:G.T.cr C=U ks
 obj:∀{c:Prop},(∀nm q N bs bm aF b sub ab aB dd k0 k1 k2 k3 k5,G.K.lookup C=U (s6 nm q C N bs bm aF b sub ab aB dd k0 k1 k2 k3 k5 "Exception.__new__")->oS (.ref C::bm)=H->c)->c
 init:iB G.K (.ref C) "__init__"=U (U (.ref f))
 fn:nF G.K (.ref f)=U (.type "function")
 at_:kn G f=U a
 bC:a.body=.stmts h6
 kind:a.scope.kind=.function
 dk:a.scope.isCoroutine=g
 dl:a.scope.isGenerator=g
 cell:∀x∈a.scope.names,x.2≠ .cell
 L:it a=sn::ps
 b':ps≠[]
 nodup:(it a).Nodup
 j:∀x∈it a,a.scope.names.lookup x=U .local/\(x==("__debug__":g2))=g
 code:sP G.K a.code a.qualname=H
 co:l_ sn ps (ks.map G.Y) h6=H
 b8:ks.Nodup
 fb:ks.length<=500
noncomputable def Mu.cQ(μ:Mu)(e C d:Nat)(o:iT):Mu:={μ with bN:=(e,C,d)::μ.bN,t:=(d,o)::μ.t}
theorem h1.cQ(μ)(e C d)(o):h1 μ<|μ.cQ e C d o:=⟨λa h=>h,λa a h=>h,λa=>.tail _,λa=>.tail _⟩
theorem h_.cQ(x:h_ (μ.cQ e C d o) a):a=e\/h_ μ a:=by
 exists b;rcases x with x|x|⟨c,f,x⟩
 .exact b<|.inr<|.inl x
 .exact b<|.inr<|.inr<|.inl x
 .rcases ir.mp x with q|q
  .clear x;cases q;exact b<|.inl O
  .exact b<|.inr<|.inr<|.inr ⟨_,_,q⟩
section
variable{Φ:Fm}{μ:Mu}{ρ:Loc}{st:St}{s:hb}{Q:AV->St->Prop}{E:gZ->hb->Prop}{A:ix}
theorem Dy.gx(aO:Φ.y)(D:Dy Φ μ ρ st s){t e C d:Nat}{B od:iT}{G}(aN:∀a o,s.heap.get? a=U o->h'.get? a=U o)(r:s.heap.objs.size<=e)(hd:s.heap.objs.size<=d)(ne:d≠e)(L:h'.get? e=U B) (c1:B.cls=.ref C) (c2:B.dict=U d) (c3:B.data=.fields G) (gd:h'.get? d=U od):Dy Φ (μ.cQ e C d od) ρ st {s with heap:=h',toks:=t}:=by
 haveI T:=ih L;have D1:Dy Φ μ ρ st {s with heap:=h',toks:=t}:=D.keeps (f2 r<|jM T) aN;have I:=D1.N;have J:=h1.cQ μ e C d od;haveI low:=λa m=>(D.N.bu a m).2;haveI Y:=D.N.bn;haveI N:=D.ds aO;refine D1.eE J ⟨I.aU,I.cu,λp hp=>?_,λks G e=>(jr (I.cU ks G e) λx dx es n k l au av=>l5 x dx es n k (.tail _ l) au<|av.aR J),I.cA,λm c e=>(g6 (I.cp m c e) λa k l=>h9 a k<|l.aR J),I.cg,λa w y M=>?_,λa m=>?_,I.inj,I.bf,λx a w y k l=>?_,λm a w y k l=>?_,I.bR,I.c8,I.bn⟩ (λq=>?_) (λp hp=>?_) (λa q=>?_) λp hp=>?_
 .rcases ir.mp hp with b|hp;clear zz3 b
  .exact lI gd (f2 Y hd) λm=>m.cQ.elim ne λq=>absurd (low _ q)<|jE.mpr hd
  .haveI z:=I.t p hp;refine lI z.1 z.2.1 λm=>m.cQ.elim (λq=>?_) z.2.2;haveI:=ih (D.N.t p hp).1;exact absurd this<|jE.mpr (q▸r)
 .rcases ir.mp M with q|q
  .clear M;cases q;exact to B G L c1 c2 c3
  .exact I.cO a w y q
 .rcases m.cQ with f|m;clear zz3 f
  .exact⟨f2 Y r,T⟩
  .exact I.bu a m
 .rcases ir.mp l with q|q
  .cases q;exact absurd (low _<|.inl ⟨x,k⟩)<|jE.mpr r
  .exact I.c7 x a w y k q
 .rcases ir.mp l with q|q
  .cases q;exact absurd (low _<|.inr<|.inl ⟨m,k⟩)<|jE.mpr r
  .exact I.cv m a w y k q
 .rcases q.cQ with q|q
  .exact absurd D.cB<|jE.mpr (q▸r)
  .exact D.bo q
 .rcases ir.mp hp with h|hp;clear zz3 h
  .exact iP<|hD D.cB hd
  .exact D.bw p hp
 .rcases q.cQ with i|q;clear zz3 i
  .exact .inr<|f2 N r
  .exact D.a' a q
 .rcases ir.mp hp with j|hp;clear zz3 j
  .exact .inr<|f2 N hd
  .exact D.bg p hp
noncomputable def Made(Φ:Fm)(μ:Mu)(ρ:Loc)(st:St)(C:Nat)(ks:List Nat)(args:List AV)(v:gZ)(s':hb):Prop:=∃(e d t:Nat) (a:List nY) (n:Nat),v=.ref e/\Φ.bB.objs.size<=e/\s'.heap.get? e=U ({cls:=.ref C,dict:=U d,data:=.fields #[.ref t,.none,.none,.none,.bool g,.none]}:iT)/\ iE Φ.a (μ.cQ e C d (i4 a n)) a ks args/\Dy Φ (μ.cQ e C d (i4 a n)) ρ st s'
theorem Pu(a4:Φ.y)(L:Φ.a.y)(D:Dy Φ μ ρ st s)(N:FY Φ.a C f ks Y sn ps aQ)(aX:hZ Φ.a μ h args) (hl:ps.length=h.length) (M:aa.length<=qz) (aU:∀s' x,Φ.a.K.In s'.heap->rA s' Y ⟨x::aa,[]⟩ ((it Y).zip (x::h))) (room:A.depth<950):g0 Φ.q A (kh (.ref C) aa) (Made Φ μ ρ st C ks args) E s:=by
 haveI aS:=D;exists aN;obtain⟨k,aM,d,t,os⟩:=s;have hK:=D.N.aU;dsimp only at hK;refine N.obj λnm q a0 bs bm aF aY sub ab aB dd k0 k1 k2 k3 k5 aT aW=>g6 (r5 N.at_) λof aP I=>?_;haveI B:=(L.eF C ks N.tab).1;haveI T:=(L.eF C ks N.tab).2;refine l3 (zl B) λc1 c2 c3 c4 c5=>aN<|Pr hK aW (hK _ _ aT) N.init N.fn ?_ M;generalize av:(k.push _).push _=aL;have k2:∀b o,k.get? b=U o->aL.get? b=U o:=λb o e=>by rw[<-av];exact jw _<|jw _ e
 haveI gx:aL.get? _=U _:=by rw[<-av];haveI:=m_ (k.push {cls:=.type "tuple",data:=.seq aa.toArray}) (o:={cls:=.ref C,data:=.fields #[.ref k.objs.size,.none,.none,.none,.bool g,.none]}) O;rwa [kI]at this
 have r:aL.objs.size=k.objs.size+2:=by rw[<-av,kI,kI]
 haveI w:=λb o e=>k2 b o<|hK b o e;refine oF<|xI (n3 (by assumption) (by decide)) (w _ _ aP) I (L.eh _ w) (uY w N.code) N.bC (aU _ _ w) N.cell (λx hx=>(N.j _ (uZ hx).1).1) (λaR j c=>?_) N.dk N.dl N.kind
 .have J:=N.L;haveI nd:=N.nodup;rw[J]at nd j;haveI M:∀i p v,(sn::ps)[i]?=U p->((kJ (k.objs.size+1))::h)[i]?=U v->((sn::ps).zip (kJ _::h)).reverse.lookup p=U v:=λi p v=>tP nd;haveI l:=λp hp=>N.j p (J▸hp);refine g5 (Pt (E:=λaZ aZ=>False) L (⟨N.kind,rfl,(l sn<|.head _).1,(l sn<|.head _).2,M 0 sn _ O O,iw j.lt,iw<|qw (r▸kg _) j.lt,λo e=>jI _<|ih<|c _ _ (w _ _ e)⟩:vY Φ.a (rB Y _ f) (λx=>((sn::ps).zip _).reverse.lookup x) sn (k.objs.size+1) _ aL.objs.size) c5 c1 c2 (by rw[r];exact iP<|kg _) (λo e=>absurd (ih<|hK _ _ e)<|jE.mpr<|jo _) _ ps ks _ _ N.co aX hl N.b' (λi p v B T=>⟨(l p<|.tail _<|k_ B).1,(l p<|.tail _<|k_ B).2,M (i+1) p v B T⟩) (λf aV=>(tO<|T f aV).2) N.b8 N.fb (λb o e=>c b o<|w b o e) j<|c _ _ gx) (λfl s' q=>?_) λe s' q=>q.elim;exists aN;obtain⟨rfl,a2,tk,dx,es,n,rfl,aO,kp,G,au,re⟩:=q;haveI m:=aO;haveI y:=by haveI z:=j.lt;rwa [r]at z
  exact aN ⟨rfl,k.objs.size+1,dx,k.objs.size,es,n,rfl,(lb<|D.ds a4),G,re.aR<|h1.cQ ..,(aS.gx a4 (λa o e=>kp a o (iw<|pv<|ih e)<|c _ _<|k2 a o e) (jo _) (f2 (qA<|iy _ _)<|f2 (jP y)<|jh m.symm) ((iP<|ja<|oc (f2 (iu (iU (by decide) _) _) (f2 (jP y) (jh m.symm))))) G O O O au)⟩
end
end
section
open PySem PySem.W PySem.Calls PyProof.Rows
section
variable{M:nD}{A:ix}{E:gZ->hb->Prop}{ac:jL}
variable{nm q:g2}{C N:lY}{bs bm:List gZ}{aF:Bool}{sn:List g2}{sub:List gZ}{ab:Bool}{aB:Option Bool}{dd:Option lY}{k0 k1 k2 k3 k5:Option gZ}{aJ:String}
theorem Pw(f:(kJ C::bm).contains (.type "BaseException")=H)(m:A.handled=V)(h:g0 M A x (λv a=>∃e t d,v=.ref e/\a.heap.get? C=U (s6 nm q C N bs bm aF sn sub ab aB dd k0 k1 k2 k3 k5 aJ)/\ a.heap.get? e=U {cls:=.ref C,dict:=U d,data:=.fields #[.ref t,.none,.none,.none,.bool g,.none]}/\E (.ref e) a) E s):g0 M A (raiseStmt ac (U x) V) Q E s:=by
 refine hk<|g5 h (λv a b=>?_) λn n x=>x;exists k;obtain⟨e,t,o,rfl,i,l,j⟩:=b;refine k ?_;repeat(first|with_reducible refine rI l ?_|with_reducible refine rI i ?_|(with_reducible refine Cc i ?_;rw[f])|wp_step)
 exact wpAny_raiseNew_none m j
theorem Py(b:(kJ C::bm).contains (.type "BaseException")=H)(f:A.handled=V)(h:g0 M A (eval x ac) (λv a=>∃e t d,v=.ref e/\a.heap.get? C=U (s6 nm q C N bs bm aF sn sub ab aB dd k0 k1 k2 k3 k5 aJ)/\ a.heap.get? e=U {cls:=.ref C,dict:=U d,data:=.fields #[.ref t,.none,.none,.none,.bool g,.none]}/\E (.ref e) a) E s):g0 M A (exec (.Raise (U x) V aa) ac) Q E s:=hk<|oH<|Pw b f
 (hk (g5 h (λv a q=>hk (oH (ib q))) λi i q=>q))
end
noncomputable def we(G:Gl)(C:Nat)(ps:i6):Prop:=∃f ks a sn b h6 D,FY G C f ks a sn b h6/\o0 G f a D ((sn,V)::ps)/\ps.length=ks.length
section
variable{Φ:Fm}{c:Ck}{d:Nat}{μ:Mu}{ρ:Loc}{st:St}{s:hb}
theorem Pz(k:X ⟨C,args⟩ st)(l:Φ.a.T.cr C=U ks)(m:Made Φ μ ρ st C ks args v s):PX Φ ρ X v s:=by refine jO m λe d f=>lh f λt h n b j i f=>hn f λp D=>?_;clear m;subst b;exact⟨e,_,st,_,rfl,⟨k,D.ext,D.N,⟨d,h,n,ks,.head _,.head _,l,p⟩,j,.inl ⟨_,_,i,rfl,rfl⟩,λa o e n=>⟨o,D.bv a o e n,rfl,rfl,rfl,λr=>rfl⟩,D.a',D.bg⟩,⟨D.bX,D.bY,D.b3⟩,D.bo,D.bw,D.ns⟩
theorem PD(C:Cx Φ c d)(hq:(!c.bx)=H){j:Nat}(av:mA Φ.a c x (.ref j)=H)(a:(oZ o []&&jf o.length 500)=H)(aN:mL Φ.a.K (.ref j)=H)(N:we Φ.a j ps)(aQ:Good Φ c d args<|.a9 ps o []):ha Φ d (.ea j args) [.Raise (U<|.Call (.Name x np) o [] cp) V aa]:=by
 unfold oZ at a;rw[iG,iG]at a;exists h;obtain⟨f,kk,fd,sn,pn,h6,T,n,aZ,z⟩:=N;obtain⟨aS,b,hr⟩:=z0 aZ;obtain⟨hB,aR⟩:=aQ _ hr a.1.1 a.1.2;refine n.obj λnm q Y bs bm aF r sub ab aB dd k0 k1 k2 k3 k5 aO aP=>h λμ ρ st s k D w=>jV<|Py (nm:=nm) (q:=q) (N:=Y) (bs:=bs) (aF:=aF) (sn:=r) (sub:=sub) (ab:=ab) (aB:=aB) (dd:=dd) (k0:=k0) (k1:=k1) (k2:=k2) (k3:=k3) (k5:=k5) (aJ:="Exception.__new__") (tN _ aP).2.2.1 (C.de (by simpa using hq))<|Call_ O<|sa C av D<|r9 aN a.1.1 a.1.2 (g5 (aR μ ρ st s _ _ cp D w) (λy I q=>g5 q (λag J q=>?_) λi i=>jz) λi i=>jz);exists h;obtain⟨G,aY,aV,l,aU,p,aW,aT,D2⟩:=q;refine h ⟨D2.N.aU,?_⟩;haveI pl:pn.length=(fill _ y []).length:=by rw[z2];haveI:=z1 aZ.cW;rw[b,n.L]at this;simpa using this.symm
 refine g5 (Pu C.ok C.go D2 n aT pl (by rw[G];exact f2 (jN a.2) (by decide)) (λs' x hK=>?_)<|qw (qM C.room.1) (by decide)) (λv L m=>?_) λi i q=>q
 .haveI ok:i5 (j_<|kC fd T) (x::y).length _=true:=by
   rw[b]
   show i5 _ y.length _=H
   rw[G]
   exact hB
  haveI B:=oW (kw:=[]) aZ.dt aZ.du aZ.dv aZ.dw aZ.cW (oX hK aZ.cV) aZ.b8 ok
  rw[b]at B
  exact B
 .haveI m':=m;exists h;obtain⟨e,d',t,au,aX,rfl,h0,ge,re,Q⟩:=m';exact h<|CD e t d' O (Q.N.aU _ _ aO) ge<|jz<|Pz p n.tab m
end
end
section
open PySem PySem.W PySem.Calls PyProof.Rows
section
variable{M:nD}{A:ix}{E:gZ->hb->Prop}{K:iY}{h:je}{aM:Array GenState}{d:Drawn}{t:Nat}{os:pe}
theorem PF{e C D:Nat}(X:K.In h)(o:h.get? e=U r)(hc:r.cls=.ref C)(n:nF K (.ref D)=U (.type "type"))(a:oE K D=U cd)(hB:nE K D (.type "BaseException")=U H) (i:nE K C (.ref D)=U b) (q:Q b ⟨h,aM,d,t,os⟩):g0 M A (excMatches (.ref e)<|.ref D) Q E ⟨h,aM,d,t,os⟩:=by haveI LT:=looks_typeIn (M:=M) X n;haveI f:=uV (M:=M) X i;haveI m:ng M h (typeOf<|.ref e)<|.ref C:=hc▸(BV o).andThen .now;haveI j:ng M h (isInstance _<|.type _) _:=LT.andThen<|ng.of_pure tc_notTuple;haveI k:ng M h (isType<|.ref D) true:=(nj (DR a) λc dd sl p=>(BV<|X _ _ p).andThen .now);haveI l:ng M h (isExcClass _) _:=k.andThen<|uV (M:=M) X hB;refine hk<|j.at<|hk<|ib ?_;dsimp only;rw[xJ];refine hk<|hk<|hk (l.at ?_);refine ib<|ib<|hk (m.at ?_);rw[xJ];refine hk<|hk<|hk (f.at ?_);clear f i;induction b with|true=>exact ib<|ib<|ib q|false=>exact ib<|ib<|ib q
end
end
section
open PySem PySem.W PySem.Calls PyProof.Rows
noncomputable def Fm.cD(Φ:Fm)(v:gZ):Fm:={Φ with C:=Φ.C.mark (U v)}
section
variable{Φ:Fm}{c:Ck}{d:Nat}{μ:Mu}{ρ:Loc}{st:St}{s:hb}{k:KS}
theorem PG(a:Φ.y):(Φ.cD v).y:=⟨a.kind,a.j,a.slot,a.nodup,a.b2,a.bn,a.b7,a.cc,a.dr,a.cK,a.c9⟩
theorem Cx.cD(C:Cx Φ c d):Cx (Φ.cD v) {c with bx:=H} d:=⟨C.go,PG C.ok,C.cX,C.dx,C.room,.inr O,C.cx,C.bp,C.ch,C.el,C.cs,(iR),C.ca⟩
theorem Dy.cD(D:Dy Φ μ ρ st s):Dy (Φ.cD v) μ ρ st s:=⟨D.ext,D.N,D.bv,D.ns,D.bo,D.bw,D.a',D.bg,D.bX,D.bY,D.b3⟩
theorem Dy.gy(D:Dy (Φ.cD v) μ ρ st s):Dy Φ μ ρ st s:=⟨D.ext,D.N,D.bv,D.ns,D.bo,D.bw,D.a',D.bg,D.bX,D.bY,D.b3⟩
theorem FZ(b:Φ.bk=[])(P:Px Φ.a Φ.bB Φ.b4 Φ.bk r X e μ st x s)(f:s.gens=Φ.ee/\s.os=Φ.ef/\s.drawn=Φ.eg)(m:¬h_ μ Φ.a2)(j:∀p∈μ.t,p.1≠Φ.a2)(l:LR Φ μ ρ s.heap):Dy Φ μ ρ st s:=by refine⟨P.ext,P.N,λa o e n=>?_,l,m,j,P.a',P.bg,f.1,f.2.1,f.2.2⟩;refine lJ (P.bv a o e n) λt h i i i q=>?_;rw[q (by rw[b];intro z;cases z)]at h;exact h
theorem PH(J:Φ.y)(D:Dy Φ μ ρ st s){i}{n}{aa}{Q:Unit->hb->Prop}{A}{E:gZ->hb->Prop}(t:Φ.slots[i]?=U n)(h:∀s',Dy Φ μ (ρ.set i V) st s'->Q () s'):g0 Φ.q A (do bindName Φ.r n .none;unbindBehindTheSuite Φ.r n aa) Q E s:=by
 refine g6 D.ns λI C G=>wpAny_nameGoes_keeps (J.slot i n t) (J.j▸C) (pk J) λh' v l r=>h _ ?_;rw[J.j]at l r;refine⟨D.ext,D.N.sameBut r (f2 J.bn J.b2) D.bo D.bw,λb o e q=>(r.2 b<|iw<|hD (ih e) J.b2).trans<|D.bv b o e q,⟨_,l,λj y a m f=>?_⟩,D.bo,D.bw,D.a',D.bg,D.bX,D.bY,D.b3⟩;exists B;by_cases q:j=i
 .subst q;have p:=by cases oD j _ with|inl h=>exact h|inr h=>rw[xy (by rw[xz];exact h)]at f;cases f
  rw[BB p]at f;cases f
 .rw[BC<|Ne.symm q]at f;refine g6 (G j y a m f) λu w x=>B<|h9 u ?_ x;rw[if_neg];.exact w
  .intro z;clear zz3 z m;exact q<|tJ J.nodup m t
structure Aj (Φ:Fm)(X:hv->St->Prop)(e:Nat)(μ:Mu)(st:St)(x:hv)(ρ:Loc)(s:hb):Prop where
 P:Px Φ.a Φ.bB Φ.b4 Φ.bk .none X e μ st x s
 gz:nL (λb=>Φ.bB.objs.size<=b/\¬h_ μ b/\∀p∈μ.t,p.1≠b) .none s.heap e
 fV:s.gens=Φ.ee/\s.os=Φ.ef/\s.drawn=Φ.eg
 bo:¬h_ μ Φ.a2
 bw:∀p∈μ.t,p.1≠Φ.a2
 fX:LR Φ μ ρ s.heap
theorem PI(C:Cx Φ c d)(r:Φ.bk=[]){D:Nat}{e:Nat}(hx:mA Φ.a c x (.ref D)=H) (aO:nF Φ.a.K (.ref D)=U (.type "type")) (A:oE Φ.a.K D=U cd) (N:(Φ.a.T.cr D).isSome=H) (hi:c.slots[i]?=U n) (aP:ha (Φ.cD<|.ref e) d h (o::m))(L:Aj Φ X e μ st p ρ s)(av:Φ.a.T.sub p.b_ D=H->∀ks,Φ.a.T.cr p.b_=U ks->WS Φ.a.T (iN Φ.a d) h (ρ.set i<|U<|.cG p.b_ ks p.dM) st ⟨λρ st=>k.n (ρ.set i V) st,λa a=>False,λa a=>False,λa a a=>False⟩)(aN:Φ.a.T.sub p.b_ D=g->g0 Φ.q Φ.C (rJ (.ref e) Φ.r aj) (PS Φ k) (mw Φ k.z) s):g0 Φ.q Φ.C (rJ (.ref e) Φ.r (.ExceptHandler (U<|.Name x a0) (U n) (o::m) aX::aj)) (PS Φ k) (mw Φ k.z) s:=by
 haveI a2:=C.ok;haveI w:Φ.slots[i]?=U n:=by rw[C.cX];exact hi
 haveI I:=FZ r L.P L.fV L.bo L.bw L.fX;refine kf λb=>jr L.P.cw λdd es nn ks y B l E=>mq (L.P.N.cO _ _ _ y) λaW aZ ge c1 c2 c3=>b<|wpAny_handleBy_cons (codeAny_handlers_test<|sa C hx I ?_) (by intro q;cases q);haveI M:∃hp aM J t os,s=⟨hp,aM,J,t,os⟩:=⟨_,_,_,_,_,rfl⟩;refine kf λb=>nj M λhp aM J z=>jO z λt os j=>?_;clear M;subst j;refine b<|PF I.N.aU ge c1 aO A (DT (zl (C.go.eF D _<|Option.get_mem N).1).1) (C.go.bN _ D (by rw[l];rfl) N) ?_;induction Q:Φ.a.T.sub _ D with|false=>exact aN Q|true=>refine codeAny_handlers_suite_as<|kf λb=>b<|vK (Sl:=jG (Φ.r::Φ.bk)) L.gz λaV f3 e3=>kf λb=>hn (tS a2 L.P L.bo L.bw L.fX f3 (aK:=.none)<|.inr<|.inl e3) λP3 G=>b<|z7 a2 (FZ r P3 L.fV L.bo L.bw G) w (.cG y B E l) λaQ T=>g5 (aP μ _ st aQ _ T.cD<|av Q ks l) (λf aR q=>?_) λv aR q=>(kf λb=>nj q λa a a z=>jk z λa a a P a=>P.c_.elim);.induction f with|next=>exact kf λb=>kA q λaT aU aS k5 Y=>b<|PH a2 Y.gy w λaY au=>⟨_,_,_,k5,au⟩|ret v=>exact jO q λa a z=>jv z λa a q a=>q.elim|brk=>exact kA q λa a a q a=>q.elim|cont=>exact q.elim
noncomputable def sb(G:Gl)(c:Ck)(i D:Nat):ExceptHandler->Bool| .ExceptHandler t n b _=>oB t (jQ λx=>oB n λn=>!b.isEmpty&&mA G c x (.ref D)&&nF G.K (.ref D)==U (.type "type")&&(oE G.K D).isSome&&(G.T.cr D).isSome&&c.slots[i]?==U n)
noncomputable def sc:ExceptHandler->List h4| .ExceptHandler _ _ b _=>b
theorem F0(C:Cx Φ c d)(m:Φ.bk=[]){e:Nat}(f:sb Φ.a c i D a=H) (z:ha (Φ.cD<|.ref e) d h<|sc a)(L:Aj Φ X e μ st l ρ s)(w:Φ.a.T.sub l.b_ D=H->∀ks,Φ.a.T.cr l.b_=U ks->WS Φ.a.T (iN Φ.a d) h (ρ.set i<|U<|.cG l.b_ ks l.dM) st ⟨λρ st=>k.n (ρ.set i V) st,λj j=>False,λj j=>False,λj j j=>False⟩)(y:Φ.a.T.sub l.b_ D=g->g0 Φ.q Φ.C (rJ (.ref e) Φ.r aj) (PS Φ k) (mw Φ k.z) s):g0 Φ.q Φ.C (rJ (.ref e) Φ.r (a::aj)) (PS Φ k) (mw Φ k.z) s:=by cases a with|ExceptHandler t n b p=>refine jF f λt r f=>?_;clear zz3 r;refine jY (P:=λt=>g0 _ _ (rJ _ _ (.ExceptHandler _ n b p::aj)) _ _ s) f λx B f=>jF f λn q f=>?_;clear zz3 q;haveI x1:=f1 f;haveI x2:=f1 x1.1;haveI x3:=f1 x2.1;haveI x4:=f1 x3.1;haveI x5:=f1 x4.1;clear f;cases b with|nil=>exact ff x5.1|cons A o=>exact hz (yh.mp x3.2) λcd a3=>PI C m x5.2 (eq_of_beq x4.2) a3 x2.2 (eq_of_beq x1.2) z L w y
theorem PJ(Y:Φ.y)(q:PX Φ ρ X v s)(h:∀e μ st w s',v=.ref e->Aj Φ X e μ st w ρ s'->g0 Φ.q Φ.C (rJ v Φ.r G) Q E s'):g0 Φ.q Φ.C (noteFrame v Φ.r) (λL b=>g0 Φ.q Φ.C (setFlight v V) (λL f=>g0 Φ.q Φ.C (rJ v Φ.r G) Q E f) E b) E s:=by refine kf λC=>jr q λe μ st x a P D J=>ju J λm i p=>?_;clear q;subst a;exact g6 p.at λT hL I=>hn (Ea Y P hL I) λA B=>C<|zr Y.dr A Y.cK P.eG B λM y n=>hn (tS Y P m i p y<|.inr<|.inr n) λr j=>vK (Sl:=jG (Φ.r::Φ.bk)) n λN z o=>hn (tS Y r m i j z (aK:=.none)<|.inr<|.inl o) λt l=>h e μ st x _ O ⟨t,o,D,m,i,l⟩
theorem PK(C:Cx Φ c d)(r:Φ.bk=[])(Q:ha Φ d b o)(M:sb Φ.a c i D m=H) (T:∀v,ha (Φ.cD v) d h<|sc m)(I:(l=[]/\A=D)\/∃a,l=[a]/\sb Φ.a c i A a=H/\∀v,ha (Φ.cD v) d h'<|sc a):ha Φ d (.dU b i D h A h') [.Try o (m::l) [] [] aa]:=by
 refineλμ ρ st s k B w=>jV<|wpAny_Try_except<|g5 (Q μ ρ st s _ B w) (λf t q=>?_) λv t q=>?_;.induction f with|next=>exact rH q|_=>exact q
 .refine hz q λav q=>PJ C.ok q λe au Y ex s2 E L=>?_;clear q;subst E;have w2:=L.P.c_;refine jr L.P.cw λdd es nn ks N G n J=>?_;dsimp only at w2;rw[n]at w2;refine F0 C r M (T _) L (λl z j=>?_) λl=>?_;.rw[n]at j;exists p;cases j;rw[l]at w2;exact p w2
  .rw[l]at w2;exists p;rcases I with⟨_,rfl⟩|⟨a,rfl,x,y⟩
   .rw[l]at w2;exact w2.elim
   .refine p<|F0 C r x (y _) L (λl z j=>?_) λl=>?_;.rw[n]at j;exists p;cases j;rw[l]at w2;exact p w2
    .rw[l]at w2;exact w2.elim
end
end
section
open PySem PySem.W PySem.Calls PyProof.Rows
section
variable{ai:m8}{w:iI}{A:ix}{E:gZ->hb->Prop}{ac:jL}
theorem PM{aX}(W:Walks ai w A I fp wr n P aX) (a0:n<=qz) (p) (F) {RR:gZ->jL->Result->hb->Prop}(G:∀y∈c.names,y.2≠ .cell) (q:c.kind=.function) (hx:c.names.lookup x=U .local) (aV:aX 0 a.heap) (Q:∀b∈fp,b<a.heap.objs.size)(hq:QuietOn ai w A ac c x aN N wr P p F a)(aS:∀D C h' tk m' aQ (vs:List _),D=a.heap.objs.size->C=a.heap.objs.size+1->D≠C->h'.Ns C m'->h'.IsList D aQ->h'.PlainList D aQ->vs.length=n->(∀j v,vs[j]?=U v->P j v)->Paired F (vs.filter p) aQ.toList->(∀b o,b∉wr->a.heap.get? b=U o->h'.get? b=U o)->RR (.ref D) (u8 c C ac) (.ok .next) {a with heap:=h',toks:=tk}):g0 (ii ai w) A (newList []) (λM f=>g0 (ii ai w) A (newFunctionEnv c ac.globals [] [] ac.qual V .none<|U ac) (λs aP=>la (ii ai w) A (.compStart (.ListComp N [⟨.Name x px,iter,aN,0⟩] c aa) 0 (.ref I) M {s with scope:=c}) (RR M {s with scope:=c}) aP) E f) E a:=by
 refine wpAny_newObj_type<|wpAny_newFunctionEnv G (by intro y a2;simp at a2) (λav k h=>?_) q;generalize B:a.heap.push _=L at k h ⊢;have aR:L.objs.size=a.heap.objs.size+1:=by rw[<-B,kI]
 have z:a.heap.objs.size≠L.objs.size:=by rw[aR];exact iw<|kg _
 have d:∀b,b<a.heap.objs.size->b≠L.objs.size/\b≠a.heap.objs.size:=λb aY=>⟨by rw[aR];exact iw<|pv aY,iw aY⟩;have r:=λb o e=>h.extBut b o (d b<|ih e).1<|jw _ (B▸jw _ e);have l:=W.frame _ _ _ aV λb a4=>r b;have t:∀f,f={a with heap:=av,toks:=a.toks+([]:List (g2×gZ)).length}->la (ii ai w) A (.compLoop (.ListComp N [⟨.Name x px,iter,aN,0⟩] c aa) 0 (.ref I) (.ref a.heap.objs.size)<|u8 c L.objs.size ac) (RR (.ref a.heap.objs.size)<|u8 c L.objs.size ac) f:=by
  rintro f rfl
  exact codeAny_compLoop_walk W p F hx (by simp[u8,q]) z (λJ=>jI _<|Q _ J) (λJ=>by have:=Q _ J;rw[aR]at this;exact jI _<|B4 this) l ⟨_,h.extBut _ _ z<|jw _ (B▸m_ _ O)⟩ k (λi v f aO aW au J T=>hq.tests _ i v _ _ _ aW au J λb o m e=>T b o (d b<|ih e).1 m (d b<|ih e).2<|r b o e) (λi v f aO aW aU au J T=>hq.elt _ i v _ _ _ aW aU au J λb o m e=>T b o (d b<|ih e).1 m (d b<|ih e).2<|r b o e) λh' tk m' aQ vs au aZ aT Y hP hF T=>aS _ _ h' tk m' aQ vs O aR z au aZ aT Y hP hF λb o m e=>
   T b o (d b<|ih e).1 m (d b<|ih e).2<|r b o e
 exact codeAny_compStart_list (t _ O)<|W.self 0 _ _ _ l<|t _ O
theorem PN(p)(F)(a4:swapsWith (.ListComp T [⟨.Name x px,iter,aQ,0⟩] a aa) (U<|.Name y bi) aR.line ac=pure H)(J:∀z∈a.names,z.2≠ .free) (B:∀z∈a.names,z.2≠ .cell) (k:a.kind=.function)(l:∀z∈a.names,z.2=.local->a.names.lookup z.1=U .local) (hx:a.names.lookup x=U .local)(bh:ac.kindOf y=U .local) (hp:(ac.scope.kind== .class||(ac.scope.kind== .module&&ac.locals !=ac.globals))=g)(h:g0 (ii ai w) A (eval iter ac) (λbd t=>g0 (ii ai w) A (pyIter bd) (λbc c=>∀G,(∀I fp wr n P aT m,bc=.ref I->Walks ai w A I fp wr n P aT->n<=qz->aT 0 c.heap->(∀b∈fp,b<c.heap.objs.size)->ac.locals∉wr->c.heap.Ns ac.locals m->QuietOn ai w A ac a x aQ T wr P p F c->(∀D h' tk aS (vs:List _),D=c.heap.objs.size->h'.IsList D aS->h'.PlainList D aS->vs.length=n->(∀j v,vs[j]?=U v->P j v)->Paired F (vs.filter p) aS.toList->h'.Ns ac.locals (λz=>if z=y then U<|.ref D else m z)->(∀b o,b≠ac.locals->b∉wr->c.heap.get? b=U o->h'.get? b=U o)->Q .next {c with heap:=h',toks:=tk})->G)->G) E t) E s)(bg:∀x,BU iter ac x=pure x:=by rfl):g0 (ii ai w) A (exec (.Assign [.Name y bi] (.ListComp T [⟨.Name x px,iter,aQ,0⟩] a aa) aR) ac) Q E s:=by
 rw[exec_Assign_Name_used _ _ _ _ a4];refine hk<|oH<|hk ?_;refine hk<|g5 (wpAny_comprehension_use O bg J k l<|g5 h (λbd t aP=>g5 aP (λbc c q=>?_) λN N e=>e) λN N e=>e) (λN s' hq=>ib<|ib hq) λN N e=>e;refine q _ λI fp wr n P aT m e W a7 a2 aX aU aZ hq bf=>?_;rw[e];refine PM (RR:=λbe i r s'=>match r with| .ok _=>g0 _ A _ (λN M=>∃m,M.heap.Ns i.locals m/\∀h',lD i.locals M.heap h'->Q _ {M with heap:=h'}) E s'| .error x=>∃m,s'.heap.Ns i.locals m/\∀h',lD i.locals s'.heap h'->g0 _ A (passOn _ x i) _ E {s' with heap:=h'}) W a7 p F B k hx a2 aX hq ?_;intro D C h' tk m' aS vs a' a_ Y a0 aY aO aN hP hF ba;have au:ac.locals≠C:=by rw[a_];exact iw<|pv aZ.lt
 have av:ac.locals≠D:=by rw[a'];exact iw aZ.lt
 refine wpAny_assign_Name<|JJ bh (aZ.at' λo=>ba _ o aU) (λq L d=>?_) hp;refine⟨m',a0.sameBut d<|Ne.symm au,λbb f=>?_⟩;exact bf D _ _ aS vs a' ((aY.extBut d.extBut<|Ne.symm av).extBut f.extBut Y) ((aO.extBut d.extBut<|Ne.symm av).extBut f.extBut Y) aN hP hF (L.sameBut f au) λb o aV aW e=>f.extBut b o (by rw[a_];exact iw<|pv<|ih e)<|d.extBut b o aV<|ba b o aW e
end
end
section
open PySem PySem.W PySem.Calls PyProof.Rows
noncomputable def Ak(c:Ck)(i:Nat)(N:Int)(x y:g2)(f e:ku)(b:g_)(a:Scope):Bool:=c.slots[i]?==U y&&f.line==e.line&&!(a.names.any λ(n,k)=>n==y&&(k== .local||k== .cell))&&a.names.all (λz=>z.2 != .free&&z.2 != .cell&&(z.2 != .local||a.names.lookup z.1==U .local))&&a.kind== .function&&a.names.lookup x==U .local&&decide (0<N)&&lq b&&x !=("__debug__":g2)
section
variable{Φ:Fm}{c:Ck}{d:Nat}
theorem PO(r:hZ G μ (v::f) (a::as)):RelV G μ v a/\hZ G μ f as:=by cases r with|cons b e=>exact⟨b,e⟩
theorem PP{a:List Int}(r:hZ G μ m<|a.map .int)(p:Paired (λv y=>∃i t u,v=yi i t/\y=yi (jg i N) u) m n):hZ G μ n<|a.map λi=>.int<|jg i N:=by
 induction p generalizing a with
 |nil=>cases a with|nil=>exact .nil|cons=>cases r
 |cons h _ l=>cases a with
  |nil=>cases r
  |cons j a=>haveI b:=PO r;refine kA h λi t u e f=>hz b.1.R λo k=>?_;rw[f,(yi.inj<|e.symm.trans k).1];exact .cons (.int _ _)<|l b.2
set_option tactic.hygienic true in
theorem PQ(C:Cx Φ c d)(hq:(!c.bx)=H)(h:Ak c i N x y bi cp iter M=H)(bt:Good Φ c d e<|.d iter):ha Φ d (.bW [i]<|.dR N e) [.Assign [.Name y bi] (.ListComp (.BinOp (.Name x bD) .Mod (.Constant (.int N) kk bE) bF) [⟨.Name x px,iter,[],0⟩] M cp) sp]:=by
 unfold Ak at h;simp only[iG,beq_iff_eq,decide_eq_true_eq,rx]at h;refine hn h λL a9=>?_;clear h;refine hn L λaQ a8=>?_;clear L;obtain⟨⟨⟨⟨⟨⟨a1,a2⟩,a3⟩,a4⟩,a5⟩,a6⟩,a7⟩:=aQ;haveI T:Φ.slots[i]?=U y:=by rw[C.cX];exact a1
 haveI bh:=C.ok.slot i y T;haveI av:=λz I=>by haveI:=lH.mp a4 z I;simp only[iG,bne_iff_ne,Cd,beq_iff_eq]at this;exact lI this.1.1 this.1.2 λq=>this.2.resolve_left λw=>w q
 refineλμ ρ st s k D w=>jV<|PN (λau=>H) (λv y=>∃i t u,v=yi i t/\y=yi (jg i N) u) ?_ (λz I=>(av z I).1) (λz I=>(av z I).2.1) a5 (λz I=>(av z I).2.2) a6 bh (pk C.ok) (g5 (bt.1 μ ρ st s _ _ D w) (λv A q=>?_) λau au=>jz)<|t_ a8
 .show(pure (Φ.r.blockKind== .function&&Φ.r.kindOf y==U _&&bi.line==cp.line&&!(M.names.any _)))=pure _;rw[a3,a2,bh];haveI:Φ.r.blockKind=.function:=by unfold jL.blockKind;rw[C.ok.kind];rfl
  rw[this];simp
 .exists Q;obtain⟨bx,a,bd,k1,bz,bj,D1⟩:=q;refine qS k1 λm l ex hc k1=>?_;rw[ex]at bj
  ··refine g6 k1 λis aN k2=>?_
    clear k1
    subst aN
    revert Q;refine RelV.e9 bj D1.N hc ?_;intro b bA bB q Q
    obtain⟨vs,n,c1,c2,c3⟩:=q
    haveI aP:=c2.len
    rw[xQ,h8]at aP
    rw[h8]at c3
    refine Q<|wpAny_pyIter_list ⟨_,c1,rfl,n,rfl⟩<|g6 D1.ns λbv a_ hr=>?_
    haveI bl:=ih c1
    have r:=C.ok.j
    refineλG k=>k _ _ _ _ _ _ bv O (Walks.list (C.de (by simpa using hq)) _ b (iw bl) vs) (by rw[aP];apply f2<;>right) ⟨⟨_,m_ _ O,rfl,rfl⟩,_,jw _ c1,rfl,n,rfl⟩ (λz I=>?_) ?_ (r▸(a_.push {cls:=.type "list_iterator",data:=.fields #[.ref b,.int 0 0]})) ⟨(λbf j v B aU bk bc aT aO aZ bb=>ib ⟨rfl,B.heap,B.toks,rfl,λau au e=>e⟩),?_⟩ ?_
    .rw[show({A with heap:=A.heap.push _}:hb).heap.objs.size=A.heap.objs.size+1 from kI ..]
     exists Q;rcases ir.mp I with rfl|I
     .exact Q<|kg _
     .refine Q ?_;rw[iJ.mp I];exact pv bl
    .intro q
     rw[r]at q
     exact absurd D1.cB (by rw[iJ.mp q];exact jI _)
    .intro bf j v B aU bk bc _ aT aO aZ bb
     have bu:=by
      haveI:=(uX.mp bc).1
      exact ja<|lK<|lK (f2 (jP this) (jh aP))
     refine kf λQ=>g6 (oU c2 (by rw[n6,mo bu];rfl)) λbG Y e2=>?_
     rw[oG,bc]at Y
     clear zz3 (Eq.symm<|ia Y) e2
     refine hz (tK e2) λt ev=>?_
     clear zz3 ev Q aO
     refine Q<|B6<|sM (qq (show(u8 _ bf _).scope.kind=.function from a5) a6 aT aO<|xB ?_) (by simpa using a9)
     exact I_ (by lia) ⟨⟨_,_,_,rfl,rfl⟩,B.heap,_,rfl,λau au e=>e⟩
    .intro aW h' tk bw aV aY hl ba aR hP hF a' bg
     rw[(JO.mpr λau au=>rfl)]at hF
     haveI be:aV=vs.toList:=by
      refine List.ext_getElem? λj=>?_
      induction z:aV[j]? with
      |some v=>rw[oG];exact(hP j v z).symm
      |none=>
       rw[J3]at z
       rw[oG,JL]
       exact f2 (jh aR.symm) z
     subst be
     refine hz ba λnn hg=>?_
     rw[(kI ..)]at aY
     have J:=λa o hL e=>bg a o (by rw[r];exact hL) (λq=>by
      haveI:=ih e
      rw[iJ.mp q]at this
      exact jI _ this)<|jw _ e
     haveI bn:=D1.N.same (by
      haveI z:=ih hg
      rw[aY]at z
      exact f2 (jo _)<|jM z) λa o e w=>J a o (λq=>by
       clear zz3 q w
       rcases w with w|w|⟨bC,w⟩
       .exact absurd w<|jE.mpr<|f2 C.ok.bn C.ok.b2
       .exact D1.bo w
       .exact D1.bw _ w O) e
     haveI E:A.heap.objs.size<aW:=by rw[aY];exact kg _
     haveI aS:=D1.N.bR _<|hJ _
     haveI aX:=h1.bA (a:=aW)<|D1.N.cg _ aS
     haveI bo:=bn.fJ (c:=.m _) (ae:=bd.new _) aS (λq=>by cases q) ⟨f2 D1.N.bn<|jM E,ih hg⟩ (λm=>absurd (D1.N.bu _ m).2<|jE.mpr<|jM E) (λp hp q=>absurd (ih (D1.N.t p hp).1)<|jE.mpr (q▸jM E))
      ⟨bw,nn,hg,(PP c2 hF).aR aX,by rw[h8];exact c3⟩ rfl (CM _ _) λk bg=>⟨by apply jM<;>right,λq=>by haveI:=vl q;apply iP<;>right⟩
     refine⟨_,_,_,k2,D1.ext.trans aX,bo,λa o e n=>J a o (iw<|hD (ih e) C.ok.b2)<|D1.bv a o e n,⟨_,r▸a',λj z a Y e2=>?_⟩,λq=>?_,D1.bw,λa q=>?_,D1.bg,D1.bX,D1.bY,D1.b3⟩
     .by_cases q:z=y
      .clear zz3 q Y
       have:=tJ C.ok.nodup Y T
       clear zz3 (Eq.symm this) e2
       have a0:=by
        cases oD j _ with
        |inl h=>exact h
        |inr h=>
         have f:=e2
         rw[xy (by rw[xz];exact h)]at f;cases f
       have f:=e2
       rw[BB a0]at f
       cases f
       exact h9 (.ref aW) (if_pos O)<|.mut (oQ _ _ _) λq=>by cases q
      .haveI f:=e2
       rw[BC λw=>by clear zz3 w T;rw[T]at Y;exact q (ia Y).symm]at f
       exact g6 (hr j z a Y f) λu bp br=>h9 u ((if_neg q).trans bp)<|br.aR aX
     .exists Q;rcases q.bA with q|q
      .exact absurd D1.cB<|jE.mpr (q▸jM E)
      .exact D1.bo q
     .rcases q.bA with q|q
      .exact .inr (q▸f2 (D1.ds C.ok) (jM E))
      .exact D1.a' a q
end
end
section
open PySem PySem.W PySem.Calls PyProof.Rows
noncomputable def Mu.cE(μ:Mu)(x a C:Nat):Mu:={μ with L:=U (x,a),t:=(x,ky C a)::μ.t}
theorem h1.cE(h:μ.L=V):h1 μ<|μ.cE x b C:=⟨(λp e=>by rw[h]at e;cases e),λa a e=>e,λa=>.tail _,λa e=>e⟩
theorem h_.cE(h:h_ (μ.cE x e C) a):a=e\/h_ μ a:=by
 exists b;rcases h with⟨y,h⟩|h|h
 .cases h;exact b<|.inl O
 .exact b<|.inr<|.inr<|.inl h
 .exact b<|.inr<|.inr<|.inr h
section
variable{G:Gl}{μ:Mu}{st:St}{h h':je}
theorem Inv.fg(I:Inv G μ st h)(hp:st.L=V)(i:∀b o,h.get? b=U o->h'.get? b=U o)(z:h'.get? h.objs.size=U (i4 [] 0))(t:h'.get? (h.objs.size+1)=U (ky G.T.a6 h.objs.size)):Inv G (μ.cE (h.objs.size+1) h.objs.size G.T.a6) {st with L:=U ([],[])} h':=by
 haveI E:h1 μ<|μ.cE (h.objs.size+1) h.objs.size G.T.a6:=h1.cE<|I.cA hp;haveI j:=B4<|ih t;haveI k:=I.bn;refine⟨λa o e=>i a o<|I.aU a o e,I.cu,λp f=>?_,λks x e=>?_,(λe=>by cases e),λm c e=>(g6 (I.cp m c e) λa J hc=>h9 a J<|(hc.aR E).dj λo e=>i a o e),I.cg,λa D d e=>(jv (I.cO a D d e) λo x C r=>ki o x (i _ _ C) r),λa e=>?_,I.inj,λy a m l n=>(absurd (xP<|ia l).2.symm<|iw (I.bu a<|.inr (.inl ⟨m,n⟩)).2),λy a D d l n=>(absurd (xP<|ia l).2.symm<|iw (I.bu a<|.inr (.inr ⟨D,d,n⟩)).2),I.cv,I.bR,I.c8,f2 k<|jM j⟩
 .rcases ir.mp f with rfl|f
  .refine lI t (lb k) λq=>?_;rcases q.cE with q|q
   .exact x9 _ q
   .exact Nat.not_succ_lt_self (I.bu _ q).2
  .refine ju (I.t p f) λw A B=>lI (i _ _ w) A λq=>?_;rcases q.cE with q|q
   .exact iw (ih w) q
   .exact B q
 .cases e;exact l5 _ _ _ 0 O (.head _) z .nil
 .rcases e.cE with q|q
  .exact q▸⟨k,j⟩
  .exact⟨(I.bu a q).1,qw (I.bu a q).2 j⟩
end
section
variable{Φ:Fm}{c:Ck}{d:Nat}{μ:Mu}{ρ:Loc}{st:St}{s:hb}{Q:AV->St->Prop}{X:hv->St->Prop}
theorem Dy.fg(m:Φ.y)(D:Dy Φ μ ρ st s)(hp:st.L=V):Dy Φ (μ.cE (s.heap.objs.size+1) s.heap.objs.size Φ.a.T.a6) ρ {st with L:=U ([],[])} {s with heap:=(s.heap.push oI).push<|ky Φ.a.T.a6 s.heap.objs.size}:=by
 haveI k2:∀b o,s.heap.get? b=U o->((s.heap.push oI).push<|ky Φ.a.T.a6 s.heap.objs.size).get? b=U o:=λb o e=>jw _<|jw _ e;haveI k:=by haveI:=m_ (s.heap.push oI) (o:=ky Φ.a.T.a6 s.heap.objs.size) O;rwa [kI]at this
 haveI D1:=D.keeps (t:=s.toks) (by rw[kI,kI];exact iy _ 2) k2;haveI j:=D.cB;haveI l:=D.ds m;refine D1.eE (h1.cE<|D.N.cA hp) (D.N.fg hp k2 (jw _<|m_ _ (o:=oI) O) k) (λq=>?_) (λp hp=>?_) (λa q=>?_) λp hp=>?_
 .rcases q.cE with q|q
  .exact iw j q
  .exact D.bo q
 .rcases ir.mp hp with f|hp;clear zz3 f
  .exact iP<|pv j
  .exact D.bw p hp
 .rcases q.cE with q|q
  .exact .inr (q▸l)
  .exact D.a' a q
 .rcases ir.mp hp with i|hp;clear zz3 i
  .exact .inr<|lb l
  .exact D.bg p hp
structure F1 (G:Gl)(f:Nat):Prop where
 fa:makesIn G.K G.T.a6=H
 init:iB G.K (.ref G.T.a6) "__init__"=U (U (.ref f))
 fn:nF G.K (.ref f)=U (.type "function")
theorem PT(C:Cx Φ c d)(Y:Φ.C.depth+1+d<900/\Φ.C.units+8+8*d<9000)(hq:(!c.bx||Φ.a.quiet f)=H)(P:F1 Φ.a f){ps:i6}(aR:mA Φ.a c x (.ref Φ.a.T.a6)=H)(m:oZ T []=H)(aS:mL Φ.a.K (.ref Φ.a.T.a6)=H)(aT:c.bp f=U (a7::ps)) (aU:Good Φ c d args<|.a9 ps T []) (D:Dy Φ μ ρ st s) (w:WE Φ.a.T (iN Φ.a d) (.dS f args) ρ st Q X):g0 Φ.q Φ.C (eval (.Call (.Name x np) T [] aa) Φ.r) (PE Φ ρ μ Q) (PX Φ ρ X) s:=by
 haveI a_:=C.ok;rw[iG]at m;obtain⟨aQ,L,a'⟩:=C.bp f _ aT;refine a'.cw.cC λw0 au n E I=>?_;obtain⟨aV,aW⟩:=aU au I m.1 m.2;refine Call_ O<|sa C aR D<|r9 aS m.1 m.2 (g5 (aW μ ρ st s _ X _ D w) (λA aN q=>g5 q (λks o q=>?_) λE E q=>q) λE E q=>q);exists j;obtain⟨n1,a4,p,l,aZ,k2,aP,aX,D2⟩:=q;refine j ⟨D2.N.aU,?_⟩;haveI z:(my []).zip ks=[]:=rfl;refine kf λj=>C7 k2 λb k2=>?_
 .haveI hK:=D2.N.aU;haveI k:=D2;obtain⟨y,aM,dr,t,os⟩:=o;refine j<|oF<|make_core (makes_of hK P.fa) (qu hK P.init) (λav=>bind_fn hK _ P.fn) (.inl O) ?_;haveI i:=k.fg a_ b;dsimp only at i;haveI M:h1 p<|p.cE (y.objs.size+1) y.objs.size Φ.a.T.a6:=h1.cE<|k.N.cA b;haveI ok:i5 (j_<|kC _ L) (kJ (y.objs.size+1)::A).length _=true:=by rw[n];show i5 _ A.length _=H;rw[n1];exact aV
  haveI B:=oW (kw:=[]) a'.dt a'.du a'.dv a'.dw a'.cW (oX i.N.aU a'.cV) a'.b8 ok;rw[(by rw[n];rfl:fill (kC _ L) (kJ (y.objs.size+1)::A) []=kJ _::fill au A [])]at B;refine u0 (k2 _ _ _ _ _ _ _ ⟨(Y.1),?_⟩ a_.dr (v' C hq) (i.c9 a_) i.N (.cons (.L O)<|aX.aR M) a'.at_ B) λr s' q=>?_;.refine n3 (iu (show Φ.C.units+_<=Φ.C.units+8 from iU ?_ _) _) Y.2;exact jN O
  .induction r with|error e=>exact D4 a_ i q|ok fl=>
    induction fl with
    |ret v=>exists j;obtain⟨a2,a,a0,J,N,aY,aO⟩:=D3 a_ i q;obtain⟨rfl,J⟩:=KI J;clear zz3 aY.R j;exact j ⟨rfl,_,_,_,J,(aP.trans M).trans N,.L<|N.L _ O,aO⟩
    |next=>exact q.2.elim|brk=>exact q.2.elim|cont=>exact q.2.elim
end
end
section
open PySem PySem.W PySem.Calls PyProof.Rows
noncomputable section
structure Sk where
 c':Nat->Option i6
 en:Bool
noncomputable def F2(c:Ck):Ck:={c with bx:=H}
noncomputable def PU(f:g_->g_->Bool):BA->Bool|⟨t,e,b,a⟩=>l0 b&&a==0&&f t e
noncomputable def F3(G:Gl)(c:Ck)(m:List Nat)(N:Int)(e:DE)(s:List g_):g_->Bool:=Dk λh j p f=>l1 (λy=>Dl (λy n=>vu (λl o r=>Dh o&&jQ (λx=>qW (tG λb=>decide (N=b)&&l1 (PU λt a=>jQ (λq=>decide (x=q)&&l1 (λi=>Ak c i N x y n f a p&&!c.bx&&jS G c e (.d a)) m) t) j) r) l) h) y) s
noncomputable def Am(G:Gl)(f:Nat):Bool:=makesIn G.K G.T.a6&&iB G.K (.ref G.T.a6) "__init__"==U (U (.ref f))&&nF G.K (.ref f)==U (.type "function")
theorem PV(h:Am G f=H):F1 G f:=by unfold Am at h;simp only[iG,beq_iff_eq]at h;exact⟨h.1.1,h.1.2,h.2⟩
noncomputable def F4(G:Gl)(k:Sk)(c:Ck)(b:List Nat)(f:Nat)(args:DE)(e:List g_):g_->Bool:=kj λaM a ag h=>l0 ag&&jQ (λx=>k.en&&Am G f&&mA G c x (.ref G.T.a6)&&oZ a []&&mL G.K (.ref G.T.a6)&&(!c.bx||G.quiet f)&&lR c.slots b e&&oB (c.bp f) (lc λh ps=>jS G c args (.a9 ps a []))) aM
noncomputable def PW:DE->Option (Int×DE)| .dR N e=>U (N,e)|_=>V
noncomputable def PY:DE->Option (Nat×DE)| .dS f a=>U (f,a)|_=>V
noncomputable def F5(G:Gl)(k:Sk)(c:Ck)(a:List Nat)(e:DE)(b:List g_)(x:g_):Bool:=match PW e with|U p=>F3 G c a p.1 p.2 b x|V=>match PY e with|U p=>F4 G k c a p.1 p.2 b x|V=>lP x&&lR c.slots a b&&jS G c e (.d x)
noncomputable abbrev An:=Ck->List h4->Bool
noncomputable def PZ(f:Nat->Bool):DE->Bool:=dA f g8 g
noncomputable def P0:AV->Bool| .none=>H|_=>g
noncomputable def P4:DE->Bool:=dA g8 P0 g
noncomputable def F6(G:Gl)(c:Ck)(e:DE):List h4->Bool:=l1 (y_ λx=>lP x&&jS G c e (.d x))
noncomputable def F7(G:Gl)(c:Ck)(a:List Nat)(e:DE):List h4->Bool:=l1 (pP λb x=>l1 (vw λf=>!c.bx&&lP x&&vN x&&lR c.slots a f&&jS G c e (.d x)) b)
noncomputable def F8(G:Gl)(c:Ck)(e:DE)(f:Nat)(x:DE):List h4->Bool:=l1 (pP λa y=>l1 (lO λo n b=>nN G n f&&lP y&&jS G c x (.d y)&&jS G c e (.d o)) a)
noncomputable def F9(G:Gl)(c:Ck)(e:DE)(f:Nat)(m:iV):List h4->Bool:=l1 (pP λa y=>l1 (lO λo n b=>jQ (λx=>PZ (λi=>(c.slots[i]?==U x&&x !=("__debug__":g2))&&nN G n f&&Ai m y) e) o) a)
noncomputable def F_(G:Gl)(c:Ck)(e i x:DE):List h4->Bool:=l1 (pP λa y=>l1 (tF λo j=>lP y&&jS G c x (.d y)&&jS G c e (.d o)&&jS G c i (.d j)) a)
noncomputable def F'(G:Gl)(c:Ck)(e i:DE):List h4->Bool:=l1 (Ds (l1 (tF λo j=>jS G c e (.d o)&&jS G c i (.d j))))
noncomputable def Ga(G:Gl)(c:Ck)(i:Nat)(o:Op)(e:DE):List h4->Bool:=l1 (za λt op y=>jQ (λx=>c.slots[i]?==U x&&(t8 o&&q8 (nv o) op)&&jS G c e (.d y)) t)
noncomputable def Gb(G:Gl)(c:Ck)(e:DE)(f:Nat)(o:Op)(x:DE):List h4->Bool:=l1 (za λt op y=>lO (λq n a=>nN G n f&&(t8 o&&q8 (nv o) op)&&jS G c e (.d q)&&jS G c x (.d y)) t)
noncomputable def Gc(G:Gl)(c:Ck)(f:List Nat)(e:DE)(a b:g_):Bool:=!c.bx&&pY c.slots f a&&lq b&&jS G c e (.d b)
noncomputable def Ao(G:Gl)(c:Ck)(h:List Nat)(e:DE)(nm:g2)(v:gZ)(a:g_):g_->Bool:=kj λaM b ag i=>l0 ag&&jQ (λf=>l1 (λy=>!c.bx&&pY c.slots h a&&kY G c f v&&jm y&&jS G c e (.d y)) b) aM
noncomputable def Gd(G:Gl)(c:Ck)(f:It)(a:List Nat)(e:DE)(b:List h4->Bool):List h4->Bool:=l1 (Do λt x l r=>l0 r&&b l&&match f with| .m=>Gc G c a e t x| .d8=>Gc G c a e t x| .d7=>Ao G c a e "range" (.type "range") t x| .eC=>vw (λh=>H) t&&Ao G c a e "enumerate" (.type "enumerate") t x)
noncomputable def Ge(G:Gl)(c:Ck)(e:DE):List h4->Bool:=l1 (Dp (qX (P4 e) λx=>jS G c e (.d x)))
noncomputable def Gf(G:Gl)(k:Sk)(c:Ck)(D:Nat)(args:DE):List h4->Bool:=l1 (Dq λo q=>qX H (λb=>g) q&&qX g (kj λaM a ag b=>l0 ag&&jQ (λx=>!c.bx&&mA G c x (.ref D)&&(oZ a []&&jf a.length 500)&&mL G.K (.ref D)&&oB (k.c' D) λps=>jS G c args (.a9 ps a [])) aM) o)
noncomputable def Gg(G:Gl)(k:Sk)(c:Ck)(i D h:Nat)(n p a:An):List h4->Bool:=l1 (y' λb e o f=>l0 o&&l0 f&&lc (λj e=>k.en&&n c b&&sb G c i D j&&p (F2 c) (sc j)&&match e with|[]=>h==D|m::r=>l0 r&&sb G c i h m&&a (F2 c) (sc m)) e)
noncomputable def t'(G:Gl)(k:Sk)(c:Ck)(w:DS):List h4->Bool:=DS.rec (motive:=λa=>An)
 (av:=λa a=>H)
 (dG:=λa l=>l0 l||l1 Dt l)
 (seq:=λa a n h c=>lc λs r=>n c [s]&&h c r)
 (as:=λe c=>F6 G c e)
 (bW:=λj e c=>l1 (pP (F5 G k c j e)))
 (cI:=λj e c=>F7 G c j e)
 (dT:=λe f x c=>F8 G c e f x)
 (co:=λe f m c=>F9 G c e f m)
 (c4:=λe i x c=>F_ G c e i x)
 (dH:=λe i c=>F' G c e i)
 (cJ:=λi o e c=>Ga G c i o e)
 (cz:=λe f o x c=>Gb G c e f o x)
 (ite:=λt a a n h c=>l1 (Dm λx l r=>jS G c t (.d x)&&n c l&&h c r))
 (bm:=λt a h c=>l1 (Dn λx l o=>l0 o&&jS G c t (.d x)&&h c l))
 (cb:=λA j e a h c=>Gd G c A j e (h c))
 (ret:=λe c=>Ge G c e)
 (brk:=λa=>l1 Du)
 (ea:=λD args c=>Gf G k c D args)
 (eb:=λe c=>l1 (Dr λx=>jS G c e (.d x)))
 (eD:=λa h c=>l1 (y' λb z o f=>l0 o&&l0 f&&lc (λa a=>H) z&&h c b))
 (dU:=λa i D a q a h y p c=>Gg G k c i D q h y p) w c
theorem P5:ha Φ d .av l:=λμ ρ st s k D w=>by haveI a:=w;exact a.elim
structure Kx (Φ:Fm)(k:Sk)(d:Nat):Prop where
 dy:∀C ps,k.c' C=U ps->we Φ.a C ps
 eW:k.en=H->Φ.bk=[]
 a7:k.en=H->Φ.C.depth+1+d<900/\Φ.C.units+8+8*d<9000
theorem Kx.gA(K:Kx Φ k d)(s:pW Φ a):Kx a k d:=⟨λC ps h=>s.1▸K.dy C ps h,λh=>s.2.1.trans<|K.eW h,λh=>by rw[s.2.2.2.2];exact K.a7 h⟩
theorem P6(C:Cx Φ c d){s}{N}{e}(h:F3 Φ.a c s N e w x=H):ha Φ d (.bW s<|.dR N e) [.Assign w x aa]:=Ln (P:=λx=>ha Φ d _ [.Assign w x _]) h λA j f b h=>iL (P:=λw=>ha Φ d _ [.Assign w _ _]) h λy h=>Lo (P:=λy=>ha Φ d _ [.Assign [y] _ _]) h λy T h=>zb (P:=λA=>ha Φ d _ [.Assign _ (.ListComp A j f b) _]) h λl o r z h=>haveI B:=f1 h;jY (P:=λl=>ha Φ d _ [.Assign _ (.ListComp (.BinOp l o r z) j f b) _]) B.2 λx au h=>r1 (P:=λr=>ha Φ d _ [.Assign _ (.ListComp (.BinOp _ o r z) j f b) _]) h λkk J L h=>vz (P:=λkk=>ha Φ d _ [.Assign _ (.ListComp (.BinOp _ o (.Constant kk J L) z) j f b) _]) h λQ h=>haveI D:=f1 h;iL (P:=λj=>ha Φ d _ [.Assign _ (.ListComp _ j f b) _]) D.2 λaM m=>by obtain⟨t,I,n,a⟩:=aM;haveI m:=f1 m;haveI E:=f1 m.1;exact iH (P:=λn=>ha Φ d _ [.Assign _ (.ListComp _ [⟨t,I,n,a⟩] f b) _]) E.1<|jY (P:=λt=>ha Φ d _ [.Assign _ (.ListComp _ [⟨t,I,_,a⟩] f b) _]) m.2 λY M p=>by haveI p:=f1 p;clear m h;induction of_decide_eq_true p.1;clear m h;induction of_decide_eq_true D.1;clear h;cases eq_of_beq E.2;refine iL (P:=λs=>ha Φ d (.bW s _) _) p.2 λi q=>?_;haveI q:=f1 q;haveI G:=f1 q.1;clear h;induction o<;>first|exact absurd B.1 (by decide)|exact PQ C G.2 G.1<|jU C _ _ q.2
theorem P7(C:Cx Φ c d)(K:Kx Φ k d)(h:F4 Φ.a k c E f args e x=H):ha Φ d (.bW E<|.dS f args) [.Assign e x aa]:=kl (P:=λx=>ha Φ d _ [.Assign e x _]) h λaM o ag n h=>haveI p:=f1 h;iH (P:=λag=>ha Φ d _ [.Assign e (.Call aM o ag n) _]) p.1<|jY (P:=λaM=>ha Φ d _ [.Assign e (.Call aM o _ n) _]) p.2 λx Y h=>haveI h:=f1 h;haveI r:=f1 h.1;haveI t:=f1 r.1;haveI y:=f1 t.1;haveI z:=f1 y.1;haveI A:=f1 z.1;haveI B:=f1 A.1;jF h.2 λb i j=>kX (P:=λb=>c.bp f=U b->ha Φ d _ _) j (λT ps j i=>by intro μ ρ st s kk D w;haveI m:=r.2;rw[<-C.cX]at m;refine jV<|B3 (g5 (PT C (K.a7 B.1) t.2 (PV B.2) A.2 z.2 y.2 i (jU C _ _ j) D w) (λv G q=>?_) λM M=>jz) (zS O) (FH m);obtain⟨N,a,L,k1,Q,J,D1⟩:=q;exact FI C.ok E e ρ _ m D1 J λs' I=>⟨_,_,_,k1,I⟩) i
theorem P8(C:Cx Φ c d)(K:Kx Φ k d)(h:F5 Φ.a k c a e f x=H):ha Φ d (.bW a e) [.Assign f x aa]:=by haveI b:(lP x&&lR c.slots a f&&jS Φ.a c e (.d x))=H->ha Φ d (.bW a e) [.Assign f x aa]:=λh=>haveI h:=f1 h;haveI i:=f1 h.1;OM C i.1 i.2<|jU C _ _ h.2;induction e<;>first|exact P6 C h|exact P7 C K h|exact b h
noncomputable def ua(k:Sk)(d:Nat)(G:Gl)(a:An)(b:DS):Prop:=∀{Φ:Fm} {c:Ck},Φ.a=G->Cx Φ c d->Kx Φ k d->∀l,a c l=H->ha Φ d b l
section
variable{Φ:Fm}{c:Ck}{d:Nat}(C:Cx Φ c d){k:Sk}(K:Kx Φ k d){l:List h4}
include C
theorem P9(h:F6 Φ.a c e l=H):ha Φ d (.as e) l:=iL h λs h=>DA (P:=λs=>ha Φ d _ [s]) h λx p h=>haveI h:=f1 h;OL C h.1<|jU C _ _ h.2
theorem P_(h:F7 Φ.a c j e l=H):ha Φ d (.cI j e) l:=iL h λs h=>r2 (P:=λs=>ha Φ d _ [s]) h λi x p h=>iL (P:=λi=>ha Φ d _ [.Assign i x p]) h λt h=>zd (P:=λt=>ha Φ d _ [.Assign [t] x p]) h λm n q h=>haveI h:=f1 h;haveI a:=f1 h.1;haveI b:=f1 a.1;haveI f:=f1 b.1;ON C f.1 f.2 b.2 a.2<|jU C _ _ h.2
theorem P'(h:F8 Φ.a c e f x l=H):ha Φ d (.dT e f x) l:=iL h λs h=>r2 (P:=λs=>ha Φ d _ [s]) h λi y p h=>iL (P:=λi=>ha Φ d _ [.Assign i y p]) h λt h=>l9 (P:=λt=>ha Φ d _ [.Assign [t] y p]) h λo n q h=>haveI h:=f1 h;haveI a:=f1 h.1;haveI b:=f1 a.1;OO C b.1 b.2 (jU C _ _ a.2)<|jU C _ _ h.2
theorem Qa(h:F9 Φ.a c e f m l=H):ha Φ d (.co e f m) l:=iL h λs h=>r2 (P:=λs=>ha Φ d _ [s]) h λb y p h=>iL (P:=λb=>ha Φ d _ [.Assign b y p]) h λt h=>l9 (P:=λt=>ha Φ d _ [.Assign [t] y p]) h λo n q h=>jY (P:=λo=>ha Φ d _ [.Assign [.Attribute o n q] y p]) h λx r h=>v0 (P:=λe=>ha Φ d (.co e f m) _) h (λi h=>haveI h:=f1 h;haveI a:=f1 h.1;Pk C a.1 a.2 h.2) ip ff
theorem Qb(h:F_ Φ.a c e i x l=H):ha Φ d (.c4 e i x) l:=iL h λs h=>r2 (P:=λs=>ha Φ d _ [s]) h λf y p h=>iL (P:=λf=>ha Φ d _ [.Assign f y p]) h λt h=>vy (P:=λt=>ha Φ d _ [.Assign [t] y p]) h λo j q h=>haveI h:=f1 h;haveI a:=f1 h.1;haveI b:=f1 a.1;OP C b.1 (jU C _ _ b.2) (jU C _ _ a.2)<|jU C _ _ h.2
theorem Qc(h:F' Φ.a c e i l=H):ha Φ d (.dH e i) l:=iL h λs h=>Lk (P:=λs=>ha Φ d _ [s]) h λa p h=>iL (P:=λa=>ha Φ d _ [.Delete a p]) h λt h=>vy (P:=λt=>ha Φ d _ [.Delete [t] p]) h λo j q h=>haveI h:=f1 h;OQ C (jU C _ _ h.1)<|jU C _ _ h.2
theorem Qd(h:Ga Φ.a c i o e l=H):ha Φ d (.cJ i o e) l:=iL h λs h=>DC (P:=λs=>ha Φ d _ [s]) h λt op y p h=>jY (P:=λt=>ha Φ d _ [.AugAssign t op y p]) h λx q h=>haveI h:=f1 h;haveI a:=f1 h.1;OR C a.1 a.2<|jU C _ _ h.2
theorem Qe(h:Gb Φ.a c e f o x l=H):ha Φ d (.cz e f o x) l:=iL h λs h=>DC (P:=λs=>ha Φ d _ [s]) h λt op y p h=>l9 (P:=λt=>ha Φ d _ [.AugAssign t op y p]) h λq n r h=>haveI h:=f1 h;haveI a:=f1 h.1;haveI b:=f1 a.1;OS C b.1 b.2 (jU C _ _ a.2)<|jU C _ _ h.2
theorem Qf(h:Ge Φ.a c e l=H):ha Φ d (.ret e) l:=iL h λs f=>Lh (P:=λs=>ha Φ d _ [s]) f λo p b=>by induction o with|some x=>exact OU C<|jU C _ _ b|none=>exact v0 (P:=λe=>ha Φ d _ _) b ip (λa h=>by cases a<;>first|exact OV|exact ff h) ff
include K
theorem Qg(h:Gf Φ.a k c D args l=H):ha Φ d (.ea D args) l:=
 iL h λs h=>Li (P:=λs=>ha Φ d _ [s]) h λo q p h=>haveI a:=f1 h;by
  induction q with
  |some=>exists r;cases a.1
  |none=>
   induction o with
   |none=>cases a.2
   |some x=>exact kl (P:=λx=>ha Φ d _ [.Raise _ _ p]) a.2 λaM f ag b h=>haveI a:=f1 h;iH (P:=λag=>ha Φ d _ [.Raise (U<|.Call aM f ag b) _ p]) a.1<|jY (P:=λaM=>ha Φ d _ [.Raise (U<|.Call aM f _ b) _ p]) a.2 λx t h=>haveI h:=f1 h;haveI i:=f1 h.1;haveI j:=f1 i.1;haveI m:=f1 j.1;jF h.2 λps e n=>PD C m.1 m.2 j.2 i.2 (K.dy _ _ e)<|jU C _ _ n
theorem Qh(G:ua k d Φ.a E b)(h:Gd Φ.a c D B e (E c) l=H):ha Φ d (.cb D B e b) l:=iL h λs h=>Lg (P:=λs=>ha Φ d _ [s]) h λt x l r p h=>haveI h:=f1 h;haveI f:=f1 h.1;iH (P:=λr=>ha Φ d _ [.For t x l r p]) f.1 (by haveI h6:∀w,Cx w c d->pW Φ w->ha w d b l:=λw z s=>G s.1 z (K.gA s) l f.2;haveI a:=h.2;clear h;induction D with|m=>exact haveI h:=f1 a;haveI f:=f1 h.1;haveI a:=f1 f.1;Pb C a.1 a.2 f.2 (jU C _ _ h.2) h6|d8=>exact haveI h:=f1 a;haveI f:=f1 h.1;haveI a:=f1 f.1;Pf C a.1 a.2 f.2 (jU C _ _ h.2) h6|d7=>exact kl (P:=λx=>ha Φ d _ [.For t x l _ p]) a λaM i ag j h=>haveI m:=f1 h;iH (P:=λag=>ha Φ d _ [.For t (.Call aM i ag j) l _ p]) m.1<|jY (P:=λaM=>ha Φ d _ [.For t (.Call aM i _ j) l _ p]) m.2 λI J h=>iL (P:=λi=>ha Φ d _ [.For t (.Call _ i _ j) l _ p]) h λy h=>haveI h:=f1 h;haveI f:=f1 h.1;haveI a:=f1 f.1;haveI o:=f1 a.1;Pd C o.1 o.2 a.2 f.2 (jU C _ _ h.2) h6|eC=>exact haveI A:=f1 a;zd (P:=λt=>Ao _ c B e _ _ t x=H->ha Φ d _ [.For t x l _ p]) A.1 (λL n q M a=>kl (P:=λx=>ha Φ d _ [.For _ x l _ p]) a λaM i ag j h=>haveI m:=f1 h;iH (P:=λag=>ha Φ d _ [.For _ (.Call aM i ag j) l _ p]) m.1<|jY (P:=λaM=>ha Φ d _ [.For _ (.Call aM i _ j) l _ p]) m.2 λI J h=>iL (P:=λi=>ha Φ d _ [.For _ (.Call _ i _ j) l _ p]) h λy h=>haveI h:=f1 h;haveI f:=f1 h.1;haveI a:=f1 f.1;haveI o:=f1 a.1;Pe C o.1 o.2 a.2 f.2 (jU C _ _ h.2) h6) A.2)
theorem Qi(G:ua k d Φ.a B b)(I:ua k d Φ.a E hd)(x:ua k d Φ.a w t)(h:Gg Φ.a k c i D n B E w l=H):ha Φ d (.dU b i D hd n t) l:=iL h λs h=>DB (P:=λs=>ha Φ d _ [s]) h λq j o f p h=>haveI h:=f1 h;haveI e:=f1 h.1;iH (P:=λo=>ha Φ d _ [.Try q j o f p]) e.1<|iH (P:=λf=>ha Φ d _ [.Try q j _ f p]) e.2<|kX (P:=λj=>ha Φ d _ [.Try q j _ _ p]) h.2 λJ j h=>by haveI h:=f1 h;haveI e:=f1 h.1;haveI y:=f1 e.1;haveI z:=f1 y.1;refine PK C (K.eW z.1) (G O C K _ z.2) y.2 (λv=>I (Φ:=Φ.cD v) O C.cD ⟨K.dy,K.eW,K.a7⟩ _ e.2) ?_;haveI m:=h.2;clear h;induction j with|nil=>exact .inl ⟨rfl,eq_of_beq m⟩|cons e r=>haveI m:=f1 m;haveI A:=f1 m.1;exact iH (P:=λr=>(e::r=[]/\n=D)\/∃a,e::r=[a]/\sb _ c i n a=H/\∀v,ha (Φ.cD v) d _ (sc a)) A.1 (.inr ⟨e,rfl,A.2,λv=>x (Φ:=Φ.cD v) O C.cD ⟨K.dy,K.eW,K.a7⟩ _ m.2⟩)
end
theorem Qj(k)(d)(G)(B):ua k d G (λc=>t' G k c B) B:=by induction B with|av=>exactλq q q q q=>P5|dG=>exactλq q q l h=>(sN.mp h).elim (λh=>iH h OI) λh=>iL h λs h=>Ll (P:=λs=>ha _ _ _ [s]) h λp=>OJ|seq a b z j=>exactλe C K l h=>kX h λs r h=>haveI h:=f1 h;OK (z e C K _ h.1)<|j e C K _ h.2|as=>exactλe C K l h=>by clear zz3 (Eq.symm e) h;exact P9 C h|bW L e=>exactλe C K l h=>by clear zz3 (Eq.symm e) h;exact iL h λs h=>r2 (P:=λs=>ha _ _ _ [s]) h λT x p=>P8 C K|cI=>exactλe C K l h=>by clear zz3 (Eq.symm e) h;exact P_ C h|dT=>exactλe C K l h=>by clear zz3 (Eq.symm e) h;exact P' C h|co=>exactλe C K l h=>by clear zz3 (Eq.symm e) h;exact Qa C h|c4=>exactλe C K l h=>by clear zz3 (Eq.symm e) h;exact Qb C h|dH=>exactλe C K l h=>by clear zz3 (Eq.symm e) h;exact Qc C h|cJ=>exactλe C K l h=>by clear zz3 (Eq.symm e) h;exact Qd C h|cz=>exactλe C K l h=>by clear zz3 (Eq.symm e) h;exact Qe C h|ite t a b z j=>exactλe C K l h=>by clear zz3 (Eq.symm e) j z h;exact iL h λs h=>Le (P:=λs=>ha _ _ _ [s]) h λx l r p h=>haveI h:=f1 h;haveI n:=f1 h.1;OT C (jU C _ _ n.1) (z O C K _ n.2)<|j O C K _ h.2|bm t b j=>exactλe C K l h=>by clear zz3 (Eq.symm e) j h;exact iL h λs h=>Lf (P:=λs=>ha _ _ _ [s]) h λx l r p h=>haveI h:=f1 h;haveI n:=f1 h.1;iH (P:=λr=>ha _ _ _ [.While x l r p]) n.1<|OY C (jU C _ _ n.2)<|j O C K _ h.2|cb Q L e b j=>exactλe C K l h=>by clear zz3 (Eq.symm e) j h;exact Qh C K j h|ret=>exactλe C K l h=>by clear zz3 (Eq.symm e) h;exact Qf C h|brk=>exactλe C K l h=>iL h λs h=>Lm (P:=λs=>ha _ _ _ [s]) h λp=>OW|ea=>exactλe C K l h=>by clear zz3 (Eq.symm e) h;exact Qg C K h|eb=>exactλe C K l h=>by clear zz3 (Eq.symm e) h;exact iL h λs h=>Lj (P:=λs=>ha _ _ _ [s]) h λx m p h=>OX C<|jU C _ _ h|eD b j=>exactλe C K l h=>iL h λs h=>DB (P:=λs=>ha _ _ _ [s]) h λA w o f p h=>haveI h:=f1 h;haveI n:=f1 h.1;haveI E:=f1 n.1;iH (P:=λo=>ha _ _ _ [.Try A w o f p]) E.1<|iH (P:=λf=>ha _ _ _ [.Try A w _ f p]) E.2<|kX (P:=λw=>ha _ _ _ [.Try A w _ _ p]) n.2 λN w q=>Pl (j e C K _ h.2)|dU b i D hd M J j I y=>exactλe C K l h=>by clear zz3 (Eq.symm e) y I j h;exact Qi C K j I y h
theorem Ap(C:Cx Φ c d)(K:Kx Φ k d)(a)(l)(h:t' Φ.a k c a l=H):ha Φ d a l:=Qj k d _ a O C K l h
end
end
section
open PySem PySem.W PySem.Calls PyProof.Rows
structure Tb where
 cx:g2->Option AV
 bp:Nat->Option i6
 ch:Nat->Option i6
 c':Nat->Option i6
structure Gx (G:Gl)(t:Tb):Prop where
 go:G.y
 cx:∀x a,t.cx x=U a->∃v,G.c5 x=U v/\∀μ,RelV G μ v a
 bp:∀f ps,t.bp f=U ps->∃b D,o0 G f b D ps
 ch:∀C ps,t.ch C=U ps->q_ G C ps
 el:∀C,(G.T.cj C).isSome=H->∃ps,q_ G C ps/\mL G.K (.ref C)=H
 cs:∀f c,G.T.cs f=U c->fnIn G.K f=H/\∃b D sn ps,o0 G f b D ((sn,V)::ps)/\ps.map (·.2)=c.map U
 ca:∀A E Q s f l t u,G.T.dF f l=H->(∀r d k,r.length<=1000000->Q (.str (S r) d) {s with toks:=k})->g0 (ii G.prog G.w) A (pg .Mod (.str (S f) t) (.str (S l) u)) Q E s
 dy:∀C ps,t.c' C=U ps->we G C ps
noncomputable def ub(G:Gl)(t:Tb)(f:Nat)(b:kR)(a:List g2):Ck:=⟨a,λx=>b.scope.names.lookup x,G.quiet f,t.cx,t.bp,t.ch⟩
noncomputable def uc(G:Gl)(b:kR)(a:List g2):Bool:=b.scope.kind== .function&&!b.scope.isCoroutine&&!b.scope.isGenerator&&b.scope.names.all (λx=>x.2 != .cell)&&a.all (λx=>b.scope.names.lookup x==U .local)&&decide a.Nodup&&(it b).isPrefixOf a&&b.globals==pi&&b.builtins==uW&&sP G.K b.code b.qualname
noncomputable def wf(b:FuncBody)(f:List h4->Bool):Bool:=match b with| .stmts h6=>f h6|_=>g
theorem Aq{P:Prop}(h:wf b f=H)(k:∀h6,b=.stmts h6->f h6=H->P):P:=by cases b with|stmts h6=>exact k _ O h|expr e=>exact ff h
noncomputable def Gh(G:Gl)(t:Tb)(f:Nat)(a:List g2)(c:DS):Bool:=oB (kn G f) λb=>wf b.body λh6=>uc G b a&&t' G ⟨t.c',g⟩ (ub G t f b a) c h6
theorem Ar(i:kn G f=U d)(j:d.body=.stmts c)(h:uc G d b=H):vM G f d b c:=by unfold uc at h;simp only[iG,beq_iff_eq,decide_eq_true_eq,rx]at h;exact kf λk=>hn h λa ay=>hn a λa a9=>hz (List.isPrefixOf_iff_prefix.mp (a.1.2)) λr l=>k ⟨i,j,(a.1.1.1.1.1.1.1),(a.1.1.1.1.1.1.2),(a.1.1.1.1.1.2),λx e=>by haveI:=lH.mp (a.1.1.1.1.2) x e;simpa using this,λx e=>by haveI:=lH.mp (a.1.1.1.2) x e;simpa using this,(a.1.1.2),⟨r,l.symm⟩,(a.2),a9,ay⟩
theorem Gx.cv(X:Gx G t)(l:Φ.y)(hG:Φ.a=G)(k:Φ.slots=a)(j:nM Φ.C d)(c:Φ.C.handled=V\/G.quiet f=H)(i:Φ.r.scope=b.scope):Cx Φ (ub G t f b a) d:=by
 subst hG;refine⟨X.go,l,k,λx=>?_,j,c,X.cx,X.bp,X.ch,X.el,X.cs,λq=>?_,X.ca⟩;.show Φ.r.scope.names.lookup x=b.scope.names.lookup x;rw[i]
 .rcases c with h|h
  .exact h
  .haveI e:Φ.a.quiet f=false:=q;rw[h]at e;cases e
noncomputable def wg(a:List g2)(args:List AV):Loc:=args.map U++jD (a.length - args.length) V
theorem Qk(X:Gx G t){st}(h:Gh G t f a j=H)(l:(kn G f).any λk=>(it k).length==args.length=H)(w:WS G.T (iN G d) j (wg a args) st ⟨λi st=>Q .none st,Q,λi i=>False,λi=>Xc⟩):iN G (d+1) f args st Q Xc:=by
 refine kf λm=>jF h λk b h=>Aq h λh6 n h=>?_
 ··haveI h:=f1 h
   rw[b]at l
   refine m<|LW X.go (Ar b n h.1) (beq_iff_eq.mp l).symm λΦ μ s x hG r q p o D=>?_
   haveI C:=X.cv x hG r q p o
   haveI c:=Ap C ⟨λC ps e=>hG▸X.dy C ps e,(iR),iR⟩ j h6 (by rw[hG];exact h.2)
   rw[<-hG]at w
   exact c μ _ st s _ D w
end
section
open PySem PySem.W PySem.Calls PyProof.Rows
theorem Ql(N:G.y){c}{h6}{st}(F:vM G f n c h6)(aO:args.length=(it n).length)(h:∀Φ μ s,Φ.y->Φ.a=G->Φ.slots=c->nM Φ.C d->(Φ.C.handled=V\/G.quiet f=H)->Φ.r=rB n Φ.a2 f->Φ.a.b1<=Φ.a2->Dy Φ μ (args.map U++jD (c.length - args.length) V) st s->yj Φ.q Φ.C (.func h6 Φ.r) (n5 h6 Φ.r) (PS Φ ⟨λl st=>Q .none st,Q,λl l=>False,λl=>X⟩) (mw Φ λl=>X) s):iN G (d+1) f args st Q X:=by
 intro A s μ E L a au room hA hh Y I R e B;rw[F.at_]at e;exists J;cases e;refine J<|g6 (r5 F.at_) λo aP hd=>kf λJ=>hz F.e' λaj j=>J<|ks_codeAny_call_defAt (show A.depth<1000 by have:=room.1;exact ja<|f2 (iu (iy _ _) _)<|f2 (jP this) (by decide)) (I.aU _ _ aP) hd (N.eh _ I.aU) (uY I.aU F.code) F.body B F.cell (λx hx=>?_) (λC w k=>?_) F.dk F.dl F.kind;.refine F.j _ ?_;rw[j];exact sQ _ (uZ hx).1
 .have T:=zs N F hA Y I;have dy:Dy (q1 G A n f c s μ L) μ (args.map U++jD (c.length - args.length) V) st {s with heap:=C,toks:=s.toks+((it n).zip E).length}:=by
   refine⟨h1.refl μ,I.keeps (jM w.lt) k,λb aR e l=>k b aR e,⟨_,w,λi x b e1 m=>?_⟩,I.fresh,λp hp=>iw<|ih (I.t p hp).1,λb=>.inl,λp=>.inl,rfl,rfl,rfl⟩
   .have lt:=by
     cases oD i _ with
     |inl q=>exact q
     |inr q=>
      rw[sR (by rw[h8];exact q)]at m
      have:=k_ m
      rw[BS]at this
      cases this.2
    rw[rD (by rw[h8];exact lt),n6]at m
    have e3:args[i]?=U b:=by
     induction z:args[i]? with
     |none=>rw[z]at m;exists J;cases m
     |some y=>rw[z]at m;cases m;rfl
    refine g6 (oU R e3) λv aQ r=>⟨v,tP ?_ ?_ aQ,r⟩
    .have:=F.nodup
     rw[j]at this
     exact(qF.mp this).1
    .have:c[i]?=U x:=e1
     rw[j,rD (ja<|lK<|lK (f2 (jP lt) (jh aO)))]at this
     exact this
  refine Ce (h _ μ _ T O O (room.deeper _) hh O (f2 I.bn<|hJ _) dy) (λfl s' hp=>?_) λv s' hp=>?_
  .have t:∀v r af ak ae,Q r _->RelV G _ v r->Dy (q1 G A n f c s μ L) _ ak _ s'->RC G s μ L Q X (.ok<|.ret v) s':=λv r af ak ae q aS D=>
    ⟨⟨D.bX,D.bY,D.b3⟩,af,r,ae,q,D.ext,aS,D.N,D.bv,D.a',D.bg⟩
   induction fl with
   |next=>exact kA hp λaf ak ae q=>t _ _ _ _ _ q .none
   |ret v=>exact jO hp λaf ak aT=>jk aT λr ae=>t _ _ _ _ _
   |brk=>refine kA hp λl l l q l=>?_
         induction q
   |cont=>induction hp
  .exact hz hp λak hp=>zt T hp (λb aN=>(g6 (q2 Y aN) λo av l=>ih av)) λh' e af ae x ev P M=>⟨⟨M.1,M.2.1,M.2.2⟩,e,_,_,x,ev,P⟩
end
section
open PySem PySem.W PySem.Calls PyProof.Rows
structure As (G:Gl)(b:kR)(g4:g2)(D l n e:Nat):Prop where
 gB:b.closure.lookup ("__class__":g2)=U n
 cell:∃cl j k,G.K.lookup n=U ⟨cl,j,.cell (U (.ref D)),k⟩
 gC:∃cd,oE G.K D=U cd
 gD:∃cd,oE G.K G.T.a6=U cd
 sub:nE G.K G.T.a6 (.ref D)=U H
 gE:G.c5 "super"=V
 gF:G.dV "super"=U (.type "super")
 gG:b.scope.names.lookup ("super":g2)=U .globalImplicit
 eK:b.scope.names.lookup ("__class__":g2)=U .free
 L:∃m,(b.params.posonlyargs++b.params.args).head?=U m/\m.arg=g4
 code:b.code=.ref e/\∃f i o h a p,G.K.lookup e=U ⟨f,i,.fields o,h⟩/\o[2]?=U (.str a p)/\((G.prog.main.file:g2)==a)=H
 en:(G.prog.main.scope.names.lookup ("super":g2)).isSome=g
 gH:nsIn G.K yk "thirdparty.any"=U V
 di:ks_superIn G.K G.T.a6 D "__init__"=U (U (.ref l))
 gI:nF G.K (.ref l)=U (.type "function")
 gJ:fnIn G.K l=H
section
variable{M:nD}{A:ix}{cd:Code}{E:gZ->hb->Prop}{s:hb}{ac:jL}
theorem Qm(p:jK args ag e aa=H)(h:yj M A cd (xV o name ac<|eval o ac) (λl a=>∀q,g0 M A (getMethod l name q) (λj b=>g0 M A (u1 aa j.1 j.2 (ml aa<|lF args ac)<|mm aa<|mK ag ac) Q E b) E a) E s):yj M A cd (eval (.Call (.Attribute o name e) args ag aa) ac) Q E s:=by refine qK (q7 (ac:=ac) p) λm r t n=>Cb<|Ce h (λl a f=>yg<|hk (oH ?_)) λk k x=>x;unfold methodCall;rw[m];rw[Er n];exact hk<|nc<|g5 (f _) (λj b i=>hk (ib i)) λk k x=>x
end
section
variable{Φ:Fm}{c:Ck}{d:Nat}
theorem Qn(C:Cx Φ c d){f D h cc a0:Nat}(b3:As Φ.a fd aV D h cc a0)(av:Φ.r=rB fd Φ.a2 f)(bx:kn Φ.a f=U fd)(h0:c.slots[(0)]?=U aV){ps:i6}(bv:c.bp h=U (bV::ps))(hq:(!c.bx||Φ.a.quiet h)=H)(aY:jK es [] ap cp=H)(bD:Good Φ c d args<|.a9 ps es []){st}(aW:Dy Φ μ ρ st s)(w:WS Φ.a.T (iN Φ.a d) (.as<|.di h args) ρ st k):yj Φ.q Φ.C (.func bd Φ.r) (exec (.Expr (.Call (.Attribute (.Call (.Name "super" bW) [] [] bX) "__init__" ap) es [] cp) ep) Φ.r) (PS Φ k) (mw Φ k.z) s:=by
 haveI b0:=C.ok;refine jx (show iQ _ _ from w) λo aU w=>jx w λa eo w=>?_;obtain⟨ea,bP⟩:=y1 w;rw[eo,ea]at aU
 .haveI aN:Φ.slots[(0)]?=U _:=by rw[C.cX];exact h0
  refine g6 aW.ns λbT bz hr=>g6 (hr 0 aV _ aN aU) λu bC bh=>jO (zZ aW bh) λx dx ba=>jr ba λbK bL bJ pn j hp bB ba=>hn ba λbA I=>?_;subst j;refine g6 (r5 bx) λof a4 au=>nj b3.cell λcl br bt m=>hz b3.gC λaZ bw=>hz b3.gD λbo hP=>g6 b3.L λar aS Y=>?_;obtain⟨a2,bl,bp,vs,bn,be,bZ,n,a_,p⟩:=b3.code;haveI X:=aW.N.aU;have aP:Φ.r.kindOf "super"=U .globalImplicit:=by rw[av];exact b3.gG
  have aO:Φ.r.kindOf "__class__"=U .free:=by rw[av];exact b3.eK
  haveI y:=b0.kind;obtain⟨hh,aM,dr,t,os⟩:=s;obtain⟨a',L,N⟩:∃a',hh.get? D=U a'/\a'.data=.cls aZ:=(nj (DR bw) λc dd sl a4=>h9 _ (X _ _ a4) O);refine ks_wpAt_Expr_any ?_ (FG b0) O;refine jO (C.bp h _ bv) λbu bb b2=>b2.cw.cC λw0 bg aT G a7=>hn (bD bg a7 (q7 (ac:=Φ.r) aY).2.1 O) λbE bF=>Qm aY<|ks_wpAt_super_base aP aO O (by rw[av];rfl) (X _ _ a4) au aS (by rw[av];exact a2) (X _ _ n) O a_ p b3.en<|ks_loadName_global y aP<|loadGlobal_builtin (b0.b7 _ X) b3.gE (b0.cc _ X) b3.gF ⟨rfl,?_⟩;refine wpAny_loadName_free y aO (by rw[av];exact b3.gB) ⟨_,X _ _ m,rfl⟩<|qq y (by rw[Y];exact b0.slot 0 _ aN) (b0.j▸bz) (Y▸bC)<|ks_wpAny_isType_cls L N ⟨rfl,?_⟩;refine ks_wpAny_call_super L N I.at_ I.cls (λc e=>?_) (uV X b3.sub) λh' e kp=>?_;.cases e
  intro pl;haveI D1:=aW.eV b0 (t:=t) kp;haveI J:=D1.N.aU;obtain⟨bI,aQ,aR⟩:∃of,h'.get? h=U of/\of.cls=.type _:=by
   haveI i:(Φ.a.K.lookup h).map _=U _:=b3.gI;induction z:Φ.a.K.lookup h with
   |none=>rw[z]at i;cases i
   |some of=>rw[z]at i;exact h9 of (J _ _ z)<|ia i
  haveI b:=b3.di;unfold ks_superIn at b;rw[hP]at b;refine ks_wpAny_getMethod_super e (looks_opaque J b3.gH) (λA Q E s k q=>hk<|(u4 J hP) A _ E s k<|ib q) O J b aQ aR (ks_ne J (⟨kp _ _ I.at_,I.cls,I.no,kp _ _ I.dict⟩:InstAt h' x (ky _ dx) Φ.a.T.a6<|U<|i4 _ pn) hP) O ?_;haveI D2:Dy Φ (μ.bO h'.objs.size _) ρ st ⟨h'.push<|uT (.ref h)<|.ref x,aM,dr,t+1,os⟩:=D1.ed b0 O;refine kf λT=>ju (tR (ac:=Φ.r) (aa:=cp) (ag:=[]) O) λG bH G=>T<|n8 (P:=MethP Φ.a.K _ h<|.ref x) (by rw[pT (q7 (ac:=Φ.r) aY).2.1];rfl) (keeps_M b3.gJ)<|oY (q7 (ac:=Φ.r) aY).2.1 O<|g5 (bF _ ρ st _ _ _ cp D2 bP) (λvs bi q=>g5 q (λks bj q=>?_) λG G=>jz) λG G=>jz;exists T;obtain⟨n1,bU,bQ,l,bN,k3,bc,bM,aX⟩:=q;haveI bf:=(aX.N.t _<|bc.t _<|.head _).1;refine T ⟨⟨bf,aX.N.aU⟩,?_⟩;haveI ok:i5 (j_<|kC _ bb) (kJ x::vs).length _=true:=by rw[aT];show i5 _ vs.length _=H;rw[n1];exact bE
  haveI B:=oW (kw:=[]) b2.dt b2.du b2.dv b2.dw b2.cW (oX aX.N.aU b2.cV) b2.b8 ok;rw[(by rw[aT];rfl:fill (kC _ bb) (kJ x::vs) _=kJ x::fill bg vs [])]at B;refine oF<|method_call bf<|u0 (zu b0 aX C.room (v' C hq) b2.at_ (.cons ((bh.aR (h1.bO _ _ _)).aR bc) bM) B k3) λr s' z=>?_;induction r with|error e=>exact jz z|ok fl=>
   induction fl with
   |ret v=>exists T;obtain⟨bR,a,bO,bG,bS,bY,bk⟩:=z;exact T<|qL _ ρ _ bG bk
   |next=>exact z.elim|brk=>exact z.elim|cont=>exact z.elim
end
end
section
open PySem PySem.W PySem.Calls PyProof.Rows
noncomputable def Au(f:Nat->Bool):gZ->Bool| .ref a=>f a|_=>g
theorem Gi{P:gZ->Prop}(h:Au f v=H)(k:∀a,f a=H->P (.ref a)):P v:=by induction v<;>first|exact ff h|exact k _ h
noncomputable def vStr(f:g2->Bool):gZ->Bool| .str x _=>f x|_=>g
theorem Qo{P:gZ->Prop}{v}(h:vStr f v=H)(k:∀x t,f x=H->P (.str x t)):P v:=by induction v<;>first|exact ff h|exact k _ _ h
noncomputable def Av(f:Option gZ->Bool)(aM:Array gZ->Bool):Data->Bool| .cell v=>f v| .fields a=>aM a|_=>g
theorem Gj{P:Data->Prop}(h:Av f aM v=H)(k:∀v,f v=H->P (.cell v))(k2:∀v,aM v=H->P (.fields v)):P v:=by induction v<;>first|exact ff h|exact k _ h|exact k2 _ h
noncomputable def Gk(K:iY)(a D:Nat):Bool:=oB (K.lookup a) λo=>Av (λv=>oB v (Au (· ==D))) g8 o.data
theorem Qp{K}{f D}(h:Gk K f D=H):∃cl b c,K.lookup f=U ⟨cl,b,.cell<|U<|.ref D,c⟩:=jF h λo e h=>Gj (P:=λd=>o.data=d->∃cl b c,K.lookup f=U ⟨cl,b,_,c⟩) h (λv h i=>jF h λu j h=>Gi (P:=λw=>u=w->∃cl b c,K.lookup f=U ⟨cl,b,_,c⟩) h (λa h k=>⟨_,_,_,by rw[e,<-beq_iff_eq.mp h,<-k,<-j,<-i]⟩) O) ip O
noncomputable def Gm(G:Gl)(a:Nat):Bool:=oB (G.K.lookup a) λo=>Av g8 (λb=>oB ((b:Array gZ)[2]?:Option gZ) (vStr ((G.prog.main.file:g2)==·))) o.data
theorem Qq(h:Gm G j=H):∃b f i c a k,G.K.lookup j=U ⟨b,f,.fields i,c⟩/\i[2]?=U (.str a k)/\(G.prog.main.file==a)=true:=jF h λo e h=>Gj (P:=λd=>o.data=d->∃b f i c a k,G.K.lookup j=U ⟨b,f,.fields i,c⟩/\i[2]?=U (.str a k)/\(G.prog.main.file==a)=H) h ip (λi h l=>jF h λu m h=>Qo (P:=λw=>u=w->∃b f i c a k,G.K.lookup j=U ⟨b,f,.fields i,c⟩/\i[2]?=U (.str a k)/\(G.prog.main.file==a)=H) h (λx t h n=>⟨_,_,i,_,x,t,by rw[e,<-l],m.trans<|congrArg _ n,h⟩) O) O
noncomputable def Gn(G:Gl)(a:kR)(g4:g2)(D b:Nat):Bool:=
 oB (a.closure.lookup ("__class__":g2)) (Gk G.K · D)&&(oE G.K D).isSome&&(oE G.K G.T.a6).isSome&&nE G.K G.T.a6 (.ref D)==U H&&G.c5 "super"==V&&G.dV "super"==U (.type "super")&&
 a.scope.names.lookup ("super":g2)==U .globalImplicit&&a.scope.names.lookup ("__class__":g2)==U .free&&oB (a.params.posonlyargs++a.params.args).head? (·.arg==g4)&&Au (Gm G) a.code&&!(G.prog.main.scope.names.lookup ("super":g2)).isSome&&nsIn G.K yk "thirdparty.any"==U V&&ks_superIn G.K G.T.a6 D "__init__"==U (U (.ref b))&&nF G.K (.ref b)==U (.type "function")&&fnIn G.K b
theorem Qr(h:Gn G c d D e=H):∃b a,As G c d D e b a:=by haveI h:=f1 h;haveI l:=f1 h.1;haveI m:=f1 l.1;haveI n:=f1 m.1;haveI o:=f1 n.1;haveI p:=f1 o.1;haveI q:=f1 p.1;haveI r:=f1 q.1;haveI s:=f1 r.1;haveI t:=f1 s.1;haveI f:=f1 t.1;haveI i:=f1 f.1;haveI j:=f1 i.1;haveI k:=f1 j.1;exact jF k.1 λb x a1=>jF q.2 λw y a9=>Gi (P:=λv=>c.code=v->∃b a,As G c _ D e b a) p.2 (λa ay z=>⟨b,_,x,Qp a1,yh.mp k.2,yh.mp j.2,beq_iff_eq.mp i.2,beq_iff_eq.mp f.2,beq_iff_eq.mp t.2,beq_iff_eq.mp s.2,beq_iff_eq.mp r.2,⟨w,y,beq_iff_eq.mp a9⟩,⟨z,Qq ay⟩,rx _ |>.mp o.2,beq_iff_eq.mp n.2,beq_iff_eq.mp m.2,beq_iff_eq.mp l.2,h.2⟩) O
noncomputable def Go(f:h4->List h4->Bool):FuncBody->Bool| .stmts l=>lc f l|_=>g
theorem Qs{P:FuncBody->Prop}{b}(h:Go f b=H)(k:∀s r,f s r=H->P (.stmts (s::r))):P b:=by induction b<;>first|exact ff h|exact kX (P:=λl=>P _) h k
noncomputable def Gp(f:List g_->ku->ku->Bool):g_->Bool:=kj λaM c ks b=>l0 ks&&lO (λo x2 a=>x2==("__init__":g2)&&kj (λn as k2 d=>l0 as&&l0 k2&&jQ (λx1=>x1==("super":g2)&&f c b a) n) o) aM
noncomputable def pZ(c:List g_)(b a:ku)(e:g_):Prop:=∃d p2,e=.Call (.Attribute (.Call (.Name "super" d) [] [] p2) "__init__" a) c [] b
theorem Qt(h:Gp f e=H):∃j i d,pZ j i d e/\f j i d=true:=kl (P:=λe=>∃j i d,pZ j i d e/\f j i d=H) h λaM j ks i h=>haveI h:=f1 h;iH (P:=λks=>∃b a d,pZ b a d (.Call aM j ks i)/\f b a d=H) h.1<|l9 (P:=λaM=>∃b a d,pZ b a d (.Call aM j _ i)/\f b a d=H) h.2 λo x2 d h=>haveI h:=f1 h;kl (P:=λo=>∃b a c,pZ b a c (.Call (.Attribute o x2 d) j _ i)/\f b a c=H) h.2 λn as k2 p2 h'=>haveI h':=f1 h';haveI l:=f1 h'.1;iH (P:=λas=>∃b a c,pZ b a c (.Call (.Attribute (.Call n as k2 p2) x2 d) j _ i)/\f b a c=H) l.1<|iH (P:=λk2=>∃b a c,pZ b a c (.Call (.Attribute (.Call n _ k2 p2) x2 d) j _ i)/\f b a c=H) l.2 (jY (P:=λn=>∃b a c,pZ b a c (.Call (.Attribute (.Call n _ _ p2) x2 d) j _ i)/\f b a c=H) h'.2 λx1 m k=>haveI k:=f1 k;⟨j,i,d,⟨m,p2,by rw[beq_iff_eq.mp h.1,beq_iff_eq.mp k.1]⟩,k.2⟩)
noncomputable def Gq(f:Nat->DE->DS->Bool):DS->Bool
 | .seq a r=>match a with
  | .as e=>match e with| .di b args=>f b args r|_=>g
  |_=>g
 |_=>g
set_option tactic.hygienic true in
theorem Qu{P:DS->Prop}(h:Gq f d=H)(k:∀b args r,f b args r=H->P (.seq (.as<|.di b args) r)):P d:=by
 cases d<;>first|exact ff h|skip
 rename_i a r;induction a<;>first|exact ff h|skip
 rename_i e;induction e<;>first|exact ff h|exact k _ _ _ h
noncomputable def Gr(G:Gl)(t:Tb)(f:Nat)(a:List g2)(D:Nat)(j:DS):Bool:=oB (kn G f) λb=>Go (λs aj=>y_ (Gp λe i h=>Gq (λd args c=>uc G b a&&Gn G b (a.headD "") D d&&(!G.quiet f||G.quiet d)&&jK e [] h i&&oB (t.bp d) (lc λk ps=>jS G (ub G t f b a) args (.a9 ps e []))&&a.length !=0&&t' G ⟨t.c',g⟩ (ub G t f b a) c aj) j) s) b.body
theorem Qv{b:List g2}(h:(b.length !=0)=H):b[(0)]?=U (b.headD ""):=by induction b with|nil=>exact ff h|cons a r=>rfl
theorem Qw(X:Gx G t){st}(h:Gr G t f i D o=H)(L:(kn G f).any λm=>(it m).length==args.length=H)(w:WS G.T (iN G d) o (wg i args) st ⟨λl st=>Q .none st,Q,λl l=>False,λl=>Xc⟩):iN G (d+1) f args st Q Xc:=by refine jF h λm c h=>Qs (P:=λb=>m.body=b->iN G _ f _ st Q Xc) h (λaO aj h E=>?_) O;refine DA (P:=λs=>aO=s->iN G _ f _ st Q Xc) h (λe ep h r=>?_) O;refine kf λav=>kA (Qt h) λes cp ap j h=>jO j λaQ p2 ee=>?_;rw[r,ee]at E;refine av ?_;revert w;refine Qu (P:=λo=>WS _ _ o _ st _->iN G _ f _ st Q Xc) h λau n Y h w=>?_;haveI h:=f1 h;haveI B:=f1 h.1;haveI y:=f1 B.1;haveI A:=f1 y.1;haveI z:=f1 A.1;haveI x:=f1 z.1;rw[c]at L;refine jF y.2 λk p a=>kX (P:=λk=>t.bp au=U k->iN G _ f _ st Q Xc) a (λaP ps a p=>?_) p;refine jO (Qr x.2) λcc T aS=>Ql X.go (Ar c E x.1) (beq_iff_eq.mp (show((it m).length==args.length)=H from L)).symm λΦ μ s aR hG aN hr J I hl N=>?_;haveI C:=X.cv aR hG aN hr J (by rw[I];rfl);haveI K:Kx Φ ⟨t.c',_⟩ d:=⟨λC ps e=>hG▸X.dy C ps e,ff,ff⟩;clear x y J;subst hG;refine ks_wpAt_execs_cons<|Ce (Qn C aS I c (Qv B.2) p z.2 A.2 (jU C _ _ a) N w) (λfl s' q=>?_) λl l q=>q;induction fl with|next=>exact kA q λaf ak ae k' M=>yg<|Ap C K _ _ h.2 _ _ _ s' _ M k'|ret v=>exact q|brk=>exact q|cont=>exact q.elim
end
section
open PySem PySem.W PySem.Calls PyProof.Rows
noncomputable def wh(G:Gl)(t:Tb)(f:Nat)(a:List g2)(c:DS):Bool:=oB (kn G f) λb=>wf b.body λh6=>uc G b a&&t' G ⟨t.c',H⟩ (ub G t f b a) c h6
theorem Qx(X:Gx G t){st}(h:wh G t f c ds=H)(hA:A.frames=U [])(hh:A.handled=V)(M:A.depth+2+d<900/\A.units+11+8*d<9000)(I:Inv G μ st s.heap)(R:hZ G μ m args)(jJ:kn G f=U E)(aV:args.length=(it E).length)(B:rA s E a<|(it E).zip m)(w:WS G.T (iN G d) ds (wg c args) st ⟨λl st=>Q .none st,Q,λl l=>False,λl=>Xc⟩):la (ii G.prog G.w) A (.call (.ref f) a) (RC G s μ [] Q Xc) s:=by
 unfold wh at h;rw[jJ]at h;refine kf λaO=>Aq h λh6 T h=>?_
 .have h:=f1 h;have F:=Ar jJ T h.1;have av:=X.go;refine g6 (r5 jJ) λo aQ hd=>hz F.e' λaj j=>aO<|xI (qw (qM<|qM M.1) (by decide)) (I.aU _ _ aQ) hd (av.eh _ I.aU) (uY I.aU F.code) F.body B F.cell (λx hx=>?_) (λN L k=>?_) F.dk F.dl F.kind;.refine F.j _ ?_;rw[j];exact sQ _ (uZ hx).1
  .have aN:=zs av F hA (λac aP=>by cases aP) I;have dy:Dy (q1 G A E f c s μ []) μ (wg c args) st {s with heap:=N,toks:=s.toks+((it E).zip m).length}:=by
    refine⟨h1.refl μ,I.keeps (jM L.lt) k,λb aS e l=>k b aS e,⟨_,L,λi x b e1 n=>?_⟩,I.fresh,λp hp=>iw<|ih (I.t p hp).1,λb=>.inl,λp=>.inl,rfl,rfl,rfl⟩
    .have lt:=by
      cases oD i _ with
      |inl q=>exact q
      |inr q=>
       rw[sR (by rw[h8];exact q)]at n
       have:=k_ n
       rw[BS]at this
       cases this.2
     rw[rD (by rw[h8];exact lt),n6]at n
     have e3:args[i]?=U b:=by
      induction z:args[i]? with
      |none=>rw[z]at n;exists aO;cases n
      |some y=>rw[z]at n;cases n;rfl
     refine g6 (oU R e3) λv aR r=>⟨v,tP ?_ ?_ aR,r⟩
     .have:=F.nodup
      rw[j]at this
      exact(qF.mp this).1
     .have:c[i]?=U x:=e1
      rw[j,rD (‹args.length=(it E).length›▸‹i<args.length›)]at this
      exact this
   have C:=X.cv (f:=f) aN O O ⟨n3 (iu (jo _) d) M.1,n3 (iu (iU (by decide) _) _) M.2⟩ (.inl hh) O;have au:=Ap C ⟨X.dy,λl=>rfl,λl=>⟨M.1,M.2⟩⟩ ds h6 h.2;refine g5 (au μ _ st _ _ dy w) (λfl s' hp=>?_) λv s' hp=>(hz hp λak hp=>zt aN hp (λb T=>by cases T) λh' e af ae x ev P Y=>⟨⟨Y.1,Y.2.1,Y.2.2⟩,e,_,_,x,ev,P⟩)
   .have J:∀v r af ak ae,Q r _->RelV G _ v r->Dy (q1 G A E f c s μ []) _ ak _ s'->RC G s μ [] Q Xc (.ok<|.ret v) s':=λv r af ak ae q aT D=>
     ⟨⟨D.bX,D.bY,D.b3⟩,af,r,ae,q,D.ext,aT,D.N,D.bv,D.a',D.bg⟩
    induction fl with
    |next=>exact kA hp λaf ak ae q=>J _ _ _ _ _ q .none
    |ret v=>exact jO hp λaf ak aU=>jk aU λr ae=>J _ _ _ _ _
    |brk=>refine kA hp λl l l q l=>?_
          induction q
    |cont=>induction hp
end
section
open PySem
noncomputable abbrev l'(l:List DE):DE:=l.foldr .cons .nil
noncomputable abbrev ho:DE:=.j 0
noncomputable abbrev g7:DE:=.j 1
noncomputable abbrev hR:DE:=.j 2
noncomputable abbrev hV:DE:=.j 3
noncomputable abbrev im:DE:=.j 4
noncomputable abbrev h3:DE:=.j 5
noncomputable abbrev iz:DE:=.j 6
noncomputable abbrev iK:DE:=.j 7
noncomputable abbrev hL(i:Nat):DE:=.j i
noncomputable abbrev hI(i:Int):DE:=.aV (.int i)
noncomputable abbrev hX:DE:=hI 0
noncomputable abbrev ic:DE:=hI 1
noncomputable abbrev hN:DE:=.aV .none
noncomputable abbrev hT:DE:=.aV (.bool H)
noncomputable abbrev hF:DE:=.aV (.bool g)
noncomputable abbrev hS(l:List Nat):DE:=.aV (.str l)
noncomputable abbrev hB(e:DE)(k:Nat):DE:=.c0 e k
noncomputable abbrev hA(k:Nat):DE:=.c0 ho k
noncomputable abbrev hs(f:Nat)(l:List DE):DE:=.bV f ho (l' l)
noncomputable abbrev hM(f:Nat):DE:=.bV f ho .nil
noncomputable abbrev iS(f:Nat)(l:List DE):DE:=.call f (l' l)
noncomputable abbrev i2(C:Nat)(l:List DE):DE:=.new C (l' l)
noncomputable abbrev wi(i:Nat)(l:List DE):DE:=.dO i (l' l)
noncomputable abbrev hj(l:List DE):DE:=.au (l' l)
noncomputable abbrev iM(l:List DE):DE:=.m (l' l)
noncomputable abbrev hH(a b:DE):DE:=.Q .eq a b
noncomputable abbrev j7(a b:DE):DE:=.Q .cH a b
noncomputable abbrev hP(a b:DE):DE:=.a1 .add a b
noncomputable abbrev hG(a:Nat):DE:=.cZ (.val (.ref a))
noncomputable abbrev g3(l:List DS)(z:DS):DS:=l.foldr .seq z
noncomputable abbrev gX(i:Nat)(e:DE):DS:=.bW [i] e
noncomputable abbrev g'(t:DE)(a:DS):DS:=.ite t a .dG
noncomputable abbrev hY(k:Nat)(e:DE):DS:=.dT ho k e
noncomputable abbrev j8(f:Nat):DS:=.as (hM f)
noncomputable abbrev jc(f:Nat)(l:List DE):DS:=.as (hs f l)
noncomputable abbrev nQ(C:Nat)(l:List DE):DS:=.ea C (l' l)
noncomputable def Qy:DS:=g3 [hY 0 hN,hY 1 hN,hY 2 hX,hY 3 hT,hY 4 (hS []),hY 5 hX,hY 6 hN,hY 7 hN,hY 8 hN,hY 9 hX,hY 10 hX,hY 11 hX] (g' (.d_ g7) (g3 [hY 0 (hS [60,117,110,105,99,111,100,101,32,115,116,114,105,110,103,62]),jc 720 [g7]] (hY 4 (hP g7 (hS [0])))))
noncomputable def Qz:DS:=.eD (.ret (.sub (hA 4) (hP (hA 5) g7)))
noncomputable def QA:DS:=g3 [g' (.Q .ge (hP (hA 5) g7) (.len (hA 4))) (jc 727 [g7])] (.ret (.c1 (hA 4) (hA 5) (hP (hA 5) g7)))
noncomputable def QB:DS:=g3 [g' (.Q .ge (hP (hP (hA 5) g7) ic) (.len (hA 4))) (jc 727 [hP g7 ic])] (.bm g7 (g3 [gX 2 (.sub (hA 4) (hA 5)),.cz ho 5 .add ic,.cz ho 9 .add ic,.ite (.or (j7 hR (hS [10,133,8232,8233])) (.and (hH hR (hS [13])) (.Q .b' (.sub (hA 4) (hA 5)) (hS [10])))) (g3 [.cz ho 10 .add ic] (hY 11 hX)) (g' (.Q .b' hR (hS [65279])) (.cz ho 11 .add ic))] (.cJ 1 .sub ic)))
noncomputable def QC:DS:=.ite (.Q .ck (hA 1) hN) (.ret (i2 53 [hA 0,hA 9,hA 10,hA 11,hA 4,hA 5])) .av
noncomputable def Gs:DS:=.cb .eC [2,3] g7 (g' (.not (iS 668 [hV])) (g3 [.av] .av))
noncomputable def QD:DS:=g' (.Q .ck (hA 6) hN) (.ret hN)
noncomputable def QE:DS:=g3 [.as (.di 682 (l' [g7])),hY 12 hF,hY 13 hX,.co ho 14 .I,j8 869,hY 15 hX,hY 16 (hI (-1)),.co ho 17 .M,hY 18 hT] (.co ho 19 .cF)
noncomputable def QF:DS:=g3 [.bm (hM 813) (j8 820),g' (hA 14) (g3 [g' (.not g7) .av] (g' (j7 (hB (.sub (hA 14) hX) 46) g7) (.ret hT)))] (.ret hF)
noncomputable def QG:DS:=g3 [.bm (hM 813) (j8 820)] (.ite (hA 14) (.ret (.sub (hA 14) hX)) .av)
noncomputable def QH:DS:=g3 [.bm (hM 813) (j8 820)] (g' (hA 14) (g3 [.cz ho 15 .add ic] (.ret (.d' (hA 14)))))
noncomputable def QI:DS:=g3 [g' (hA 12) (.ret hF),g' (.not (hA 14)) (.ret hT),j8 834] (g' (hH (hM 827) (hA 15)) (.ret hT))
noncomputable def Gu:DS:=g3 [j8 1100,j8 834,jc 855 [hA 11],gX 1 (hs 690 [hX]),g' (hH g7 (hS [0])) (.ret (hM 876)),g' (.and (hH g7 (hS [37])) (hM 1051)) .av,g' (.and (hH g7 (hS [45])) (hM 1058)) (.ret (hM 890)),g' (.and (hH g7 (hS [46])) (hM 1065)) (.ret (hM 897)),g' (hH g7 (hS [91])) (.ret (hM 911)),g' (hH g7 (hS [123])) (.ret (hM 918)),g' (hH g7 (hS [93])) (.ret (hM 932)),g' (hH g7 (hS [125])) (.ret (hM 939)),g' (hH g7 (hS [44])) (.ret (hM 953)),g' (.and (hH g7 (hS [45])) (hM 1072)) (.ret (hM 960)),g' (.and (hH g7 (hS [63])) (hM 1079)) (.ret (hM 967)),g' (.and (hH g7 (hS [58])) (hM 1086)) (.ret (hM 974)),g' (hH g7 (hS [42])) (.ret (hM 981)),g' (hH g7 (hS [38])) (.ret (hM 988)),g' (hH g7 (hS [33])) (.ret (hM 995)),g' (.and (hH g7 (hS [124])) (.not (hA 13))) .av,g' (.and (hH g7 (hS [62])) (.not (hA 13))) .av,g' (hH g7 (hS [39])) (.ret (hM 1023)),g' (hH g7 (hS [34])) .av,g' (hM 1093) (.ret (hM 1044))] (nQ 744 [hS [119,104,105,108,101,32,115,99,97,110,110,105,110,103,32,102,111,114,32,116,104,101,32,110,101,120,116,32,116,111,107,101,110],hN,.ca [102,111,117,110,100,32,99,104,97,114,97,99,116,101,114,32,37,114,32,116,104,97,116,32,99,97,110,110,111,116,32,115,116,97,114,116,32,97,110,121,32,116,111,107,101,110] g7,hM 713,hN])
noncomputable def Gv:DS:=g3 [gX 1 hN,.cb .d8 [2] (hA 19) (g3 [gX 3 (.sub (hA 19) hR)] (g' (.or (.Q .ck g7 hN) (.Q .lt (hB hV 32) g7)) (gX 1 (hB hV 32))))] (.ret g7)
noncomputable def Gw:DS:=.cb .m [1] (.A (hA 19)) (g3 [gX 2 (.sub (hA 19) g7)] (g' (.or (.Q .b' (hB hR 10) (hA 10)) (.Q .gt (.a1 .sub (hA 9) (hB hR 9)) (hI 1024))) (g3 [g' (hB hR 33) (nQ 744 [hS [119,104,105,108,101,32,115,99,97,110,110,105,110,103,32,97,32,115,105,109,112,108,101,32,107,101,121],hB hR 31,hS [99,111,117,108,100,32,110,111,116,32,102,105,110,100,32,101,120,112,101,99,116,101,100,32,39,58,39],hM 713,hN])] (.dH (hA 19) g7))))
noncomputable def Gy:DS:=g3 [gX 1 (.and (.not (hA 13)) (hH (hA 16) (hA 11)))] (g' (hA 18) (g3 [j8 848,gX 2 (hP (hA 15) (.len (hA 14))),gX 3 (i2 763 [hR,g7,hA 9,hA 10,hA 11,hM 713])] (.c4 (hA 19) (hA 13) hV)))
noncomputable def QJ:DS:=g' (j7 (hA 13) (hA 19)) (g3 [gX 1 (.sub (hA 19) (hA 13)),g' (hB g7 33) (nQ 744 [hS [119,104,105,108,101,32,115,99,97,110,110,105,110,103,32,97,32,115,105,109,112,108,101,32,107,101,121],hB g7 31,hS [99,111,117,108,100,32,110,111,116,32,102,105,110,100,32,101,120,112,101,99,116,101,100,32,39,58,39],hM 713,hN])] (.dH (hA 19) (hA 13)))
noncomputable def Gz:DS:=g3 [g' (hA 13) (.ret hN)] (.bm (.Q .gt (hA 16) g7) (g3 [gX 2 (hM 713),hY 16 (.cn (hA 17))] (.as (.aO (hA 14) (i2 227 [hR,hR])))))
noncomputable def QK:DS:=g3 [g' (.Q .lt (hA 16) g7) (g3 [.as (.aO (hA 17) (hA 16)),hY 16 g7] (.ret hT))] (.ret hF)
noncomputable def QL:DS:=g3 [gX 1 (hM 713)] (.as (.aO (hA 14) (i2 179 [g7,g7,hA 8])))
noncomputable def QM:DS:=g3 [jc 855 [hI (-1)],j8 848,hY 18 hF,hY 19 (.dict .false),gX 1 (hM 713),.as (.aO (hA 14) (i2 191 [g7,g7]))] (hY 12 hT)
noncomputable def QN:DS:=jc 904 [hG 147]
noncomputable def QO:DS:=jc 904 [hG 159]
noncomputable def QP:DS:=g3 [jc 855 [hI (-1)],j8 848,hY 18 hF,gX 2 (hM 713),jc 706 [hI 3],gX 3 (hM 713)] (.as (.aO (hA 14) (wi 1 [hR,hV])))
noncomputable def QQ:DS:=jc 925 [hG 239]
noncomputable def QR:DS:=jc 925 [hG 251]
noncomputable def QS:DS:=g3 [j8 841,.cz ho 13 .add ic,hY 18 hT,gX 2 (hM 713),jc 706 [ic],gX 3 (hM 713)] (.as (.aO (hA 14) (wi 1 [hR,hV])))
noncomputable def QT:DS:=jc 946 [hG 263]
noncomputable def QU:DS:=jc 946 [hG 275]
noncomputable def QV:DS:=g3 [j8 848,.cz ho 13 .sub ic,hY 18 hF,gX 2 (hM 713),jc 706 [ic],gX 3 (hM 713)] (.as (.aO (hA 14) (wi 1 [hR,hV])))
noncomputable def QW:DS:=g3 [hY 18 hT,j8 848,gX 1 (hM 713),jc 706 [ic],gX 2 (hM 713)] (.as (.aO (hA 14) (i2 323 [g7,hR])))
noncomputable def GA:DS:=g3 [g' (.not (hA 13)) (g3 [g' (.not (hA 18)) (nQ 744 [hN,hN,hS [115,101,113,117,101,110,99,101,32,101,110,116,114,105,101,115,32,97,114,101,32,110,111,116,32,97,108,108,111,119,101,100,32,104,101,114,101],hM 713,hN])] (g' (hs 862 [hA 11]) (g3 [gX 3 (hM 713)] (.as (.aO (hA 14) (i2 203 [hV,hV])))))),hY 18 hT,j8 848,gX 1 (hM 713),jc 706 [ic],gX 2 (hM 713)] (.as (.aO (hA 14) (i2 311 [g7,hR])))
noncomputable def QX:DS:=g3 [g' (.not (hA 13)) (g3 [.av] .av),hY 18 (.not (hA 13)),j8 848,gX 1 (hM 713),jc 706 [ic],gX 2 (hM 713)] (.as (.aO (hA 14) (i2 287 [g7,hR])))
noncomputable def GB:DS:=g3 [.ite (j7 (hA 13) (hA 19)) (g3 [gX 3 (.sub (hA 19) (hA 13)),.dH (hA 19) (hA 13),.as (.dP (hA 14) (.a1 .sub (hB hV 32) (hA 15)) (i2 287 [hB hV 31,hB hV 31])),g' (.not (hA 13)) (g' (hs 862 [hB hV 11]) (.as (.dP (hA 14) (.a1 .sub (hB hV 32) (hA 15)) (i2 215 [hB hV 31,hB hV 31]))))] (hY 18 hF)) (g3 [g' (.not (hA 13)) (g' (.not (hA 18)) (nQ 744 [hN,hN,hS [109,97,112,112,105,110,103,32,118,97,108,117,101,115,32,97,114,101,32,110,111,116,32,97,108,108,111,119,101,100,32,104,101,114,101],hM 713,hN])),g' (.not (hA 13)) .av,hY 18 (.not (hA 13))] (j8 848)),gX 1 (hM 713),jc 706 [ic],gX 2 (hM 713)] (.as (.aO (hA 14) (i2 299 [g7,hR])))
noncomputable def QY:DS:=g3 [j8 841,hY 18 hF] (.as (.aO (hA 14) (hs 1163 [hG 342])))
noncomputable def QZ:DS:=g3 [j8 841,hY 18 hF] (.as (.aO (hA 14) (hs 1163 [hG 361])))
noncomputable def Q0:DS:=g3 [j8 841,hY 18 hF] (.as (.aO (hA 14) (hM 1170)))
noncomputable def Q1:DS:=jc 1037 [hS [39]]
noncomputable def Q2:DS:=g3 [j8 841,hY 18 hF] (.as (.aO (hA 14) (hs 1212 [g7])))
noncomputable def Q3:DS:=g3 [j8 841,hY 18 hF] (.as (.aO (hA 14) (hM 1243)))
noncomputable def Q4:DS:=g' (hH (hA 11) hX) (g' (.and (hH (hs 698 [hI 3]) (hS [45,45,45])) (j7 (hs 690 [hI 3]) (hS [0,32,9,13,10,133,8232,8233]))) (.ret hT))
noncomputable def Q5:DS:=g' (hH (hA 11) hX) (g' (.and (hH (hs 698 [hI 3]) (hS [46,46,46])) (j7 (hs 690 [hI 3]) (hS [0,32,9,13,10,133,8232,8233]))) (.ret hT))
noncomputable def Q6:DS:=.ret (j7 (hs 690 [ic]) (hS [0,32,9,13,10,133,8232,8233]))
noncomputable def Q7:DS:=.ite (hA 13) (.ret hT) .av
noncomputable def Q8:DS:=.ite (hA 13) (.ret hT) (.ret (j7 (hs 690 [ic]) (hS [0,32,9,13,10,133,8232,8233])))
noncomputable def Q9:DS:=g3 [gX 1 (hs 690 [hX])] (.ret (.or (.Q .ct g7 (hS [0,32,9,13,10,133,8232,8233,45,63,58,44,91,93,123,125,35,38,42,33,124,62,39,34,37,64,96])) (.and (.Q .ct (hs 690 [ic]) (hS [0,32,9,13,10,133,8232,8233])) (.or (hH g7 (hS [45])) (.and (.not (hA 13)) (j7 g7 (hS [63,58])))))))
noncomputable def GC:DS:=g3 [g' (.and (hH (hA 9) hX) (hH (hs 690 [hX]) (hS [65279]))) .av,gX 1 hF] (.bm (.not g7) (g3 [.bm (hH (hs 690 [hX]) (hS [32])) (jc 706 [ic]),g' (hH (hs 690 [hX]) (hS [35])) (.bm (.Q .ct (hs 690 [hX]) (hS [0,13,10,133,8232,8233])) (jc 706 [ic]))] (.ite (hM 1278) (g' (.not (hA 13)) (hY 18 hT)) (gX 1 hT))))
noncomputable def GD:DS:=g3 [gX 2 (hM 713),gX 3 (hs 690 [hX]),.ite (hH hV (hS [42])) (gX 8 (hS [97,108,105,97,115])) (gX 8 (hS [97,110,99,104,111,114])),jc 706 [ic],gX 4 hX,gX 5 (hs 690 [im]),.bm (.or (.b5 .le .le (hS [48]) h3 (hS [57])) (.or (.b5 .le .le (hS [65]) h3 (hS [90])) (.or (.b5 .le .le (hS [97]) h3 (hS [122])) (j7 h3 (hS [45,95]))))) (g3 [.cJ 4 .add ic] (gX 5 (hs 690 [im]))),g' (.not im) .av,gX 6 (hs 698 [im]),jc 706 [im],gX 5 (hs 690 [hX]),g' (.Q .ct h3 (hS [0,32,9,13,10,133,8232,8233,63,58,44,93,125,37,64,96])) .av,gX 7 (hM 713)] (.ret (wi 1 [iz,hR,iK]))
noncomputable def GF:DS:=g3 [gX 1 (hM 713),gX 2 (hs 690 [ic]),.ite (hH hR (hS [60])) (g3 [.av,.av,.av,.av] .av) (.ite (j7 hR (hS [0,32,9,13,10,133,8232,8233])) (g3 [.av,.av] .av) (g3 [gX 7 ic,gX 8 hF,.bm (.Q .ct hR (hS [0,32,13,10,133,8232,8233])) (g3 [g' (hH hR (hS [33])) (g3 [.av] .av),.cJ 7 .add ic] (gX 2 (hs 690 [iK]))),gX 5 (hS [33]),.ite (hL 8) .av (g3 [gX 5 (hS [33])] (jc 706 [ic]))] (gX 6 (hs 1264 [hS [116,97,103],g7])))),gX 2 (hs 690 [hX]),g' (.Q .ct hR (hS [0,32,13,10,133,8232,8233])) .av,gX 3 (hj [h3,iz]),gX 4 (hM 713)] (.ret (i2 380 [hV,g7,im]))
noncomputable def Q_:DS:=g3 [.ite (hH g7 (hS [34])) .av (gX 6 hF),gX 2 (iM []),gX 3 (hM 713),gX 4 (hs 690 [hX]),jc 706 [ic],.as (.ext hR (hs 1222 [iz,hV])),.bm (.Q .b' (hs 690 [hX]) im) (g3 [.av] .av),jc 706 [ic],gX 5 (hM 713)] (.ret (i2 400 [.join [] hR,hF,hV,h3,g7]))
noncomputable def Q':DS:=g3 [gX 3 (iM [])] (.bm hT (g3 [gX 4 hX,.bm (.Q .ct (hs 690 [im]) (hS [39,34,92,0,32,9,13,10,133,8232,8233])) (.cJ 4 .add ic),g' im (g3 [.as (.aO hV (hs 698 [im]))] (jc 706 [im])),gX 5 (hs 690 [hX])] (.ite (.and (.not g7) (.and (hH h3 (hS [39])) (hH (hs 690 [ic]) (hS [39])))) (g3 [.av] .av) (.ite (.or (.and g7 (hH h3 (hS [39]))) (.and (.not g7) (j7 h3 (hS [34,92])))) (g3 [.av] .av) (.ite (.and g7 (hH h3 (hS [92]))) (g3 [.av,.av] .av) (.ret hV))))))
noncomputable def wj:DS:=g3 [gX 1 (iM []),gX 2 (hM 713),gX 3 hR,gX 4 (hP (hA 16) ic),gX 5 (iM []),.bm hT (g3 [gX 6 hX,g' (hH (hs 690 [hX]) (hS [35])) .av,.bm hT (g3 [gX 7 (hs 690 [iz]),g' (.or (j7 iK (hS [0,32,9,13,10,133,8232,8233])) (.or (.and (hH iK (hS [58])) (j7 (hs 690 [hP iz ic]) (hP (hS [0,32,9,13,10,133,8232,8233]) (.bI (hA 13) (hS [44,91,93,123,125]) (hS []))))) (.and (hA 13) (j7 iK (hS [44,63,91,93,123,125]))))) .brk] (.cJ 6 .add ic)),g' (hH iz hX) .brk,hY 18 hF,.as (.ext g7 h3),.as (.aO g7 (hs 698 [iz])),jc 706 [iz],gX 3 (hM 713),gX 5 (hs 1250 [im,hR])] (g' (.or (.not h3) (.or (hH (hs 690 [hX]) (hS [35])) (.and (.not (hA 13)) (.Q .lt (hA 11) im)))) .brk))] (.ret (i2 400 [.join [] g7,hT,hR,hV,hN]))
noncomputable def Aw:DS:=g3 [gX 3 (iM []),gX 4 hX,.bm (j7 (hs 690 [im]) (hS [32])) (.cJ 4 .add ic),gX 5 (hs 698 [im]),jc 706 [im],gX 6 (hs 690 [hX]),.ite (j7 iz (hS [13,10,133,8232,8233])) (g3 [gX 7 (hM 1278),hY 18 hT,gX 8 (hs 698 [hI 3]),g' (.and (.or (hH (hL 8) (hS [45,45,45])) (hH (hL 8) (hS [46,46,46]))) (j7 (hs 690 [hI 3]) (hS [0,32,9,13,10,133,8232,8233]))) (.ret hN),gX 9 (iM []),.bm (j7 (hs 690 [hX]) (hS [32,13,10,133,8232,8233])) (.ite (hH (hs 690 [hX]) (hS [32])) (jc 706 [ic]) (g3 [.av,.av] .av)),.ite (.Q .b' iK (hS [10])) .av (g' (.not (hL 9)) (.as (.aO hV (hS [32]))))] (.as (.ext hV (hL 9)))) (g' h3 (.as (.aO hV h3)))] (.ret hV)
noncomputable def GG:DS:=g3 [gX 3 (iM []),gX 4 hX,gX 5 (hs 690 [im]),.bm (.or (.b5 .le .le (hS [48]) h3 (hS [57])) (.or (.b5 .le .le (hS [65]) h3 (hS [90])) (.or (.b5 .le .le (hS [97]) h3 (hS [122])) (j7 h3 (hS [45,59,47,63,58,64,38,61,43,36,44,95,46,33,126,42,39,40,41,91,93,37]))))) (g3 [.ite (hH h3 (hS [37])) (g3 [.av,.av,.av] .av) (.cJ 4 .add ic)] (gX 5 (hs 690 [im]))),g' im (g3 [.as (.aO hV (hs 698 [im])),jc 706 [im]] (gX 4 hX)),g' (.not hV) .av] (.ret (.join [] hV))
noncomputable def Ra:DS:=g3 [gX 1 (hs 690 [hX]),.ite (j7 g7 (hS [13,10,133])) (g3 [.ite (hH (hs 698 [hI 2]) (hS [13,10])) .av (jc 706 [ic])] (.ret (hS [10]))) (g' (j7 g7 (hS [8232,8233])) (g3 [.av] .av))] (.ret (hS []))
noncomputable def Rb:DS:=g3 [.as (.di 783 (l' [g7])),hY 20 hN,hY 21 hN,hY 22 (.dict .true),.co ho 23 .aN,.co ho 24 .aY] (hY 25 (.bd 1340 ho))
noncomputable def Rg:DS:=g3 [g' (.Q .ck (hA 20) hN) (g' (hA 25) (hY 20 (.d9 ho 25)))] (.ret (hA 20))
noncomputable def Rh:DS:=g3 [g' (.Q .ck (hA 20) hN) .av,gX 1 (hA 20),hY 20 hN] (.ret g7)
noncomputable def Ri:DS:=g3 [gX 1 (hM 806),gX 2 (i2 501 [hB g7 26,hB g7 27,hB g7 8]),hY 25 (.bd 1347 ho)] (.ret hR)
noncomputable def Rj:DS:=.ite (.not (hs 792 [hj [hB (hG 135) 46,hB (hG 147) 46,hB (hG 191) 46]])) (g3 [hY 22 (hA 47),gX 1 (hM 799),.bW [2,3] (hB g7 26),gX 4 (i2 533 [hR,hV,hF,hN,hN]),.as (.aO (hA 23) (.bd 1361 ho)),hY 25 (.bd 1382 ho)] (.ret im)) (.ret (hM 1354))
noncomputable def Rl:DS:=g3 [.bm (hs 792 [hj [hB (hG 159) 46]]) .av,.ite (.not (hs 792 [hj [hB (hG 191) 46]])) (g3 [gX 1 (hM 799),gX 2 (hB g7 26),.cI [5,6] (hM 1375),g' (.not (hs 792 [hj [hB (hG 147) 46]])) (nQ 1293 [hN,hN,.ca [101,120,112,101,99,116,101,100,32,39,60,100,111,99,117,109,101,110,116,32,115,116,97,114,116,62,39,44,32,98,117,116,32,102,111,117,110,100,32,37,114] (hB (hM 799) 46),hB (hM 799) 26,hN]),gX 1 (hM 806),gX 3 (hB g7 27),gX 4 (i2 533 [hR,hV,hT,h3,iz]),.as (.aO (hA 23) (.bd 1361 ho))] (hY 25 (.bd 1368 ho))) (g3 [gX 1 (hM 806),gX 4 (i2 513 [hB g7 26,hB g7 27]),.eb (.not (hA 23)),.eb (.not (hA 24))] (hY 25 hN))] (.ret im)
noncomputable def Rm:DS:=g3 [gX 1 (hM 799),.bW [2,3] (hB g7 26),gX 4 hF,g' (hs 792 [hj [hB (hG 159) 46]]) (g3 [gX 1 (hM 806),gX 3 (hB g7 27)] (gX 4 hT)),gX 5 (i2 553 [hR,hV,im]),hY 25 (.bd 1354 ho)] (.ret h3)
noncomputable def Rn:DS:=.ite (hs 792 [hj [hB (hG 135) 46,hB (hG 147) 46,hB (hG 159) 46,hB (hG 191) 46]]) (g3 [.av,.av] .av) (.ret (hM 1382))
noncomputable def Ro:DS:=g3 [hY 21 hN,hY 22 (.dict .true),.bm (hs 792 [hj [hB (hG 135) 46]]) (g3 [.av] .av),.ite (hA 22) .av (gX 3 (hj [hA 21,hN])),.cb .d8 [1] (hA 47) (g' (.Q .ct g7 (hA 22)) (.c4 (hA 22) g7 (.sub (hA 47) g7)))] (.ret hV)
noncomputable def Rp:DS:=.ret (hs 1404 [hT,hF])
noncomputable def Rq:DS:=.ret (hs 1404 [hF,hF])
noncomputable def Rr:DS:=.ret (hs 1404 [hT,hT])
noncomputable def wk:DS:=g3 [.ite (hs 792 [hj [hB (hG 342) 46]]) (g3 [gX 3 (hM 806),gX 4 (i2 565 [hB hV 28,hB hV 26,hB hV 27])] (hY 25 (.cn (hA 23)))) (g3 [gX 5 hN,gX 6 hN,.bW [7,8,9] hN,.ite (hs 792 [hj [hB (hG 361) 46]]) (g3 [gX 3 (hM 806),gX 7 (hB hV 26),gX 8 (hB hV 27),gX 5 (hB hV 28)] (g' (hs 792 [hj [hB (hG 380) 46]]) (g3 [gX 3 (hM 806),gX 9 (hB hV 26),gX 8 (hB hV 27)] (gX 6 (hB hV 28))))) (g' (hs 792 [hj [hB (hG 380) 46]]) (g3 [gX 3 (hM 806),.bW [7,9] (hB hV 26),gX 8 (hB hV 27),gX 6 (hB hV 28)] (g' (hs 792 [hj [hB (hG 361) 46]]) (g3 [gX 3 (hM 806),gX 8 (hB hV 27)] (gX 5 (hB hV 28)))))),g' (.Q .cm iz hN) (g3 [.cI [11,12] iz] (.ite (.Q .cm (hL 11) hN) (g3 [g' (.Q .ct (hL 11) (hA 22)) .av] (gX 6 (hP (.sub (hA 22) (hL 11)) (hL 12)))) .av)),g' (.Q .ck iK hN) (.bW [7,8] (hB (hM 799) 26)),gX 4 hN,gX 10 (.or (.Q .ck iz hN) (hH iz (hS [33])))] (.ite (.and hR (hs 792 [hj [hB (hG 311) 46]])) (g3 [gX 8 (hB (hM 799) 27),gX 4 (i2 597 [h3,iz,hL 10,iK,hL 8,hN])] (hY 25 (.bd 1425 ho))) (.ite (hs 792 [hj [hB (hG 400) 46]]) (g3 [gX 3 (hM 806),gX 8 (hB hV 27),.ite (.or (.and (hB hV 29) (.Q .ck iz hN)) (hH iz (hS [33]))) (gX 10 (hj [hT,hF])) (.ite (.Q .ck iz hN) (gX 10 (hj [hF,hT])) (gX 10 (hj [hF,hF]))),gX 4 (i2 585 [h3,iz,hL 10,hB hV 28,iK,hL 8,hB hV 30])] (hY 25 (.cn (hA 23)))) (.ite (hs 792 [hj [hB (hG 239) 46]]) (g3 [gX 8 (hB (hM 799) 27),gX 4 (i2 597 [h3,iz,hL 10,iK,hL 8,hT])] (hY 25 (.bd 1453 ho))) (.ite (hs 792 [hj [hB (hG 251) 46]]) (g3 [gX 8 (hB (hM 799) 27),gX 4 (i2 621 [h3,iz,hL 10,iK,hL 8,hT])] (hY 25 (.bd 1489 ho))) (.ite (.and g7 (hs 792 [hj [hB (hG 203) 46]])) (g3 [gX 8 (hB (hM 799) 26),gX 4 (i2 597 [h3,iz,hL 10,iK,hL 8,hF])] (hY 25 (.bd 1411 ho))) (.ite (.and g7 (hs 792 [hj [hB (hG 215) 46]])) (g3 [gX 8 (hB (hM 799) 26),gX 4 (i2 621 [h3,iz,hL 10,iK,hL 8,hF])] (hY 25 (.bd 1432 ho))) (.ite (.or (.Q .cm h3 hN) (.Q .cm iz hN)) (g3 [gX 4 (i2 585 [h3,iz,hj [hL 10,hF],hS [],iK,hL 8,hN])] (hY 25 (.cn (hA 23)))) (g3 [.ite g7 (gX 13 (hS [98,108,111,99,107])) (gX 13 (hS [102,108,111,119])),gX 3 (hM 799)] (nQ 1293 [.ca [119,104,105,108,101,32,112,97,114,115,105,110,103,32,97,32,37,115,32,110,111,100,101] (hL 13),iK,.ca [101,120,112,101,99,116,101,100,32,116,104,101,32,110,111,100,101,32,99,111,110,116,101,110,116,44,32,98,117,116,32,102,111,117,110,100,32,37,114] (hB hV 46),hB hV 26,hN]))))))))))] (.ret im)
noncomputable def Rs:DS:=g3 [gX 1 (hM 806),.as (.aO (hA 24) (hB g7 26))] (.ret (hM 1418))
noncomputable def Rt:DS:=g3 [g' (hs 792 [hj [hB (hG 311) 46]]) (g3 [gX 1 (hM 806)] (.ite (.not (hs 792 [hj [hB (hG 311) 46,hB (hG 227) 46]])) (g3 [.as (.aO (hA 23) (.bd 1418 ho))] (.ret (hM 1382))) (g3 [hY 25 (.bd 1418 ho)] (.ret (hs 1518 [hB g7 27]))))),g' (.not (hs 792 [hj [hB (hG 227) 46]])) (g3 [gX 1 (hM 799)] (nQ 1293 [hS [119,104,105,108,101,32,112,97,114,115,105,110,103,32,97,32,98,108,111,99,107,32,99,111,108,108,101,99,116,105,111,110],.sub (hA 24) (hI (-1)),.ca [101,120,112,101,99,116,101,100,32,60,98,108,111,99,107,32,101,110,100,62,44,32,98,117,116,32,102,111,117,110,100,32,37,114] (hB g7 46),hB g7 26,hN])),gX 1 (hM 806),gX 2 (i2 609 [hB g7 26,hB g7 27]),hY 25 (.cn (hA 23)),.as (.cn (hA 24))] (.ret hR)
noncomputable def Ru:DS:=g3 [g' (hs 792 [hj [hB (hG 311) 46]]) (g3 [gX 1 (hM 806)] (.ite (.not (hs 792 [hj [hB (hG 311) 46,hB (hG 287) 46,hB (hG 299) 46,hB (hG 227) 46]])) (g3 [.as (.aO (hA 23) (.bd 1425 ho))] (.ret (hM 1382))) (g3 [hY 25 (.bd 1425 ho)] (.ret (hs 1518 [hB g7 27]))))),gX 1 (hM 799),gX 2 (i2 609 [hB g7 26,hB g7 26]),hY 25 (.cn (hA 23))] (.ret hR)
noncomputable def Rv:DS:=g3 [gX 1 (hM 806),.as (.aO (hA 24) (hB g7 26))] (.ret (hM 1439))
noncomputable def Rw:DS:=g3 [g' (hs 792 [hj [hB (hG 287) 46]]) (g3 [gX 1 (hM 806)] (.ite (.not (hs 792 [hj [hB (hG 287) 46,hB (hG 299) 46,hB (hG 227) 46]])) (g3 [.as (.aO (hA 23) (.bd 1446 ho))] (.ret (hM 1396))) (g3 [.av] .av))),g' (.not (hs 792 [hj [hB (hG 227) 46]])) (g3 [gX 1 (hM 799)] (nQ 1293 [hS [119,104,105,108,101,32,112,97,114,115,105,110,103,32,97,32,98,108,111,99,107,32,109,97,112,112,105,110,103],.sub (hA 24) (hI (-1)),.ca [101,120,112,101,99,116,101,100,32,60,98,108,111,99,107,32,101,110,100,62,44,32,98,117,116,32,102,111,117,110,100,32,37,114] (hB g7 46),hB g7 26,hN])),gX 1 (hM 806),gX 2 (i2 633 [hB g7 26,hB g7 27]),hY 25 (.cn (hA 23)),.as (.cn (hA 24))] (.ret hR)
noncomputable def Rx:DS:=.ite (hs 792 [hj [hB (hG 299) 46]]) (g3 [gX 1 (hM 806)] (.ite (.not (hs 792 [hj [hB (hG 287) 46,hB (hG 299) 46,hB (hG 227) 46]])) (g3 [.as (.aO (hA 23) (.bd 1439 ho))] (.ret (hM 1396))) (g3 [hY 25 (.bd 1439 ho)] (.ret (hs 1518 [hB g7 27]))))) (g3 [.av,.av] .av)
noncomputable def Ry:DS:=g3 [gX 1 (hM 806),.as (.aO (hA 24) (hB g7 26))] (.ret (hs 1461 [hT]))
noncomputable def Rz:DS:=g3 [g' (.not (hs 792 [hj [hB (hG 263) 46]])) (g3 [g' (.not g7) (.ite (hs 792 [hj [hB (hG 323) 46]]) (j8 806) (g3 [gX 2 (hM 799)] (nQ 1293 [hS [119,104,105,108,101,32,112,97,114,115,105,110,103,32,97,32,102,108,111,119,32,115,101,113,117,101,110,99,101],.sub (hA 24) (hI (-1)),.ca [101,120,112,101,99,116,101,100,32,39,44,39,32,111,114,32,39,93,39,44,32,98,117,116,32,103,111,116,32,37,114] (hB hR 46),hB hR 26,hN])))] (.ite (hs 792 [hj [hB (hG 287) 46]]) (g3 [gX 2 (hM 799),gX 3 (i2 621 [hN,hN,hT,hB hR 26,hB hR 27,hT]),hY 25 (.bd 1468 ho)] (.ret hV)) (g' (.not (hs 792 [hj [hB (hG 263) 46]])) (g3 [.as (.aO (hA 23) (.bd 1461 ho))] (.ret (hM 1389)))))),gX 2 (hM 806),gX 3 (i2 609 [hB hR 26,hB hR 27]),hY 25 (.cn (hA 23)),.as (.cn (hA 24))] (.ret hV)
noncomputable def RA:DS:=g3 [gX 1 (hM 806)] (.ite (.not (hs 792 [hj [hB (hG 299) 46,hB (hG 323) 46,hB (hG 263) 46]])) (g3 [.as (.aO (hA 23) (.bd 1475 ho))] (.ret (hM 1389))) (g3 [hY 25 (.bd 1475 ho)] (.ret (hs 1518 [hB g7 27]))))
noncomputable def RB:DS:=.ite (hs 792 [hj [hB (hG 299) 46]]) (g3 [gX 1 (hM 806)] (.ite (.not (hs 792 [hj [hB (hG 323) 46,hB (hG 263) 46]])) (g3 [.as (.aO (hA 23) (.bd 1482 ho))] (.ret (hM 1389))) (g3 [hY 25 (.bd 1482 ho)] (.ret (hs 1518 [hB g7 27]))))) (g3 [hY 25 (.bd 1482 ho),gX 1 (hM 799)] (.ret (hs 1518 [hB g7 26])))
noncomputable def RD:DS:=g3 [hY 25 (.bd 1461 ho),gX 1 (hM 799)] (.ret (i2 633 [hB g7 26,hB g7 26]))
noncomputable def RE:DS:=g3 [gX 1 (hM 806),.as (.aO (hA 24) (hB g7 26))] (.ret (hs 1497 [hT]))
noncomputable def RG:DS:=g3 [g' (.not (hs 792 [hj [hB (hG 275) 46]])) (g3 [g' (.not g7) (.ite (hs 792 [hj [hB (hG 323) 46]]) (j8 806) (g3 [gX 2 (hM 799)] (nQ 1293 [hS [119,104,105,108,101,32,112,97,114,115,105,110,103,32,97,32,102,108,111,119,32,109,97,112,112,105,110,103],.sub (hA 24) (hI (-1)),.ca [101,120,112,101,99,116,101,100,32,39,44,39,32,111,114,32,39,125,39,44,32,98,117,116,32,103,111,116,32,37,114] (hB hR 46),hB hR 26,hN])))] (.ite (hs 792 [hj [hB (hG 287) 46]]) (g3 [gX 2 (hM 806)] (.ite (.not (hs 792 [hj [hB (hG 299) 46,hB (hG 323) 46,hB (hG 275) 46]])) (g3 [.as (.aO (hA 23) (.bd 1504 ho))] (.ret (hM 1389))) (g3 [hY 25 (.bd 1504 ho)] (.ret (hs 1518 [hB hR 27]))))) (g' (.not (hs 792 [hj [hB (hG 275) 46]])) (g3 [.as (.aO (hA 23) (.bd 1511 ho))] (.ret (hM 1389)))))),gX 2 (hM 806),gX 3 (i2 633 [hB hR 26,hB hR 27]),hY 25 (.cn (hA 23)),.as (.cn (hA 24))] (.ret hV)
noncomputable def RH:DS:=.ite (hs 792 [hj [hB (hG 299) 46]]) (g3 [gX 1 (hM 806)] (.ite (.not (hs 792 [hj [hB (hG 323) 46,hB (hG 275) 46]])) (g3 [.as (.aO (hA 23) (.bd 1497 ho))] (.ret (hM 1389))) (g3 [hY 25 (.bd 1497 ho)] (.ret (hs 1518 [hB g7 27]))))) (g3 [hY 25 (.bd 1497 ho),gX 1 (hM 799)] (.ret (hs 1518 [hB g7 26])))
noncomputable def RI:DS:=g3 [hY 25 (.bd 1497 ho)] (.ret (hs 1518 [hB (hM 799) 26]))
noncomputable def RJ:DS:=.ret (i2 585 [hN,hN,hj [hT,hF],hS [],g7,g7,hN])
noncomputable def RK:DS:=.ret (.or (j7 ho (hS [9,10,13,133])) (.or (.b5 .le .le (hS [32]) ho (hS [126])) (.or (.b5 .le .le (hS [160]) ho (hS [55295])) (.or (.b5 .le .le (hS [57344]) ho (hS [65533])) (.b5 .le .le (hS [65536]) ho (hS [1114111]))))))
noncomputable def q':List (Nat×List Nat):=[(53,[0,9,10,11,4,5]),(114,[26,27]),(135,[0,28,26,27]),(147,[26,27]),(159,[26,27]),(179,[26,27,8]),(191,[26,27]),(203,[26,27]),(215,[26,27]),(227,[26,27]),(239,[26,27]),(251,[26,27]),(263,[26,27]),(275,[26,27]),(287,[26,27]),(299,[26,27]),(311,[26,27]),(323,[26,27]),(342,[28,26,27]),(361,[28,26,27]),(380,[28,26,27]),(400,[28,29,26,27,30]),(427,[26,27]),(449,[34,26,27]),(469,[34,35,36,26,27,37]),(481,[26,27]),(501,[26,27,8]),(513,[26,27]),(533,[26,27,38,39,40]),(553,[26,27,38]),(565,[34,26,27]),(585,[34,35,36,28,26,27,30]),(597,[34,35,36,26,27,37]),(609,[26,27]),(621,[34,35,36,26,27,37]),(633,[26,27]),(763,[32,33,9,10,11,31])]
noncomputable def ud:List (Nat×List Nat):=[(95,[41,42,43,44,45]),(744,[41,42,43,44,45]),(1293,[41,42,43,44,45])]
noncomputable def RL:List (Nat×List Nat):=[(53,[53]),(114,[114]),(135,[135,114]),(147,[147,114]),(159,[159,114]),(179,[179,114]),(191,[191,114]),(203,[203,114]),(215,[215,114]),(227,[227,114]),(239,[239,114]),(251,[251,114]),(263,[263,114]),(275,[275,114]),(287,[287,114]),(299,[299,114]),(311,[311,114]),(323,[323,114]),(342,[342,114]),(361,[361,114]),(380,[380,114]),(400,[400,114]),(427,[427]),(449,[449,427]),(469,[469,449,427]),(481,[481,427]),(501,[501,427]),(513,[513,427]),(533,[533,427]),(553,[553,427]),(565,[565,449,427]),(585,[585,449,427]),(597,[597,469,449,427]),(609,[609,481,427]),(621,[621,469,449,427]),(633,[633,481,427]),(763,[763]),(95,[95,67]),(744,[744,95,67]),(1293,[1293,95,67])]
noncomputable def GH:List Nat:=[501,513,533,553,565,585,597,609,621,633]
noncomputable def wl:List (List Nat×List (List Nat)):=[([101,120,112,101,99,116,101,100,32,116,104,101,32,110,111,100,101,32,99,111,110,116,101,110,116,44,32,98,117,116,32,102,111,117,110,100,32,37,114],[[60,100,105,114,101,99,116,105,118,101,62],[60,100,111,99,117,109,101,110,116,32,115,116,97,114,116,62],[60,100,111,99,117,109,101,110,116,32,101,110,100,62],[60,115,116,114,101,97,109,32,115,116,97,114,116,62],[60,115,116,114,101,97,109,32,101,110,100,62],[60,98,108,111,99,107,32,115,101,113,117,101,110,99,101,32,115,116,97,114,116,62],[60,98,108,111,99,107,32,109,97,112,112,105,110,103,32,115,116,97,114,116,62],[60,98,108,111,99,107,32,101,110,100,62],[91],[123],[93],[125],[63],[58],[45],[44],[60,97,108,105,97,115,62],[60,97,110,99,104,111,114,62],[60,116,97,103,62],[60,115,99,97,108,97,114,62]]),([101,120,112,101,99,116,101,100,32,39,44,39,32,111,114,32,39,125,39,44,32,98,117,116,32,103,111,116,32,37,114],[[60,100,105,114,101,99,116,105,118,101,62],[60,100,111,99,117,109,101,110,116,32,115,116,97,114,116,62],[60,100,111,99,117,109,101,110,116,32,101,110,100,62],[60,115,116,114,101,97,109,32,115,116,97,114,116,62],[60,115,116,114,101,97,109,32,101,110,100,62],[60,98,108,111,99,107,32,115,101,113,117,101,110,99,101,32,115,116,97,114,116,62],[60,98,108,111,99,107,32,109,97,112,112,105,110,103,32,115,116,97,114,116,62],[60,98,108,111,99,107,32,101,110,100,62],[91],[123],[93],[125],[63],[58],[45],[44],[60,97,108,105,97,115,62],[60,97,110,99,104,111,114,62],[60,116,97,103,62],[60,115,99,97,108,97,114,62]]),([101,120,112,101,99,116,101,100,32,39,44,39,32,111,114,32,39,93,39,44,32,98,117,116,32,103,111,116,32,37,114],[[60,100,105,114,101,99,116,105,118,101,62],[60,100,111,99,117,109,101,110,116,32,115,116,97,114,116,62],[60,100,111,99,117,109,101,110,116,32,101,110,100,62],[60,115,116,114,101,97,109,32,115,116,97,114,116,62],[60,115,116,114,101,97,109,32,101,110,100,62],[60,98,108,111,99,107,32,115,101,113,117,101,110,99,101,32,115,116,97,114,116,62],[60,98,108,111,99,107,32,109,97,112,112,105,110,103,32,115,116,97,114,116,62],[60,98,108,111,99,107,32,101,110,100,62],[91],[123],[93],[125],[63],[58],[45],[44],[60,97,108,105,97,115,62],[60,97,110,99,104,111,114,62],[60,116,97,103,62],[60,115,99,97,108,97,114,62]]),([101,120,112,101,99,116,101,100,32,39,60,100,111,99,117,109,101,110,116,32,115,116,97,114,116,62,39,44,32,98,117,116,32,102,111,117,110,100,32,37,114],[[60,100,105,114,101,99,116,105,118,101,62],[60,100,111,99,117,109,101,110,116,32,115,116,97,114,116,62],[60,100,111,99,117,109,101,110,116,32,101,110,100,62],[60,115,116,114,101,97,109,32,115,116,97,114,116,62],[60,115,116,114,101,97,109,32,101,110,100,62],[60,98,108,111,99,107,32,115,101,113,117,101,110,99,101,32,115,116,97,114,116,62],[60,98,108,111,99,107,32,109,97,112,112,105,110,103,32,115,116,97,114,116,62],[60,98,108,111,99,107,32,101,110,100,62],[91],[123],[93],[125],[63],[58],[45],[44],[60,97,108,105,97,115,62],[60,97,110,99,104,111,114,62],[60,116,97,103,62],[60,115,99,97,108,97,114,62]]),([101,120,112,101,99,116,101,100,32,60,98,108,111,99,107,32,101,110,100,62,44,32,98,117,116,32,102,111,117,110,100,32,37,114],[[60,100,105,114,101,99,116,105,118,101,62],[60,100,111,99,117,109,101,110,116,32,115,116,97,114,116,62],[60,100,111,99,117,109,101,110,116,32,101,110,100,62],[60,115,116,114,101,97,109,32,115,116,97,114,116,62],[60,115,116,114,101,97,109,32,101,110,100,62],[60,98,108,111,99,107,32,115,101,113,117,101,110,99,101,32,115,116,97,114,116,62],[60,98,108,111,99,107,32,109,97,112,112,105,110,103,32,115,116,97,114,116,62],[60,98,108,111,99,107,32,101,110,100,62],[91],[123],[93],[125],[63],[58],[45],[44],[60,97,108,105,97,115,62],[60,97,110,99,104,111,114,62],[60,116,97,103,62],[60,115,99,97,108,97,114,62]]),([102,111,117,110,100,32,99,104,97,114,97,99,116,101,114,32,37,114,32,116,104,97,116,32,99,97,110,110,111,116,32,115,116,97,114,116,32,97,110,121,32,116,111,107,101,110],[[64],[9]]),([119,104,105,108,101,32,112,97,114,115,105,110,103,32,97,32,37,115,32,110,111,100,101],[[98,108,111,99,107],[102,108,111,119]])]
noncomputable def GI:List (Nat×List (Nat×AV)):=[(135,[(46,.str [60,100,105,114,101,99,116,105,118,101,62])]),(147,[(46,.str [60,100,111,99,117,109,101,110,116,32,115,116,97,114,116,62])]),(159,[(46,.str [60,100,111,99,117,109,101,110,116,32,101,110,100,62])]),(179,[(46,.str [60,115,116,114,101,97,109,32,115,116,97,114,116,62])]),(191,[(46,.str [60,115,116,114,101,97,109,32,101,110,100,62])]),(203,[(46,.str [60,98,108,111,99,107,32,115,101,113,117,101,110,99,101,32,115,116,97,114,116,62])]),(215,[(46,.str [60,98,108,111,99,107,32,109,97,112,112,105,110,103,32,115,116,97,114,116,62])]),(227,[(46,.str [60,98,108,111,99,107,32,101,110,100,62])]),(239,[(46,.str [91])]),(251,[(46,.str [123])]),(263,[(46,.str [93])]),(275,[(46,.str [125])]),(287,[(46,.str [63])]),(299,[(46,.str [58])]),(311,[(46,.str [45])]),(323,[(46,.str [44])]),(342,[(46,.str [60,97,108,105,97,115,62])]),(361,[(46,.str [60,97,110,99,104,111,114,62])]),(380,[(46,.str [60,116,97,103,62])]),(400,[(46,.str [60,115,99,97,108,97,114,62])]),(1521,[(47,.val (.ref 1304))])]
noncomputable def RM:List (Nat×List (List Nat×AV)):=[(1304,[([33],.str [33]),([33,33],.str [116,97,103,58,121,97,109,108,46,111,114,103,44,50,48,48,50,58])])]
noncomputable def Ax:Nat:=1521
noncomputable def GJ:List (Nat×List AV):=[(1432,[]),(1439,[]),(1446,[]),(1382,[]),(1396,[]),(1418,[]),(1411,[]),(1368,[]),(1361,[]),(1354,[]),(1511,[]),(1489,[]),(1497,[(.bool g)]),(1504,[]),(1389,[]),(1461,[(.bool g)]),(1482,[]),(1468,[]),(1475,[]),(1453,[]),(1347,[]),(1425,[]),(1404,[(.bool g),(.bool g)]),(1340,[])]
noncomputable def Ay:List (Nat×Nat×Nat×DS):=[(682,2,2,Qy),(690,2,2,Qz),(698,2,2,QA),(706,2,3,QB),(713,1,1,QC),(720,2,5,Gs),(727,2,2,QD),(783,2,2,QE),(792,2,2,QF),(799,1,1,QG),(806,1,1,QH),(813,1,1,QI),(820,1,2,Gu),(827,1,4,Gv),(834,1,3,Gw),(841,1,4,Gy),(848,1,2,QJ),(855,2,3,Gz),(862,2,2,QK),(869,1,2,QL),(876,1,2,QM),(890,1,1,QN),(897,1,1,QO),(904,2,4,QP),(911,1,1,QQ),(918,1,1,QR),(925,2,4,QS),(932,1,1,QT),(939,1,1,QU),(946,2,4,QV),(953,1,3,QW),(960,1,4,GA),(967,1,4,QX),(974,1,5,GB),(981,1,1,QY),(988,1,1,QZ),(995,1,1,Q0),(1023,1,1,Q1),(1037,2,2,Q2),(1044,1,1,Q3),(1058,1,1,Q4),(1065,1,1,Q5),(1072,1,1,Q6),(1079,1,1,Q7),(1086,1,1,Q8),(1093,1,2,Q9),(1100,1,2,GC),(1163,2,9,GD),(1170,1,9,GF),(1212,2,7,Q_),(1222,3,8,Q'),(1243,1,8,wj),(1250,3,10,Aw),(1264,3,6,GG),(1278,1,2,Ra),(1312,2,2,Rb),(1326,1,1,Rg),(1333,1,2,Rh),(1340,1,3,Ri),(1347,1,5,Rj),(1354,1,7,Rl),(1361,1,6,Rm),(1368,1,2,Rn),(1375,1,8,Ro),(1382,1,1,Rp),(1389,1,1,Rq),(1396,1,1,Rr),(1404,3,14,wk),(1411,1,2,Rs),(1418,1,3,Rt),(1425,1,3,Ru),(1432,1,2,Rv),(1439,1,3,Rw),(1446,1,2,Rx),(1453,1,2,Ry),(1461,2,4,Rz),(1468,1,2,RA),(1475,1,2,RB),(1482,1,2,RD),(1489,1,2,RE),(1497,2,4,RG),(1504,1,2,RH),(1511,1,1,RI),(1518,2,2,RJ),(668,1,1,RK)]
noncomputable def lk{α:Type}(n:Nat):List (Nat×α)->Option α|[]=>V|(k,v)::r=>match jn n k with|H=>U v|g=>lk n r
theorem RN{α:Type}{n k:Nat}{v:α}{r:List (Nat×α)}:lk n ((k,v)::r)=cond (jn n k) (U v) (lk n r):=rfl
noncomputable def gY:iW where
 cj:=λC=>lk C q'
 cr:=λC=>lk C ud
 br:=λC k=>match lk C GI with|U l=>lk k l|V=>V
 sub:=λC D=>match lk C RL with|U l=>kK D l|V=>g
 dN:=λD=>lk D RM
 a6:=Ax
 eT:=λC=>kK C GH
 cs:=λf=>lk f GJ
 dF:=λf l=>wl.any λp=>hm p.1 f&&p.2.any (hm l)
end
section
open PySem PySem.W PySem.Calls PyProof.Rows
noncomputable def ue{α:Type}(n:g2):List (g2×α)->Option α|[]=>V|(k,v)::r=>if n=k then U v else ue n r
theorem RO{α:Type}{n k:g2}{v:α}{r:List (g2×α)}:ue n ((k,v)::r)=if n=k then U v else ue n r:=rfl
structure p0 where
 bJ:List g2
 cx:List (g2×AV)
 bp:List (Nat×i6)
 ch:List (Nat×i6)
 c':List (Nat×i6)
 quiet:Nat
noncomputable def p0.eo(R:p0):Tb where
 cx:=λx=>ue x R.cx
 bp:=λf=>lk f R.bp
 ch:=λf=>lk f R.ch
 c':=λf=>lk f R.c'
noncomputable def wo(K:iY)(a:Nat)(x:g2):Option gZ:=(nsIn K a x).join
noncomputable def p0.b7(R:p0)(ai:m8)(w:iI)(K:iY)(az:Nat):Gl where
 prog:=ai
 w:=w
 K:=K
 b1:=az
 bJ:=R.bJ
 T:=gY
 c5:=wo K pi
 dV:=wo K uW
 quiet:=λf=>jn f R.quiet
end
section
open PySem
noncomputable def ra:AV:=.au [.str [118,97,108,117,101],.au [.bool H,.bool g],.str [],.none]
noncomputable def GK:DS:=g3 [gX 5 (.sub (hS [97,98,99,100]) g7),gX 6 (hj [hS [83],hP (hP (hS [39,118]) h3) (hS [39]),hP (hS [118]) h3,hF]),gX 7 (iM [hj [hS [],.a1 .mul (hS [32]) hR,hN,hF]]),g' (hH im (hI 4)) (.as (.aO iK (hj [hS [88],hS [9],hN,hF]))),g' (hH hV (hS [83])) (.ret (hj [hP iK (iM [hj [hS [83],.sub iz ic,.sub iz (hI 2),hT]]),iM [],hF])),g' (hH hV (hS [75])) (g3 [.ite (hH im (hI 5)) (gX 10 (iM [hj [hS [88],hS [45,32,39,119,39],hN,hF]])) (.ite (hH im (hI 6)) (gX 10 (iM [iz,hj [hS [88],hS [58,32,39,119,39],hN,hF]])) (.ite (hH im (hI 8)) (gX 10 (iM [hj [hS [88],hS [64],hN,hF]])) (gX 10 (.bI (.Q .lt (.a1 .mod (.a1 .fdiv ho (hI 20)) (hI 5)) (hI 3)) (iM [iz]) (iM [])))))] (.ret (hj [hP (hP iK (iM [hj [hS [75],hP (hP (hS [107]) h3) (.bI (hL 10) (hS [58,32]) (hS [58])),hP (hS [107]) h3,hF]])) (hL 10),iM [hj [hR,hS [75]]],.not (hL 10)]))),g' (hH im (hI 8)) (.ret (hj [hP iK (iM [hj [hS [68],hS [45,32],hN,hF],hj [hS [88],hS [64],hN,hF]]),iM [hj [hR,hS [68]]],hF])),gX 8 (.a1 .mod (.a1 .fdiv ho (hI 20)) (hI 5)),g' (.Q .lt (hL 8) (hI 2)) (.ret (hj [hP iK (iM [hj [hS [68],hS [45,32],hN,hF],hj [hS [83],.sub iz ic,.sub iz (hI 2),hT]]),iM [hj [hR,hS [68]]],hF])),g' (hH (hL 8) (hI 2)) (.ret (hj [hP iK (iM [hj [hS [68],hS [45],hN,hF]]),iM [hj [hR,hS [68]]],hT])),gX 9 (.and (hH (hL 8) (hI 3)) (hH (.a1 .mod (.a1 .fdiv ho (hI 100)) (hI 2)) hX)),.as (.aO iK (hj [hS [68],hS [45,32],hN,hF])),.ite (hH (hL 8) (hI 3)) (.as (.aO iK (hj [hS [68],.bI (hL 9) (hS [45,32]) (hS [45]),hN,hF]))) (.as (.aO iK (hj [hS [75],hP (hP (hS [109]) h3) (hS [58]),hP (hS [109]) h3,hF]))),g' (hL 9) (.as (.aO iK (hj [hS [83],.sub iz ic,.sub iz (hI 2),hT])))] (.ret (hj [iK,iM [hj [hR,hS [68]],hj [hP hR (hI 2),.bI (hH (hL 8) (hI 3)) (hS [68]) (hS [75])]],.not (hL 9)]))
noncomputable def GL:DS:=g3 [gX 2 (.sub (iM [hX,hX,hI 2]) (.a1 .mod (.a1 .fdiv g7 (hI 45)) (hI 3))),gX 3 (iM []),gX 4 hF,gX 5 (hS []),gX 6 hX,gX 7 (iM []),.cb .d7 [8] (.len ho) (g3 [gX 9 (.sub ho (hL 8)),gX 10 (.bI (hH (hL 8) (.a1 .mod g7 (hI 5))) (.a1 .mod (.a1 .fdiv g7 (hI 5)) (hI 9)) (hI 9)),gX 11 (.a1 .fdiv (hL 9) (hI 4)),.ite (.not hV) (g3 [gX 12 hR] (gX 13 (.sub (hS [68,75,68,75,68,75,75,83]) (.a1 .mod (hL 9) (hI 8))))) (.ite (.and im (.Q .gt (.a1 .mod (hL 9) (hI 4)) hX)) (g3 [gX 12 (hP (.sub (.sub hV (hI (-1))) hX) (.bI (.and (hH (.a1 .mod (hL 11) (hI 5)) (hI 4)) (hH (.sub (.sub hV (hI (-1))) ic) (hS [75]))) hX (hI 2)))] (gX 13 (.sub (hS [68,75,75,83,68]) (.a1 .mod (hL 11) (hI 5))))) (g3 [.cI [12,13] (.sub hV (.a1 .mod (hL 11) (.len hV)))] (gX 3 (.c1 hV .c2 (.a1 .mod (hL 11) (.len hV)))))),.ite (hH (hL 10) hX) (gX 12 (hP (hL 12) ic)) (.ite (hH (hL 10) ic) (gX 12 (.bI (.Q .gt (hL 12) hX) (.a1 .sub (hL 12) ic) (hI 3))) (.ite (hH (hL 10) (hI 2)) (gX 13 (.bI (hH (hL 13) (hS [68])) (hS [75]) (hS [68]))) (.ite (hH (hL 10) (hI 3)) (gX 13 (hS [83])) (.ite (.or (hH (hL 10) (hI 5)) (hH (hL 10) (hI 6))) (gX 13 (hS [75])) (g' (hH (hL 10) (hI 7)) (gX 12 (hP (hL 12) (hI 2)))))))),.cI [14,15,4] (iS 1532 [hL 9,hL 8,hL 12,hL 13,hL 10]),gX 3 (hP hV (hL 15)),gX 12 hX,.cb .m [13,16,17,18] (hL 14) (g3 [g' (.Q .b' (hL 13) (hS [])) (.as (.aO iK (hj [hL 13,hj [.len h3,iz,hL 12],hL 17,hL 18]))),gX 5 (hP h3 (hL 16))] (gX 12 (hP (hL 12) (.len (hL 16)))))] (g' (.or (.Q .lt (hP (hL 8) ic) (.len ho)) (hH (.a1 .mod (.a1 .fdiv g7 (hI 135)) (hI 2)) hX)) (g3 [gX 5 (hP h3 (.sub (iM [hS [10],hS [32,35,32,99,10],hS [10,10],hS [10,32,32,32,35,32,99,10]]) (.a1 .mod (.a1 .fdiv (hL 9) (hI 200)) (hI 4)))),gX 6 (hP iz (.sub (iM [ic,ic,hI 2,hI 2]) (.a1 .mod (.a1 .fdiv (hL 9) (hI 200)) (hI 4))))] (gX 12 hX)))),.as (.aO iK (hj [hS [101,110,100],hj [.len h3,iz,hL 12],hN,hF]))] (.ret (hj [h3,iK]))
noncomputable def RP:DS:=g3 [.cI [3,4,5,6] (.sub ho (.sub g7 hX)),g' (hH hV (hS [88])) (.ret (hj [hS [115,99,97,110,110,101,114],im,hN])),g' (.and (hH hV (hS [83])) (.and iz (.Q .ge (.sub im (hI 2)) hR))) (g3 [gX 7 (.sub ho (hP (.sub g7 hX) ic)),g' (hH (.sub im (hI 2)) hR) (.ret (hj [hS [115,99,97,110,110,101,114],.sub iK ic,im]))] (g' (hH (.sub iK hX) (hS [88])) (.ret (hj [hS [115,99,97,110,110,101,114],.sub iK ic,hN]))))] (.ret hN)
noncomputable def RQ:DS:=g3 [.cI [3,4,5,6] (.sub ho (.sub g7 hX)),g' (.or (hH hV (hS [101,110,100])) (.Q .lt (.sub im (hI 2)) hR)) (.ret (hS [111,117,116]))] (.ret (.bI (hH (.sub im (hI 2)) hR) hV (hS [105,110])))
noncomputable def RS:DS:=g3 [.cI [3,4,5,6] (.sub ho (.sub g7 hX)),g' (hH hV (hS [83])) (g3 [.as (.aO hR (hj [hS [118,97,108,117,101],hj [hF,hT],h3,hS [39]])),.c4 g7 hX (hP (.sub g7 hX) ic)] (.ret hN)),g' (hH hV (hS [68])) (g3 [.as (.aO hR (hj [hS [108,105,115,116],hF]))] (.ret (iS 1567 [ho,g7,hR,im]))),.as (.aO hR (hj [hS [109,97,112],hF]))] (.ret (iS 1574 [ho,g7,hR,im]))
noncomputable def GN:DS:=g3 [gX 4 (.sub hV (hI 2))] (.bm hT (g3 [gX 5 (iS 1546 [ho,g7,im]),g' (.Q .cm h3 hN) (.ret h3),gX 6 (iS 1553 [ho,g7,im]),g' (hH iz (hS [111,117,116])) (g3 [.as (.aO hR (hj [hS [108,105,115,116,32,101,110,100]]))] (.ret hN)),g' (.Q .b' iz (hS [68])) (.ret (hj [hS [112,97,114,115,101,114],.sub (.sub ho (.sub g7 hX)) ic,hV])),.c4 g7 hX (hP (.sub g7 hX) ic),gX 5 (iS 1546 [ho,g7,im]),g' (.Q .cm h3 hN) (.ret h3),gX 6 (iS 1553 [ho,g7,im])] (.ite (.or (hH iz (hS [111,117,116])) (hH iz (hS [68]))) (.as (.aO hR (.cZ ra))) (.ite (hH iz (hS [75])) (.ret (hj [hS [112,97,114,115,101,114],.sub (.sub ho (.sub g7 hX)) ic,.sub (.sub ho (.sub g7 hX)) ic])) (g3 [gX 5 (iS 1560 [ho,g7,hR])] (g' (.Q .cm h3 hN) (.ret h3)))))))
noncomputable def GO:DS:=g3 [gX 4 (.sub hV (hI 2))] (.bm hT (g3 [gX 5 (iS 1546 [ho,g7,im]),g' (.Q .cm h3 hN) (.ret h3),gX 6 (iS 1553 [ho,g7,im]),g' (hH iz (hS [111,117,116])) (g3 [.as (.aO hR (hj [hS [109,97,112,32,101,110,100]]))] (.ret hN)),g' (.Q .b' iz (hS [75])) (.ret (hj [hS [112,97,114,115,101,114],.sub (.sub ho (.sub g7 hX)) ic,hV])),.as (.aO hR (hj [hS [118,97,108,117,101],hj [hT,hF],.sub (.sub ho (.sub g7 hX)) (hI 2),hN])),.c4 g7 hX (hP (.sub g7 hX) ic),gX 5 (iS 1546 [ho,g7,im]),g' (.Q .cm h3 hN) (.ret h3),gX 6 (iS 1553 [ho,g7,im])] (.ite (hH iz (hS [68])) (g3 [.as (.aO hR (hj [hS [108,105,115,116],hN])),.bm (hH iz (hS [68])) (g3 [.c4 g7 hX (hP (.sub g7 hX) ic),gX 5 (iS 1546 [ho,g7,im]),.ite (.and (.Q .ck h3 hN) (hH (iS 1553 [ho,g7,im]) (hS [105,110]))) (g3 [gX 5 (iS 1560 [ho,g7,hR])] (g' (.Q .ck h3 hN) (gX 5 (iS 1546 [ho,g7,im])))) (g' (.Q .ck h3 hN) (.as (.aO hR (.cZ ra)))),g' (.Q .cm h3 hN) (.ret h3)] (gX 6 (iS 1553 [ho,g7,im])))] (.as (.aO hR (hj [hS [108,105,115,116,32,101,110,100]])))) (.ite (hH iz (hS [105,110])) (g3 [gX 5 (iS 1560 [ho,g7,hR])] (g' (.Q .cm h3 hN) (.ret h3))) (.as (.aO hR (.cZ ra)))))))
noncomputable def RT:DS:=g3 [gX 2 (iM [hX]),gX 3 (iS 1546 [ho,hR,hI (-1)]),g' (.Q .ck hV hN) (g3 [.as (.aO g7 (hj [hS [100,111,99,117,109,101,110,116],hF]))] (gX 3 (iS 1560 [ho,hR,g7]))),g' (.Q .ck hV hN) (gX 3 (iS 1546 [ho,hR,hI (-1)])),g' (.Q .cm hV hN) (.ret hV),.as (.aO g7 (hj [hS [100,111,99,117,109,101,110,116,32,101,110,100],hF])),g' (.Q .b' (.sub (.sub ho (.sub hR hX)) hX) (hS [101,110,100])) (.ret (hj [hS [112,97,114,115,101,114],.sub (.sub ho (.sub hR hX)) ic,hN])),.as (.aO g7 (hj [hS [115,116,114,101,97,109,32,101,110,100]]))] (.ret hN)
noncomputable def RU:DS:=g3 [g' (.cN ho 585) (.ret (hj [hS [118,97,108,117,101],hA 36,hA 28,hA 30])),g' (.cN ho 597) (.ret (hj [hS [108,105,115,116],hA 37])),g' (.cN ho 609) (.ret (hj [hS [108,105,115,116,32,101,110,100]])),g' (.cN ho 621) (.ret (hj [hS [109,97,112],hA 37])),g' (.cN ho 633) (.ret (hj [hS [109,97,112,32,101,110,100]])),g' (.cN ho 533) (.ret (hj [hS [100,111,99,117,109,101,110,116],hA 38])),g' (.cN ho 553) (.ret (hj [hS [100,111,99,117,109,101,110,116,32,101,110,100],hA 38]))] (.ret (.bI (.cN ho 501) (hj [hS [115,116,114,101,97,109]]) (.bI (.cN ho 513) (hj [hS [115,116,114,101,97,109,32,101,110,100]]) (hj [hS [110,111,110,101]]))))
noncomputable def RV:DS:=.ret (.bI (.Q .ck ho hN) hN (hj [hA 9,hA 10,hA 11]))
noncomputable def wp:DS:=g3 [gX 1 (.dR 1000000 (.c1 ho .c2 (hI 5))),.cI [8,9] (iS 1539 [.or (.c1 g7 ic .c2) (iM [hX]),.bI g7 (.sub g7 hX) hX]),gX 2 (iM [hj [hS [115,116,114,101,97,109]]]),gX 3 (iS 1581 [hL 9,hR]),gX 4 (.dS 1312 (l' [hL 8])),gX 5 (iM []),gX 6 hN,.dU (.bm (.Q .cm (.bV 1326 im .nil) hN) (.as (.aO h3 (iS 1588 [.bV 1333 im .nil])))) 7 744 (gX 6 (hj [hS [115,99,97,110,110,101,114],iS 1595 [hB iK 44],iS 1595 [hB iK 42]])) 1293 (gX 6 (hj [hS [112,97,114,115,101,114],iS 1595 [hB iK 44],iS 1595 [hB iK 42]]))] (.ret (.and (.dQ h3 hR) (.dQ iz hV)))
end
section
open PySem
noncomputable def RW:List g2:=mM By ["name","stream","stream_pointer","eof","buffer","pointer","raw_buffer","raw_decode","encoding","index","line","column","done","flow_level","tokens","tokens_taken","indent","indents","allow_simple_key","possible_simple_keys","current_event","yaml_version","tag_handles","states","marks","state","start_mark","end_mark","value","plain","style","mark","token_number","required","anchor","tag","implicit","flow_style","explicit","version","tags","context","context_mark","problem","problem_mark","note","id","DEFAULT_TAGS"]
noncomputable def RX:List (Nat×List Nat):=[(960,[0,2,3,1]),(967,[0,2,3,1]),(974,[0,3,4,1,2]),(1163,[0,1,2,3,5,6,7,8,4]),(1170,[0,1,2,7,8,3,4,5,6]),(1212,[0,1,3,4,5,6,2]),(1354,[0,1,2,5,6,3,4]),(1375,[0,7,1,6,2,3,4,5]),(1404,[0,1,2,3,4,5,6,7,8,9,12,10,11,13]),(1532,[0,1,2,3,4,5,6,7,9,10,8])]
noncomputable def GP:List g2:=mM By ["script","tape","due","refused","parser","got","trouble","error","text","things"]
end
section
open PySem
structure Sys (C:Nat->PC):Prop where
 c:∀{d f a n:Nat} {e:DS} {args:List AV} {st:St} {Q:AV->St->Prop} {X:hv->St->Prop},lk f Ay=U (a,n,e)->args.length=a->WS gY (C d) e (args.map U++jD (n - a) V) st ⟨λb st=>Q .none st,Q,λb b=>False,λb=>X⟩->C (d+1) f args st Q X
noncomputable def p1(q:Nat×Nat)(c:Nat):Nat×Nat:=if c=10 then(q.1+1,0)else(q.1,q.2+1)
noncomputable def o1(l:List Nat):Nat×Nat:=l.foldl p1 (0,0)
noncomputable def hO(b:List Nat)(p:Nat):Nat:=(o1 (b.take p)).1
noncomputable def g1(b:List Nat)(p:Nat):Nat:=(o1 (b.take p)).2
theorem uf{b:List _}(h:b[p]?=U c):o1 (b.take (p+1))=p1 (o1<|b.take p) c:=by unfold o1;rw[List.take_add_one,h,Cf];rfl
theorem Az(h:b[p]?=U 10):hO b (p+1)=hO b p+1:=by unfold hO;rw[uf h];rfl
theorem RY(h:b[p]?=U 10):g1 b (p+1)=0:=by unfold g1;rw[uf h];rfl
theorem sd(h:b[p]?=U c)(n:c≠10):hO b (p+1)=hO b p:=by unfold hO;rw[uf h];unfold p1;rw[if_neg n]
theorem ug(h:b[p]?=U c)(n:c≠10):g1 b (p+1)=g1 b p+1:=by unfold g1;rw[uf h];unfold p1;rw[if_neg n]
structure gW where
 j:Nat->Option MC
 f:Nat
noncomputable def gW.le(a b:gW):Prop:=a.f<=b.f/\∀n,n<a.f->b.j n=a.j n
theorem gW.le.refl(a:gW):a.le a:=⟨hJ _,λb b=>rfl⟩
theorem gW.le.trans{a b c:gW}(x:a.le b)(y:b.le c):a.le c:=⟨f2 x.1 y.1,λn h=>(y.2 n<|hD h x.1).trans<|x.2 n h⟩
noncomputable def GQ:List Nat:=[60,117,110,105,99,111,100,101,32,115,116,114,105,110,103,62]
noncomputable def hy(b:List Nat)(p:Nat):AV:=.obj 53 [0,9,10,11,4,5] [.str GQ,.int p,.int (hO b p),.int (g1 b p),.str b,.int p]
set_option genCtorIdx true in
inductive Tk where
 |bS (a:Nat)
 |p (C a b:Nat)
 |val (C:Nat) (v:AV) (a b:Nat)
 |a0 (v:List Nat) (c:Bool) (e:AV) (a b:Nat)
noncomputable def Tk.bs(B:List Nat):Tk->AV| .bS a=>.obj 179 [26,27,8] [hy B a,hy B a,.none]| .p C a b=>.obj C [26,27] [hy B a,hy B b]| .val C v a b=>.obj C [28,26,27] [v,hy B a,hy B b]| .a0 v e c a b=>.obj 400 [28,29,26,27,30] [.str v,.bool e,hy B a,hy B b,c]
structure SK where
 num:Nat
 bi:Bool
 pos:Nat
noncomputable def SK.bs(B:List Nat)(k:SK):AV:=.obj 763 [32,33,9,10,11,31] [.int k.num,.bool k.bi,.int k.pos,.int (hO B k.pos),.int (g1 B k.pos),hy B k.pos]
noncomputable abbrev kD:=List (Nat×SK)
noncomputable def kZ(B:List Nat)(ks:kD):List (Int×AV):=ks.map λk=>((k.1:Int),k.2.bs B)
noncomputable def iA(l:Nat):kD->Option SK|[]=>V|(j,k)::r=>if j=l then U k else iA l r
theorem o2{r:kD}:iA l ((j,k)::r)=if j=l then U k else iA l r:=rfl
noncomputable def kF(l:Nat):kD->kD|[]=>[]|(j,k)::r=>if j=l then r else(j,k)::kF l r
theorem se{r:kD}:kF l ((j,k)::r)=if j=l then r else(j,k)::kF l r:=rfl
theorem p3(j l:Nat):decide (j=(l:Int))=decide (j=l):=by
 by_cases h:j=l;.subst h;simp
 .rw[decide_eq_false h,decide_eq_false (by lia)]
theorem p4(B:List Nat)(l:Nat):∀ks:kD,tt (l:Int) (kZ B ks)=(iA l ks).isSome:=by
 intro ks;induction ks with|nil=>exact O|cons b r a=>
  obtain⟨j,k⟩:=b;show(match decide ((j:Int)=(l:Int))with|true=>H|false=>tt l<|kZ B r)=_;rw[p3];dsimp only[o2];by_cases h:j=l;.rw[decide_eq_true h,if_pos h];rfl
  .rw[decide_eq_false h,if_neg h];exact a
theorem sf(B)(l:Nat):∀ks,tu l (kZ B ks)=(iA l ks).map (SK.bs B):=by
 intro ks;induction ks with|nil=>exact O|cons b r a=>
  obtain⟨j,k⟩:=b;show(match decide (j=(l:Int))with|true=>U<|k.bs B|false=>tu l<|kZ B r)=_;rw[p3];dsimp only[o2];by_cases h:j=l;.rw[decide_eq_true h,if_pos h];rfl
  .rw[decide_eq_false h,if_neg h];exact a
theorem AA(B)(l:Nat):∀ks,vh l (kZ B ks)=kZ B (kF l ks):=by
 intro ks;induction ks with|nil=>exact O|cons b r a=>
  obtain⟨j,k⟩:=b;show(match decide (j=(l:Int))with|true=>kZ B r|false=>(j,k.bs B)::vh l (kZ B r))=_;rw[p3];dsimp only[se];by_cases h:j=l;.rw[decide_eq_true h,if_pos h]
  .rw[decide_eq_false h,if_neg h,a];rfl
theorem RZ(B)(l)(k):∀ks,iA l ks=V->yJ l (k.bs B) (kZ B ks)=kZ B (ks++[(l,k)]):=by
 intro ks;induction ks with|nil=>exactλ_=>rfl|cons c r b=>
  obtain⟨j,k'⟩:=c;intro h;dsimp only[o2]at h;exists a;by_cases e:j=l;.rw[if_pos e]at h;cases h
  .rw[if_neg e]at h;refine a ?_;show(match decide (j=(l:Int))with|true=>_|false=>((j:Int),k'.bs B)::yJ l _ _)=_;rw[p3,decide_eq_false e,b h];rfl
noncomputable def kN(ks:kD):Prop:=(ks.map (·.1)).Nodup
theorem GR:∀{ks},kN ks->iA l (kF l ks)=none:=by
 intro ks;induction ks with|nil=>exactλ_=>rfl|cons c r a=>
  obtain⟨j,k⟩:=c;intro h;haveI h':=pj.mp h;dsimp only[se];by_cases e:j=l
  .rw[if_pos e];subst e;haveI:∀{r},j∉r.map (·.1)->iA j r=none:=by intro r;induction r with|nil=>intro _;rfl|cons p r a=>obtain⟨i,k⟩:=p;intro b;dsimp only[o2];rw[if_neg λz=>b (by clear zz3 z;exact .head _)];exact a λz=>b<|.tail _ z
   exact this h'.1
  .rw[if_neg e];dsimp only[o2];rw[if_neg e];exact a h'.2
structure Z where
 e:List Nat
 h:Nat
 J:Nat
 I:List Tk
 bb:Nat
 M:Int
 a4:List Int
 ask:Bool
 A:kD
 E:AV
 bP:AV
 bZ:AV
 aN:List Nat
 aY:List Nat
 x:gW
noncomputable def R0:List Nat:=[0,1,2,3,4,5,6,7,8,9,10,11,12,13,14,15,16,17,18,19,20,21,22,23,24,25]
noncomputable def Z.aX(z:Z)(a:Bool)(pk:AV):St:=⟨U (R0,[.str GQ,.none,.int 0,.bool H,.str z.e,.int z.h,.none,.none,.none,.int z.h,.int (hO z.e z.h),.int (g1 z.e z.h),.bool a,.int z.J,.mut .I,.int z.bb,.int z.M,.mut .M,.bool z.ask,pk,
 z.E,.none,z.bP,.mut .aN,.mut .aY,z.bZ]),U (.m (z.I.map (Tk.bs z.e))),U (.m (z.a4.reverse.map .int)),U (.m (z.aN.reverse.map .aP)),U (.m (z.aY.reverse.map (hy z.e))),U (.bQ (kZ z.e z.A)),z.x.j,z.x.f⟩
noncomputable abbrev Z.o(z:Z):St:=z.aX g (.mut .cF)
noncomputable def g4:AV:=.mut .L
theorem R3{a b:Nat}(h:a≠b):jn a b=false:=by induction q:jn a b with|true=>exact absurd (oA q) h|false=>rfl
theorem ly(h:c≠e):hm (c::l) (e::r)=false:=by show(match jn c e with|true=>hm l r|false=>g)=g;rw[R3 h]
theorem R4:∀{l},(∀x∈l,c≠x)->kK c l=false:=by intro l;induction l with|nil=>exactλ_=>rfl|cons x r b=>intro h;dsimp only[yH];rw[show jn c x=g from by induction q:jn c x with|true=>exact absurd (oA q)<|h x<|.head _|false=>rfl];exact b λy a=>h y<|.tail _ a
theorem mc{c x}{l}(h:c≠x)(k:kK c l=g):kK c (x::l)=false:=by dsimp only[yH];rw[show jn c x=g from by induction q:jn c x with|true=>exact absurd (oA q) h|false=>rfl];exact k
theorem mz{c x}(h:c<127)(k:jf 127 x=H):c≠x:=iw<|hD h<|jN k
theorem mg{c x}(h:32<=c)(k:jf x 31=H):c≠x:=iP<|hD (mj<|jN k) h
theorem mu{c}(h:c<127):kK c [133,8232,8233]=false:=mc (mz h O)<|mc (mz h O)<|mc (mz h O) O
theorem GS:∀{ks},iA l ks=V->kF l ks=ks:=by
 intro ks;induction ks with|nil=>exactλ_=>rfl|cons c r b=>
  obtain⟨j,k⟩:=c;intro h;dsimp only[o2]at h;dsimp only[se];exists a;by_cases e:j=l;.rw[if_pos e]at h;cases h
  .refine a ?_;rw[if_neg e]at h ⊢;rw[b h]
theorem iO(h:n<=1000000)(a:A):l7 n A:=by unfold l7;rw[u9 h];exact a
noncomputable def DS.fst:DS->DS| .seq a _=>a|x=>x
noncomputable def DS.snd:DS->DS| .seq _ b=>b|x=>x
noncomputable def DS.bC:DS->DS| .bm _ b=>b| .cb _ _ _ b=>b|x=>x
noncomputable def DS.gK:DS->DS| .ite _ b _=>b|x=>x
noncomputable def DS.ba:DS->DS| .ite _ _ b=>b|x=>x
theorem AB:∀{ks},(kF l ks).length<=ks.length:=by
 intro ks;induction ks with|nil=>exact hJ _|cons b r a=>
  obtain⟨j,k⟩:=b;dsimp only[se];by_cases e:j=l;.rw[if_pos e];exact jo _
  .rw[if_neg e];exact mj a
theorem lz{α a:Type}(f:α->a)(j)(r):(mM f (j::r).reverse).getLast?=U (f j):=by simp
theorem lA{α a:Type}(f:α->a)(j)(r):(mM f (j::r).reverse).dropLast=mM f r.reverse:=by simp
theorem R5{l}{k}{r:kD}:∀{q:kD},l∉q.map (·.1)->iA l (q++(l,k)::r)=U k:=by intro q;induction q with|nil=>intro _;show(if l=l then U k else iA l r)=_;rw[if_pos O]|cons b q a=>obtain⟨j,k'⟩:=b;intro h;show(if j=l then U k' else iA l _)=_;rw[if_neg λz=>h (by clear zz3 z;exact .head _)];exact a λz=>h<|.tail _ z
theorem R6{l}{k}{r:kD}:∀{q:kD},l∉q.map (·.1)->kF l (q++(l,k)::r)=q++r:=by intro q;induction q with|nil=>intro _;show(if l=l then r else _)=_;rw[if_pos O];rfl|cons b q a=>obtain⟨j,k'⟩:=b;intro h;show(if j=l then q++(l,k)::r else(j,k')::kF l (q++(l,k)::r))=_;rw[if_neg λz=>h (by clear zz3 z;exact .head _),a λz=>h<|.tail _ z];rfl
theorem R7{l}{k}{q r:kD}(h:kN (q++(l,k)::r)):l∉q.map (·.1)/\kN (q++r):=by unfold kN at h ⊢;rw[kU]at h ⊢;have h':=qF.mp h;exact⟨λz=>h'.2.2 l z l (.head _) O,qF.mpr ⟨h'.1,(pj.mp h'.2.1).2,λa c b e=>h'.2.2 a c b<|.tail _ e⟩⟩
noncomputable def gW.add(m:gW)(c:MC):gW:=⟨ms m.j m.f c,m.f+1⟩
theorem gW.le.add(m:gW)(c):m.le<|m.add c:=⟨jo _,λn h=>by show ms _ _ c n=_;rw[oO,if_neg<|iw h]⟩
theorem gW.bT(m:gW)(c):(m.add c).j m.f=U c:=by show ms _ _ c _=_;rw[oO,if_pos O]
theorem GU(st:St)(c):(st.new c).cell (.j st.f)=U c:=by show ms _ _ c _=_;rw[oO,if_pos O]
noncomputable def gW.set(m:gW)(n:Nat)(c:MC):gW:=⟨ms m.j n c,m.f⟩
theorem gW.bj(m:gW)(n)(c):(m.set n c).j n=U c:=by show ms _ n c n=_;rw[oO,if_pos O]
theorem gW.dm(m:gW)(c)(h:k≠n):(m.set n c).j k=m.j k:=by show ms _ n c k=_;rw[oO,if_neg h]
theorem gW.fh(m:gW)(c)(h:k≠m.f):(m.add c).j k=m.j k:=by show ms _ _ c k=_;rw[oO,if_neg h]
theorem gW.le.set{a b:gW}(x:a.le b)(c)(h:a.f<=n):a.le<|b.set n c:=⟨x.1,λk e=>by show ms _ n c k=_;rw[oO,if_neg (by exact iw (hD e h))];exact x.2 k e⟩
theorem gW.le.at{a b:gW}(x:a.le b)(e:n<a.f)(h:a.j n=U c):b.j n=U c:=(x.2 n e).trans h
noncomputable abbrev Z.s(z:Z)(m:gW):Z:={z with x:=m}
theorem oq{st:St}(h:st.cell m=U (.m l))(p:P l):iQ (st.cell m) λc=>CV c P:=pH h p
theorem uh{P}(h:st.cell m=U (.m l))(p:P):r0 (.mut m) st P:=mR h p
theorem p5(h:st.cell m=U (.m l))(hl:l.length<1000000)(r:R .none<|st.bh m<|.m (l++[b])):yX (.mut m) b st R:=mR h<|iO hl r
theorem R8(h:st.cell m=U (.m l))(h':st.cell m'=U (.m a))(b:m≠m')(hl:l.length+a.length<=1000000)(r:R .none<|st.bh m<|.m (l++a)):yY (.mut m) (.mut m') st R:=mR h<|mR h' ⟨b,iO hl r⟩
theorem R9(h:st.cell m=U (.m l))(a:yQ l=U x)(hl:x.length<=1000000)(r:R (.str x) st):y0 s (.mut m) st R:=mR h<|pH a<|iO hl r
theorem ui(a:m≠ .L)(h:st.cell m=U (.m l))(p:P (!l.isEmpty) st):jy (.mut m) st P:=by unfold jy nk;induction m with|L=>exact absurd O a|_=>dsimp only;rw[h];exact p
theorem jp(l:Nat):decide ((l:Int)=0)=decide (l=0):=p3 l 0
section
variable{C:Nat->PC}(Y:Sys C){Q:AV->St->Prop}{X:hv->St->Prop}{d:Nat}
include Y
theorem ik(z:Z)(a)(b)(hc:z.e[z.h+k]?=U c)(h:Q (.str [c])<|z.aX a b):C (d+1) 690 [g4,.int k] (z.aX a b) Q X:=by
 refine Y.c O O ?_;haveI e:placeOf (z.h+k) z.e.length=U _:=by unfold placeOf;congr 1
 exact pO e hc h
theorem i3(z:Z)(a)(b)(h:Q (hy z.e z.h)<|z.aX a b):C (d+1) 713 [g4] (z.aX a b) Q X:=Y.c O O ⟨rfl,h⟩
theorem GV(z:Z)(k)(a)(b)(h:Q .none<|z.aX a b):C (d+1) 727 [g4,k] (z.aX a b) Q X:=Y.c O O h
theorem mB(z:Z)(h:Q (.str<|(z.e.drop z.h).take k) z.o):C (d+2) 698 [g4,.int k] z.o Q X:=by
 refine Y.c O O ?_;haveI a:=by
  haveI e:tv _ _ _=U _:=by show(pI<|.int z.h).bind (λI=>(pI<|.int ((z.h+k:Nat))).map λJ=>yP (yO z.e J) I)=_;rw[Kv];exact congrArg _<|(Jo ..).trans (by rw[JP])
  exact pH (P:=λr=>Q _ _) e h
 exact CU (GV Y z _ _ _ a) a
noncomputable def Z.G(z:Z)(n:Nat):Z:={z with h:=z.h+n}
noncomputable def kO(c:Nat):Prop:=c≠13/\c<127
noncomputable def R_:DS:=(.seq (.bW [2] (.sub (.c0 (.j 0) 4) (.c0 (.j 0) 5)))
 (.seq (.cz (.j 0) 5 .add (.aV (.int 1)))
 (.seq (.cz (.j 0) 9 .add (.aV (.int 1)))
 (.seq (.ite (.or (.Q .cH (.j 2) (.aV (.str [10,133,8232,8233]))) (.and (.Q .eq (.j 2) (.aV (.str [13]))) (.Q .b' (.sub (.c0 (.j 0) 4) (.c0 (.j 0) 5)) (.aV (.str [10])))))
 (.seq (.cz (.j 0) 10 .add (.aV (.int 1)))
 (.dT (.j 0) 11 (.aV (.int 0))))
 (.ite (.Q .b' (.j 2) (.aV (.str [65279])))
 (.cz (.j 0) 11 .add (.aV (.int 1)))
 .dG))
 (.cJ 1 .sub (.aV (.int 1)))))))
theorem Sa{k:KS}:∀n (z:Z) (a:Option AV),z.h+n<z.e.length->(∀(i:Nat) c,z.e[i]?=U c->kO c)->(∀a,k.n [U g4,U<|.int 0,a] (z.G n).o)->jb (WE gY (C d)<|.j 1) (WS gY (C d) R_) k [U g4,U<|.int n,a] z.o:=by
 intro n;induction n with|zero=>intro z a hl hp h;exact .turn (λe e=>False) (λe e x=>x.elim)<|h a|succ n p=>
  intro z a hl hp h;exists o;obtain⟨c,hc⟩:∃c,z.e[z.h]?=U c:=⟨_,mo (by exact ja<|f2 (iu (iy _ _) _)<|jP hl)⟩;refine hn (hp _ _ hc) λq p2=>?_;refine o<|.turn (λρ st=>∃a,ρ=[U g4,U<|.int n,a]/\st=(z.G 1).o) (λρ st ⟨j,l,m⟩=>?_) ?_;.subst l m;refine p _ _ (ja<|rT<|oc (jP hl)) hp λa=>?_;haveI:=h a;rw[(by unfold Z.G;dsimp only;rw[lZ,pA 1 n]:(z.G 1).G n=z.G _)];exact this
  .left;rw[show z.e[((z.h:Int)).toNat]?=U c from hc];left;haveI f:(((n+1:Nat)) - 1)=(n:Int):=Int.add_sub_cancel n 1;by_cases b:c=10
   .clear zz3 b hc;refine h9 (U<|.str [10]) ?_ ?_;.rw[f];rfl
    .unfold Z.G Z.o Z.aX;rw[Az hc,RY hc];rfl
   .rw[mc b<|mu p2];left;rw[ly q];left;rw[ly (show c≠65279 by exact iw<|ja<|f2 (jP p2) (by decide))];refine h9 (U<|.str [c]) ?_ ?_;.rw[f];rfl
    .unfold Z.G Z.o Z.aX;rw[sd hc b,ug hc b];rfl
theorem jZ(z:Z)(hl:z.h+n<z.e.length)(hp:∀(i:Nat) c,z.e[i]?=U c->kO c)(h:Q .none (z.G n).o):C (d+2) 706 [g4,.int n] z.o Q X:=by refine Y.c O O ?_;haveI a:=Sa Y (d:=d+1) (k:=⟨λb st=>Q _ st,Q,λb b=>False,λb=>X⟩) n z V hl hp λb=>h;exact CU (GV Y z _ _ _ a) a
end
end
section
open PySem
noncomputable def ot(c a p b:AV):hv:=⟨744,[c,a,p,b,.none]⟩
noncomputable def AC:AV:=.str [119,104,105,108,101,32,115,99,97,110,110,105,110,103,32,97,32,115,105,109,112,108,101,32,107,101,121]
noncomputable def AD:AV:=.str [99,111,117,108,100,32,110,111,116,32,102,105,110,100,32,101,120,112,101,99,116,101,100,32,39,58,39]
theorem GW:∀{ks},kN ks->∀q∈ks,iA q.1 ks=U q.2
 |(j,k)::r,h,q,b=>by
  dsimp only[o2];rcases ir.mp b with a|b;clear zz3 a
  .rw[if_pos O]
  .haveI h':=pj.mp h;rw[if_neg λz=>h'.1 (by rw[z];exact List.mem_map.mpr ⟨q,b,rfl⟩)];exact GW h'.2 q b
section
variable{C:Nat->PC}(Y:Sys C){Q:AV->St->Prop}{X:hv->St->Prop}{d:Nat}
include Y
noncomputable def Z.a7(z:Z):Z:={z with A:=kF z.J z.A}
theorem p6(z:Z)(b:∀k,iA z.J z.A=U k->k.bi=g)(h:Q .none z.a7.o):C (d+2) 848 [g4] z.o Q X:=by refine Y.c O O ?_;left;rw[p4];induction a:iA _ _ with|none=>unfold Z.a7 at h;rw[GS a]at h;exact h|some k=>left;rw[sf,a];left;rw[(b k a)];left;rw[p4,a];refine Eq.mp (congrArg (Q _) ?_) h;unfold Z.a7 Z.o Z.aX;dsimp only;rw[<-AA];rfl
theorem Sb(z:Z)(a:iA z.J z.A=U k)(b:k.bi=H)(h:X (ot AC (hy z.e k.pos) AD<|hy z.e z.h) z.o):C (d+2) 848 [g4] z.o Q X:=by refine Y.c O O ?_;left;rw[p4,a];left;rw[sf,a];left;rw[b];exact i3 Y z _ _ h
noncomputable def fresh(B:List Nat)(p:Nat)(k:Nat×SK):Bool:=decide (hO B k.2.pos=hO B p)
noncomputable def Z.a3(z:Z):Z:={z with A:=z.A.filter (fresh z.e z.h)}
theorem Sc{n}{l}:∀aj ah (z:Z) a b,z.A=ah++aj->kN z.A->z.h<=1000->(∀q∈aj,fresh z.e z.h q=g->q.2.bi=g)->z.x.j n=U (.m l)->(∀a b,k.n [U g4,a,b] ({z with A:=ah++aj.filter (fresh z.e z.h)}).o)->lj (WS gY (C (d+1)) Gw.bC) [1] (λst=>st.cell (.j n)=U (.m l)) k (aj.map λq=>.int (q.1)) [U g4,a,b] z.o:=by
 intro aj;induction aj with|nil=>refineλah z a b c hl hp m i h=>⟨i,?_⟩;haveI:=h a b;rw[show ah++List.filter _ []=z.A from c.symm]at this;exact this|cons t aj s=>
  obtain⟨j,q⟩:=t;intro ah z a b c hl hp m i h;haveI p:=R7 (by rw[<-c];exact hl);haveI r:iA j z.A=U q:=by rw[c];exact R5 p.1
  refine⟨i,?_⟩;left;rw[sf,r];left;rw[p3];by_cases f:hO z.e q.pos=hO z.e z.h;.rw[decide_eq_true f];left;rw[show decide _=g from decide_eq_false (by lia)];refine s (ah++[(j,q)]) z _ _ (by rw[c];simp) hl hp (λx o=>m x<|.tail _ o) i λa b=>?_;haveI:=h a b;rw[Cg (by exact decide_eq_true f)]at this;rw[i8];exact this
  .rw[decide_eq_false f];left;rw[(m _ (.head _)<|decide_eq_false f)];left;rw[p4,r];haveI e:z.o.bh .cF (.bQ<|vh j<|kZ z.e z.A)=({z with A:=ah++aj}).o:=by rw[AA,c,R6 p.1];rfl
   rw[e];refine s _ _ _ _ O p.2 hp (λx o=>m x<|.tail _ o) i λa b=>?_;haveI:=h a b;rw[JQ (by unfold fresh;simpa using f)]at this;exact this
theorem GX(z:Z)(hl:kN z.A)(hp:z.h<=1000)(c:∀q∈z.A,fresh z.e z.h q=g->q.2.bi=g)(h:∀m,z.x.le m->Q .none ({z.a3 with x:=m}).o):C (d+2) 834 [g4] z.o Q X:=by
 refine Y.c O O ?_;left;haveI e:mM (λp:Int×AV=>AV.int p.1) (kZ z.e z.A)=z.A.map λq=>AV.int (q.1):=by rw[qx];rfl
 rw[e,GU];exact Sc Y _ [] {z with x:=z.x.add _} _ _ O hl hp c (gW.bT _ _) λa b=>h _<|gW.le.add _ _
noncomputable def k4:Option Nat->kD->Option Nat|a,[]=>a|V,(_,k)::r=>k4 (U k.num) r|U n,(_,k)::r=>k4 (U (if k.num<n then k.num else n)) r
omit Y in
theorem GY{r:kD}:k4 (U n) ((j,k)::r)=k4 (U (if k.num<n then k.num else n)) r:=rfl
noncomputable def wq:Option Nat->AV|V=>.none|U n=>.int n
theorem Sd(z:Z){o}(b:Option AV):∀aj n a,(∀q∈aj,iA q.1 z.A=U q.2)->(∀a b,k.n [U g4,U<|wq<|k4 n aj,a,b]<|z.o.bh .cF<|.dc o (kZ z.e z.A))->∀b,lj (WS gY (C (d+1)) Gv.snd.fst.bC) [2] (λst=>st.cell .cF=U (.dc o<|kZ z.e z.A)) k (aj.map λq=>.int (q.1)) [U g4,U<|wq n,a,b]<|z.o.bh .cF<|.dc o (kZ z.e z.A):=by
 intro aj;induction aj with|nil=>exactλn a c h b=>⟨rfl,h a b⟩|cons p aj i=>
  obtain⟨j,q⟩:=p;intro n a c h b;haveI l:iA j _=U q:=c _<|.head _;refine⟨rfl,?_⟩;left;rw[sf,l];induction n with|none=>exact i _ _ (λx e=>c x<|.tail _ e) h _|some m=>
   left;by_cases f:q.num<m;.rw[show decide _=H from decide_eq_true (by apply ni.mpr<;>right)];refine i (U _) _ (λx e=>c x<|.tail _ e) (λa b=>?_) _;haveI:=h a b;dsimp only[GY]at this;rw[if_pos f]at this;exact this
   .rw[show decide _=g from decide_eq_false (by exactλh=>f (ni.mp h))];refine i _ _ (λx e=>c x<|.tail _ e) (λa b=>?_) _;haveI:=h a b;dsimp only[GY]at this;rw[if_neg f]at this;exact this
theorem Se(z:Z)(hl:kN z.A)(h:Q (wq<|k4 V z.A) z.o):C (d+1) 827 [g4] z.o Q X:=by
 refine Y.c O O ?_;intro o;haveI e:mM (λp:Int×AV=>AV.int p.1) (kZ z.e z.A)=z.A.map λq=>AV.int (q.1):=by rw[qx];rfl
 rw[e];refine Sd (d:=d) Y z V _ V _ (GW hl) (λa b=>?_) _;exact⟨rfl,h⟩
noncomputable def jA(c:Int)(mk:Tk):Int->List Int->List Tk->Int×List Int×List Tk|i,[],t=>(i,[],t)|i,j::r,t=>if c<i then jA c mk j r (t++[mk])else(i,j::r,t)
omit Y in
theorem o3:jA c mk i (j::r) t=if c<i then jA c mk j r (t++[mk])else(i,j::r,t):=rfl
noncomputable def mC:Int->List Int->Prop|i,[]=>i= -1|i,j::r=>mC j r
noncomputable def Z.a5(z:Z)(c:Int):Z:=if z.J=0 then let q:=jA c (.p 227 z.h z.h) z.M z.a4 z.I;{z with M:=q.1,a4:=q.2.1,I:=q.2.2}else z
theorem Sf{c}(hc: -1<=c):∀b (z:Z) a,z.a4=b->mC z.M b->z.I.length+b.length<=100000->(∀a,k.n [U g4,U<|.int c,a] (let q:=jA c (.p 227 z.h z.h) z.M b z.I;({z with M:=q.1,a4:=q.2.1,I:=q.2.2})).o)->jb (WE gY (C (d+1))<|.Q .gt (.c0 (.j 0) 16)<|.j 1) (WS gY (C (d+1)) Gz.snd.bC) k [U g4,U<|.int c,a] z.o:=by
 intro b;induction b with|nil=>refineλz a i m l h=>.turn (λe e=>False) (λe e x=>x.elim) ?_;left;haveI n:z.M= -1:=m;rw[show decide _=g from decide_eq_false (by exactλh=>oK.mpr hc (n▸h))];haveI:=h a;rw[show jA c _ _ _ _=(z.M,z.a4,z.I)by rw[i];rfl]at this;exact this|cons j r t=>
  intro z a i m l h;by_cases f:c<z.M
  .refine .turn (λρ st=>∃a,ρ=[U g4,U<|.int c,a]/\st=({z with M:=j,a4:=r,I:=z.I++[.p 227 z.h z.h]}:Z).o) (λρ st ⟨o,p,s⟩=>?_) ?_;.subst p s;refine t _ o O m (by simp at l ⊢;exact oc<|rT l) λa=>?_;haveI:=h a;dsimp only[o3]at this;rw[if_pos f]at this;exact this
   .left;rw[show decide _=H from decide_eq_true f];refine i3 Y z _ _ ?_;left;rw[i,lz];refine⟨rfl,?_⟩;refine iO ?_ ⟨U _,rfl,?_⟩;.rw[h8];exact f2 (iU (kT _ _) _)<|f2 l (by decide)
    .rw[lA];unfold Z.o Z.aX;rw[kU];rfl
  .refine .turn (λe e=>False) (λe e x=>x.elim) ?_;left;rw[show decide _=g from decide_eq_false f];haveI:=h a;dsimp only[o3]at this;rw[if_neg f,<-i]at this;exact this
theorem ws(z:Z)(hc: -1<=c)(b:mC z.M z.a4)(e:z.I.length+z.a4.length<=100000)(h:Q .none (z.a5 c).o):C (d+2) 855 [g4,.int c] z.o Q X:=by
 refine Y.c O O ?_;left;rw[jp];unfold Z.a5 at h;by_cases a:z.J=0;.rw[decide_eq_true a];rw[if_pos a]at h;exact Sf Y hc _ z _ O b e λf=>h
 .rw[decide_eq_false a];rw[if_neg a]at h;exact h
noncomputable def Z.bK(z:Z)(c:Int):Z:=if z.M<c then{z with M:=c,a4:=z.M::z.a4}else z
theorem GZ(z:Z)(b:z.a4.length<=100000)(h:Q (.bool<|decide (z.M<c)) (z.bK c).o):C (d+1) 862 [g4,.int c] z.o Q X:=by
 refine Y.c O O ?_;unfold Z.bK at h;left;by_cases a:z.M<c;.rw[decide_eq_true a]at h ⊢;rw[if_pos a]at h;refine iO (by simp;apply f2<;>right)<|Eq.mp (congrArg (Q _) ?_) h;unfold Z.o Z.aX;rw[yl,kU];rfl
 .rw[decide_eq_false a]at h ⊢;rw[if_neg a]at h;exact h
noncomputable def Z.eL(z:Z):SK:=⟨z.bb+z.I.length,decide (z.J=0)&&decide (z.M=g1 z.e z.h),z.h⟩
noncomputable def Z.aQ(z:Z):Z:=if z.ask then{z with A:=kF z.J z.A++[(z.J,z.eL)]}else z
theorem si(z:Z)(hl:kN z.A)(j:z.A.length<=100000)(i:∀k,iA z.J z.A=U k->k.bi=g)(h:Q .none z.aQ.o):C (d+3) 841 [g4] z.o Q X:=by
 refine Y.c O O ?_;haveI a:∀r,r=z.eL.bi->WS gY (C (d+2)) (DS.snd Gy) [U g4,U<|.bool r,V,V] z.o ⟨λc=>Q .none,Q,λc c=>False,λc=>X⟩:=by
  intro r m;left;induction f:z.ask with|false=>unfold Z.aQ at h;rw[f]at h;exact h|true=>
   unfold Z.aQ at h;rw[if_pos f]at h;refine p6 Y z i<|i3 Y _ _ _ ⟨rfl,?_⟩;haveI e:AV.obj _ _ [.int (↑z.a7.bb+↑(mM (Tk.bs z.a7.e) z.a7.I).length),.bool r,.int _,.int ↑(hO _ z.a7.h),.int ↑(g1 _ z.a7.h),hy z.a7.e _]=z.eL.bs _:=by rw[h8,m];rfl
   refine iO ?_ ?_;.haveI:=AB (l:=z.J) (ks:=z.A);rw[h8];exact f2 (j4 (f2 this j)<|hJ _) (by decide)
   .rw[e];refine Eq.mp (congrArg _ ?_) h;unfold Z.o Z.aX;rw[<-RZ _ _ _ _<|GR hl];rfl
 left;rw[jp];by_cases b:z.J=0;.rw[decide_eq_true b];refine a _ ?_;unfold Z.eL;rw[decide_eq_true b];rfl
 .rw[decide_eq_false b];refine a _ ?_;unfold Z.eL;rw[decide_eq_false b];rfl
end
end
section
open PySem
structure h5 (z:Z):Prop where
 bt:kN z.A
 M:mC z.M z.a4
 dn:z.I.length+z.a4.length+z.A.length+8*(z.e.length - z.h)<=9000
 cc:z.e.length<=1000
 cd:∀(i:Nat) c,z.e[i]?=U c->kO c
 cy:z.h<z.e.length
theorem h5.dW(a:h5 z):z.I.length+z.a4.length<=9000:=lL<|lL a.dn
theorem h5.ci(a:h5 z):z.I.length<=9000:=lL a.dW
theorem h5.dp(a:h5 z):z.I.length+1<=1000000:=up a.ci (by decide)
theorem h5.fY(a:h5 z):z.a4.length<=100000:=f2 (f2 (kT _ _) a.dW) (by decide)
theorem h5.ep(a:h5 z):z.A.length<=100000:=f2 (f2 (kT _ _)<|lL a.dn) (by decide)
noncomputable def Z.bE(z:Z)(t:Tk):Z:={z with I:=z.I++[t]}
noncomputable def Z.ab(z:Z)(b:Bool):Z:={z with ask:=b}
theorem G0(z:Z)(t)(a)(b):(z.bE t).aX a b=(z.aX a b).bh .I (.m (z.I.map (Tk.bs z.e)++[t.bs z.e])):=by unfold Z.bE Z.aX;dsimp only;rw[kU];rfl
theorem mU(z:Z)(t):(z.bE t).o=(z.aX g<|.mut .cF).bh .I (.m (z.I.map (Tk.bs z.e)++[t.bs z.e])):=G0 z t _ _
theorem G1(c)(t):∀r i l,(jA c t i r l).2.2.length+(jA c t i r l).2.1.length=l.length+r.length:=by
 intro r;induction r with|nil=>exactλ_ _=>rfl|cons j r a=>
  intro i l;dsimp only[o3];by_cases h:c<i;.rw[if_pos h,a];simp;apply iZ<;>right
  .rw[if_neg h]
theorem G2(c)(t):∀r i l,mC i r->mC (jA c t i r l).1 (jA c t i r l).2.1:=by
 intro r;induction r with|nil=>exactλ_ _ h=>h|cons j r a=>
  intro i l h;dsimp only[o3];by_cases q:c<i;.rw[if_pos q];exact a j _ h
  .rw[if_neg q];exact h
theorem wt(z:Z)(c):(z.a5 c).I.length+(z.a5 c).a4.length=z.I.length+z.a4.length:=by
 unfold Z.a5;split;.exact G1 c _ _ _ _
 .rfl
theorem p7(z:Z)(c):(z.a5 c).A=z.A/\(z.a5 c).J=z.J/\(z.a5 c).e=z.e/\(z.a5 c).h=z.h/\(z.a5 c).x=z.x/\(z.a5 c).ask=z.ask/\(z.a5 c).bb=z.bb:=by unfold Z.a5;split<;>exact⟨rfl,rfl,rfl,rfl,rfl,rfl,rfl⟩
theorem wu{α:Type}{c}[Decidable c]{a b}{P:α->Prop}(e:c->P a)(f:¬c->P b):P (if c then a else b):=by
 split;.exact e ‹_›
 .exact f ‹_›
section
variable{C:Nat->PC}(Y:Sys C){Q:AV->St->Prop}{X:hv->St->Prop}{d:Nat}
include Y
noncomputable def Z.eM(z:Z):Z:=((z.a5 (-1)).a7.ab g).bE (.p 191 z.h z.h)
theorem Sg(z)(n:h5 z)(f:∀k,iA z.J z.A=U k->k.bi=g)(h:∀m pk,z.x.le m->Q .none (({z.eM with x:=m}:Z).aX H pk)):C (d+3) 876 [g4] z.o Q X:=by
 refine l4 (p7 z (-1)) λa b i c e j l=>Y.c O O<|ws Y z (by decide) n.M (f2 n.dW (by decide))<|p6 Y _ (by rw[a,b];exact f)<|i3 Y ({(z.a5 _).a7.ab g with x:=(z.a5 (-1)).x.add<|.bQ []}) _ (.mut<|.j (z.a5 _).x.f) ?_;refine⟨rfl,?_⟩;refine iO ?_ ?_;.rw[h8];exact up (f2 (lL<|jh<|wt z (-1)) n.dW) (by decide)
 .haveI h':Q _<|(({(z.a5 _).a7.ab _ with x:=(z.a5 _).x.add _}).bE _).aX _<|.mut (.j (z.a5 (-1)).x.f):=h ((z.a5 _).x.add<|.bQ []) _ (by rw[e];exact gW.le.add _ _);rw[G0]at h';rw[<-c]at h';exact h'
noncomputable def Z.dK(z:Z)(C:Nat):Z:=(((z.a5 (-1)).a7.ab g).G 3).bE (.p C z.h (z.h+3))
theorem G3(z)(hK:gY.cj K=U [26,27])(m:h5 z)(f:∀k,iA z.J z.A=U k->k.bi=g)(hp:z.h+3<z.e.length)(h:Q .none (z.dK K).o):C (d+3) 904 [g4,.val<|.ref K] z.o Q X:=by
 refine l4 (p7 z (-1)) λc e a b i j l=>Y.c O O<|ws Y z (by decide) m.M (f2 m.dW (by decide))<|p6 Y _ (by rw[c,e];exact f)<|i3 Y ((z.a5 _).a7.ab g) _ _<|jZ Y _ (n:=3) (by rw[a,b];exact hp) (by rw[a];exact m.cd)<|i3 Y _ _ _ ?_;left;rw[hK];left;rw[hK];refine⟨rfl,?_⟩;refine iO ?_ ?_;.rw[h8];exact up (f2 (lL<|jh<|wt z (-1)) m.dW) (by decide)
 .rw[mU]at h;rw[<-b]at h;exact h
theorem Sh(z)(b:h5 z)(a:∀k,iA z.J z.A=U k->k.bi=g)(hp:z.h+3<z.e.length)(h:Q .none (z.dK 147).o):C (d+4) 890 [g4] z.o Q X:=Y.c O O<|G3 Y z O b a hp h
theorem Si(z)(b:h5 z)(a:∀k,iA z.J z.A=U k->k.bi=g)(hp:z.h+3<z.e.length)(h:Q .none (z.dK 159).o):C (d+4) 897 [g4] z.o Q X:=Y.c O O<|G3 Y z O b a hp h
noncomputable def Z.bt(z:Z)(f:Nat)(b:Bool):Z:={z with J:=f,ask:=b}
omit Y in
theorem rb(z:Z):z.aQ.h=z.h/\z.aQ.e=z.e/\z.aQ.J=z.J/\z.aQ.I=z.I/\z.aQ.A.length<=z.A.length+1/\z.aQ.a4=z.a4/\z.aQ.M=z.M:=by refine wu (P:=λy:Z=>y.h=z.h/\y.e=z.e/\y.J=z.J/\y.I=z.I/\y.A.length<=z.A.length+1/\y.a4=z.a4/\y.M=z.M) (λa=>⟨rfl,rfl,rfl,rfl,?_,rfl,rfl⟩) λa=>⟨rfl,rfl,rfl,rfl,jo _,rfl,rfl⟩;haveI:=AB (l:=z.J) (ks:=z.A);simp only[io,iD,Ch];apply mj<;>right
noncomputable def Z.dX(z:Z)(K:Nat):Z:=((z.aQ.bt (z.J+1) H).G 1).bE (.p K z.h (z.h+1))
theorem G4(z)(hK:gY.cj K=U [26,27])(m:h5 z)(f:∀k,iA z.J z.A=U k->k.bi=g)(hp:z.h+1<z.e.length)(h:Q .none (z.dX K).o):C (d+4) 925 [g4,.val<|.ref K] z.o Q X:=by
 refine l3 (rb z) λa b c e i=>hn i λj l=>Y.c O O<|si Y z m.bt m.ep f<|i3 Y (z.aQ.bt _ H) _ _<|jZ Y _ (by show z.aQ.h+1<z.aQ.e.length;rw[a,b];exact hp) (by rw[b];exact m.cd)<|i3 Y _ _ _ ?_;left;rw[hK];left;rw[hK];refine⟨rfl,?_⟩;refine iO ?_ ?_;.rw[h8];rw[e];exact m.dp
 .rw[mU]at h;rw[<-a,<-c]at h;exact h
theorem Sj(z)(b:h5 z)(a:∀k,iA z.J z.A=U k->k.bi=g)(hp:z.h+1<z.e.length)(h:Q .none (z.dX 239).o):C (d+5) 911 [g4] z.o Q X:=Y.c O O<|G4 Y z O b a hp h
theorem Sm(z)(b:h5 z)(a:∀k,iA z.J z.A=U k->k.bi=g)(hp:z.h+1<z.e.length)(h:Q .none (z.dX 251).o):C (d+5) 918 [g4] z.o Q X:=Y.c O O<|G4 Y z O b a hp h
noncomputable def Z.eN(z:Z)(K:Nat):Z:=((z.a7.bt (z.J - 1) g).G 1).bE (.p K z.h (z.h+1))
theorem G5(z)(hK:gY.cj K=U [26,27])(e:h5 z)(c:0<z.J)(b:∀k,iA z.J z.A=U k->k.bi=g)(hp:z.h+1<z.e.length)(h:Q .none (z.eN K).o):C (d+3) 946 [g4,.val<|.ref K] z.o Q X:=by
 haveI a:(z.a7.J - 1)=((z.J - 1:Nat):Int):=rU c;refine Y.c O O<|p6 Y z b ?_;left;rw[a];refine i3 Y (z.a7.bt _ g) _ _<|jZ Y _ hp e.cd<|i3 Y ((z.a7.bt _ _).G 1) _ _ ?_;left;rw[hK];left;rw[hK];refine⟨rfl,?_⟩;refine iO ?_ ?_;.rw[h8];exact e.dp
 .rw[mU]at h;exact h
theorem Sn(z)(c:h5 z)(b:0<z.J)(a:∀k,iA z.J z.A=U k->k.bi=g)(hp:z.h+1<z.e.length)(h:Q .none (z.eN 263).o):C (d+4) 932 [g4] z.o Q X:=Y.c O O<|G5 Y z O c b a hp h
theorem So(z)(c:h5 z)(b:0<z.J)(a:∀k,iA z.J z.A=U k->k.bi=g)(hp:z.h+1<z.e.length)(h:Q .none (z.eN 275).o):C (d+4) 939 [g4] z.o Q X:=Y.c O O<|G5 Y z O c b a hp h
noncomputable def Z.fZ(z:Z):Z:=((z.ab H).a7.G 1).bE (.p 323 z.h (z.h+1))
theorem Sp(z)(b:h5 z)(a:∀k,iA z.J z.A=U k->k.bi=g)(hp:z.h+1<z.e.length)(h:Q .none z.fZ.o):C (d+3) 953 [g4] z.o Q X:=by
 refine Y.c O O<|p6 Y (z.ab H) a<|i3 Y _ _ _<|jZ Y _ hp b.cd<|i3 Y ((z.ab _).a7.G 1) _ _ ⟨rfl,?_⟩;refine iO ?_ ?_;.rw[h8];exact b.dp
 .rw[mU]at h;exact h
end
end
section
open PySem
noncomputable def G6:AV:=.str [115,101,113,117,101,110,99,101,32,101,110,116,114,105,101,115,32,97,114,101,32,110,111,116,32,97,108,108,111,119,101,100,32,104,101,114,101]
noncomputable def G7:AV:=.str [109,97,112,112,105,110,103,32,118,97,108,117,101,115,32,97,114,101,32,110,111,116,32,97,108,108,111,119,101,100,32,104,101,114,101]
theorem wv(z:Z)(c):(z.bK c).h=z.h/\(z.bK c).e=z.e/\(z.bK c).J=z.J/\(z.bK c).I=z.I/\(z.bK c).A=z.A/\(z.bK c).a4.length<=z.a4.length+1/\(z.bK c).bb=z.bb/\(z.bK c).x=z.x/\(z.bK c).ask=z.ask:=by
 unfold Z.bK;split;.exact⟨rfl,rfl,rfl,rfl,rfl,hJ _,rfl,rfl,rfl⟩
 .exact⟨rfl,rfl,rfl,rfl,rfl,jo _,rfl,rfl,rfl⟩
noncomputable def Z.bF(z:Z):Z:=if z.J=0/\z.M<g1 z.e z.h then(z.bK (g1 z.e z.h)).bE (.p 203 z.h z.h)else z
theorem Sq(z:Z):z.bF.h=z.h/\z.bF.e=z.e/\z.bF.J=z.J/\z.bF.A=z.A/\z.bF.I.length<=z.I.length+1:=by
 unfold Z.bF;refine l4 (wv z<|g1 z.e z.h) λa b c e f i h=>ju h λj k l=>?_;split;.refine nH a b c f ?_;show((z.bK _).I++[_]).length<=_;rw[e];simp
 .exact nH O O O O<|jo _
noncomputable def Z.er(z:Z):Z:=((z.bF.ab H).a7.G 1).bE (.p 311 z.h (z.h+1))
section
variable{C:Nat->PC}(Y:Sys C){Q:AV->St->Prop}{X:hv->St->Prop}{d:Nat}
include Y
theorem Sr(z)(E:h5 z)(r:z.J=0->z.ask=H)(p:∀k,iA z.J z.A=U k->k.bi=g)(hp:z.h+1<z.e.length)(h:Q .none z.er.o):C (d+3) 960 [g4] z.o Q X:=by
 refine l3 (Sq z) λf i j l m=>?_;have b:∀a,WS gY (C (d+2)) GA.snd [U g4,V,V,a] z.bF.o ⟨λe st=>Q .none st,Q,λe e=>False,λe=>X⟩:=by
  refineλa=>p6 Y (z.bF.ab H) (by rw[j,l];exact p)<|i3 Y _ _ _<|jZ Y _ (by rw[f,i];exact hp) (by rw[i];exact E.cd)<|i3 Y ((z.bF.ab _).a7.G 1) _ _ ⟨rfl,?_⟩;refine iO ?_ ?_;.rw[h8];exact up (f2 m<|mj E.ci) (by decide)
  .rw[mU]at h;rw[<-f]at h;exact h
 refine Y.c O O ?_;left;rw[jp];by_cases c:z.J=0
 .rw[decide_eq_true c];left;rw[r c];refine GZ Y z E.fY ?_;by_cases hc:z.M<g1 z.e z.h
  .rw[decide_eq_true hc];refine l4 (wv z<|g1 z.e z.h) λn t w o x y s=>ju s λA B D=>i3 Y _ _ _ ⟨rfl,?_⟩;refine iO ?_ ?_;.rw[h8,o];exact E.dp
   .haveI k2:=b<|U<|hy (z.bK (g1 z.e z.h)).e z.h;unfold Z.bF at k2;rw[if_pos ⟨c,hc⟩,mU]at k2;rw[n];exact k2
  .rw[decide_eq_false hc,show z.bK _=z from if_neg hc];haveI k2:=b V;unfold Z.bF at k2;rw[if_neg λq=>hc q.2]at k2;exact k2
 .rw[decide_eq_false c];haveI k2:=b V;unfold Z.bF at k2;rw[if_neg λq=>c q.1]at k2;exact k2
theorem Ss(z:Z)(b:z.J=0)(a:z.ask=g)(h:X (ot .none .none G6<|hy z.e z.h) z.o):C (d+2) 960 [g4] z.o Q X:=by refine Y.c O O ?_;left;rw[jp,decide_eq_true b];left;rw[a];exact i3 Y z _ _ h
noncomputable def Z.f0(z:Z):Z:=((z.ab g).a7.G 1).bE (.p 287 z.h (z.h+1))
theorem Su(z)(e:h5 z)(c:0<z.J)(b:∀k,iA z.J z.A=U k->k.bi=g)(hp:z.h+1<z.e.length)(h:Q .none z.f0.o):C (d+3) 967 [g4] z.o Q X:=by
 haveI a:=decide_eq_false<|iP c;refine Y.c O O ?_;left;rw[jp,a];left;rw[jp,a];refine p6 Y (z.ab g) b<|i3 Y _ _ _<|jZ Y _ hp e.cd<|i3 Y ((z.ab _).a7.G 1) _ _ ⟨rfl,?_⟩;refine iO ?_ ?_;.rw[h8];exact e.dp
 .rw[mU]at h;exact h
omit Y in
theorem Sv(f:Tk->AV)(n)(t)(l:List Tk):(l.map f).take n++f t::(l.map f).drop n=(l.take n++t::l.drop n).map f:=by simp
noncomputable def Z.ce(z:Z)(k:SK):Z:={z with A:=kF z.J z.A,I:=z.I.take (k.num - z.bb)++.p 287 k.pos k.pos::z.I.drop (k.num - z.bb)}
noncomputable def Z.cf(z:Z)(k:SK):Z:=if z.J=0/\z.M<g1 z.e k.pos then
 let y:=(z.ce k).bK (g1 z.e k.pos)
 {y with I:=y.I.take (k.num - z.bb)++.p 215 k.pos k.pos::y.I.drop (k.num - z.bb)}
 else z.ce k
noncomputable def Z.dY(z:Z)(k:SK):Z:=(((z.cf k).ab g).G 1).bE (.p 299 z.h (z.h+1))
omit Y in
theorem G8(z:Z)(k):(z.cf k).h=z.h/\(z.cf k).e=z.e/\(z.cf k).J=z.J/\(z.cf k).A=kF z.J z.A/\(z.cf k).I.length<=z.I.length+2:=by
 haveI l1:(z.ce k).I.length=z.I.length+1:=yE _ _ _;unfold Z.cf;refine l4 (wv (z.ce k)<|g1 z.e k.pos) λa b c e f i h=>ju h λj l m=>?_;split;.refine nH a b c f ?_;rw[yE,e,l1];exact hJ _
 .exact nH O O O O<|lb<|jh l1
omit Y in
omit Y in
theorem G9(z:Z){n:Nat}{i:Int}(t)(c:i=n)(b:a=t.bs z.e)(e:n<=z.I.length)(hl:z.I.length<=100000)(h:R .none ({z with I:=z.I.take n++t::z.I.drop n}).o):yZ (.mut .I) (.int i) a z.o R:=by subst c b;refine⟨by apply j9<;>right,by rw[h8];exact e,iO (by rw[h8];apply n3<;>right) ?_⟩;rw[Sv];exact h
theorem Sw(z)(D:h5 z)(e:iA z.J z.A=U k)(c:z.bb<=k.num/\k.num - z.bb<=z.I.length)(hp:z.h+1<z.e.length)(h:Q .none (z.dY k).o):C (d+3) 974 [g4] z.o Q X:=by
 refine l3 (G8 z k) λi j r s m=>?_;have a:WS gY (C (d+2)) GB.snd [U g4,V,V,U<|k.bs z.e,V] ((z.cf k).ab g).o ⟨λf st=>Q .none st,Q,λf f=>False,λf=>X⟩:=by
  refine i3 Y _ _ _<|jZ Y _ (by rw[i,j];exact hp) (by rw[j];exact D.cd)<|i3 Y (((z.cf k).ab _).G 1) _ _ ⟨rfl,?_⟩;refine iO ?_ ?_;.rw[h8];exact up (f2 m<|iu D.ci 2) (by decide)
  .rw[mU]at h;rw[<-i]at h;exact h
 refine Y.c O O ?_;left;rw[p4,e];left;rw[sf,e];left;rw[p4,e];rw[AA];refine⟨rfl,?_⟩;refine G9 {z with A:=kF _ _} (.p _ _ _) (rU c.1) O c.2 (f2 D.ci (by decide)) ?_;haveI l1:(z.ce k).I.length=z.I.length+1:=yE _ _ _;refine(?_:_->_) (rfl:({z with A:=kF _ _,I:=z.I.take _++.p _ _ _::z.I.drop _})=z.ce k);intro _;left;rw[jp];by_cases b:z.J=0
 .rw[decide_eq_true b];refine GZ Y (z.ce k) D.fY ?_;by_cases hc:z.M<g1 z.e k.pos
  .rw[show decide ((z.ce k).M<_)=H from decide_eq_true hc];refine⟨rfl,?_⟩;refine l4 (wv (z.ce k)<|g1 z.e k.pos) λt n w l x y p=>ju p λo A B=>G9 _ (.p 215 k.pos k.pos) ?_ ?_ (by rw[l,l1];exact lb c.2) (by rw[l,l1];exact up D.ci (by decide)) ?_;.rw[o];exact rU c.1
   .rw[n];rfl
   .haveI k2:=a;unfold Z.cf at k2;rw[if_pos ⟨b,hc⟩]at k2;exact k2
  .rw[show decide ((z.ce k).M<_)=g from decide_eq_false hc,show(z.ce k).bK _=z.ce k from if_neg hc];haveI k2:=a;unfold Z.cf at k2;rw[if_neg λq=>hc q.2]at k2;exact k2
 .rw[decide_eq_false b];haveI k2:=a;unfold Z.cf at k2;rw[if_neg λq=>b q.1]at k2;exact k2
noncomputable def Z.f3(z:Z):Z:=((z.ab g).G 1).bE (.p 299 z.h (z.h+1))
theorem Sx(z)(f:h5 z)(a:iA z.J z.A=V)(c:0<z.J)(hp:z.h+1<z.e.length)(h:Q .none z.f3.o):C (d+3) 974 [g4] z.o Q X:=by
 haveI b:=decide_eq_false<|iP c;refine Y.c O O ?_;left;rw[p4,a];left;rw[jp,b];left;rw[jp,b];left;rw[jp,b];refine p6 Y _ (by intro k e;rw[show iA (z.ab g).J _=V from a]at e;cases e) ?_;rw[show(z.ab _).a7=z.ab _ from by unfold Z.a7;rw[show kF _ _=(z.ab g).A from GS a]];refine i3 Y _ _ _<|jZ Y _ hp f.cd<|i3 Y ((z.ab _).G 1) _ _ ⟨rfl,?_⟩;refine iO ?_ ?_;.rw[h8];exact f.dp
 .rw[mU]at h;exact h
theorem Sy(z:Z)(c:iA z.J z.A=V)(b:z.J=0)(a:z.ask=g)(h:X (ot .none .none G7<|hy z.e z.h) z.o):C (d+2) 974 [g4] z.o Q X:=by refine Y.c O O ?_;left;rw[p4,c];left;rw[jp,decide_eq_true b];left;rw[a];exact i3 Y z _ _ h
end
end
section
open PySem
theorem mD(a b):pF [a] [b]=decide (a<=b):=by
 show(if a=b then pF _ _ else decide (a<b))=_;by_cases h:a=b;.subst h;rw[if_pos O,decide_eq_true<|hJ _];rfl
 .rw[if_neg h];by_cases q:a<b;.rw[decide_eq_true q,decide_eq_true<|jM q]
  .rw[decide_eq_false q,decide_eq_false λc=>q<|I9 c h]
noncomputable def Wd(B:List Nat)(p n:Nat):Prop:=∀i,i<n->∃c,B[p+i]?=U c/\97<=c/\c<=122
theorem Wd.dL(w:Wd B p (n+1)):∃c,B[p]?=U c/\97<=c/\c<=122:=w 0 (by apply kT<;>right)
theorem Wd.cC(w:Wd B p (n+1)):Wd B (p+1) n:=λi a=>by obtain⟨c,h⟩:=w (i+1) (by apply ym<;>right);exact⟨c,by rw[lZ,pA 1 i];exact h⟩
noncomputable def iF(e:Nat):Prop:=e=0\/e=32\/e=10
theorem sj(h:97<=c/\c<=122){l}(hl:(l.all λx=>pf x 97||pf 122 x)=H):kK c l=false:=R4 λx a e=>Or.elim (sN.mp (e▸lH.mp hl x a)) (λk=>xx h.1<|jN k) λk=>xx h.2<|jN k
section
variable{C:Nat->PC}(Y:Sys C){Q:AV->St->Prop}{X:hv->St->Prop}{d:Nat}
include Y
theorem Sz(z:Z)(a1 l a3 a6 m a8){e}(s:iF e):∀n i c,z.e[z.h+i]?=U c->Wd z.e (z.h+i) n->z.e[z.h+(i+n)]?=U e->k.n [U g4,a1,l,a3,U<|.int (i+n:Nat),U<|.str [e],a6,m,a8] z.o->jb (WE gY (C (d+1))<|.or (.b5 .le .le (.aV<|.str [48]) (.j 5)<|.aV (.str [57]))<|.or (.b5 .le .le (.aV (.str [65])) (.j 5) (.aV (.str [90]))) (.or (.b5 .le .le (.aV (.str [97])) (.j 5) (.aV (.str [122]))) (.Q .cH (.j 5) (.aV (.str [45,95]))))) (WS gY (C (d+1))<|.seq (.cJ 4 .add<|.aV (.int 1))<|.bW [5] (.bV 690 (.j 0) (.cons (.j 4) .nil))) k [U g4,a1,l,a3,U<|.int i,U<|.str [c],a6,m,a8] z.o:=by
 intro n;induction n with
 |zero=>
  intro i c hc w b h;clear zz3 (by rw[hc]at b;exact ia b:c=e);refine .turn (λj j=>False) (λj j x=>x.elim) ?_;rcases s with rfl|rfl|rfl
  .exact h
  .exact h
  .exact h
 |succ n t=>
  refineλi c hc w b h=>jj w.dL λD o a p=>?_;have r:=by rw[hc]at o;exact(ia o).symm
  clear zz3 r p a;obtain⟨c2,f⟩:∃c2,z.e[z.h+(i+1)]?=U c2:=by refine vf λB q=>?_;induction n with|zero=>exact q e b|succ n=>exact g6 w.cC.dL λc2 f j=>q c2 f
  refine .turn (λρ st=>ρ=[U g4,a1,l,a3,U<|.int (i+1:Nat),U<|.str [c2],a6,m,a8]/\st=z.o) (λρ st ⟨y,A⟩=>?_) ?_;.subst y A;refine t _ c2 f w.cC (by rw[show i+1+n=i+(n+1)by apply iZ<;>right];exact b) ?_;rw[show i+1+n=i+(n+1)by apply iZ<;>right];exact h
  .left;rw[mD,decide_eq_true<|f2 (by decide) a];left;rw[mD,decide_eq_false (yn<|ja<|f2 (by decide) a)];left;rw[mD,decide_eq_true<|f2 (by decide) a];left;rw[mD,decide_eq_false (yn<|ja<|f2 (by decide) a)];left;rw[mD,decide_eq_true a];left;rw[mD,decide_eq_true p];exact ik Y z _ _ f ⟨rfl,rfl⟩
noncomputable def Z.gL(z:Z)(K n:Nat):Z:=(z.G (n+1)).bE (.val K (.str ((z.e.drop (z.h+1)).take n)) z.h (z.h+(n+1)))
theorem SA(z:Z){K n e}(hK:gY.cj K=U [28,26,27])(y:∀(i:Nat) c,z.e[i]?=U c->kO c){c}(hc:z.e[z.h]?=U c)(q:c=42\/c=38)(B:0<n)(w:Wd z.e (z.h+1) n)(t:iF e)(r:z.e[z.h+1+n]?=U e)(h:Q (Tk.bs z.e<|.val K (.str<|(z.e.drop (z.h+1)).take n) z.h (z.h+(n+1))) (z.G (n+1)).o):C (d+3) 1163 [g4,.val<|.ref K] z.o Q X:=by
 haveI x:=(jq.mp r).1;refine hz (w 0 B) λc1 A=>?_;have o:∀a,WS gY (C (d+2)) GD.snd.snd.snd [U g4,U<|.val<|.ref K,U<|hy z.e z.h,U<|.str [c],V,V,V,V,U a] z.o ⟨λs st=>Q .none st,Q,λs s=>False,λs=>X⟩:=by
  refineλa=>jZ Y z (n:=1) ((ja<|f2 (iu (iy _ _) _)<|jP x)) y<|ik Y _ _ _ A.1<|Sz Y _ _ _ _ _ _ _ t n 0 c1 A.1 w (by rw[lG];exact r) ?_;rw[lG];left;rw[jp,decide_eq_false (by apply iP<;>right)];refine mB Y _<|jZ Y _ x y<|ik Y _ _ _ r ?_;have p:C (d+2) 713 [g4] ((z.G 1).G n).o (λb st=>WE gY (C (d+2)) (.dO 1<|.cons (.j 6)<|.cons (.j 2) (.cons (.j 7) .nil)) [U g4,U<|.val<|.ref K,U<|hy z.e z.h,U<|.str [c],U<|.int n,U<|.str [e],U<|.str<|(z.e.drop (z.h+1)).take n,U b,U a] st Q X) X:=by
   refine i3 Y _ _ _ ?_;left;rw[hK];left;rw[hK];refine⟨rfl,?_⟩;have:(z.G 1).G n=z.G (n+1):=by unfold Z.G;dsimp only;rw[lZ,pA 1 n]
   rw[this];exact h
  rcases t with f|j|k;clear zz3 f;rotate_left 1;clear zz3 j;rotate_right 1;rotate_left 2;clear zz3 k;rotate_right 2
  .exact p
  .exact p
  .exact p
 refine Y.c O O<|i3 Y z _ _<|ik Y z _ _ hc ?_;rcases q with l|m;clear zz3 l o;rotate_left 1;clear zz3 m o;. exact o _
 .exact o _
noncomputable def Z.es(z:Z)(K n:Nat):Z:=(z.aQ.ab g).gL K n
omit Y in
theorem G_(z)(G:h5 z)(b):kN (z.aQ.ab b).A/\mC (z.aQ.ab b).M (z.aQ.ab b).a4/\(z.aQ.ab b).I.length+(z.aQ.ab b).a4.length+(z.aQ.ab b).A.length+8*((z.aQ.ab b).e.length - (z.aQ.ab b).h)<=9001:=by
 refine l4 (rb z) λt w D x E p A=>?_;haveI os:=G.dn;refine lI ?_ ?_ ?_
 .refine wu (P:=λy:Z=>kN y.A) (λs=>?_) λs=>G.bt;haveI hd:=GR G.bt (l:=z.J);haveI sub:∀{ks},kN ks->kN (kF _ ks)/\∀a∈(kF z.J ks).map _,a∈ks.map (·.1):=by
   intro ks;induction ks with|nil=>exactλ_=>⟨Ci,λs h=>h⟩|cons q r i=>
    obtain⟨j,k⟩:=q;intro h;haveI h':=pj.mp h;dsimp only[se];by_cases e:j=z.J;.rw[if_pos e];exact⟨h'.2,λa=>.tail _⟩
    .rw[if_neg e];refine⟨pj.mpr ⟨λm=>h'.1<|(i h'.2).2 _ m,(i h'.2).1⟩,λa f=>?_⟩;rcases ir.mp f with c|f;clear zz3 c
     .exact .head _
     .exact .tail _<|(i h'.2).2 a f
  haveI o:∀{ks} {l},iA l ks=V->l∉ks.map (·.1):=by
   intro ks l;induction ks with
   |nil=>intro _ m;cases m
   |cons q r i=>
    obtain⟨j,k⟩:=q;intro h m;dsimp only[o2]at h;by_cases e:j=l;.rw[if_pos e]at h;cases h
    .rw[if_neg e]at h;rcases ir.mp m with z|m
     .exact e z.symm
     .exact i h m
  show(mM _ _).Nodup;rw[kU];refine qF.mpr ⟨(sub G.bt).1,by simp,λa f b B=>?_⟩;haveI n:=by simpa using B
  subst n;exactλz=>o hd (z▸f)
 .show mC z.aQ.M _;rw[p,A];exact G.M
 .show z.aQ.I.length+z.aQ.a4.length+z.aQ.A.length+8*(z.aQ.e.length - z.aQ.h)<=9001;rw[t,w,x,p];lia
theorem G'(z)(y:f=981/\K=342\/f=988/\K=361)(L:h5 z)(q:∀k,iA z.J z.A=U k->k.bi=g)(hc:z.e[z.h]?=U c)(o:c=42\/c=38)(A:0<n)(w:Wd z.e (z.h+1) n)(x:iF e)(D:z.e[z.h+1+n]?=U e)(h:Q .none (z.es K n).o):C (d+4) f [g4] z.o Q X:=by
 refine kf λr=>l3 (rb z) λi b G s E=>hn E λI J=>?_;haveI a:∀m,m (Tk.bs z.e<|.val K (.str<|(z.e.drop (z.h+1)).take n) z.h (z.h+(n+1))) ((z.aQ.ab g).G (n+1)).o->gY.cj K=U _->C (d+3) _ _ (z.aQ.ab _).o m X:=by refineλm B hK=>SA Y (z.aQ.ab g) hK (by rw[b];exact L.cd) (by rw[i,b];exact hc) o A (by rw[i,b];exact w) x (by rw[i,b];exact D) ?_;show m _ _;rw[i,b];exact B
 haveI j:Q _<|((z.aQ.ab _).G _).o.bh _<|.m (((z.aQ.ab _).G _).I.map (Tk.bs ((z.aQ.ab g).G (n+1)).e)++[Tk.bs _ _]):=by haveI h':=h;rw[mU]at h';haveI p:=b;haveI t:=b;rw[i,p]at h';rw[p];exact h'
 haveI l:(((z.aQ.ab g).G (n+1)).I.map<|Tk.bs ((z.aQ.ab g).G (n+1)).e).length+1<=1000000:=by rw[h8];rw[s];exact L.dp
 rcases y with⟨rfl,rfl⟩|⟨rfl,rfl⟩
 .refine r<|Y.c O O<|si Y z L.bt L.ep q<|a _ ?_ rfl;exact iO l j
 .refine r<|Y.c O O<|si Y z L.bt L.ep q<|a _ ?_ rfl;exact iO l j
theorem SD{k:KS}(z:Z)(a1 l a3:Option AV){e}(q:iF e):∀n i c,z.e[z.h+i]?=U c->Wd z.e (z.h+i) n->z.e[z.h+(i+n)]?=U e->k.n [U g4,a1,l,a3,U<|.int (i+n:Nat),U<|.str [e]] z.o->jb (WE gY (C (d+1))<|.or (.b5 .le .le (.aV<|.str [48]) (.j 5)<|.aV (.str [57]))<|.or (.b5 .le .le (.aV (.str [65])) (.j 5) (.aV (.str [90]))) (.or (.b5 .le .le (.aV (.str [97])) (.j 5) (.aV (.str [122]))) (.Q .cH (.j 5) (.aV (.str [45,59,47,63,58,64,38,61,43,36,44,95,46,33,126,42,39,40,41,91,93,37]))))) (WS gY (C (d+1)) GG.snd.snd.snd.fst.bC) k [U g4,a1,l,a3,U<|.int (i:Nat),U<|.str [c]] z.o:=by
 intro n;induction n with
 |zero=>
  intro i c hc w b h;have m:c=e:=by rw[Nat.add_zero,hc]at b;exact ia b
  clear zz3 m q;refine .turn (λj j=>False) (λj j x=>x.elim) ?_;rcases q with rfl|rfl|rfl
  .left;exact h
  .left;exact h
  .left;exact h
 |succ n t=>
  intro i c hc w b h;refine jj w.dL λo p a s=>?_;haveI m:o=c:=by rw[hc]at p;exact(ia p).symm
  subst m;obtain⟨c2,f⟩:∃c2,z.e[z.h+(i+1)]?=U c2:=by refine vf λB r=>?_;induction n with|zero=>exact r e b|succ n=>refine g6 w.cC.dL λc2 f j=>?_;exact r c2 f
  refine .turn (λρ st=>ρ=[U g4,a1,l,a3,U<|.int (i+1:Nat),U<|.str [c2]]/\st=z.o) (λρ st ⟨y,A⟩=>?_) ?_;.subst y A;refine t _ c2 f w.cC (by rw[show i+1+n=i+(n+1)by apply iZ<;>right];exact b) ?_;rw[show i+1+n=i+(n+1)by apply iZ<;>right];exact h
  .left;rw[mD,decide_eq_true<|f2 (by decide) a];left;rw[mD,decide_eq_false (yn<|ja<|f2 (by decide) a)];left;rw[mD,decide_eq_true<|f2 (by decide) a];left;rw[mD,decide_eq_false (yn<|ja<|f2 (by decide) a)];left;rw[mD,decide_eq_true a];left;rw[mD,decide_eq_true s];left;rw[ly (show o≠37 by exact iP<|ja<|f2 (by decide) a)];exact ik Y z (k:=i+1) _ _ f ⟨rfl,rfl⟩
theorem SE(z:Z){n e}{a1 f}(o:∀(i:Nat) c,z.e[i]?=U c->kO c)(l:0<n)(k:n<=1000)(w:Wd z.e z.h n)(j:iF e)(a:z.e[z.h+n]?=U e)(h:∀m,z.x.le m->Q (.str<|(z.e.drop z.h).take n) ({z.G n with x:=m}:Z).o):C (d+3) 1264 [g4,a1,f] z.o Q X:=by refine hz (w 0 l) λc1 b=>Y.c O O<|ik Y {z with x:=z.x.add _} _ _ b.1<|SD Y _ _ _ _ j n 0 c1 b.1 w (by rw[lG];exact a) ?_;rw[lG];left;rw[jp,decide_eq_false (by apply iP<;>right)];refine uh (gW.bT _ _)<|mB Y _<|p5 (gW.bT _ _) (by simp)<|jZ Y (z.s<|(z.x.add _).set _<|.m [.str _]) ((jq.mp a).1) o<|ui (by intro q;cases q) (gW.bj _ _ _)<|R9 (s:=[]) (gW.bj _ _ _) O ?_ (h _<|(gW.le.add _ _).set _<|hJ _);.rw[pq];exact f2 (yo _ _)<|f2 k (by decide)
end
end
section
open PySem
section
variable{C:Nat->PC}(Y:Sys C){Q:AV->St->Prop}{X:hv->St->Prop}{d:Nat}
include Y
theorem SF(z:Z)(a1 a3 j a5 a6 a8){e}(s:iF e):∀n i c,z.e[z.h+i]?=U c->Wd z.e (z.h+i) n->z.e[z.h+(i+n)]?=U e->k.n [U g4,a1,U<|.str [e],a3,j,a5,a6,U<|.int (i+n:Nat),a8] z.o->jb (WE gY (C (d+1))<|.Q .ct (.j 2)<|.aV (.str [0,32,13,10,133,8232,8233])) (WS gY (C (d+1)) GF.snd.snd.fst.ba.ba.snd.snd.fst.bC) k [U g4,a1,U<|.str [c],a3,j,a5,a6,U<|.int i,a8] z.o:=by
 intro n;induction n with
 |zero=>
  intro i c hc w a h;clear zz3 (by rw[hc]at a;exact ia a:c=e);refine .turn (λf f=>False) (λf f x=>x.elim) ?_;rcases s with rfl|rfl|rfl
  .exact h
  .exact h
  .exact h
 |succ n t=>
  refineλi c hc w a h=>jj w.dL λp l m r=>?_;haveI q:=by rw[hc]at l;exact(ia l).symm
  subst q;obtain⟨c2,b⟩:∃c2,z.e[z.h+(i+1)]?=U c2:=by refine vf λB o=>?_;induction n with|zero=>exact o e a|succ n=>exact g6 w.cC.dL λc2 b f=>o c2 b
  refine .turn (λρ st=>ρ=[U g4,a1,U<|.str [c2],a3,j,a5,a6,U<|.int (i+1),a8]/\st=z.o) (λρ st ⟨y,A⟩=>?_) ?_;.subst y A;refine t (i+1) c2 b w.cC (by rw[show i+1+n=i+(n+1)by apply iZ<;>right];exact a) ?_;rw[show i+1+n=i+(n+1)by apply iZ<;>right];exact h
  .left;rw[sj ⟨m,r⟩ rfl];left;rw[ly (show p≠33 by exact iP<|ja<|f2 (by decide) m)];exact ik Y z (k:=i+1) _ _ b ⟨rfl,rfl⟩
noncomputable def Ha(B:List Nat)(p n:Nat):AV:=.au [.str [33],.str ((B.drop p).take n)]
theorem SG(z:Z){n e}(s:∀(i:Nat) c,z.e[i]?=U c->kO c)(r:0<n)(x:n<=1000)(w:Wd z.e (z.h+1) n)(p:iF e)(l:z.e[z.h+(n+1)]?=U e)(h:∀m,z.x.le m->Q (Tk.bs z.e<|.val 380 (Ha z.e (z.h+1) n) z.h (z.h+(n+1))) ({z.G (n+1)with x:=m}:Z).o):C (d+4) 1170 [g4] z.o Q X:=by
 refine kf λj=>hz (w 0 r) λc1 o=>j<|Y.c O O<|i3 Y z _ _<|ik Y z _ _ o.1 ?_;left;rw[ly (show c1≠60 by exact iP<|ja<|f2 (by decide) o.2.1)];left;rw[sj o.2 O];refine SF Y z _ _ _ _ _ _ p n 1 c1 o.1 w (by rw[show 1+n=n+1 by apply pA<;>right];exact l)<|jZ Y z (n:=1) ((ja<|f2 (iu (iU (kT _ _) _) _)<|jP ((jq.mp l).1))) s<|SE Y _ s r x w p (by show z.e[z.h+1+n]?=_;rw[show z.h+1+n=z.h+(n+1)by apply iZ<;>right];exact l) λm q=>?_;haveI t:({(z.G 1).G n with x:=m})={z.G _ with x:=m}:=by unfold Z.G;dsimp only;rw[show z.h+1+n=z.h+(n+1)by apply iZ<;>right]
 rw[t];refine ik Y _ _ _ l ?_;haveI k:=h m q;exists j;rcases p with a|b|f;clear zz3 a j;rotate_left 1;clear zz3 b j;rotate_right 1;rotate_left 2;clear zz3 f j;rotate_right 2
 .exact j<|i3 Y _ _ _ ⟨rfl,k⟩
 .exact j<|i3 Y _ _ _ ⟨rfl,k⟩
 .exact j<|i3 Y _ _ _ ⟨rfl,k⟩
noncomputable def Z.eO(z:Z)(n:Nat):Z:=((z.aQ.ab g).G (n+1)).bE (.val 380 (Ha z.e (z.h+1) n) z.h (z.h+(n+1)))
theorem SH(z)(D:h5 z)(j:∀k,iA z.J z.A=U k->k.bi=g)(q:0<n)(p:n<=1000)(w:Wd z.e (z.h+1) n)(o:iF e)(r:z.e[z.h+(n+1)]?=U e)(h:∀m,z.x.le m->Q .none ((z.eO n).s m).o):C (d+5) 995 [g4] z.o Q X:=by
 refine l4 (rb z) λb a t f x A B=>?_;haveI i:z.aQ.x=z.x:=wu (P:=λy:Z=>y.x=z.x) (λs=>rfl) λs=>rfl;refine Y.c O O<|si Y z D.bt D.ep j<|SG Y (z.aQ.ab g) (by rw[a];exact D.cd) q p (by show Wd z.aQ.e _ n;rw[b,a];exact w) o (by show z.aQ.e[z.aQ.h+(n+1)]?=U e;rw[b,a];exact r) λm c=>p5 (l:=z.aQ.I.map _) O ?_ ?_;.rw[h8,f];exact D.dp
 .haveI h':=h m (by rw[<-i];exact c);haveI h':Q _ ((({(z.aQ.ab _).G _ with x:=m}).bE _).o):=h';rw[mU]at h';rw[<-b,<-a]at h';exact h'
noncomputable def Z.eP(z:Z)(n:Nat):Z:=((z.aQ.ab g).G (n+2)).bE (.a0 ((z.e.drop (z.h+1)).take n) g (.str [39]) z.h (z.h+(n+2)))
theorem SI{k:KS}(z:Z)(a1 a a3 a5 a6 b:Option AV):∀n i,Wd z.e (z.h+i) n->z.e[z.h+(i+n)]?=U 39->k.n [U g4,a1,a,a3,U<|.int (i+n:Nat),a5,a6,b] z.o->jb (WE gY (C (d+1))<|.Q .ct (.bV 690 (.j 0)<|.cons (.j 4) .nil)<|.aV (.str [39,34,92,0,32,9,13,10,133,8232,8233])) (WS gY (C (d+1))<|.cJ 4 .add<|.aV (.int 1)) k [U g4,a1,a,a3,U<|.int (i:Nat),a5,a6,b] z.o:=by
 intro n;induction n with|zero=>intro i w c h;refine .turn (λe e=>False) (λe e x=>x.elim)<|ik Y z (k:=i) _ _ c ?_;exact h|succ n m=>
  intro i w c h;refine jj w.dL λq f j l=>?_;refine .turn (λρ st=>ρ=[U g4,a1,a,a3,U<|.int (i+1:Nat),a5,a6,b]/\st=z.o) (λρ st ⟨o,p⟩=>?_) ?_;.subst o p;refine m _ w.cC (by rw[show i+1+n=i+(n+1)by apply iZ<;>right];exact c) ?_;rw[show i+1+n=i+(n+1)by apply iZ<;>right];exact h
  .refine ik Y z _ _ f ?_;left;rw[sj ⟨j,l⟩ rfl];exact⟨rfl,rfl⟩
theorem SJ(z:Z){n e}{a}(l:∀(i:Nat) c,z.e[i]?=U c->kO c)(p:0<n)(o:n<=1000)(w:Wd z.e z.h n)(b:z.e[z.h+n]?=U 39)(j:z.e[z.h+(n+1)]?=U e)(k:e≠39)(h:∀m,z.x.le m->m.j z.x.f=U (.m [.str<|(z.e.drop z.h).take n])->Q (.mut<|.j z.x.f) ({z.G n with x:=m}:Z).o):C (d+3) 1222 [g4,.bool g,a] z.o Q X:=by refine Y.c O O<|.turn (λf f=>False) (λf f x=>x.elim)<|SI Y (z.s<|z.x.add _) _ _ _ _ _ _ n 0 w (by rw[lG];exact b) ?_;rw[lG];left;rw[jp,decide_eq_false (by apply iP<;>right)];refine uh (gW.bT _ _)<|mB Y _<|p5 (gW.bT _ _) (by simp)<|jZ Y (z.s<|(z.x.add _).set _<|.m [.str _]) ((jq.mp b).1) l<|ik Y ((z.G n).s<|(z.x.add _).set _ _) _ _ b<|ik Y _ _ _ (j) ?_;left;rw[ly k];exact h _ ((gW.le.add _ _).set _<|hJ _)<|gW.bj _ _ _
end
end
section
open PySem
theorem Hb(z:Z):z.aQ.x=z.x:=wu (P:=λy:Z=>y.x=z.x) (λa=>rfl) λa=>rfl
section
variable{C:Nat->PC}(Y:Sys C){Q:AV->St->Prop}{X:hv->St->Prop}{d:Nat}
include Y
theorem SM(z:Z){n e}(a:∀(i:Nat) c,z.e[i]?=U c->kO c)(o:0<n)(j:n<=1000)(p:z.e[z.h]?=U 39)(w:Wd z.e (z.h+1) n)(k:z.e[z.h+(n+1)]?=U 39)(f:z.e[z.h+(n+2)]?=U e)(l:e≠39)(h:∀m,z.x.le m->Q (Tk.bs z.e<|.a0 ((z.e.drop (z.h+1)).take n) g (.str [39]) z.h (z.h+(n+2))) ({z.G (n+2)with x:=m}:Z).o):C (d+4) 1212 [g4,.str [39]] z.o Q X:=by
 haveI r:=(jq.mp f).1;refine Y.c O O<|i3 Y (z.s<|z.x.add _) _ _<|ik Y _ _ _ p<|jZ Y _ (by show z.h+1<z.e.length;exact ja<|f2 (iu (iU (Nat.le_add_left_of_le (by decide)) _) _)<|jP r) a<|uh (gW.bT _ _)<|SJ Y _ a o j w (by show z.e[z.h+1+n]?=_;rw[show z.h+1+n=z.h+(n+1)by apply iZ<;>right];exact k) (by show z.e[z.h+1+(n+1)]?=_;rw[show z.h+1+(n+1)=z.h+(n+2)by apply iZ<;>right];exact f) l λm m1 m2=>?_;haveI s:(iV.j z.x.f)≠iV.j (z.x.add<|.m []).f:=by intro q;haveI:=vl q;haveI e:(z.x.add<|.m []).f=z.x.f+1:=rfl;lia
 refine R8 (m1.at (kg _)<|gW.bT _ _) m2 s (by simp) ?_;rw[(by unfold Z.G;dsimp only;rw[show z.h+1+n=z.h+(n+1)by apply iZ<;>right]:({((z.G 1).s _).G n with x:=m})=(z.G _).s m)];refine .turn (λb b=>False) (λb b x=>x.elim)<|ik Y ((z.G _).s<|m.set _ _) _ _ k<|jZ Y _ (by assumption) a<|i3 Y (((z.G _).s _).G 1) _ _ ?_;left;rw[show((((z.G _).s<|m.set _ _).G 1).aX _ _).cell (.j _)=U _ from gW.bj _ _ _];refine iO (by rw[pq];exact f2 (yo _ _)<|f2 j (by decide)) ⟨rfl,?_⟩;exact h _<|((gW.le.add _ _).trans m1).set _<|hJ _
theorem SN(z)(A:h5 z)(i:∀k,iA z.J z.A=U k->k.bi=g)(p:0<n)(o:n<=1000)(q:z.e[z.h]?=U 39)(w:Wd z.e (z.h+1) n)(r:z.e[z.h+(n+1)]?=U 39)(j:z.e[z.h+(n+2)]?=U e)(l:e≠39)(h:∀m,z.x.le m->Q .none ((z.eP n).s m).o):C (d+6) 1023 [g4] z.o Q X:=by
 refine l4 (rb z) λb a s f t x y=>Y.c O O<|Y.c O O<|si Y z A.bt A.ep i<|SM Y (z.aQ.ab g) (by rw[a];exact A.cd) p o (by show z.aQ.e[z.aQ.h]?=_;rw[b,a];exact q) (by show Wd z.aQ.e _ n;rw[b,a];exact w) (by show z.aQ.e[z.aQ.h+(n+1)]?=_;rw[b,a];exact r) (by show z.aQ.e[z.aQ.h+(n+2)]?=_;rw[b,a];exact j) l λm c=>p5 O ?_ ?_;.rw[h8,f];exact A.dp
 .haveI h':=h m (by rw[<-(Hb z)];exact c);haveI h':Q _ ((({(z.aQ.ab _).G _ with x:=m}).bE _).o):=h';rw[mU]at h';rw[<-b,<-a]at h';exact h'
inductive lS (z:Z)(p:Nat):Nat->Bool->Prop|et:z.e[p]?=U 0->lS z p 0 g|dZ {e:Nat}:z.e[p]?=U 58->z.e[p+1]?=U e->iF e->lS z p 0 g|cM:z.e[p]?=U 32->z.e[p+1]?=U 35->lS z p 1 g|sign {c:Nat}:z.e[p]?=U 32->z.e[p+1]?=U c->(c=44\/c=93\/c=125\/c=63)->0<z.J->lS z p 1 g|eu {e:Nat}:z.e[p]?=U 32->z.e[p+1]?=U 58->z.e[p+2]?=U e->iF e->0<z.J->lS z p 1 g|doc {c e:Nat}:z.e[p]?=U 10->(z.e.drop (p+1)).take 3=[c,c,c]->(c=45\/c=46)->z.e[p+4]?=U e->iF e->lS z p 1 H|ev {j c:Nat}:z.e[p]?=U 10->(∀i,i<j->z.e[p+1+i]?=U 32)->z.e[p+1+j]?=U c->(c=44\/c=93\/c=125\/c=63)->0<z.J->lS z p (1+j) H|ew {j e:Nat}:z.e[p]?=U 10->(∀i,i<j->z.e[p+1+i]?=U 32)->z.e[p+1+j]?=U 58->z.e[p+1+j+1]?=U e->iF e->0<z.J->lS z p (1+j) H|ex:z.e[p]?=U 10->z.e[p+1]?=U 0->z.M= -1\/0<z.J->lS z p 1 H
theorem AE(z:Z)(a1 p a3 q a5 l:Option AV){c1 c2}(hc:c1=0\/c1=32\/c1=10\/(c1=58/\iF c2)):∀n i l,Wd z.e (z.h+i) n->z.e[z.h+(i+n)]?=U c1->(c1=58->z.e[z.h+(i+n+1)]?=U c2)->(∀l,k.n [U g4,a1,p,a3,q,a5,U<|.int (i+n:Nat),l] z.o)->jb (WE gY (C (d+1))<|.aV<|.bool H) (WS gY (C (d+1)) wj.snd.snd.snd.snd.snd.fst.bC.snd.snd.fst.bC) k [U g4,a1,p,a3,q,a5,U<|.int i,l] z.o:=by
 intro n;induction n with
 |zero=>
  refineλi l w s r h=>.turn (λt t=>False) (λt t x=>x.elim)<|ik Y z _ _ s ?_;rcases hc with rfl|rfl|rfl|⟨rfl,A⟩
  .exact h _
  .exact h _
  .exact h _
  .refine ik Y z (k:=i+1) _ _ (r O) ?_;left;rw[jp];by_cases o:z.J=0
   .rw[decide_eq_true o];rcases A with a|b|c;clear zz3 a;rotate_left 1;clear zz3 b;rotate_right 1;rotate_left 2;clear zz3 c;rotate_right 2
    .exact h _
    .exact h _
    .exact h _
   .rw[decide_eq_false o];rcases A with e|f|j;clear zz3 e;rotate_left 1;clear zz3 f;rotate_right 1;rotate_left 2;clear zz3 j;rotate_right 2
    .exact h _
    .exact h _
    .exact h _
 |succ n G=>
  refineλi l w s r h=>kf λE=>jj w.dL λB D m y=>E<|.turn (λρ st=>∃l,ρ=[U g4,a1,p,a3,q,a5,U<|.int (i+1:Nat),l]/\st=z.o) (λρ st ⟨l,I,J⟩=>?_) ?_;.subst I J;refine G _ l w.cC (by rw[show i+1+n=i+(n+1)by apply iZ<;>right];exact s) (by rw[show i+1+n+1=i+(n+1)+1 by exact py (iu (oN<|oc<|hJ _) _)<|iu (oe<|iU (lK (hJ _)) _) _];exact r) ?_;rw[show i+1+n=i+(n+1)by apply iZ<;>right];exact h
  .refine ik Y z _ _ D ?_;left;rw[sj ⟨m,y⟩ rfl];left;rw[ly (show B≠58 by exact iP<|ja<|f2 (by decide) m)];left;rw[jp];by_cases o:z.J=0;.rw[decide_eq_true o];left;rw[jp,decide_eq_true o];exact h9 _ O O
   .rw[decide_eq_false o];left;rw[sj ⟨m,y⟩ rfl];exact h9 _ O O
end
end
section
open PySem
theorem uj{B:List Nat}{p c}(h:B[p]?=U c)(k):(B.drop p).take (k+1)=c::(B.drop (p+1)).take k:=by refine hz (jq.mp h) λa e=>?_;rw[ye a,List.take_succ_cons,e]
theorem AF(a:m≠ .L)(h:st.cell m=U (.m l)):nk st (.mut m)=U (!l.isEmpty):=by induction m with|L=>exact absurd O a|_=>unfold nk;dsimp only;rw[h];rfl
section
variable{C:Nat->PC}(Y:Sys C){Q:AV->St->Prop}{X:hv->St->Prop}{d:Nat}
include Y
theorem ww(z:Z)(a:∀(i:Nat) c,z.e[i]?=U c->kO c)(hc:z.e[z.h]?=U 10)(hl:z.h+1<z.e.length)(h:Q (.str [10]) (z.G 1).o):C (d+3) 1278 [g4] z.o Q X:=by refine Y.c O O<|ik Y z _ _ hc<|mB Y z ?_;rw[uj hc 1];exact jZ Y z hl a h
theorem SO(z:Z)(hc:z.e[z.h]?=U c)(a:c<127/\c≠10/\c≠13)(h:Q (.str []) z.o):C (d+2) 1278 [g4] z.o Q X:=by refine Y.c O O<|ik Y z _ _ hc ?_;left;rw[mc a.2.2<|mc a.2.1<|mc (mz a.1 O) O];left;rw[mc (mz a.1 O)<|mc (mz a.1 O) O];exact h
theorem Hc(z:Z)(k:∀(i:Nat) c,z.e[i]?=U c->kO c)(hc:z.e[z.h]?=U c)(f:c=0\/c=58)(h:∀m n,z.x.le m->z.x.f<=n->m.j n=U (.m [])->Q (.mut<|.j n) (z.s m).o):C (d+3) 1250 [g4,a1,j] z.o Q X:=by
 haveI l:=(jq.mp hc).1;refine Y.c O O<|.turn (λa a=>False) (λa a x=>x.elim)<|ik Y (z.s<|z.x.add _) _ _ hc ?_;have b:WS gY (C (d+2)) Aw.snd.snd.snd [U g4,U a1,U j,U<|.mut<|.j z.x.f,U<|.int 0,V,V,V,V,V] (z.s<|z.x.add<|.m []).o ⟨λa st=>Q .none st,Q,λa a=>False,λa=>X⟩:=by
  refine mB Y _<|jZ Y _ (by assumption) k<|ik Y (z.s<|z.x.add _) _ _ hc ?_;have e:=h _ _ (gW.le.add _ _) (hJ _)<|gW.bT _ _;rcases f with rfl|rfl
  .exact e
  .exact e
 rcases f with rfl|rfl
 .exact b
 .exact b
theorem AG(z:Z){c}{a1 y}(I:∀(i:Nat) c,z.e[i]?=U c->kO c)(D:z.e[z.h]?=U 32)(hc:z.e[z.h+1]?=U c)(B:c=35\/c=58\/c=44\/c=93\/c=125\/c=63)(h:∀m n,z.x.le m->z.x.f<=n->m.j n=U (.m [.str [32]])->Q (.mut<|.j n) ((z.G 1).s m).o):C (d+3) 1250 [g4,a1,y] z.o Q X:=by
 haveI G:=(jq.mp hc).1;refine Y.c O O ?_;have A:WS gY (C (d+2)) Aw.snd.snd.snd [U g4,U a1,U y,U<|.mut<|.j z.x.f,U<|.int 1,V,V,V,V,V] (z.s<|z.x.add<|.m []).o ⟨λw st=>Q .none st,Q,λw w=>False,λw=>X⟩:=by
  refine mB Y (z.s<|z.x.add<|.m []) (k:=1) ?_;rw[show((z.s<|z.x.add<|.m []).e.drop (z.s<|z.x.add<|.m []).h).take 1=[32]from uj D 0];refine jZ Y (z.s<|z.x.add<|.m []) (n:=1) G I<|ik Y ((z.s<|z.x.add<|.m []).G 1) (k:=0) _ _ hc ?_;have E:=h _ _ ((gW.le.add _<|.m []).set (.m [.str [32]])<|hJ _) (hJ _)<|gW.bj _ _ _;rcases B with a|b|e|f|j|l;clear zz3 a;rotate_left 1;clear zz3 b;rotate_right 1;rotate_left 2;clear zz3 e;rotate_right 2;rotate_left 3;clear zz3 f;rotate_right 3;rotate_left 4;clear zz3 j;rotate_right 4;rotate_left 5;clear zz3 l;rotate_right 5
  all_goals
   exact oq (gW.bT _ _)<|oq (gW.bT _ _)<|iO (by decide) E
 refine .turn (λρ st=>ρ=[U g4,U a1,U y,U<|.mut<|.j z.x.f,U<|.int 1,V,V,V,V,V]/\st=(z.s<|z.x.add<|.m []).o) (λρ st ⟨J,L⟩=>?_) (ik Y (z.s<|z.x.add _) _ _ D ⟨rfl,rfl⟩);.subst J L;refine .turn (λw w=>False) (λw w x=>x.elim)<|ik Y _ _ _ hc ?_;rcases B with o|p|q|r|s|t;clear zz3 o;rotate_left 1;clear zz3 p;rotate_right 1;rotate_left 2;clear zz3 q;rotate_right 2;rotate_left 3;clear zz3 r;rotate_right 3;rotate_left 4;clear zz3 s;rotate_right 4;rotate_left 5;clear zz3 t;all_goals exact A
theorem SP{k:KS}{ρ}(a:ρ[(0:Nat)]?=U (U g4)){c}(hc:c<127/\c≠32/\c≠10/\c≠13):∀j (z:Z),(∀(i:Nat) c,z.e[i]?=U c->kO c)->(∀i,i<j->z.e[z.h+i]?=U 32)->z.e[z.h+j]?=U c->k.n ρ (z.G j).o->jb (WE gY (C (d+2))<|.Q .cH (.bV 690 (.j 0)<|.cons (.aV (.int 0)) .nil)<|.aV (.str [32,13,10,133,8232,8233])) (WS gY (C (d+2))<|.ite (.Q .eq (.bV 690 (.j 0)<|.cons (.aV (.int 0)) .nil)<|.aV (.str [32])) (.as<|.bV 706 (.j 0) (.cons (.aV (.int 1)) .nil))<|.seq .av (.seq .av .av)) k ρ z.o:=by
 intro j;induction j with|zero=>intro z f e b h;refine .turn (λl l=>False) (λl l x=>x.elim) ?_;left;rw[a];refine ik Y z (k:=0) _ _ b ?_;left;rw[mc hc.2.1<|mc hc.2.2.2<|mc hc.2.2.1<|mu hc.1];exact h|succ j p=>
  intro z f e b h;haveI q:=(jq.mp b).1;haveI m:z.e[z.h+0]?=U _:=e 0 (by apply kT<;>right);haveI o:(z.G 1).G j=z.G (j+1):=by unfold Z.G;dsimp only;rw[show z.h+1+j=z.h+(j+1)by apply iZ<;>right]
  refine .turn (λak st=>ak=ρ/\st=(z.G 1).o) (λak st ⟨r,s⟩=>?_) ?_
  .subst r s;refine p _ f (λi t=>?_) ?_ ?_;.haveI:=e (i+1) (by apply ym<;>right);show z.e[z.h+1+i]?=_;rw[show z.h+1+i=z.h+(i+1)by apply iZ<;>right];exact this
   .show z.e[z.h+1+j]?=_;rw[show z.h+1+j=z.h+(j+1)by apply iZ<;>right];exact b
   .rw[o];exact h
  .left;rw[a];refine ik Y z _ _ m ?_;left;rw[a];refine ik Y z _ _ m ?_;left;rw[a];exact jZ Y z (n:=1) ((ja<|f2 (iu (iU (kT _ _) _) _)<|jP q)) f ⟨rfl,rfl⟩
theorem AH(z:Z)(e:∀(i:Nat) c,z.e[i]?=U c->kO c)(b:z.e[z.h]?=U 10)(s:∀i,i<j->z.e[z.h+1+i]?=U 32)(hc:z.e[z.h+1+j]?=U c)(r:c<127/\c≠32/\c≠10/\c≠13)(t:z.e[z.h+1]?=U x)(a:x≠45/\x≠46)(h:∀m n,z.x.le m->z.x.f<=n->m.j n=U (.m [.str [32]])->Q (.mut<|.j n) (((z.ab H).G (1+j)).s m).o):C (d+4) 1250 [g4,a1,w] z.o Q X:=by
 haveI p:=(jq.mp hc).1;refine Y.c O O<|.turn (λf f=>False) (λf f x=>x.elim)<|ik Y (z.s<|z.x.add _) _ _ b<|mB Y _<|jZ Y _ (by show z.h+0<z.e.length;exact ja<|f2 (iu (j4 (iy _ _)<|i' _) _)<|jP p) e<|ik Y (z.s<|z.x.add _) _ _ b<|ww Y _ e b (by show z.h+1<z.e.length;exact ja<|f2 (iu (iy _ _) _)<|jP p)<|mB Y (((z.s<|z.x.add _).ab H).G 1) ?_;rw[show((((z.s _).ab H).G 1).e.drop _).take 3=x::(z.e.drop _).take 2 from uj t 2];left;rw[ly a.1];left;rw[ly a.2];refine SP Y O r j (((z.s<|(z.x.add<|.m []).add<|.m []).ab _).G 1) e s hc ?_;haveI c1:((z.x.add<|.m []).add _).j _=U (.m []):=gW.bT _ _;haveI k:((z.x.add<|.m []).add<|.m []).j z.x.f=U (.m []):=(gW.fh _ _ (by show z.x.f≠z.x.f+1;exact iw (hJ z.x.f.succ))).trans<|gW.bT _ _;left;rw[show nk ((((z.s<|(z.x.add _).add _).ab _).G 1).G j).o (.mut<|.j (((z.s<|z.x.add _).ab _).G 1).o.f)=U g from AF (l:=[]) (by intro q;cases q) c1];refine oq k<|oq k<|iO (by decide) ?_;haveI nn:(iV.j _)≠iV.j (((z.s<|z.x.add<|.m []).ab H).G 1).o.f:=by intro q;haveI y:z.x.f=z.x.f+1:=vl q;lia
 haveI o:(((((z.s<|(z.x.add<|.m []).add<|.m []).ab H).G 1).G j).o.bh (.j z.o.f) _).cell (.j z.o.f)=U (.m [.str [32]]):=gW.bj _ _ _;refine oq o<|oq o<|mR ((gW.dm ((z.x.add _).add _) (n:=z.x.f) _ (by exact iP (hJ z.x.f.succ))).trans c1) ⟨nn,iO (by decide) ?_⟩;rw[(by unfold Z.G Z.ab;dsimp only;rw[show z.h+1+j=z.h+(1+j)by apply lZ<;>right]:(((z.s _).ab H).G 1).G j=((z.ab H).G _).s ((z.x.add<|.m []).add<|.m []))];exact h _ _ ((((gW.le.add _<|.m _).trans<|gW.le.add _ _).set _<|hJ _).set _<|hJ _) (hJ _)<|gW.bj _ _ _
theorem SQ(z:Z)(A:∀(i:Nat) c,z.e[i]?=U c->kO c)(r:z.e[z.h]?=U 10)(B:(z.e.drop (z.h+1)).take 3=[c,c,c])(hc:c=45\/c=46)(t:z.e[z.h+4]?=U e)(w:iF e)(h:∀m,z.x.le m->Q .none (((z.ab H).G 1).s m).o):C (d+4) 1250 [g4,a1,D] z.o Q X:=by
 haveI y:=(jq.mp t).1;refine Y.c O O<|.turn (λs s=>False) (λs s x=>x.elim)<|ik Y (z.s<|z.x.add _) _ _ r<|mB Y _<|jZ Y _ (by show z.h+0<z.e.length;exact ja<|f2 (iu (iU (by decide) _) _)<|jP y) A<|ik Y (z.s<|z.x.add _) _ _ r<|ww Y _ A r (by show z.h+1<z.e.length;exact ja<|f2 (iu (iU (by decide) _) _)<|jP y)<|mB Y (((z.s<|z.x.add _).ab H).G 1) ?_;rw[show((((z.s _).ab H).G 1).e.drop _).take 3=[c,c,c]from B];haveI q:=t;haveI p:=h _<|gW.le.add _<|.m [];rcases hc with a|b;clear zz3 a;rotate_left 1;clear zz3 b;rotate_right 1
 .refine ik Y _ _ _ q ?_;rcases w with f|j|k;clear zz3 f;rotate_left 1;clear zz3 j;rotate_right 1;rotate_left 2;clear zz3 k;all_goals exact p
 .refine ik Y _ _ _ q ?_;rcases w with l|n|o;clear zz3 l;rotate_left 1;clear zz3 n;rotate_right 1;rotate_left 2;clear zz3 o;all_goals exact p
end
end
section
open PySem
theorem Hd:iV.j n≠ .L:=λq=>by cases q
theorem AI{y:Z}(h:m.j n=U (.m [.str [32]])):nk (y.s m).o (.mut<|.j n)=U true:=AF (st:=(y.s m).o) Hd h
theorem He{y:Z}(h:m.j n=U (.m [])):nk (y.s m).o (.mut<|.j n)=U false:=AF (st:=(y.s m).o) Hd h
theorem wx{P:Nat->Prop}(f:c=44\/c=93\/c=125\/c=63)(a:P 44)(b:P 93)(d:P 125)(e:P 63):P c:=by rcases f with rfl|rfl|rfl|rfl<;>assumption
theorem Hf{B:List _}{p j c:Nat}(b:∀i,i<j->B[p+i]?=U 32)(h:B[p+j]?=U c)(n:c≠45/\c≠46):∃x,B[p]?=U x/\x≠45/\x≠46:=by cases j with|zero=>exact⟨c,h,n⟩|succ j=>exact⟨_,b 0<|rG j,by decide⟩
theorem Hg(p n j):p+n+1+j=p+(n+(1+j)):=by rw[lZ,lZ]
theorem Hh(z:Z)(n j):((z.G n).G (1+j)).s m=(z.G (n+(1+j))).s m:=by unfold Z.G;dsimp only;rw[lZ]
noncomputable def AJ(z:Z)(p:Nat):Prop:=(z.e[p]?=U 0)\/(∃c,z.e[p]?=U c/\(c=44\/c=93\/c=125\/c=63)/\0<z.J)\/(∃e,z.e[p]?=U 58/\z.e[p+1]?=U e/\iF e)
noncomputable def uk:DS:=wj.snd.snd.snd.snd.snd.fst.bC
section
variable{C:Nat->PC}(Y:Sys C){Q:AV->St->Prop}{X:hv->St->Prop}{d:Nat}
include Y
theorem SR(z)(a1 m a3 n a5 a6 o)(t:AJ z z.h)(h:∀p,k.b [U g4,a1,m,a3,n,a5,U<|.int 0,p] z.o):WS gY (C (d+1)) uk [U g4,a1,m,a3,n,a5,a6,o] z.o k:=by
 exists j;rcases t with b|⟨c,b,hc,w⟩|⟨e,b,r,s⟩
 .exact j<|ik Y z _ _ b<|AE Y z _ _ _ _ _ V (c2:=0) (.inl O) 0 0 _ (λi l=>absurd l<|rK i) b (λq=>absurd q (by decide)) λa=>h _
 .refine j<|ik Y z _ _ b ?_;rcases hc with rfl|rfl|rfl|rfl
  all_goals
   refine .turn (λf f=>False) (λf f x=>x.elim)<|ik Y z _ _ b ?_
   left
   rw[jp,(decide_eq_false (by apply iP<;>right))]
   exact h _
 .exact j<|ik Y z _ _ b<|AE Y z _ _ _ _ _ V (.inr<|.inr<|.inr ⟨rfl,s⟩) 0 0 _ (λi l=>absurd l<|rK i) b (λf=>r) λa=>h _
set_option tactic.hygienic true in
theorem SS(z){n t c1:Nat}(s:∀(i:Nat) c,z.e[i]?=U c->kO c)(aV:0<n)(aU:n<=1000)(w:Wd z.e z.h n)(T:lS z (z.h+n) t nl)(h:∀m,z.x.le m->Q (Tk.bs z.e<|.a0 ((z.e.drop z.h).take n) H .none z.h (z.h+n)) (((z.ab nl).G (n+t)).s m).o):C (d+5) 1243 [g4] z.o Q X:=by
 refine g6 (w 0 aV) λx aW x1=>?_;haveI hc:∃c1 c2,z.e[z.h+n]?=U c1/\(c1=0\/c1=32\/c1=10\/(c1=58/\iF c2))/\(c1=58->z.e[z.h+(n+1)]?=U c2):=by induction T with|et a=>exact ob _ 0 a (.inl O) λq=>absurd q (by decide)|dZ a b c=>exact ob _ _ a (.inr<|.inr<|.inr ⟨rfl,c⟩) λB=>b|cM a b=>exact ob _ 0 a (.inr<|.inl O) λq=>absurd q (by decide)|sign a b=>exact ob _ 0 a (.inr<|.inl O) λq=>absurd q (by decide)|eu a b=>exact ob _ 0 a (.inr<|.inl O) λq=>absurd q (by decide)|doc a b=>exact ob _ 0 a (.inr<|.inr<|.inl O) λq=>absurd q (by decide)|ev a b=>exact ob _ 0 a (.inr<|.inr<|.inl O) λq=>absurd q (by decide)|ew a b=>exact ob _ 0 a (.inr<|.inr<|.inl O) λq=>absurd q (by decide)|ex a b=>exact ob _ 0 a (.inr<|.inr<|.inl O) λq=>absurd q (by decide)
 refine jk hc λc1 c2 N aO aP=>?_;let av:=z.s<|(z.x.add<|.m []).add<|.m [];let D:=((((z.x.add<|.m []).add<|.m []).set z.x.f<|.m []).set z.x.f<|.m [.str<|(z.e.drop z.h).take n]);let p:=(((z.ab g).G n).s D);haveI L:z.x.le D:=((((gW.le.add _<|.m _).trans<|gW.le.add _ _).set _<|hJ _).set _<|hJ _);refine Y.c O O<|i3 Y (z.s<|z.x.add _) _ _ ?_;haveI M:∀q aR a6 l m b,D.le m->b=nl->q=n+t->WS gY (C (d+4)) wj.snd.snd.snd.snd.snd.snd [U g4,U<|.mut<|.j z.x.f,U<|hy z.e z.h,U<|hy z.e (z.h+n),U<|.int (z.M+1),aR,a6,l] (((z.ab b).G q).s m).o ⟨λB=>Q .none,Q,λB B=>False,λB=>X⟩:=by refineλq aR a6 l m b au J hq=>kf λaN=>?_;subst J hq;refine aN<|oq (au.at (by apply JR<;>right)<|gW.bj _ _ _)<|iO (by rw[pq];exact f2 (yo _ _)<|f2 aU (by decide)) ⟨rfl,?_⟩;exact h m<|L.trans au
 haveI ah:∀k,(∀l,C _ _ _ _ _ _)->WS _ (C (d+4)) uk [U g4,U<|.mut _,U _,U _,U _,U _,V,V] av.o k:=by
  refineλk aT=>ik Y av _ _ aW ?_
  left
  rw[ly (show x≠35 by exact iP<|ja<|f2 (by decide) x1.1)]
  refine AE Y av _ _ _ _ _ V aO n 0 _ w (by rw[lG];exact N) (λq=>by rw[lG];exact aP q) λl=>?_
  rw[lG]
  haveI c1:((z.x.add<|.m []).add<|.m []).j (z.x.f+1)=U (.m []):=gW.bT _ _
  haveI A:((z.x.add<|.m []).add<|.m []).j z.x.f=U (.m []):=(gW.fh _ _ (by exact iw (hJ z.x.f.succ))).trans<|gW.bT _ _
  haveI nn:(iV.j z.x.f)≠iV.j (z.x.f+1):=by lia
  haveI k2:WS gY (C (d+4)) uk.snd.snd.snd.snd.snd.snd [U g4,U<|.mut<|.j z.x.f,U<|hy z.e z.h,U<|hy z.e z.h,U<|.int (z.M+1),U<|.mut<|.j (z.x.f+1),U<|.int n,l] ((z.ab _).s<|((z.x.add<|.m []).add _).set _<|.m []).o k:=oq (gW.bj _ _ _)<|mB Y _<|p5 (gW.bj _ _ _) (by simp)<|jZ Y ((z.ab g).s D) ((jq.mp N).1) s<|i3 Y p _ _<|aT l
  left
  rw[jp,decide_eq_false (by apply iP<;>right)]
  exact(oq A<|oq A<|mR c1 ⟨nn,iO (by decide) k2⟩:WS _ _ uk.snd.snd.snd.snd.snd [U _,U<|.mut<|.j _,U _,U _,U _,U<|.mut<|.j _,U _,l] (av.ab g).o k)
 haveI I:∀k,(∀v l q m b,D.le m->b=nl->q=n+t->k.b [U g4,U<|.mut<|.j z.x.f,U<|hy z.e z.h,U<|hy z.e (z.h+n),U<|.int (z.M+1),U v,U<|.int n,l] (((z.ab b).G q).s m).o)->(∀v l q m b,D.le m->b=nl->q=n+t->AJ (z.G q) (z.h+q)->k.n [U g4,U<|.mut<|.j z.x.f,U<|hy z.e z.h,U<|hy z.e (z.h+n),U<|.int (z.M+1),U v,U<|.int n,l] (((z.ab b).G q).s m).o)->WS _ _ _ _ _ k:=by
  refineλk J r=>ah k λl=>?_
  haveI ao:∀(y:Z) m nn A,m.j nn=U _->y.e[y.h]?=U A->A≠35->0<y.J->k.n _ (y.s m).o->WS gY (C (d+4)) uk.snd.snd.snd.snd.snd.snd.snd.snd.snd.snd [U g4,U<|.mut<|.j z.x.f,U<|hy z.e z.h,U<|hy z.e (z.h+n),U<|.int (z.M+1),U _,U<|.int n,l] (y.s m).o k:=λy m nn A o b e f q=>by left;rw[AI o];refine ik Y _ _ _ b ?_;left;rw[ly e];left;rw[jp,show decide ((y.s m).J=0)=g from decide_eq_false<|iP f];exact q
  clear h;induction T with|et a=>refine Hc Y p s a (.inl O) λm nn l1 l2 o=>?_;left;rw[He o];exact J _ _ n m _ l1 O O|dZ a b c=>refine Hc Y p s a (.inr O) λm nn l1 l2 o=>?_;left;rw[He o];exact J _ _ n m _ l1 O O|cM a b=>refine AG Y p s a b (.inl O) λm nn l1 l2 o=>?_;left;rw[AI o];exact ik Y _ _ _ b<|J _ _ _ m _ l1 O O|sign a b c f=>exact AG Y p s a b (.inr<|.inr c) λm nn l1 l2 o=>ao _ m nn _ o b (wx (P:=λc=>c≠35) c (by decide) (by decide) (by decide) (by decide)) f<|r _ l (n+1) m _ l1 O O<|.inr (.inl ⟨_,b,c,f⟩)|eu a b c aM f=>exact AG Y p s a b (.inr<|.inl O) λm nn l1 l2 o=>ao _ m nn _ o b (by decide) f<|r _ l (n+1) m _ l1 O O<|.inr (.inr ⟨_,b,c,aM⟩)|doc a b c aM f=>exact SQ Y p s a b c aM f λm l1=>J _ _ _ m _ l1 O O|ev a b c aM f=>rename_i j A;refine kf λaN=>g6 (Hf b c<|wx (P:=λc=>c≠45/\c≠46) aM (by decide) (by decide) (by decide) (by decide)) λaX E G=>aN<|AH Y p s a b c (wx (P:=λc=>c<127/\c≠32/\c≠10/\c≠13) aM (by decide) (by decide) (by decide) (by decide)) E G λm nn l1 l2 o=>?_;rw[Hh (z.ab H) n j];rw[Hg]at c;exact ao _ m nn A o c (wx (P:=λc=>c≠35) aM (by decide) (by decide) (by decide) (by decide)) f<|r _ l _ m _ l1 O O<|.inr (.inl ⟨A,c,aM,f⟩)|ew a b c aM f aS=>rename_i j e0;refine g6 (Hf b c (by decide)) λaX E G=>AH Y p s a b c (by decide) E G λm nn l1 l2 o=>?_;rw[Hh (z.ab H) n j];rw[Hg]at c aM;exact ao _ m nn _ o c (by decide) aS<|r _ l _ m _ l1 O O<|.inr (.inr ⟨e0,c,aM,f⟩)|ex a b f=>
   refine AH Y p s a (λi hi=>absurd hi<|rK i) b (by decide) b (by decide) λm nn l1 l2 o=>?_;haveI go:=r (.mut<|.j nn) l _ m H l1 O O<|.inl b;left;rw[AI o];refine ik Y _ _ _ b ?_;left;rw[jp];by_cases aQ:z.J=0
   .rw[show decide ((((p.ab _).G _).s m).J=0)=H from decide_eq_true aQ];left;haveI hi:z.M= -1:=by rcases f with f|f<;>lia
    rw[show decide _=g from decide_eq_false (by lia)];exact go
   .rw[show decide ((((p.ab _).G _).s m).J=0)=g from decide_eq_false aQ];exact go
 refine .turn (λρ st=>∃v l q m b,D.le m/\b=nl/\q=n+t/\AJ (z.G q) (z.h+q)/\ρ=[U g4,U<|.mut<|.j z.x.f,U<|hy z.e z.h,U<|hy z.e (z.h+n),U<|.int (z.M+1),U v,U<|.int n,l]/\st=(((z.ab b).G q).s m).o) (λρ st ⟨v,l,q,m,b,m1,m2,m3,m4,m5,m6⟩=>?_)<|I _ (λv l q=>M q _ _ _) λv l q m b m1 m2 m3 m4=>⟨v,l,q,m,b,m1,m2,m3,m4,rfl,rfl⟩;.subst m5 m6;exact .turn (λB B=>False) (λB B x=>x.elim)<|SR Y _ _ _ _ _ _ _ _ m4 λch=>M q _ _ _ m b m1 m2 m3
noncomputable def Z.eQ(z:Z)(n t:Nat)(a:Bool):Z:=((z.aQ.ab a).G (n+t)).bE (.a0 ((z.e.drop z.h).take n) H .none z.h (z.h+n))
theorem SU(z)(I:h5 z)(A:∀k,iA z.J z.A=U k->k.bi=g)(D:0<n)(B:n<=1000)(w:Wd z.e z.h n)(T:lS z (z.h+n) t p)(h:∀m,z.x.le m->Q .none ((z.eQ n t p).s m).o):C (d+6) 1044 [g4] z.o Q X:=by
 refine l4 (rb z) λl j r s E G x=>?_;haveI q:lS (z.aQ.ab g) ((z.aQ.ab _).h+n) t p:=by rw[l];haveI e:=j;haveI i:=r;induction T with|et a=>exact .et (by rw[e];exact a)|dZ a b c=>exact .dZ (by rw[e];exact a) (by rw[e];exact b) c|cM a b=>exact .cM (by rw[e];exact a) (by rw[e];exact b)|sign a b c f=>exact .sign (by rw[e];exact a) (by rw[e];exact b) c (by rw[i];exact f)|eu a b c aM f=>exact .eu (by rw[e];exact a) (by rw[e];exact b) (by rw[e];exact c) aM (by rw[i];exact f)|doc a b c aM f=>exact .doc (by rw[e];exact a) (by rw[e];exact b) c (by rw[e];exact aM) f|ev a b c aM f=>exact .ev (by rw[e];exact a) (by rw[e];exact b) (by rw[e];exact c) aM (by rw[i];exact f)|ew a b c aM f y=>exact .ew (by rw[e];exact a) (by rw[e];exact b) (by rw[e];exact c) (by rw[e];exact aM) f (by rw[i];exact y)|ex a b f=>exact .ex (by rw[e];exact a) (by rw[e];exact b) (by rw[x,i];exact f)
 refine Y.c O O<|si Y z I.bt I.ep A<|SS Y (c1:=0) _ (by rw[j];exact I.cd) D B (by rw[l,j];exact w) q λm o=>p5 O ?_ ?_;.rw[h8,s];exact I.dp
 .haveI h':=h m (by rw[<-(Hb z)];exact o);haveI h':Q _ ((((((z.aQ.ab g).ab p).G _).s m).bE _).o):=h';rw[mU]at h';rw[<-l,<-j]at h';exact h'
end
end
section
open PySem
noncomputable def Quiet(c:Nat):Prop:=c<127/\c≠10/\c≠13/\c≠0
class inductive iv (B:List Nat):Nat->Nat->Bool->Prop
 |here {p k c:Nat}:(∀i,i<k->B[p+i]?=U 32)->B[p+k]?=U c->c<127/\c≠32/\c≠35/\c≠10/\c≠13->iv B p (p+k) g
 |line {p k a:Nat} {b:Bool}:(∀i,i<k->B[p+i]?=U 32)->B[p+k]?=U 10->iv B (p+k+1) a b->iv B p a H
 |cM {p k j a:Nat} {b:Bool}:(∀i,i<k->B[p+i]?=U 32)->B[p+k]?=U 35->(∀i,i<j->∃c,B[p+k+1+i]?=U c/\Quiet c)->B[p+k+1+j]?=U 10->iv B (p+k+1+j+1) a b->iv B p a H
noncomputable def Z.bl(z:Z)(a:Nat)(b:Bool):Z:={z with h:=a,ask:=(b&&decide (z.J=0))||z.ask}
theorem iv.lt(s:iv B p c b):c<B.length:=by induction s with|here _ h _=>exact(jq.mp h).1|line _ _ _ a=>exact a|cM _ _ _ _ _ a=>exact a
theorem iv.le(s:iv B p c b):p<=c:=by induction s with|here _ h _=>exact iy _ _|line _ _ _ a=>exact lL<|lL a|cM _ _ _ _ _ a=>exact lL<|lL<|lL (lL a)
theorem Hi(z:Z)(q a)(b):(z.bl q H).bl a b=z.bl a true:=by unfold Z.bl;dsimp only;induction b<;>induction decide (z.J=0)<;>cases z.ask<;>rfl
section
variable{C:Nat->PC}(Y:Sys C){Q:AV->St->Prop}{X:hv->St->Prop}{d:Nat}
include Y
noncomputable def SV:DS:=GC.snd.snd.bC
theorem AK{ρ}(a:ρ[(0)]?=U (U g4)){c}(hc:c≠32):∀j (z:Z),(∀(i:Nat) c,z.e[i]?=U c->kO c)->(∀i,i<j->z.e[z.h+i]?=U 32)->z.e[z.h+j]?=U c->k.n ρ (z.G j).o->jb (WE gY (C (d+2))<|.Q .eq (.bV 690 (.j 0)<|.cons (.aV (.int 0)) .nil)<|.aV (.str [32])) (WS gY (C (d+2))<|.as<|.bV 706 (.j 0) (.cons (.aV (.int 1)) .nil)) k ρ z.o:=by
 intro j;induction j with|zero=>refineλz f e b h=>.turn (λl l=>False) (λl l x=>x.elim) ?_;left;rw[a];refine ik Y z _ _ b ?_;left;rw[ly hc];exact h|succ j m=>
  refineλz f e b h=>.turn (λak st=>ak=ρ/\st=(z.G 1).o) (λak st ⟨o,p⟩=>?_) ?_
  .subst o p;refine m _ f (λi q=>?_) ?_ ?_;.haveI:=e (i+1) (by apply ym<;>right);show z.e[z.h+1+i]?=_;rw[show z.h+1+i=z.h+(i+1)by apply iZ<;>right];exact this
   .show z.e[z.h+1+j]?=_;rw[show z.h+1+j=z.h+(j+1)by apply iZ<;>right];exact b
   .rw[(by unfold Z.G;dsimp only;rw[show z.h+1+j=z.h+(j+1)by apply iZ<;>right]:(z.G 1).G j=z.G _)];exact h
  .left;rw[a];refine ik Y z _ _ (e 0 (by apply kT<;>right)) ?_;left;rw[a];exact jZ Y z (n:=1) ((ja<|f2 (iu (iU (kT _ _) _) _)<|jP ((jq.mp b).1))) f ⟨rfl,rfl⟩
theorem SW{ρ}(a:ρ[(0)]?=U (U g4)):∀j (z:Z),(∀(i:Nat) c,z.e[i]?=U c->kO c)->(∀i,i<j->∃c,z.e[z.h+i]?=U c/\Quiet c)->z.e[z.h+j]?=U 10->k.n ρ (z.G j).o->jb (WE gY (C (d+2))<|.Q .ct (.bV 690 (.j 0)<|.cons (.aV (.int 0)) .nil)<|.aV (.str [0,13,10,133,8232,8233])) (WS gY (C (d+2))<|.as<|.bV 706 (.j 0) (.cons (.aV (.int 1)) .nil)) k ρ z.o:=by
 intro j;induction j with|zero=>refineλz f e b h=>.turn (λl l=>False) (λl l x=>x.elim) ?_;left;rw[a];exact ik Y z _ _ b h|succ j p=>
  refineλz f e b h=>lJ (e 0 (by apply kT<;>right)) λc o c1 c2 c3 m=>.turn (λak st=>ak=ρ/\st=(z.G 1).o) (λak st ⟨q,r⟩=>?_) ?_
  .subst q r;refine p _ f (λi s=>?_) ?_ ?_;.haveI:=e (i+1) (by apply ym<;>right);show ∃c,z.e[z.h+1+i]?=U c/\_;rw[show z.h+1+i=z.h+(i+1)by apply iZ<;>right];exact this
   .show z.e[z.h+1+j]?=_;rw[show z.h+1+j=z.h+(j+1)by apply iZ<;>right];exact b
   .rw[(by unfold Z.G;dsimp only;rw[show z.h+1+j=z.h+(j+1)by apply iZ<;>right]:(z.G 1).G j=z.G _)];exact h
  .left;rw[a];refine ik Y z _ _ o ?_;left;rw[mc m<|mc c3<|mc c2<|mu c1];left;rw[a];exact jZ Y z (n:=1) ((ja<|f2 (iu (iU (kT _ _) _) _)<|jP ((jq.mp b).1))) f ⟨rfl,rfl⟩
set_option tactic.hygienic true in
theorem SX{k:KS}{B:List _}{p E}{b}(J:iv B p E b):∀(z:Z),z.e=B->z.h=p->(∀(i:Nat) c,z.e[i]?=U c->kO c)->k.n [U g4,U<|.bool H] (z.bl E b).o->jb (WE gY (C (d+3))<|.not<|.j 1) (WS gY (C (d+3)) SV) k [U g4,U<|.bool g] z.o:=by
 induction J with
 |here q a m=>
  intro z o l e h;exists n;subst o l;rename_i j c;haveI w:=(jq.mp a).1;refine n<|.turn (λρ st=>ρ=[U g4,U<|.bool H]/\st=(z.G j).o) (λρ st ⟨r,s⟩=>?_) ?_;.subst r s;refine .turn (λy y=>False) (λy y x=>x.elim) ?_;exact h
  .left;refine AK Y (d:=d+1) O m.2.1 j z e q a<|ik Y (z.G j) (k:=0) _ _ a ?_;left;rw[ly m.2.2.1];refine SO Y (z.G j) a ⟨m.1,m.2.2.2⟩ ?_;exact⟨rfl,rfl⟩
 |line q a J t=>
  intro z o l e h;exists n;subst o l;rename_i j p2 G;haveI w:=J.lt;haveI D:=J.le;refine n<|.turn (λρ st=>ρ=[U g4,U<|.bool g]/\st=(z.bl (z.h+j+1) H).o) (λρ st ⟨r,s⟩=>?_) ?_;.subst r s;exact t (z.bl (z.h+j+1) _) O O e (by rw[Hi];exact h)
  .left;refine AK Y (d:=d+1) O (show 10≠32 by apply iw<;>right) j z e q a<|ik Y (z.G j) (k:=0) _ _ a<|ww Y (z.G j) e a (by show z.h+j+1<z.e.length;apply n3<;>right) ?_;left;rw[jp];exists n;by_cases f:z.J=0;.refine n ?_;rw[show decide (((z.G j).G 1).J=0)=H from decide_eq_true f];refine⟨rfl,?_⟩;unfold Z.bl;rw[decide_eq_true f];rfl
   .refine n ?_;rw[show decide (((z.G j).G 1).J=0)=g from decide_eq_false f];refine⟨rfl,?_⟩;unfold Z.bl;rw[decide_eq_false f];rfl
 |cM q a m A J t=>
  intro z o l e h;subst o l;rename_i k0 j p2 G;haveI w:=J.lt;haveI D:=J.le;refine .turn (λρ st=>ρ=[U g4,U<|.bool g]/\st=(z.bl (z.h+k0+1+j+1) H).o) (λρ st ⟨r,s⟩=>?_) ?_;.subst r s;exact t _ O O e (by rw[Hi];exact h)
  .refine AK Y O (show 35≠32 by apply iP<;>right) k0 z e q a<|ik Y _ _ _ a<|SW Y O (j+1) _ e (λi I=>?_) (by show z.e[z.h+k0+(j+1)]?=_;rw[show z.h+k0+(j+1)=z.h+k0+1+j by exact py (oe<|iU (lK<|hJ _) _)<|oN<|oc (hJ _)];exact A) ?_;.induction i with|zero=>exact h9 _ a (by unfold Quiet;decide)|succ i=>haveI:=m i (by apply yp<;>right);show ∃c,z.e[z.h+k0+(i+1)]?=U c/\_;rw[show z.h+k0+(i+1)=z.h+k0+1+i by exact py (oe<|iU (lK<|hJ _) _)<|oN<|oc (hJ _)];exact this
   rw[(by unfold Z.G;dsimp only;rw[show z.h+k0+(j+1)=z.h+(k0+1+j)by exact py (rT<|iU (oe<|iU (lK (hJ _)) _) _)<|oe<|iU (oN (oc (hJ _))) _]:(z.G k0).G _=z.G _)];refine ww Y _ e (by show z.e[z.h+(k0+1+j)]?=_;rw[show z.h+(k0+1+j)=z.h+k0+1+j by exact py (yD<|iu (oe<|hJ _) _)<|oN<|iu (oN (hJ _)) _];exact A) (by show z.h+(k0+1+j)+1<z.e.length;exact ja<|f2 (iu (f2 (iu (yD<|iu (oe (hJ _)) _) _) D) _)<|jP w) ?_;left;rw[jp];haveI l:z.h+(k0+1+j)+1=z.h+k0+1+j+1:=(py (iu (yD<|iu (oe<|hJ _) _) _)<|iu (oN<|iu (oN (hJ _)) _) _);by_cases f:z.J=0;.rw[show decide _=H from decide_eq_true f];refine⟨rfl,?_⟩;unfold Z.bl;rw[decide_eq_true f,<-l];rfl
   .rw[show decide _=g from decide_eq_false f];refine⟨rfl,?_⟩;unfold Z.bl;rw[decide_eq_false f,<-l];rfl
theorem Hj(z:Z)(j:∀(i:Nat) c,z.e[i]?=U c->kO c)(m:z.h<z.e.length)(n:iv z.e z.h l b)(h:Q .none (z.bl l b).o):C (d+4) 1100 [g4] z.o Q X:=by
 obtain⟨c,hc⟩:∃c,z.e[z.h]?=U c:=⟨_,mo m⟩;haveI a:=SX Y (d:=d) (k:=⟨λe st=>Q _ st,Q,λe e=>False,λe=>X⟩) n z O O j h;refine Y.c O O ?_;left;rw[jp];by_cases f:z.h=0;.rw[decide_eq_true f];refine ik Y z _ _ hc ?_;left;rw[ly (show c≠65279 by haveI:=(j _ _ hc).2;exact iw<|ja<|f2 (jP this) (by decide))];exact a
 .rw[decide_eq_false f];exact a
end
end
section
open PySem
section
variable{C:Nat->PC}(Y:Sys C){Q:AV->St->Prop}{X:hv->St->Prop}{d:Nat}
include Y
theorem Hk(z:Z)(r:f=1058/\c=45\/f=1065/\c=46)(n:g1 z.e z.h=0)(o:(z.e.drop z.h).take 3=[c,c,c])(p:z.e[z.h+3]?=U e)(q:iF e)(h:Q (.bool H) z.o):C (d+3) f [g4] z.o Q X:=by
 rcases r with⟨rfl,rfl⟩|⟨rfl,rfl⟩
 .refine Y.c O O ?_;left;rw[jp,decide_eq_true n];refine mB Y z ?_;rw[o];refine ik Y z (k:=3) _ _ p ?_;rcases q with j|l|m;clear zz3 j;rotate_left 1;clear zz3 l;rotate_right 1;rotate_left 2;clear zz3 m;all_goals exact h
 .refine Y.c O O ?_;left;rw[jp,decide_eq_true n];refine mB Y z ?_;rw[o];refine ik Y z (k:=3) _ _ p ?_;rcases q with a|b|i;clear zz3 a;rotate_left 1;clear zz3 b;rotate_right 1;rotate_left 2;clear zz3 i;all_goals exact h
theorem SY(z:Z)(a:z.e[z.h]?=U 45)(b:z.e[z.h+1]?=U x)(c:x≠45)(h:Q .none z.o):C (d+3) 1058 [g4] z.o Q X:=by
 refine Y.c O O ?_;left;rw[jp];by_cases hc:g1 z.e z.h=0;.rw[decide_eq_true hc];refine mB Y z ?_;rw[uj a 2,uj b 1];left;rw[show hm _ _=g from(ly c:hm _ _=g)];exact h
 .rw[decide_eq_false hc];exact h
theorem S0(z:Z)(f:z.e[z.h+1]?=U e)(i:iF e)(h:Q (.bool H) z.o):C (d+2) 1072 [g4] z.o Q X:=by refine Y.c O O<|ik Y z _ _ f ?_;rcases i with a|b|c;clear zz3 a;rotate_left 1;clear zz3 b;rotate_right 1;rotate_left 2;clear zz3 c;all_goals exact h
theorem S1(z:Z)(a:0<z.J)(h:Q (.bool H) z.o):C (d+1) 1079 [g4] z.o Q X:=by refine Y.c O O ?_;left;rw[jp,decide_eq_false (by apply iP<;>right)];exact h
theorem S2(z:Z)(j:z.e[z.h+1]?=U e)(f:0<z.J\/iF e)(h:Q (.bool H) z.o):C (d+2) 1086 [g4] z.o Q X:=by
 refine Y.c O O ?_;left;rw[jp];by_cases i:z.J=0
 .rw[decide_eq_true i];refine ik Y z _ _ j ?_;rcases f with f|f
  .exact absurd i (iP f)
  .rcases f with a|b|c;clear zz3 a;rotate_left 1;clear zz3 b;rotate_right 1;rotate_left 2;clear zz3 c;all_goals exact h
 .rw[decide_eq_false i];exact h
theorem S3(z:Z)(a:z.e[z.h]?=U c)(hc:97<=c/\c<=122)(h:Q (.bool H) z.o):C (d+2) 1093 [g4] z.o Q X:=by refine Y.c O O<|ik Y z _ _ a ?_;left;rw[sj hc O];exact h
theorem Hl(z:Z)(b:z.e[z.h]?=U c)(hc:c=9\/c=64)(f:z.e[z.h+1]?=U e)(h:Q (.bool g) z.o):C (d+2) 1093 [g4] z.o Q X:=by
 refine Y.c O O<|ik Y z _ _ b ?_;clear b;rcases hc with rfl|rfl
 .refine ik Y z _ _ f ?_;left;induction i:kK e _ with|true=>exact h|false=>
   left;rw[jp];by_cases a:z.J=0;.rw[decide_eq_true a];exact h
   .rw[decide_eq_false a];exact h
 .refine ik Y z _ _ f ?_;left;induction i:kK e _ with|true=>exact h|false=>
   left;rw[jp];by_cases a:z.J=0;.rw[decide_eq_true a];exact h
   .rw[decide_eq_false a];exact h
noncomputable def k6:DS:=Gu.snd.snd.snd.snd
noncomputable def Z.a8(z:Z)(a:Nat)(b:Bool):Z:=((z.bl a b).a3).a5 (g1 z.e a)
omit Y in
theorem S4(z:Z)(c)(m):(z.s m).a5 c=(z.a5 c).s m:=by unfold Z.a5;split<;>rfl
theorem sk(z)(k:h5 z)(l:iv z.e z.h a b)(hc:z.e[a]?=U c)(j:∀q∈z.A,fresh z.e a q=g->q.2.bi=g)(h:∀m,z.x.le m->WS gY (C (d+5)) k6 [U g4,U<|.str [c]] ((z.a8 a b).s m).o ⟨λe st=>Q .none st,Q,λe e=>False,λe=>X⟩):C (d+6) 820 [g4] z.o Q X:=by refine Y.c O O<|Hj Y z k.cd k.cy l<|GX Y _ k.bt (by show a<=1000;haveI:=k.cc;exact f2 (iy _ _)<|f2 (jP ((jq.mp hc).1)) this) j λm i=>ws Y _ (by apply j9<;>right) k.M (f2 (qA<|iy _ _)<|f2 k.dn (by decide)) ?_;rw[S4];haveI f:=p7 ((z.bl a b).a3)<|g1 z.e a;refine ik Y _ (c:=c) _ _ ?_<|h m i;.rw[f.2.2.1,f.2.2.2.1];exact hc
theorem Hm(z:Z)(h:C (d+5) 876 [g4] z.o Q X):WS gY (C (d+5)) k6 [U g4,U<|.str [0]] z.o ⟨λa st=>Q .none st,Q,λa a=>False,λa=>X⟩:=h
theorem S5(z:Z)(h:C (d+5) 911 [g4] z.o Q X):WS gY (C (d+5)) k6 [U g4,U<|.str [91]] z.o ⟨λa st=>Q .none st,Q,λa a=>False,λa=>X⟩:=h
theorem S6(z:Z)(h:C (d+5) 918 [g4] z.o Q X):WS gY (C (d+5)) k6 [U g4,U<|.str [123]] z.o ⟨λa st=>Q .none st,Q,λa a=>False,λa=>X⟩:=h
theorem S7(z:Z)(h:C (d+5) 932 [g4] z.o Q X):WS gY (C (d+5)) k6 [U g4,U<|.str [93]] z.o ⟨λa st=>Q .none st,Q,λa a=>False,λa=>X⟩:=h
theorem S8(z:Z)(h:C (d+5) 939 [g4] z.o Q X):WS gY (C (d+5)) k6 [U g4,U<|.str [125]] z.o ⟨λa st=>Q .none st,Q,λa a=>False,λa=>X⟩:=h
theorem S9(z:Z)(h:C (d+5) 953 [g4] z.o Q X):WS gY (C (d+5)) k6 [U g4,U<|.str [44]] z.o ⟨λa st=>Q .none st,Q,λa a=>False,λa=>X⟩:=h
theorem S_(z:Z)(h:C (d+5) 981 [g4] z.o Q X):WS gY (C (d+5)) k6 [U g4,U<|.str [42]] z.o ⟨λa st=>Q .none st,Q,λa a=>False,λa=>X⟩:=h
theorem S'(z:Z)(h:C (d+5) 988 [g4] z.o Q X):WS gY (C (d+5)) k6 [U g4,U<|.str [38]] z.o ⟨λa st=>Q .none st,Q,λa a=>False,λa=>X⟩:=h
theorem Ta(z:Z)(h:C (d+5) 995 [g4] z.o Q X):WS gY (C (d+5)) k6 [U g4,U<|.str [33]] z.o ⟨λa st=>Q .none st,Q,λa a=>False,λa=>X⟩:=h
theorem Tc(z:Z)(h:C (d+5) 1023 [g4] z.o Q X):WS gY (C (d+5)) k6 [U g4,U<|.str [39]] z.o ⟨λa st=>Q .none st,Q,λa a=>False,λa=>X⟩:=h
theorem Hn(z:Z)(f:z.e[z.h]?=U 45)(b:z.e[z.h+1]?=U e)(c:iF e)(h:C (d+5) 960 [g4] z.o Q X):WS gY (C (d+5)) k6 [U g4,U<|.str [45]] z.o ⟨λa st=>Q .none st,Q,λa a=>False,λa=>X⟩:=SY Y z f b (by rcases c with rfl|rfl|rfl<;>decide)<|S0 Y z b c h
theorem Td(z:Z)(b:g1 z.e z.h=0)(c:(z.e.drop z.h).take 3=[45,45,45])(f:z.e[z.h+3]?=U e)(i:iF e)(h:C (d+5) 890 [g4] z.o Q X):WS gY (C (d+5)) k6 [U g4,U<|.str [45]] z.o ⟨λa st=>Q .none st,Q,λa a=>False,λa=>X⟩:=Hk Y z (.inl ⟨rfl,rfl⟩) b c f i h
theorem Te(z:Z)(b:g1 z.e z.h=0)(c:(z.e.drop z.h).take 3=[46,46,46])(f:z.e[z.h+3]?=U e)(i:iF e)(h:C (d+5) 897 [g4] z.o Q X):WS gY (C (d+5)) k6 [U g4,U<|.str [46]] z.o ⟨λa st=>Q .none st,Q,λa a=>False,λa=>X⟩:=Hk Y z (.inr ⟨rfl,rfl⟩) b c f i h
theorem Tf(z:Z)(b:0<z.J)(h:C (d+5) 967 [g4] z.o Q X):WS gY (C (d+5)) k6 [U g4,U<|.str [63]] z.o ⟨λa st=>Q .none st,Q,λa a=>False,λa=>X⟩:=S1 Y z b h
theorem AL(z:Z)(b:z.e[z.h+1]?=U e)(c:0<z.J\/iF e)(h:C (d+5) 974 [g4] z.o Q X):WS gY (C (d+5)) k6 [U g4,U<|.str [58]] z.o ⟨λa st=>Q .none st,Q,λa a=>False,λa=>X⟩:=S2 Y z b c h
theorem Ti(z:Z){c}(i:z.e[z.h]?=U c)(hc:97<=c/\c<=122)(h:C (d+5) 1044 [g4] z.o Q X):WS gY (C (d+5)) k6 [U g4,U<|.str [c]] z.o ⟨λf st=>Q .none st,Q,λf f=>False,λf=>X⟩:=by haveI n:∀e,e<97->hm [c] [e]=false:=λe a=>ly ((iP<|ja<|lK (lK (f2 (jP a) hc.1))));haveI b:∀e,122<e->hm [c] [e]=false:=λe a=>ly ((iw<|ja<|f2 (iu hc.2 _) (jP a)));left;rw[n 0 (by decide)];left;rw[n _ (by decide)];left;rw[n _ (by decide)];left;rw[n _ (by decide)];left;rw[n _ (by decide)];left;rw[b _ (by decide)];left;rw[n _ (by decide)];left;rw[b _ (by decide)];left;rw[n _ (by decide)];left;rw[n _ (by decide)];left;rw[n _ (by decide)];left;rw[n _ (by decide)];left;rw[n _ (by decide)];left;rw[n _ (by decide)];left;rw[n _ (by decide)];left;rw[b _ (by decide)];left;rw[n _ (by decide)];left;rw[n _ (by decide)];left;rw[n _ (by decide)];exact S3 Y z i hc h
noncomputable def Ho:AV:=.str [119,104,105,108,101,32,115,99,97,110,110,105,110,103,32,102,111,114,32,116,104,101,32,110,101,120,116,32,116,111,107,101,110]
theorem Tj(z:Z)(f:z.e[z.h]?=U c)(hc:c=9\/c=64)(i:z.e[z.h+1]?=U e)(h:∀r,r.length<=1000000->X (ot Ho .none (.str r)<|hy z.e z.h) z.o):WS gY (C (d+5)) k6 [U g4,U<|.str [c]] z.o ⟨λb st=>Q .none st,Q,λb b=>False,λb=>X⟩:=by
 rcases hc with rfl|rfl
 .exact Hl Y z f (.inl O) i λr a=>i3 Y z _ _<|h r a
 .exact Hl Y z f (.inr O) i λr a=>i3 Y z _ _<|h r a
end
end
section
open PySem
noncomputable def Z.L(z w:Z):Z:={z with E:=w.E,bP:=w.bP,bZ:=w.bZ,aN:=w.aN,aY:=w.aY,x:=w.x}
theorem AM(z w:Z)(c):(z.L w).a5 c=(z.a5 c).L w:=by show(if z.J=0 then _ else _)=(if z.J=0 then _ else _:Z).L w;split<;>rfl
theorem Hp(z w:Z)(c):(z.L w).bK c=(z.bK c).L w:=by show(if z.M<c then _ else _)=(if z.M<c then _ else _:Z).L w;split<;>rfl
theorem ul(z w:Z):(z.L w).aQ=z.aQ.L w:=by show(if z.ask=H then _ else _)=(if z.ask=H then _ else _:Z).L w;split<;>rfl
theorem so(z w:Z)(a)(b):(z.L w).a8 a b=(z.a8 a b).L w:=AM ((z.bl a b).a3) w _
theorem Hr(z w:Z)(K):(z.L w).dX K=(z.dX K).L w:=by show(((z.L w).aQ.bt _ _).G 1).bE _=_;rw[ul];rfl
theorem Tl(z w:Z):(z.L w).bF=z.bF.L w:=by show(if z.J=0/\z.M<g1 z.e z.h then((z.L w).bK _).bE _ else z.L w)=(if z.J=0/\z.M<g1 _ _ then _ else _:Z).L w;rw[Hp];split<;>rfl
theorem Tn(z w:Z):(z.L w).er=z.er.L w:=by show((((z.L w).bF).ab _).a7.G 1).bE _=_;rw[Tl];rfl
theorem To(z w:Z)(k):(z.L w).dY k=(z.dY k).L w:=by
 haveI:(z.L w).cf k=(z.cf k).L w:=by show(if z.J=0/\z.M<g1 z.e _ then _ else(z.L w).ce k)=(if z.J=0/\z.M<g1 _ _ then _ else z.ce k).L w;haveI e:(z.L w).ce k=(z.ce k).L w:=rfl;haveI a:((z.ce k).L w).bK (g1 (z.L w).e k.pos)=((z.ce k).bK<|g1 z.e k.pos).L w:=Hp _ _ _;rw[a];split<;>rfl
 unfold Z.dY;rw[this];rfl
theorem Hs(z w:Z)(K n):(z.L w).es K n=(z.es K n).L w:=by unfold Z.es;rw[ul];rfl
theorem Tq(z w:Z)(n):(z.L w).eO n=(z.eO n).L w:=by unfold Z.eO;rw[ul];rfl
theorem Tr(z w:Z)(n):(z.L w).eP n=(z.eP n).L w:=by unfold Z.eP;rw[ul];rfl
theorem Ts(z w:Z)(n t)(a):(z.L w).eQ n t a=(z.eQ n t a).L w:=by unfold Z.eQ;rw[ul];rfl
theorem Ht(z w:Z)(K):(z.L w).dK K=(z.dK K).L w:=by unfold Z.dK;rw[AM];rfl
theorem Tt(z w:Z):(z.L w).eM=z.eM.L w:=by unfold Z.eM;rw[AM];rfl
theorem h5.L(a:h5 z)(w):h5<|z.L w:=⟨a.bt,a.M,a.dn,a.cc,a.cd,a.cy⟩
theorem lS.L{d}(T:lS z p t d):lS (z.L w) p t d:=by induction T with|et a=>exact .et a|dZ a b c=>exact .dZ a b c|cM a b=>exact .cM a b|sign a b c f=>exact .sign a b c f|eu a b c aM f=>exact .eu a b c aM f|doc a b c aM f=>exact .doc a b c aM f|ev a b c aM f=>exact .ev a b c aM f|ew a b c aM f e=>exact .ew a b c aM f e|ex a b f=>exact .ex a b f
noncomputable def NR(z:Z):Prop:=∀k,iA z.J z.A=U k->k.bi=g
inductive Act (z:Z):Nat->Z->Prop|f4:NR z->z.h+1<z.e.length->Act z 91 (z.dX 239)|mp:NR z->z.h+1<z.e.length->Act z 123 (z.dX 251)|f5:0<z.J->NR z->z.h+1<z.e.length->Act z 93 (z.eN 263)|f6:0<z.J->NR z->z.h+1<z.e.length->Act z 125 (z.eN 275)|f7:NR z->z.h+1<z.e.length->Act z 44 z.fZ|ask:0<z.J->NR z->z.h+1<z.e.length->Act z 63 z.f0|fi {e:Nat}:(z.J=0->z.ask=H)->NR z->z.e[z.h]?=U 45->z.e[z.h+1]?=U e->iF e->Act z 45 z.er|col {k:SK} {e:Nat}:iA z.J z.A=U k->z.bb<=k.num/\k.num - z.bb<=z.I.length->z.e[z.h+1]?=U e->(0<z.J\/iF e)->Act z 58 (z.dY k)|f8 {e:Nat}:iA z.J z.A=V->0<z.J->z.e[z.h+1]?=U e->Act z 58 z.f3|dz {n e:Nat}:NR z->z.e[z.h]?=U 42->0<n->Wd z.e (z.h+1) n->iF e->z.e[z.h+1+n]?=U e->Act z 42 (z.es 342 n)|eX {n e:Nat}:NR z->z.e[z.h]?=U 38->0<n->Wd z.e (z.h+1) n->iF e->z.e[z.h+1+n]?=U e->Act z 38 (z.es 361 n)|eY {n e:Nat}:NR z->0<n->n<=1000->Wd z.e (z.h+1) n->iF e->z.e[z.h+(n+1)]?=U e->Act z 33 (z.eO n)|fj {n e:Nat}:NR z->0<n->n<=1000->z.e[z.h]?=U 39->Wd z.e (z.h+1) n->z.e[z.h+(n+1)]?=U 39->z.e[z.h+(n+2)]?=U e->e≠39->Act z 39 (z.eP n)|fk {n t c:Nat} {a:Bool}:NR z->0<n->n<=1000->z.e[z.h]?=U c->97<=c/\c<=122->Wd z.e z.h n->lS z (z.h+n) t a->Act z c (z.eQ n t a)|doc {e:Nat}:NR z->g1 z.e z.h=0->(z.e.drop z.h).take 3=[45,45,45]->z.e[z.h+3]?=U e->iF e->Act z 45 (z.dK 147)|f9 {e:Nat}:NR z->g1 z.e z.h=0->(z.e.drop z.h).take 3=[46,46,46]->z.e[z.h+3]?=U e->iF e->Act z 46 (z.dK 159)
noncomputable def mV(z:Z)(a:Nat):Prop:=∀q∈z.A,fresh z.e a q=g->q.2.bi=g
inductive o4 (z:Z):Z->Prop|mk {a c:Nat} {b:Bool} {d:Z}:iv z.e z.h a b->z.e[a]?=U c->mV z a->Act (z.a8 a b) c d->o4 z d
set_option genCtorIdx true in
inductive ou where
 |ok (z:Z)
 |done (z:Z)
 |be (a b:AV)
noncomputable def lT(z:Z)(o:ou):Prop:=∀{C:Nat->PC} (_:Sys C) {d:Nat} {Q:AV->St->Prop} {X:hv->St->Prop} (w:Z),(match o with| .ok a=>∀m,w.x.le m->Q .none ((a.L w).s m).o| .done a=>∀m pk,w.x.le m->Q .none (((a.L w).s m).aX H pk)| .be b e=>∀(a:Z) (c f:AV),w.x.le a.x->X ⟨744,[c,b,f,e,.none]⟩ a.o)->C (d+12) 820 [g4] (z.L w).o Q X
theorem wy(z:Z)(a)(b):(z.a8 a b).e=z.e/\(z.a8 a b).h=a/\(z.a8 a b).J=z.J/\(z.a8 a b).A=z.A.filter (fresh z.e a)/\(z.a8 a b).bb=z.bb:=l4 (p7 ((z.bl a b).a3)<|g1 z.e a) λc d e f h i=>nH e f d c
theorem h5.a8(k:h5 z)(l:iv z.e z.h a b):h5<|z.a8 a b:=by
 refine l4 (p7 ((z.bl a b).a3)<|g1 z.e a) λd f c e h i j=>⟨?_,?_,?_,?_,?_,?_⟩;.rw[d];exact(Cj.map _).nodup k.bt
 .show mC (((z.bl a b).a3).a5 _).M (((z.bl a b).a3).a5 _).a4;unfold Z.a5;split;.exact G2 _ _ _ _ _ k.M
  .exact k.M
 .show(((z.bl a b).a3).a5 _).I.length+(((z.bl a b).a3).a5 _).a4.length+(((z.bl a b).a3).a5 _).A.length+8*((((z.bl a b).a3).a5 _).e.length - (((z.bl a b).a3).a5 _).h)<=9000;rw[(wt ((z.bl a b).a3)<|g1 z.e a),d,c,e];exact f2 (j4 (iU (JS _ _) _)<|s7 8<|Nat.sub_le_sub_left l.le _) k.dn
 .rw[c];exact k.cc
 .rw[c];exact k.cd
 .show(((z.bl a b).a3).a5 _).h<(((z.bl a b).a3).a5 _).e.length;rw[c,e];exact l.lt
theorem sr(z w:Z)(m):(z.L w).s m=z.L (w.s m):=rfl
set_option tactic.hygienic true in
theorem Tv(s:h5 z)(F:o4 z n):lT z<|.ok n:=by intro C Y d Q X w h;obtain⟨t,hc,p,A⟩:=F;rename_i r c b;refine sk Y _ (s.L w) t hc p λm o=>?_;rw[so,sr];have f:=(s.a8 t).L<|w.s m;haveI h':∀m',m.le m'->Q _ ((n.L<|w.s m).s m').o:=λm' l=>h m'<|o.trans l;haveI i:=h' m<|gW.le.refl m;generalize q:z.a8 r b=y at A f;clear h q;clear hc;induction A with|f4 a1 a=>exact S5 Y _<|Sj Y _ f a1 a (by rw[Hr];exact i)|mp a1 a=>exact S6 Y _<|Sm Y _ f a1 a (by rw[Hr];exact i)|f5 j a1 a=>exact S7 Y _<|Sn Y _ f j a1 a i|f6 j a1 a=>exact S8 Y _<|So Y _ f j a1 a i|f7 a1 a=>exact S9 Y _<|Sp Y _ f a1 a i|ask j a1 a=>exact Tf Y _ j<|Su Y _ f j a1 a i|fi j a1 a a3 e=>exact Hn Y _ a a3 e<|Sr Y _ f j a1 (jq.mp a3).1 (by rw[Tn];exact i)|col a1 a a3 e=>exact AL Y _ a3 e<|Sw Y _ f a1 a (jq.mp a3).1 (by rw[To];exact i)|f8 a1 a a3=>exact AL Y _ a3 (.inl a)<|Sx Y _ f a1 a (jq.mp a3).1 i|dz a1 a a3 e a5 a6=>exact S_ Y _<|G' Y _ (.inl ⟨rfl,rfl⟩) f a1 a (.inl O) a3 e a5 a6 (by rw[Hs];exact i)|eX a1 a a3 e a5 a6=>exact S' Y _<|G' Y _ (.inr ⟨rfl,rfl⟩) f a1 a (.inr O) a3 e a5 a6 (by rw[Hs];exact i)|eY a1 a a3 e a5 a6=>exact Ta Y _<|SH Y _ f a1 a a3 e a5 a6 λm' l=>by rw[Tq];exact h' m' l|fj a1 a a3 e a5 a6 k a8=>exact Tc Y _<|SN Y _ f a1 a a3 e a5 a6 k a8 λm' l=>by rw[Tr];exact h' m' l|fk a1 a a3 e a5 a6 k=>exact Ti Y _ e a5<|SU Y _ f a1 a a3 a6 k.L λm' l=>by rw[Ts];exact h' m' l|doc a1 a a3 e a5=>exact Td Y _ a a3 e a5<|Sh Y _ f a1 (jq.mp e).1 (by rw[Ht];exact i)|f9 a1 a a3 e a5=>exact Te Y _ a a3 e a5<|Si Y _ f a1 (jq.mp e).1 (by rw[Ht];exact i)
end
section
open PySem
class inductive kP:Z->ou->Prop
 |now {z:Z} {t:Tk} {l:List Tk}:h5 z->z.I=t::l->mV z z.h->k4 V z.a3.A≠U z.bb->kP z (.ok z.a3)
 |fl {z a:Z} {o:ou}:z.I=[]->lT z (.ok a)->kP a o->kP z o
 |fm {z a:Z} {t:Tk} {l:List Tk} {o:ou}:h5 z->z.I=t::l->mV z z.h->k4 V z.a3.A=U z.bb->lT z.a3 (.ok a)->kP a o->kP z o
 |fo {z a:Z}:z.I=[]->lT z (.done a)->kP z (.done a)
 |fp {z a:Z} {t:Tk} {l:List Tk}:h5 z->z.I=t::l->mV z z.h->k4 V z.a3.A=U z.bb->lT z.a3 (.done a)->kP z (.done a)
 |fq {z:Z} {b c:AV}:z.I=[]->lT z (.be b c)->kP z (.be b c)
 |fs {z:Z} {t:Tk} {l:List Tk} {b c:AV}:h5 z->z.I=t::l->mV z z.h->k4 V z.a3.A=U z.bb->lT z.a3 (.be b c)->kP z (.be b c)
noncomputable def ou.post(o:ou)(w:Z)(N:St->Prop)(E:hv->St->Prop):Prop:=match o with| .ok a=>∀m,w.x.le m->N ((a.L w).s m).o| .done a=>∀m pk,w.x.le m->N (((a.L w).s m).aX H pk)| .be b e=>∀(a:Z) (c f:AV),w.x.le a.x->E ⟨744,[c,b,f,e,.none]⟩ a.o
theorem ou.f_{o:ou}{w}(h:o.post w N E)(l:w.x.le m):o.post (w.s m) N E:=by induction o with|ok b=>exactλm' a=>h m'<|l.trans a|done b=>exactλm' pk a=>h m' pk<|l.trans a|be f i=>exactλb c e a=>h b c e<|l.trans a
theorem Tw(a)(n:Nat)(st):nI gY st .eq (wq a) (.int n)=U (decide (a=U n)):=by
 induction a with|none=>exact congrArg _ (decide_eq_false (by intro q;cases q)).symm|some k=>
  show U _=_;rw[p3];by_cases h:k=n;.simp
  .rw[decide_eq_false h,decide_eq_false λq=>h<|ia q]
section
variable{C:Nat->PC}(Y:Sys C){Q:AV->St->Prop}{X:hv->St->Prop}{d:Nat}
include Y
theorem AN(z:Z)(a)(h:Q (.bool g)<|z.aX H a):C (d+1) 813 [g4] (z.aX H a) Q X:=Y.c O O h
theorem AO(z:Z)(a:z.I=[])(h:Q (.bool H) z.o):C (d+1) 813 [g4] z.o Q X:=by refine Y.c O O ?_;left;rw[a];exact h
theorem wz(z)(f:h5 z)(e:z.I=t::l)(c:mV z z.h)(h:∀m,z.x.le m->Q (if k4 V z.a3.A=U z.bb then .bool H else .none) (z.a3.s m).o):C (d+3) 813 [g4] z.o Q X:=by
 refine Y.c O O ?_;left;rw[e];refine GX Y z f.bt (by haveI:=f.cy;haveI:=f.cc;lia) c λm b=>Se Y (z.a3.s m) ((Cj.map _).nodup f.bt) ?_;haveI h':=h m b;left;rw[show nI _ _ _ _ _=U (decide (k4 _ z.a3.A=U _))from Tw _ _ _];by_cases a:k4 V z.a3.A=U z.bb;.rw[decide_eq_true a];rw[if_pos a]at h';exact h'
 .rw[decide_eq_false a];rw[if_neg a]at h';exact h'
set_option tactic.hygienic true in
theorem AP{k:KS}{ρ}(a:ρ[(0:Nat)]?=U (U g4)){z}{o}(B:kP z o):∀w,o.post w (k.n ρ) (k.z ρ)->jb (WE gY (C (d+12))<|.bV 813 (.j 0) .nil) (WS gY (C (d+12))<|.as<|.bV 820 (.j 0) .nil) k ρ (z.L w).o:=by
 induction B with
 |now A f p n=>intro w h;refine .turn (λe e=>False) (λe e x=>x.elim) ?_;left;rw[a];refine wz Y (d:=d+9) (Z.L _ w) (A.L w) f p λm b=>?_;rw[if_neg (show ¬k4 _ (Z.L _ w).a3.A=U (Z.L _ w).bb from n)];exact h m b|fl f D B s=>
  intro w h;rename_i z i o;refine .turn (λak st=>ak=ρ/\∃m,w.x.le m/\st=((i.L w).s m).o) (λak st ⟨q,m,b,r⟩=>?_) ?_;.subst q r;exact s _<|ou.f_ h b
  .left;rw[a];refine AO Y _ f ?_;left;rw[a];exact D Y w λm b=>⟨rfl,m,b,rfl⟩
 |fm A f p n D B s=>
  intro w h;rename_i z i t l o;refine .turn (λak st=>ak=ρ/\∃m,w.x.le m/\st=((i.L w).s m).o) (λak st ⟨q,m,b,r⟩=>?_) ?_;.subst q r;exact s _<|ou.f_ h b
  .left;rw[a];refine wz Y _ (A.L w) f p λm b=>?_;rw[if_pos (show k4 _ (Z.L _ w).a3.A=U (Z.L _ w).bb from n)];left;rw[a];exact D Y (w.s m) λm' j=>⟨rfl,m',b.trans j,rfl⟩
 |fo f D=>
  intro w h;rename_i z i;refine .turn (λak st=>ak=ρ/\∃m pk,w.x.le m/\st=((i.L w).s m).aX H pk) (λak st ⟨q,m,pk,b,r⟩=>?_) ?_;.subst q r;refine .turn (λe e=>False) (λe e x=>x.elim) ?_;left;rw[a];exact AN Y _ _<|h m pk b
  .left;rw[a];refine AO Y _ f ?_;left;rw[a];exact D Y w λm pk b=>⟨rfl,m,pk,b,rfl⟩
 |fp A f p n D=>
  intro w h;rename_i z i t l;refine .turn (λak st=>ak=ρ/\∃m pk,w.x.le m/\st=((i.L w).s m).aX H pk) (λak st ⟨q,m,pk,b,r⟩=>?_) ?_;.subst q r;refine .turn (λe e=>False) (λe e x=>x.elim) ?_;left;rw[a];exact AN Y _ _<|h m pk b
  .left;rw[a];refine wz Y _ (A.L w) f p λm b=>?_;rw[if_pos (show k4 _ (Z.L _ w).a3.A=U (Z.L _ w).bb from n)];left;rw[a];exact D Y (w.s m) λm' pk j=>⟨rfl,m',pk,b.trans j,rfl⟩
 |fq f D=>refineλw h=>.turn (λe e=>False) (λe e x=>x.elim) ?_;left;rw[a];refine AO Y _ f ?_;left;rw[a];exact D Y w h|fs A f p n D=>refineλw h=>.turn (λe e=>False) (λe e x=>x.elim) ?_;left;rw[a];refine wz Y _ (A.L w) f p λm b=>?_;rw[if_pos (show k4 _ (Z.L _ w).a3.A=U (Z.L _ w).bb from n)];left;rw[a];exact D Y (w.s m) λi c y l=>h i c y<|b.trans l
end
end
section
open PySem
noncomputable def Z.go(w:Z)(a:AV):Z:={w with bZ:=a}
noncomputable def Z.bU(w:Z)(l:List Nat):Z:={w with aN:=l}
noncomputable def Z.d0(w:Z)(l:List Nat):Z:={w with aY:=l}
noncomputable def Z.cy(w:Z)(a:AV)(l:List Nat):Z:={w with bZ:=a,aN:=l}
noncomputable def Z.ft(w:Z)(a:AV)(l r:List Nat):Z:={w with bZ:=a,aN:=l,aY:=r}
inductive TS where
 |nil
 |be (a b:AV)
 |cons (t:Tk) (r:TS)
noncomputable def Z.dB(z:Z)(l:List Tk):Z:={z with I:=l,bb:=z.bb+1}
noncomputable def j0:TS->Z->Bool->Prop| .nil,_,_=>True| .be b e,z,c=>c=g/\kP z (.be b e)| .cons t r,z,g=>(∃a l,kP z (.ok a)/\a.e=z.e/\a.I=t::l/\j0 r (a.dB l) g)\/(∃a l,kP z (.done a)/\a.e=z.e/\a.I=t::l/\j0 r (a.dB l) H)| .cons t r,z,H=>∃l,z.I=t::l/\j0 r (z.dB l) H
theorem Hu(z:Z):z.a3.a3=z.a3:=by unfold Z.a3;dsimp only;rw[List.filter_filter];congr 1;exact List.filter_congr λx a=>by simp
theorem TA(z:Z):mV z.a3 z.a3.h:=λq e c=>by have b:=(B_.mp e).2;haveI a:=c;rw[b]at a;cases a
theorem h5.a3(a:h5 z):h5 z.a3:=⟨(Cj.map _).nodup a.bt,a.M,(by show z.I.length+z.a4.length+(z.A.filter _).length+8*(z.e.length - z.h)<=9000;exact f2 (iu (iU (JS _ _) _) _) a.dn),a.cc,a.cd,a.cy⟩
theorem TB(j:kP z o)(h:o=.ok b):kP b<|.ok b:=by
 induction j with
 |now i e f c=>cases h;haveI:=kP.now i.a3 e (TA _) (by rw[Hu];exact c);rw[Hu]at this;exact this
 |fl _ _ _ a=>exact a h|fm _ _ _ _ _ _ a=>exact a h|fo=>cases h
 |fp=>cases h
 |fq=>cases h
 |fs=>cases h
noncomputable def wA(t:AV)(m:gW):Prop:=t=.val (.ref 1304)\/∃n a,t=.mut (.j n)/\n<m.f/\m.j n=U (.bD a)/\qP [33] a=H/\vi [33] a=U (.str [33])
theorem wA.aR(h:wA t a)(l:a.le b):wA t b:=by
 rcases h with h|⟨n,e,f,c,i,j⟩
 .exact .inl h
 .exact .inr ⟨n,e,f,hD c l.1,l.at c i,j⟩
noncomputable def TS.len:TS->Nat| .nil=>0| .be _ _=>0| .cons _ r=>r.len+1
structure o5 (T:TS)(w:Z)(m:gW)(z:Z)(m':gW)(a:Bool)(d2:AV):Prop where
 eR:j0 T z a
 bG:m.le m'
 d2:a=g->d2=.mut .cF
 df:z.e=w.e
 fu:w.h=1->wA w.bP m'
 bH:w.aN.length+w.aY.length+4*T.len<=100000
inductive At (T:TS)(w:Z)(m:gW):St->Prop|mk (z:Z) (m':gW) (a:Bool) (pk:AV) (P:o5 T w m z m' a pk):At T w m (((z.L w).s m').aX a pk)
theorem At.e_(z)(m')(a)(b)(h:st=((z.L w).s m').aX a b)(P:o5 T w m z m' a b):At T w m st:=by subst h;exact⟨z,m',a,b,P⟩
theorem o5.bL{w a}{pk}(P:o5 T w m z m' b pk)(c:a.e=w.e:=by rfl) (e:a.h=w.h:=by rfl) (f:a.bP=w.bP:=by rfl) (hl:a.aN.length+a.aY.length+4*T.len<=100000):o5 T a m z m' b pk:=⟨P.eR,P.bG,P.d2,P.df.trans c.symm,λq=>f▸P.fu (e▸q),hl⟩
noncomputable def Tk.id(i:List Nat):Tk->Prop| .bS _=>gY.br 179 46=U (.str i)| .p C _ _=>gY.br C 46=U (.str i)| .val C _ _ _=>gY.br C 46=U (.str i)| .a0 .. =>gY.br 400 46=U (.str i)
theorem wB(st)(i)(l):nI gY st .cH (.str i) (.au l)=mv i l:=by induction i with|nil=>rfl|cons x r=>induction r<;>rfl
theorem TC{t:Tk}{i}{Q:AV->St->Prop}(h:t.id i)(q:Q (.str i) st):pL gY (t.bs B) 46 st Q:=by induction t with|bS a=>haveI e:=(vm<|ia h).symm;clear zz3 e q;exact q|p C a b=>show(match gY.br C _ with|some v=>Q v st|hU=>False);rw[show gY.br C _=U _ from h];exact q|val C v a b=>show(match gY.br C _ with|some v=>Q v st|hU=>False);rw[show gY.br C _=U _ from h];exact q|a0=>haveI e:=(vm<|ia h).symm;clear zz3 e q;exact q
section
variable{C:Nat->PC}(Y:Sys C){Q:AV->St->Prop}{X:hv->St->Prop}{d:Nat}
include Y
theorem AQ(f:ρ[(0)]?=U (U g4))(A:At (.cons t r) w m st)(h:∀z m' o pk l,o5 (.cons t r) w m z m' o pk->z.I=t::l->o5 r w m (z.dB l) m' o pk->WS gY (C (d+12)) aj ρ (((z.L w).s m').aX o pk) k):WS gY (C (d+12)) (.seq (.bm (.bV 813 (.j 0) .nil)<|.as<|.bV 820 (.j 0) .nil) aj) ρ st k:=by
 exists D;obtain⟨z,m',o,pk,P⟩:=A;have ln:=P.bH;have i:=(f2 (iU (s7 4<|jo _) _) ln);obtain⟨E,n,e,j,a,_⟩:=P;induction o with
 |true=>obtain⟨l,c,b⟩:=E;refine D<|.turn (λy y=>False) (λy y x=>x.elim) ?_;left;rw[f];exact AN Y _ _<|h z m' _ pk l ⟨⟨l,c,b⟩,n,e,j,a,ln⟩ c ⟨b,n,e,j,a,i⟩
 |false=>
  cases e O;rcases E with⟨B,l,c,b,p,s⟩|⟨B,l,c,b,p,s⟩
  .exact D<|AP Y f c (w.s m') λm2 l2=>h B m2 _ _ l ⟨.inl ⟨B,l,TB c O,rfl,p,s⟩,n.trans l2,λy=>rfl,b.trans j,λq=>(a q).aR l2,ln⟩ p ⟨s,n.trans l2,λy=>rfl,b.trans j,λq=>(a q).aR l2,i⟩
  .exact D<|AP Y f c (w.s m') λm2 pk l2=>h B m2 _ pk l ⟨⟨l,p,s⟩,n.trans l2,(λq=>absurd q (by decide)),b.trans j,λq=>(a q).aR l2,ln⟩ p ⟨s,n.trans l2,(λq=>absurd q (by decide)),b.trans j,λq=>(a q).aR l2,i⟩
theorem Hv(b:ρ[(0)]?=U (U g4))(A:At (.be f n) w m st)(h:∀(z:Z) c e,m.le z.x->k.z ρ ⟨744,[c,f,e,n,.none]⟩ z.o):WS gY (C (d+12)) (.seq (.bm (.bV 813 (.j 0) .nil)<|.as<|.bV 820 (.j 0) .nil) aj) ρ st k:=by obtain⟨z,m',p,pk,⟨rfl,r⟩,j,a,q,i⟩:=A;cases a O;exact AP Y b r (w.s m') λo c e l=>h o c e<|j.trans l
theorem ie(A:At (.cons t r) w m st)(f:t.id i)(c:mv i (a::j)=U b)(h:∀ae,At (.cons t r) w m ae->Q (.bool b) ae):C (d+13) 792 [g4,.au (a::j)] st Q X:=by
 refine Y.c O O<|AQ Y O A λz m' n pk l P o p=>?_;haveI h':=h (((z.L w).s m').aX n pk) ⟨z,m',n,pk,P⟩;obtain⟨I,T,zf,D,zn,L,s,G,M,J,E,B,y,N,x⟩:=z;clear P p h A;cases(show D=t::l from o);clear o;induction t with
 |bS k=>haveI e:=(vm<|ia f).symm;subst e;left;rw[wB,c];induction b with|true=>exact h'|false=>exact h'
 |p K k q=>left;rw[show gY.br K _=U _ from f];left;rw[wB,c];induction b with|true=>exact h'|false=>exact h'
 |val K v k q=>left;rw[show gY.br K _=U _ from f];left;rw[wB,c];induction b with|true=>exact h'|false=>exact h'
 |a0=>haveI e:=(vm<|ia f).symm;clear zz3 e c;left;rw[wB,c];induction b with|true=>exact h'|false=>exact h'
theorem rc(A:At (.be b e) w m st)(h:∀(z:Z) c f,m.le z.x->X ⟨744,[c,b,f,e,.none]⟩ z.o):C (d+13) 792 [g4,a] st Q X:=Y.c O O<|Hv Y O A h
theorem lU(A:At (.cons t r) w m st)(h:∀ae,At (.cons t r) w m ae->Q (t.bs w.e) ae):C (d+13) 799 [g4] st Q X:=by refine Y.c O O<|AQ Y O A λz m' a pk l P c b=>?_;haveI h':=h (((z.L w).s m').aX a pk) ⟨z,m',a,pk,P⟩;rw[<-P.df]at h';obtain⟨p,B,zf,k,zn,s,e,o,x,q,n,j,i,y,f⟩:=z;clear P b;cases(show k=t::l from c);exact h'
theorem TD(A:At (.be a b) w m st)(h:∀(z:Z) c e,m.le z.x->X ⟨744,[c,a,e,b,.none]⟩ z.o):C (d+13) 799 [g4] st Q X:=Y.c O O<|Hv Y O A h
theorem j1(A:At (.cons t r) w m st)(h:∀ae,At r w m ae->Q (t.bs w.e) ae):C (d+13) 806 [g4] st Q X:=by refine Y.c O O<|AQ Y O A λz m' b pk l P c a=>?_;haveI h':=h ((((z.dB l).L w).s m').aX b pk) ⟨_,m',b,pk,a⟩;rw[<-P.df]at h';obtain⟨p,B,zf,k,zn,s,e,o,x,q,n,j,i,y,f⟩:=z;clear a P;cases(show k=t::l from c);exact h'
end
end
section
open PySem
inductive Ev where
 |bz|cT
 |bM (x:Bool)
 |cq (x:Bool)
 |dz (a:AV)
 |a0 (a t:AV) (i j:Bool) (v:List Nat) (s:AV)
 |dh (a t:AV) (i:Bool) (f:AV)
 |dC
 |d3 (a t:AV) (i:Bool) (f:AV)
 |ey
noncomputable def Ev.is(v:AV):Ev->Prop| .bz=>∃m n,v=.obj 501 [26,27,8] [m,n,.none]| .cT=>∃m n,v=.obj 513 [26,27] [m,n]| .bM x=>∃m n,v=.obj 533 [26,27,38,39,40] [m,n,.bool x,.none,.none]| .cq x=>∃m n,v=.obj 553 [26,27,38] [m,n,.bool x]| .dz a=>∃m n,v=.obj 565 [34,26,27] [a,m,n]| .a0 a t i j x s=>∃m n,v=.obj 585 [34,35,36,28,26,27,30] [a,t,.au [.bool i,.bool j],.str x,m,n,s]| .dh a t i f=>∃m n,v=.obj 597 [34,35,36,26,27,37] [a,t,.bool i,m,n,f]| .dC=>∃m n,v=.obj 609 [26,27] [m,n]| .d3 a t i f=>∃m n,v=.obj 621 [34,35,36,26,27,37] [a,t,.bool i,m,n,f]| .ey=>∃m n,v=.obj 633 [26,27] [m,n]
inductive PR where
 |E (e:Ev) (T:TS) (w:Z)
 |fv (e:Ev) (T:TS) (W:AV->Z)
 |da (a b:AV)
 |cY (a b:AV)
noncomputable def PR.post(r:PR)(m:gW)(Q:AV->St->Prop)(X:hv->St->Prop):Prop:=match r with| .E e a k=>∀(ae:St) (v:AV),e.is v->At a k m ae->Q v ae| .fv e a W=>∀(ae:St) (v j:AV),e.is v->At a (W j) m ae->Q v ae| .da b f=>∀(z:Z) (i:Bool) (pk c h:AV),m.le z.x->X ⟨1293,[c,b,h,f,.none]⟩ (z.aX i pk)| .cY b f=>∀(z:Z) (c h:AV),m.le z.x->X ⟨744,[c,b,h,f,.none]⟩ z.o
noncomputable def Gives(N:Nat)(f:Nat)(args:List AV)(T:TS)(w:Z)(r:PR):Prop:=∀{C:Nat->PC} (_:Sys C) {d:Nat} {Q:AV->St->Prop} {X:hv->St->Prop} {m:gW} {st:St},At T w m st->r.post m Q X->C (d+N) f (g4::args) st Q X
theorem AR(Y:Sys C){Q}(h:∀v,(Ev.a0 .none .none H g [] .none).is v->Q v st):C (d+1) 1518 [g4,mk] st Q X:=by refine Y.c O O ⟨rfl,?_⟩;exact h _ ⟨_,_,rfl⟩
noncomputable def Tk.aT(t:Tk):List Nat:=match(match t with| .bS _=>gY.br 179 46| .p C _ _=>gY.br C 46| .val C _ _ _=>gY.br C 46| .a0 .. =>gY.br 400 46)with|U (.str i)=>i|_=>[]
noncomputable def Tk.Good(t:Tk):Prop:=t.id t.aT
noncomputable def Tk.bU:Tk->Nat| .bS a=>a| .p _ a _=>a| .val _ _ a _=>a| .a0 _ _ _ a _=>a
theorem Hw{t:Tk}(q:Q (hy B t.bU) st):pL gY (t.bs B) 26 st Q:=by induction t<;>exact q
theorem jW(i a:List Nat):mv i [.str a]=U (hm i a):=by show U (match hm i a with|true=>H|false=>g)=_;induction hm i a<;>rfl
noncomputable def Not(t:Tk)(l:List (List Nat)):Prop:=∀a∈l,hm t.aT a=g
noncomputable abbrev um:List Nat:=[60,115,99,97,108,97,114,62]
noncomputable abbrev wC:List Nat:=[60,98,108,111,99,107,32,115,101,113,117,101,110,99,101,32,115,116,97,114,116,62]
noncomputable abbrev wD:List Nat:=[60,98,108,111,99,107,32,109,97,112,112,105,110,103,32,115,116,97,114,116,62]
noncomputable abbrev nz:List Nat:=[60,98,108,111,99,107,32,101,110,100,62]
noncomputable abbrev Hx:List Nat:=[60,97,108,105,97,115,62]
noncomputable abbrev wE:List Nat:=[60,97,110,99,104,111,114,62]
noncomputable abbrev wF:List Nat:=[60,116,97,103,62]
noncomputable abbrev un:List Nat:=[60,100,105,114,101,99,116,105,118,101,62]
noncomputable abbrev wG:List Nat:=[60,100,111,99,117,109,101,110,116,32,115,116,97,114,116,62]
noncomputable abbrev wH:List Nat:=[60,100,111,99,117,109,101,110,116,32,101,110,100,62]
noncomputable abbrev wI:List Nat:=[60,115,116,114,101,97,109,32,101,110,100,62]
noncomputable def o6:List (List Nat):=match wl with|(_,l)::_=>l|[]=>[]
noncomputable def Hy(a b:Bool)(t:Tk):Prop:=Not t [um,[91],[123]]/\(b=H->hm t.aT [45]=g)/\(a=H->Not t [wC,wD])
noncomputable def ss(a:AV):Prop:=a=.none\/∃s,a=.str s
noncomputable abbrev TE:List Nat:=[101,120,112,101,99,116,101,100,32,116,104,101,32,110,111,100,101,32,99,111,110,116,101,110,116,44,32,98,117,116,32,102,111,117,110,100,32,37,114]
theorem TF:∀i∈o6,gY.dF TE i=true:=by decide+kernel
noncomputable def TG(t:AV):Prop:=t=.none\/∃c s,t=.str (33::c::s)
noncomputable def ma:AV->Bool| .none=>H|_=>g
theorem Hz(h:ma a=H):a=.none:=by cases a<;>first|rfl|exact iR h
inductive lB (i j:Bool)(w:Z)(h c e:AV):TS->PR->Prop|a0 {v:List Nat} {m:Bool} {l:AV} {a b f:Nat} {r:TS} {k:List Nat}:w.aN=f::k->lB i j w h c e (.cons (.a0 v m l a b) r) (.E (.a0 h c (m&&ma c) (!m&&ma c) v l) r (w.cy (.aP f) k))|seq {a b:Nat} {r:TS}:lB i j w h c e (.cons (.p 239 a b) r) (.E (.dh h c (ma c) (.bool H)) (.cons (.p 239 a b) r) (w.go (.aP 1453)))|map {a b:Nat} {r:TS}:lB i j w h c e (.cons (.p 251 a b) r) (.E (.d3 h c (ma c) (.bool H)) (.cons (.p 251 a b) r) (w.go (.aP 1489)))|f' {a b:Nat} {r:TS}:i=H->lB i j w h c e (.cons (.p 203 a b) r) (.E (.dh h c (ma c) (.bool g)) (.cons (.p 203 a b) r) (w.go (.aP 1411)))|gb {a b:Nat} {r:TS}:i=H->lB i j w h c e (.cons (.p 215 a b) r) (.E (.d3 h c (ma c) (.bool g)) (.cons (.p 215 a b) r) (w.go (.aP 1432)))|gc {a b:Nat} {r:TS}:j=H->lB i j w h c e (.cons (.p 311 a b) r) (.E (.dh h c (ma c) .none) (.cons (.p 311 a b) r) (w.go (.aP 1425)))|gM {t:Tk} {r:TS} {f:Nat} {k:List Nat}:ma h=g\/ma c=g->t.Good->Hy i j t->w.aN=f::k->lB i j w h c e (.cons t r) (.E (.a0 h c (ma c) g [] .none) (.cons t r) (w.cy (.aP f) k))|av {t:Tk} {r:TS}:ma h=H->ma c=H->t.Good->Hy i j t->t.aT∈o6->lB i j w h c e (.cons t r) (.da e (hy w.e t.bU))
noncomputable def TH:DS:=wk.fst.ba.snd.snd.snd.snd.snd.snd
noncomputable def mW:DS:=TH.snd.snd
noncomputable abbrev nR(c f:Bool)(b h a e:AV)(a3 a8 a9 aq ar ap:Option AV):Loc:=[U g4,U (.bool c),U (.bool f),a3,U .none,U b,U h,U a,a8,a9,U e,aq,ar,ap]
section
variable{C:Nat->PC}(Y:Sys C){Q:AV->St->Prop}{X:hv->St->Prop}{d:Nat}
include Y
theorem rf{c f a e}(A:At (.cons t r) w m st)(aM:t.Good)(l:b=H->hm t.aT [45]=g)(h:∀ae,At (.cons t r) w m ae->WS gY (C (d+14)) mW.ba (nR i b c f a e a3 a8 a9 aq ar ap) ae k):WS gY (C (d+14)) mW (nR i b c f a e a3 a8 a9 aq ar ap) st k:=by
 induction b with
 |false=>
  conv=>(whnf)
  exact h st A
 |true=>refine ie Y A aM (by rw[jW,l O]) λae j=>?_;exact h _ j
theorem su{b e a c}(A:At (.cons t r) w m st)(aM:t.Good)(l:hm t.aT um=g)(h:∀ae,At (.cons t r) w m ae->WS gY (C (d+14)) mW.ba.ba (nR f i b e a c a3 a8 a9 aq ar ap) ae k):WS gY (C (d+14)) mW.ba (nR f i b e a c a3 a8 a9 aq ar ap) st k:=by refine ie Y A aM (by rw[jW,l]) λae j=>?_;exact h _ j
theorem uo{b e a c}(A:At (.cons t r) w m st)(aM:t.Good)(l:hm t.aT [91]=g)(h:∀ae,At (.cons t r) w m ae->WS gY (C (d+14)) mW.ba.ba.ba (nR f i b e a c a3 a8 a9 aq ar ap) ae k):WS gY (C (d+14)) mW.ba.ba (nR f i b e a c a3 a8 a9 aq ar ap) st k:=by refine ie Y A aM (by rw[jW,l]) λae j=>?_;exact h _ j
theorem wJ{b e a c}(A:At (.cons t r) w m st)(aM:t.Good)(l:hm t.aT [123]=g)(h:∀ae,At (.cons t r) w m ae->WS gY (C (d+14)) mW.ba.ba.ba.ba (nR f i b e a c a3 a8 a9 aq ar ap) ae k):WS gY (C (d+14)) mW.ba.ba.ba (nR f i b e a c a3 a8 a9 aq ar ap) st k:=by refine ie Y A aM (by rw[jW,l]) λae j=>?_;exact h _ j
theorem AS{c f a e}(A:At (.cons t r) w m st)(aM:t.Good)(l:b=H->hm t.aT wC=g)(h:∀ae,At (.cons t r) w m ae->WS gY (C (d+14)) mW.ba.ba.ba.ba.ba (nR b i c f a e a3 a8 a9 aq ar ap) ae k):WS gY (C (d+14)) mW.ba.ba.ba.ba (nR b i c f a e a3 a8 a9 aq ar ap) st k:=by
 induction b with
 |false=>
  conv=>(whnf)
  exact h st A
 |true=>refine ie Y A aM (by rw[jW,l O]) λae j=>?_;exact h _ j
theorem HA{c f a e}(A:At (.cons t r) w m st)(aM:t.Good)(l:b=H->hm t.aT wD=g)(h:∀ae,At (.cons t r) w m ae->WS gY (C (d+14)) mW.ba.ba.ba.ba.ba.ba (nR b i c f a e a3 a8 a9 aq ar ap) ae k):WS gY (C (d+14)) mW.ba.ba.ba.ba.ba (nR b i c f a e a3 a8 a9 aq ar ap) st k:=by induction b with|false=>exact h st A|true=>refine ie Y A aM (by rw[jW,l O]) λae j=>?_;exact h _ j
noncomputable abbrev nK(C:PC)(Q:AV->St->Prop)(X:hv->St->Prop):KS:=⟨λρ st=>WS gY C (.ret (.j 4)) ρ st ⟨λa st=>Q .none st,Q,λa a=>False,λa=>X⟩,Q,λa a=>False,λa=>X⟩
set_option tactic.hygienic true in
theorem AT{E p i}(ht:TG p)(aQ:ss E)(A:At T w m st)(B:lB aP aY w E p i T R)(h:R.post m Q X)(hl:∀t r,T=.cons t r->t.Good):WS gY (C (d+14)) mW (nR aP aY E p i (.bool<|ma p) a3 (U a8) a9 aq ar ap) st<|nK (C (d+14)) Q X:=by
 induction B with
 |seq=>refine rf Y A (hl _ _ O) (λaS=>rfl) λst A=>su Y A (hl _ _ O) O λst A=>ie Y A O O λst A=>lU Y A λst A=>kf λaV=>?_;obtain⟨z,m',j,pk,P⟩:=A;refine aV ⟨rfl,?_⟩;exact h _ _ ⟨_,_,rfl⟩ ⟨z,m',j,pk,P.bL (hl:=P.bH)⟩
 |map=>refine rf Y A (hl _ _ O) (λaS=>rfl) λst A=>su Y A (hl _ _ O) O λst A=>uo Y A (hl _ _ O) O λst A=>ie Y A O O λst A=>lU Y A λst A=>?_;obtain⟨z,m',j,pk,P⟩:=A;refine⟨rfl,?_⟩;exact h _ _ ⟨_,_,rfl⟩ ⟨z,m',j,pk,P.bL (hl:=P.bH)⟩
 |f' aW=>subst aW;refine rf Y A (hl _ _ O) (λaS=>rfl) λst A=>su Y A (hl _ _ O) O λst A=>uo Y A (hl _ _ O) O λst A=>wJ Y A (hl _ _ O) O λst A=>ie Y A O O λst A=>lU Y A λst A=>kf λaV=>?_;obtain⟨z,m',j,pk,P⟩:=A;refine aV ⟨rfl,?_⟩;exact h _ _ ⟨_,_,rfl⟩ ⟨z,m',j,pk,P.bL (hl:=P.bH)⟩
 |gb aW=>subst aW;refine rf Y A (hl _ _ O) (λaS=>rfl) λst A=>su Y A (hl _ _ O) O λst A=>uo Y A (hl _ _ O) O λst A=>wJ Y A (hl _ _ O) O λst A=>AS Y A (hl _ _ O) (λaS=>rfl) λst A=>ie Y A O O λst A=>lU Y A λst A=>?_;obtain⟨z,m',j,pk,P⟩:=A;refine⟨rfl,?_⟩;exact h _ _ ⟨_,_,rfl⟩ ⟨z,m',j,pk,P.bL (hl:=P.bH)⟩
 |gc hi=>subst hi;refine ie Y A O O λst A=>lU Y A λst A=>?_;obtain⟨z,m',j,pk,P⟩:=A;refine⟨rfl,?_⟩;exact h _ _ ⟨_,_,rfl⟩ ⟨z,m',j,pk,P.bL (hl:=P.bH)⟩
 |a0 G=>
  rename_i v pl a0 a b f r I;refine rf Y A (hl _ _ O) (λaS=>rfl) λst A=>ie Y A O O λst A=>j1 Y A λst A=>?_;obtain⟨z,m',j,pk,P⟩:=A;haveI ln:=P.bH;rw[G]at ln;have e:Q (.obj 585 [34,35,36,28,26,27,30] [E,p,.au _,.str v,i,hy w.e b,a0])<|((z.L _).s m').aX j pk:=h _ _ ⟨_,_,rfl⟩ ⟨z,m',j,pk,P.bL (hl:=by show I.length+w.aY.length+4*r.len<=100000;exact f2 (iu (iu (iy _ _) _) _) ln)⟩;rcases ht with y|⟨c,s,D⟩;clear zz3 y e;rotate_left 1;clear zz3 D e;. induction pl with|true=>refine⟨rfl,?_⟩;left;rw[show((z.L w).s m').aN=f::I from G,lz];left;rw[lA];exact e|false=>refine⟨rfl,?_⟩;left;rw[show((z.L w).s m').aN=f::I from G,lz];left;rw[lA];exact e
  .induction pl with|true=>refine⟨rfl,?_⟩;left;rw[show((z.L w).s m').aN=f::I from G,lz];left;rw[lA];exact e|false=>refine⟨rfl,?_⟩;left;rw[show((z.L w).s m').aN=f::I from G,lz];left;rw[lA];exact e
 |gM aO aM aU G=>
  rename_i t r f I;refine ju aU λM aZ aR=>rf Y A aM aZ λst A=>su Y A aM (M _<|.head _) λst A=>uo Y A aM (M _<|.tail _<|.head _) λst A=>wJ Y A aM (M _<|.tail _<|.tail _ (.head _)) λst A=>AS Y A aM (λq=>aR q _<|.head _) λst A=>HA Y A aM (λq=>aR q _<|.tail _<|.head _) λst A=>?_;obtain⟨z,m',j,pk,P⟩:=A;haveI ln:=P.bH;rw[G]at ln;have e:∀x,Q (.obj 585 [34,35,36,28,26,27,30] [E,p,.au _,.str _,i,x,.none])<|((z.L _).s m').aX j pk:=λx=>h _ _ ⟨_,_,rfl⟩ ⟨z,m',j,pk,P.bL (hl:=by show I.length+w.aY.length+4*(TS.cons t r).len<=100000;exact f2 (iu (iu (iy _ _) _) _) ln)⟩;rcases aQ with k|⟨as,l⟩;clear zz3 k aO e;rotate_left 1;clear zz3 l e;rotate_right 1
  .rcases ht with n|⟨c,s,o⟩;clear zz3 n aO;rotate_left 1;clear zz3 o e;rotate_right 1
   .rcases aO with aO|aO<;>cases aO
   .refine⟨rfl,?_⟩;left;rw[show((z.L w).s m').aN=f::I from G,lz];rw[lA];exact e _
  .rcases ht with av|⟨c,s,aN⟩;rotate_right 1
   .refine⟨rfl,?_⟩;left;rw[show((z.L w).s m').aN=f::I from G,lz];rw[lA];exact e _
   .refine⟨rfl,?_⟩;left;rw[show((z.L w).s m').aN=f::I from G,lz];rw[lA];exact e _
 |av a2 aX aM aU a4=>
  rename_i t r;refine ju aU λM aZ aR=>?_;clear aU;refine rf Y A aM aZ λst A=>su Y A aM (M _<|.head _) λst A=>uo Y A aM (M _<|.tail _<|.head _) λst A=>wJ Y A aM (M _<|.tail _<|.tail _ (.head _)) λst A=>AS Y A aM (λq=>aR q _<|.head _) λst A=>HA Y A aM (λq=>aR q _<|.tail _<|.head _) λst A=>?_;haveI e1:=Hz a2;haveI e2:=Hz aX;clear ht;subst e1 e2;haveI aT:=TF _ a4;induction aP with
  |true=>refine lU Y A λst A=>?_;obtain⟨z,m',j,pk,P⟩:=A;induction t with|bS a=>exactλN J=>λau L=>h _ _ _ _ _ P.bG|p K a b=>intro N J;left;rw[show gY.br K _=U _ from aM];left;rw[aT];exactλau L=>h _ _ _ _ _ P.bG|val K v a b=>intro N J;left;rw[show gY.br K _=U _ from aM];left;rw[aT];exactλau L=>h _ _ _ _ _ P.bG|a0=>exactλN J=>λau L=>h _ _ _ _ _ P.bG
  |false=>refine lU Y A λst A=>?_;obtain⟨z,m',j,pk,P⟩:=A;induction t with|bS a=>exactλN J=>λau L=>h _ _ _ _ _ P.bG|p K a b=>intro N J;left;rw[show gY.br K _=U _ from aM];left;rw[aT];exactλau L=>h _ _ _ _ _ P.bG|val K v a b=>intro N J;left;rw[show gY.br K _=U _ from aM];left;rw[aT];exactλau L=>h _ _ _ _ _ P.bG|a0=>exactλN J=>λau L=>h _ _ _ _ _ P.bG
end
end
section
set_option maxHeartbeats 4000000
open PySem
noncomputable abbrev wK(c:Nat)(s:List Nat):AV:=.au [.str [33],.str (c::s)]
inductive md (e h:Bool)(w:Z):TS->PR->Prop|dz {v:AV} {a b f:Nat} {r:TS} {k:List Nat}:w.aN=f::k->md e h w (.cons (.val 342 v a b) r) (.E (.dz v) r (w.cy (.aP f) k))|d4 {t:Tk} {r:TS} {R:PR}:t.Good->Not t [Hx,wE,wF]->lB e h w .none .none (hy w.e t.bU) (.cons t r) R->md e h w (.cons t r) R|eX {v:AV} {a b:Nat} {t:Tk} {r:TS} {R:PR}:ss v->t.Good->hm t.aT wF=g->lB e h w v .none (hy w.e a) (.cons t r) R->md e h w (.cons (.val 361 v a b) (.cons t r)) R|eY {c:Nat} {s:List Nat} {a b:Nat} {t:Tk} {r:TS} {R:PR}:w.h=1->s.length<=1000->t.Good->hm t.aT wE=g->lB e h w .none (.str (33::c::s)) (hy w.e a) (.cons t r) R->md e h w (.cons (.val 380 (wK c s) a b) (.cons t r)) R|gN {v:AV} {c:Nat} {s:List Nat} {a b i j:Nat} {t:Tk} {r:TS} {R:PR}:ss v->w.h=1->s.length<=1000->t.Good->lB e h w v (.str (33::c::s)) (hy w.e a) (.cons t r) R->md e h w (.cons (.val 361 v a b) (.cons (.val 380 (wK c s) i j) (.cons t r))) R|gO {v:AV} {c:Nat} {s:List Nat} {a b i j:Nat} {t:Tk} {r:TS} {R:PR}:ss v->w.h=1->s.length<=1000->t.Good->lB e h w v (.str (33::c::s)) (hy w.e a) (.cons t r) R->md e h w (.cons (.val 380 (wK c s) a b) (.cons (.val 361 v i j) (.cons t r))) R
noncomputable def wL:DS:=wk.fst.ba.snd.snd.snd.snd
section
variable{C:Nat->PC}(Y:Sys C){Q:AV->St->Prop}{X:hv->St->Prop}{d:Nat}
include Y
theorem TJ{c a}(n:ma a=g)(i:∃K ks l,a=.obj K ks l)(b:ss c)(aM:t.Good)(A:At (.cons t r) w m st)(B:lB k j w c .none a (.cons t r) R)(h:R.post m Q X):WS gY (C (d+14)) wL [U g4,U<|.bool k,U<|.bool j,a3,V,U c,U .none,U a,U a8,a9,V,V,V,V] st<|nK (C (d+14)) Q X:=by
 refine nj i λK ks l f=>?_;clear i;clear n;subst f;haveI:=AT Y (d:=d) (a3:=a3) (a8:=a8) (a9:=a9) (aq:=V) (ar:=V) (ap:=V) (.inl O) b A B h λt r e=>by cases e;exact aM
 clear b;induction j with|true=>exact this|false=>exact this
theorem AU{k f}{j a:AV}{a3 a9:Option AV}{a8}{w:Z}{m}{st}{t:Tk}{r}{R}{c}{s:List Nat}(q:∃K ks D,a=.obj K ks D)(i:ss j)(hp:w.h=1)(hl:s.length<=1000)(aM:t.Good)(A:At (.cons t r) w m st)(B:lB k f w j (.str (33::c::s)) a (.cons t r) R)(h:R.post m Q X):WS gY (C (d+14)) wL [U g4,U<|.bool k,U<|.bool f,a3,V,U j,U<|wK c s,U a,U a8,a9,V,V,V,V] st<|nK (C (d+14)) Q X:=by
 exists p;obtain⟨K,ks,D,rfl⟩:=q;haveI b:=AT Y (d:=d) (a3:=a3) (a8:=a8) (a9:=a9) (aq:=U<|.str [33]) (ar:=U<|.str (c::s)) (ap:=V) (.inr ⟨c,s,rfl⟩) i A B h (λt r e=>by cases e;exact aM);obtain⟨z,m',o,pk,P⟩:=A;rcases P.fu hp with l|⟨n,x,l,I,y,E,G⟩
 .refine p ?_;left;rw[show((z.L w).s m').bP=.val (.ref _)from l];left;rw[show((z.L w).s m').bP=.val (.ref _)from l];refine iO (by simp;exact f2 (j4 (hJ _)<|j4 hl<|hJ _) (by decide)) ?_;clear P h B aM hl hp i;induction f with
  |true=>
   conv at b=>whnf
   exact b
  |false=>
   conv at b=>whnf
   exact b
 .haveI hc:nI _ (((z.L w).s m').aX o pk) .ct (.str [33]) (.mut<|.j n)=U _:=by
   show Option.map (!·) (match(((z.L w).s m').aX o pk).cell<|.j n with
    |some<|.bD x=>U<|qP [33] x
    |_=>V)=U g
   rw[show(((z.L w).s m').aX o pk).cell (.j n)=U _ from y]
   show U _=U _
   rw[E];rfl
  refine p ?_;left
  rw[show((z.L w).s m').bP=.mut _ from l]
  rw[hc]
  left
  rw[show((z.L w).s m').bP=.mut _ from l]
  left
  rw[show(((z.L w).s m').aX o pk).cell (.j n)=U _ from y]
  left
  rw[G]
  refine iO (f2 (j4 (hJ _)<|j4 hl<|hJ _) (by decide)) ?_
  clear p;induction f with
  |true=>
   exact b
  |false=>
   exact b
end
end
section
set_option maxHeartbeats 1000000
open PySem
noncomputable def sv:DS:=wk.fst.ba.snd.snd.snd.fst
noncomputable abbrev p8(a b:Bool):Loc:=[U g4,U (.bool a),U (.bool b),V,V,U .none,U .none,U .none,U .none,U .none,V,V,V,V]
section
variable{C:Nat->PC}(Y:Sys C){Q:AV->St->Prop}{X:hv->St->Prop}{d:Nat}
include Y
theorem ur(A:At (.cons t r) w m st)(aM:t.Good)(e:hm t.aT Hx=g)(h:∀ae,At (.cons t r) w m ae->WS gY (C (d+14)) sv (p8 a b) ae ⟨λρ st=>WS gY (C (d+14)) wL ρ st<|nK (C (d+14)) Q X,Q,λc c=>False,λc=>X⟩):C (d+15) 1404 [g4,.bool a,.bool b] st Q X:=by refine Y.c O O<|ie Y A aM (by rw[jW,e]) λst A=>?_;exact h st A
theorem TK(A:At (.cons t r) w m st)(aM:t.Good)(c:hm t.aT wE=g)(e:hm t.aT wF=g)(h:∀ae,At (.cons t r) w m ae->k.n (p8 a b) ae):WS gY (C (d+14)) sv (p8 a b) st k:=by refine ie Y A aM (by rw[jW,c]) λst A=>?_;refine ie Y A aM (by rw[jW,e]) λst A=>?_;exact h st A
theorem TL(A:At (.cons (.val 361 v a b)<|.cons t r) w m st)(aM:t.Good)(f:hm t.aT wF=g)(h:∀ae,At (.cons t r) w m ae->k.n [U g4,U<|.bool c,U<|.bool e,U<|(Tk.val 361 v a b).bs w.e,V,U v,U .none,U<|hy w.e a,U<|hy w.e b,U .none,V,V,V,V] ae):WS gY (C (d+14)) sv (p8 c e) st k:=by refine ie Y (b:=H) A O O λst A=>j1 Y A λst A=>ie Y A aM (by rw[jW,f]) λst A=>?_;exact h st A
theorem TM(A:At (.cons (.val 380 v a b)<|.cons t r) w m st)(aM:t.Good)(i:hm t.aT wE=g)(h:∀ae,At (.cons t r) w m ae->k.n [U g4,U<|.bool c,U<|.bool e,U<|(Tk.val 380 v a b).bs w.e,V,U .none,U v,U<|hy w.e a,U<|hy w.e b,U<|hy w.e a,V,V,V,V] ae):WS gY (C (d+14)) sv (p8 c e) st k:=by haveI f:(Tk.val 380 v a b).id _:=rfl;refine ie Y (b:=g) A f O λst A=>ie Y (b:=H) A f O λst A=>j1 Y A λst A=>ie Y A aM (by rw[jW,i]) λst A=>?_;exact h st A
theorem TN(A:At (.cons (.val 361 v a b)<|.cons (.val 380 u f i) r) w m st)(h:∀ae,At r w m ae->k.n [U g4,U<|.bool c,U<|.bool e,U<|(Tk.val 380 u f i).bs w.e,V,U v,U u,U<|hy w.e a,U<|hy w.e i,U<|hy w.e f,V,V,V,V] ae):WS gY (C (d+14)) sv (p8 c e) st k:=ie Y (b:=H) A O O λst A=>j1 Y A λst A=>ie Y (b:=H) A O O λst A=>j1 Y A h
theorem TO(A:At (.cons (.val 380 u a b)<|.cons (.val 361 v j f) r) w m st)(h:∀ae,At r w m ae->k.n [U g4,U<|.bool c,U<|.bool e,U<|(Tk.val 361 v j f).bs w.e,V,U v,U u,U<|hy w.e a,U<|hy w.e f,U<|hy w.e a,V,V,V,V] ae):WS gY (C (d+14)) sv (p8 c e) st k:=by haveI i:(Tk.val 380 u a b).id _:=rfl;exact ie Y (b:=g) A i O λst A=>ie Y (b:=H) A i O λst A=>j1 Y A λst A=>ie Y (b:=H) A O O λst A=>j1 Y A h
end
end
section
set_option maxHeartbeats 1000000
open PySem
section
variable{C:Nat->PC}(Y:Sys C){Q:AV->St->Prop}{X:hv->St->Prop}{d:Nat}
include Y
theorem TQ(aM:t.Good)(A:At (.cons t r) w m st)(B:lB c b w .none .none (hy w.e t.bU) (.cons t r) R)(h:R.post m Q X):WS gY (C (d+14)) wL (p8 c b) st<|nK (C (d+14)) Q X:=by
 refine lU Y A λst A=>?_;haveI a:=AT Y (d:=d) (a3:=V) (a8:=hy w.e t.bU) (a9:=U .none) (aq:=V) (ar:=V) (ap:=V) (.inl O) (.inl O) A B h λt r e=>by cases e;exact aM
 clear B;induction t with
 |bS=>
  induction b with|true=>exact a|false=>
   conv at a=>whnf
   exact a
 |p=>
  induction b with|true=>exact a|false=>
   conv at a=>whnf
   exact a
 |val=>
  induction b with|true=>exact a|false=>
   conv at a=>whnf
   exact a
 |a0=>
  induction b with|true=>exact a|false=>
   conv at a=>whnf
   exact a
end
theorem TR(e:w.aN=f::c):Gives 15 1404 [.bool i,.bool k] (.cons (.val 342 v a b) r) w<|.E (.dz v) r<|w.cy (.aP f) c:=by intro C Y d Q X m st A h;refine Y.c O O<|ie Y (b:=H) A O O λst A=>j1 Y A λst A=>?_;obtain⟨z,m',j,pk,P⟩:=A;haveI ln:=P.bH;rw[e]at ln;refine⟨rfl,?_⟩;left;rw[show((z.L w).s m').aN=f::c from e,lz];rw[lA];exact h _ _ ⟨_,_,rfl⟩ ⟨z,m',j,pk,P.bL (hl:=by show c.length+w.aY.length+4*r.len<=100000;exact f2 (iu (iu (iy _ _) _) _) ln)⟩
theorem HB(N:md c e w T R):Gives 15 1404 [.bool c,.bool e] T w R:=by induction N with|dz f=>exact TR f|d4 aM a B=>intro C Y d Q X m st A h;exact ur Y A aM (a _<|.head _) λst A=>TK Y A aM (a _<|.tail _<|.head _) (a _<|.tail _<|.tail _ (.head _)) λst A=>TQ Y aM A B h|eX b aM a B=>intro C Y d Q X m st A h;exact ur Y A O O λst A=>TL Y A aM a λst A=>TJ Y O ⟨_,_,_,rfl⟩ b aM A B h|eY hp hl aM a B=>intro C Y d Q X m st A h;exact ur Y A O O λst A=>TM Y A aM a λst A=>AU Y ⟨_,_,_,rfl⟩ (.inl O) hp hl aM A B h|gN b hp hl aM B=>intro C Y d Q X m st A h;exact ur Y A O O λst A=>TN Y A λst A=>AU Y ⟨_,_,_,rfl⟩ b hp hl aM A B h|gO b hp hl aM B=>intro C Y d Q X m st A h;exact ur Y A O O λst A=>TO Y A λst A=>AU Y ⟨_,_,_,rfl⟩ b hp hl aM A B h
theorem Gives.up(G:Gives N f args T w r):Gives (N+k) f args T w r:=by intro C Y d Q X m st A h;haveI:=@G C Y (d+k) Q X m st A h;rwa [show d+k+N=d+(N+k)by exact py (oN<|oc<|hJ _)<|oe<|iU (lK (hJ _)) _]at this
theorem AW(N:md H g w T R):Gives 16 1382 [] T w R:=by intro C Y d Q X m st A h;exact Y.c O O<|HB N Y A h
theorem HC(N:md H H w T R):Gives 16 1396 [] T w R:=by intro C Y d Q X m st A h;exact Y.c O O<|HB N Y A h
end
section
set_option maxHeartbeats 1000000
open PySem
theorem wM{f n:Nat}(z)(m')(a)(b)(hp:o5 T w m z m' a b)(hl:w.aN.length+1+w.aY.length+4*T.len<=100000)(h:o5 T (w.bU (f::w.aN)) m z m' a b->P):l7 ((((z.L w).s m').aN.reverse.map AV.aP).length+1) P:=by refine iO ?_<|h<|hp.bL (hl:=by assumption);rw[h8,yq];exact f2 (qA<|iy _ _)<|f2 hl (by decide)
theorem p9(w z:Z)(m')(a)(b)(f):(((z.L w).s m').aX a b).bh .aN (.m (((z.L w).s m').aN.reverse.map AV.aP++[.aP f]))=((z.L<|w.bU (f::w.aN)).s m').aX a b:=by unfold Z.aX;rw[yl,kU];rfl
noncomputable def p_:Ev:=.a0 .none .none H g [] .none
theorem AX{i a b:List _}{x}(h:(hm i a||hm i b)=x):mv i [.str a,.str b]=U x:=by subst h;show(match mv i [.str b]with|some y=>U (match hm i a with|true=>H|false=>y)|hU=>hU)=_;rw[jW];induction hm i a<;>rfl
theorem ut(h:(hm i a||(hm i b||hm i c))=x):mv i [.str a,.str b,.str c]=U x:=by subst h;show(match mv i [.str b,.str c]with|some y=>U (match hm i a with|true=>H|false=>y)|hU=>hU)=_;rw[AX O];induction hm i a<;>rfl
theorem HD{α:Type}(aM:Nat->α)(j)(r):placeOf (-1) (mM aM (j::r).reverse).length=U (mM aM (j::r).reverse).length.pred:=by unfold placeOf;rw[if_neg (by decide),if_pos O,if_neg (by simp)];rfl
theorem HE{α:Type}(aM:Nat->α)(j)(r):(mM aM (j::r).reverse)[(mM aM (j::r).reverse).length.pred]?=U (aM j):=by simp
theorem HF(w z:Z)(m')(b)(c)(a):(((z.L w).s m').aX b c).bh .aY (.m (((z.L w).s m').aY.reverse.map (hy ((z.L w).s m').e)++[hy ((z.L w).s m').e a]))=((z.L<|w.d0 (a::w.aY)).s m').aX b c:=by unfold Z.aX;rw[yl,kU];rfl
section
variable{C:Nat->PC}(Y:Sys C){Q:AV->St->Prop}{X:hv->St->Prop}{d:Nat}
include Y
end
end
section
set_option maxHeartbeats 1000000
open PySem
section
variable{C:Nat->PC}(Y:Sys C){Q:AV->St->Prop}{X:hv->St->Prop}{d:Nat}
include Y
end
end
section
set_option maxHeartbeats 1000000
open PySem
noncomputable abbrev TU:List Nat:=[101,120,112,101,99,116,101,100,32,60,98,108,111,99,107,32,101,110,100,62,44,32,98,117,116,32,102,111,117,110,100,32,37,114]
theorem HG:∀i∈o6,gY.dF TU i=true:=by decide+kernel
theorem HH(h:(hm i a||(hm i b||(hm i c||hm i e)))=x):mv i [.str a,.str b,.str c,.str e]=U x:=by subst h;show(match mv i [.str b,.str c,.str e]with|some y=>U (match hm i a with|true=>H|false=>y)|hU=>hU)=_;rw[ut O];induction hm i a<;>rfl
theorem TV(aM:t.Good)(e:(hm t.aT [45]||hm t.aT nz)=H):Gives 17 1418 [] (.cons (.p 311 a b)<|.cons t r) w<|.E p_ (.cons t r)<|w.go (.aP 1418):=by intro C Y d Q X m st A h;refine Y.c O O<|ie Y (b:=H) A O O λst A=>j1 Y A λst A=>ie Y A aM (AX e) λst A=>?_;obtain⟨z,m',c,pk,P⟩:=A;exact AR Y λv f=>h _ _ f ⟨z,m',c,pk,P.bL (hl:=P.bH)⟩
theorem HI(aM:t.Good)(i:(hm t.aT [45]||hm t.aT nz)=g)(hl:w.aN.length+1+w.aY.length+4*(TS.cons t r).len<=100000)(N:md H g (w.bU (1418::w.aN)) (.cons t r) R):Gives 17 1418 [] (.cons (.p 311 a b)<|.cons t r) w R:=by intro C Y d Q X m st A h;refine Y.c O O<|ie Y (b:=H) A O O λst A=>j1 Y A λst A=>ie Y A aM (AX i) λst A=>kf λj=>?_;obtain⟨z,m',c,pk,P⟩:=A;refine j<|wM (f:=1418) (n:=0) z m' c pk P hl λe=>?_;rw[p9];exact AW N Y ⟨z,m',c,pk,e⟩ h
theorem TW(i:w.aN=s::e)(f:w.aY=k::c):Gives 17 1418 [] (.cons (.p 227 a b) r) w<|.E .dC r<|w.ft (.aP s) e c:=by intro C Y d Q X m st A h;refine Y.c O O<|ie Y (b:=g) A O O λst A=>ie Y (b:=H) A O O λst A=>j1 Y A λst A=>?_;obtain⟨z,m',j,pk,P⟩:=A;haveI ln:=P.bH;rw[i,f]at ln;refine⟨rfl,?_⟩;left;rw[show((z.L w).s m').aN=s::e from i,lz];left;rw[show((z.L w).s m').aY=k::c from f,lz];rw[lA,lA];exact h _ _ ⟨_,_,rfl⟩ ⟨z,m',j,pk,P.bL (hl:=by show e.length+c.length+4*r.len<=100000;exact f2 (iu (j4 (iy _ _)<|iy _ _) _) ln)⟩
theorem TX(aM:t.Good)(f:hm t.aT [45]=g)(c:hm t.aT nz=g)(i:t.aT∈o6)(l:w.aY=k::n):Gives 17 1418 [] (.cons t r) w<|.da (hy w.e k)<|hy w.e t.bU:=by intro C Y d Q X m st A h;refine Y.c O O<|ie Y A aM (by rw[jW,f]) λst A=>?_;refine ie Y A aM (by rw[jW,c]) λst A=>?_;refine lU Y A λst A=>?_;obtain⟨z,m',o,pk,P⟩:=A;haveI j:=HG _ i;left;rw[show((z.L w).s m').aY=k::n from l,HD];left;rw[HE];rw[show((z.L w).s m').e=w.e from P.df];clear A i f;induction t with|bS a=>exactλe c=>h _ _ _ _ _ P.bG|p K a b=>left;rw[show gY.br K _=U _ from aM];left;rw[j];exactλe c=>h _ _ _ _ _ P.bG|val K v a b=>left;rw[show gY.br K _=U _ from aM];left;rw[j];exactλe c=>h _ _ _ _ _ P.bG|a0=>exactλe c=>h _ _ _ _ _ P.bG
theorem TY(hl:w.aN.length+(w.aY.length+1)+4*T.len<=100000)(G:Gives 17 1418 [] T (w.d0 (a::w.aY)) R):Gives 18 1411 [] (.cons (.p 203 a b) T) w R:=by
 intro C Y d Q X m st A h;refine Y.c O O<|j1 Y A λst A=>?_;obtain⟨z,m',c,pk,P⟩:=A;refine iO ?_ ?_;.rw[h8,yq];exact f2 (qA<|kT _ _)<|f2 hl (by decide)
 rw[show hy _ a=hy ((z.L w).s m').e a from by rw[show((z.L w).s m').e=w.e from P.df]];rw[HF];exact G Y ⟨z,m',c,pk,P.bL (hl:=by assumption)⟩ h
theorem TZ(aM:t.Good)(e:(hm t.aT [45]||(hm t.aT [63]||(hm t.aT [58]||hm t.aT nz)))=H):Gives 17 1425 [] (.cons (.p 311 a b)<|.cons t r) w<|.E p_ (.cons t r)<|w.go (.aP 1425):=by intro C Y d Q X m st A h;refine Y.c O O<|ie Y (b:=H) A O O λst A=>j1 Y A λst A=>ie Y A aM (HH e) λst A=>?_;obtain⟨z,m',c,pk,P⟩:=A;exact AR Y λv f=>h _ _ f ⟨z,m',c,pk,P.bL (hl:=P.bH)⟩
theorem T0(aM:t.Good)(i:(hm t.aT [45]||(hm t.aT [63]||(hm t.aT [58]||hm t.aT nz)))=g)(hl:w.aN.length+1+w.aY.length+4*(TS.cons t r).len<=100000)(N:md H g (w.bU (1425::w.aN)) (.cons t r) R):Gives 17 1425 [] (.cons (.p 311 a b)<|.cons t r) w R:=by intro C Y d Q X m st A h;refine Y.c O O<|ie Y (b:=H) A O O λst A=>j1 Y A λst A=>ie Y A aM (HH i) λst A=>kf λj=>?_;obtain⟨z,m',c,pk,P⟩:=A;refine j<|wM (f:=1425) (n:=0) z m' c pk P hl λe=>?_;rw[p9];exact AW N Y ⟨z,m',c,pk,e⟩ h
theorem T1(aM:t.Good)(f:hm t.aT [45]=g)(c:w.aN=s::b):Gives 17 1425 [] (.cons t r) w<|.E .dC (.cons t r)<|w.cy (.aP s) b:=by intro C Y d Q X m st A h;refine Y.c O O<|ie Y A aM (by rw[jW,f]) λst A=>?_;refine lU Y A λst A=>?_;obtain⟨z,m',e,pk,P⟩:=A;haveI ln:=P.bH;rw[c]at ln;have a:∀x y,Q (.obj 609 [26,27] [x,y])<|((z.L _).s m').aX e pk:=λx y=>h _ _ ⟨_,_,rfl⟩ ⟨z,m',e,pk,P.bL (hl:=by show b.length+w.aY.length+4*(TS.cons t r).len<=100000;exact f2 (iu (iu (iy _ _) _) _) ln)⟩;clear P ln h A f aM;induction t with|bS=>refine⟨rfl,?_⟩;left;rw[show((z.L w).s m').aN=s::b from c,lz];rw[lA];exact a _ _|p=>refine⟨rfl,?_⟩;left;rw[show((z.L w).s m').aN=s::b from c,lz];rw[lA];exact a _ _|val=>refine⟨rfl,?_⟩;left;rw[show((z.L w).s m').aN=s::b from c,lz];rw[lA];exact a _ _|a0=>refine⟨rfl,?_⟩;left;rw[show((z.L w).s m').aN=s::b from c,lz];rw[lA];exact a _ _
theorem T2(aM:t.Good)(i:(hm t.aT [63]||(hm t.aT [58]||hm t.aT nz))=g)(hl:w.aN.length+1+w.aY.length+4*(TS.cons t r).len<=100000)(N:md H H (w.bU (1446::w.aN)) (.cons t r) R):Gives 17 1439 [] (.cons (.p 287 a b)<|.cons t r) w R:=by intro C Y d Q X m st A h;refine Y.c O O<|ie Y (b:=H) A O O λst A=>j1 Y A λst A=>ie Y A aM (ut i) λst A=>kf λj=>?_;obtain⟨z,m',c,pk,P⟩:=A;refine j<|wM (f:=1446) (n:=0) z m' c pk P hl λe=>?_;rw[p9];exact HC N Y ⟨z,m',c,pk,e⟩ h
theorem T3(i:w.aN=s::e)(f:w.aY=k::c):Gives 17 1439 [] (.cons (.p 227 a b) r) w<|.E .ey r<|w.ft (.aP s) e c:=by intro C Y d Q X m st A h;refine Y.c O O<|ie Y (b:=g) A O O λst A=>ie Y (b:=H) A O O λst A=>j1 Y A λst A=>?_;obtain⟨z,m',j,pk,P⟩:=A;haveI ln:=P.bH;rw[i,f]at ln;refine⟨rfl,?_⟩;left;rw[show((z.L w).s m').aN=s::e from i,lz];left;rw[show((z.L w).s m').aY=k::c from f,lz];rw[lA,lA];exact h _ _ ⟨_,_,rfl⟩ ⟨z,m',j,pk,P.bL (hl:=by show e.length+c.length+4*r.len<=100000;exact f2 (iu (j4 (iy _ _)<|iy _ _) _) ln)⟩
theorem T4(aM:t.Good)(f:hm t.aT [63]=g)(c:hm t.aT nz=g)(i:t.aT∈o6)(l:w.aY=k::n):Gives 17 1439 [] (.cons t r) w<|.da (hy w.e k)<|hy w.e t.bU:=by intro C Y d Q X m st A h;refine Y.c O O<|ie Y A aM (by rw[jW,f]) λst A=>?_;refine ie Y A aM (by rw[jW,c]) λst A=>?_;refine lU Y A λst A=>?_;obtain⟨z,m',o,pk,P⟩:=A;haveI j:=HG _ i;left;rw[show((z.L w).s m').aY=k::n from l,HD];left;rw[HE];rw[show((z.L w).s m').e=w.e from P.df];clear A i f;induction t with|bS a=>exactλe c=>h _ _ _ _ _ P.bG|p K a b=>left;rw[show gY.br K _=U _ from aM];left;rw[j];exactλe c=>h _ _ _ _ _ P.bG|val K v a b=>left;rw[show gY.br K _=U _ from aM];left;rw[j];exactλe c=>h _ _ _ _ _ P.bG|a0=>exactλe c=>h _ _ _ _ _ P.bG
theorem T5(hl:w.aN.length+(w.aY.length+1)+4*T.len<=100000)(G:Gives 17 1439 [] T (w.d0 (a::w.aY)) R):Gives 18 1432 [] (.cons (.p 215 a b) T) w R:=by
 intro C Y d Q X m st A h;refine Y.c O O<|j1 Y A λst A=>?_;obtain⟨z,m',c,pk,P⟩:=A;refine iO ?_ ?_;.rw[h8,yq];exact f2 (qA<|kT _ _)<|f2 hl (by decide)
 rw[show hy _ a=hy ((z.L w).s m').e a from by rw[show((z.L w).s m').e=w.e from P.df]];rw[HF];exact G Y ⟨z,m',c,pk,P.bL (hl:=by assumption)⟩ h
theorem T6(aM:t.Good)(e:(hm t.aT [63]||(hm t.aT [58]||hm t.aT nz))=H):Gives 17 1446 [] (.cons (.p 299 a b)<|.cons t r) w<|.E p_ (.cons t r)<|w.go (.aP 1439):=by intro C Y d Q X m st A h;refine Y.c O O<|ie Y (b:=H) A O O λst A=>j1 Y A λst A=>ie Y A aM (ut e) λst A=>?_;obtain⟨z,m',c,pk,P⟩:=A;exact AR Y λv f=>h _ _ f ⟨z,m',c,pk,P.bL (hl:=P.bH)⟩
theorem HJ(aM:t.Good)(i:(hm t.aT [63]||(hm t.aT [58]||hm t.aT nz))=g)(hl:w.aN.length+1+w.aY.length+4*(TS.cons t r).len<=100000)(N:md H H (w.bU (1439::w.aN)) (.cons t r) R):Gives 17 1446 [] (.cons (.p 299 a b)<|.cons t r) w R:=by intro C Y d Q X m st A h;refine Y.c O O<|ie Y (b:=H) A O O λst A=>j1 Y A λst A=>ie Y A aM (ut i) λst A=>?_;obtain⟨z,m',c,pk,P⟩:=A;refine wM (f:=1439) (n:=0) z m' c pk P hl λe=>?_;rw[p9];exact HC N Y ⟨z,m',c,pk,e⟩ h
end
section
set_option maxHeartbeats 1000000
open PySem
theorem HK:Gives 17 1340 [] (.cons (.bS a) r) w<|.E .bz r<|w.go (.aP 1347):=by intro C Y d Q X m st A h;refine Y.c O O<|j1 Y A λst A=>?_;obtain⟨z,m',b,pk,P⟩:=A;refine⟨rfl,?_⟩;exact h _ _ ⟨_,_,rfl⟩ ⟨z,m',b,pk,P.bL (hl:=P.bH)⟩
theorem T7(aM:t.Good)(e:(hm t.aT un||(hm t.aT wG||hm t.aT wI))=g)(hl:w.aN.length+1+w.aY.length+4*(TS.cons t r).len<=100000):Gives 17 1347 [] (.cons t r) w<|.E (.bM g) (.cons t r) {w with bP:=.val<|.ref 1304,h:=1,aN:=1361::w.aN,bZ:=.aP 1382}:=by
 intro C Y d Q X m st A h;refine Y.c O O<|ie Y A aM (ut e) λst A=>?_;obtain⟨z,m',c,pk,P⟩:=A;refine lU Y (w:={w with bP:=.val _,h:=1}) ⟨z,m',c,pk,P.eR,P.bG,P.d2,P.df,λf=>.inl O,P.bH⟩ λst A=>?_;obtain⟨z,m',c,pk,P⟩:=A;have a:∀x y,Q (.obj 533 [26,27,38,39,40] [x,y,.bool _,.none,.none])<|((z.L _).s m').aX c pk:=λx y=>h _ _ ⟨_,_,rfl⟩ ⟨z,m',c,pk,P.bL (hl:=by assumption)⟩;have b:(((z.L {w with bP:=.val<|.ref 1304,h:=1}).s m').aN.reverse.map AV.aP).length+1<=1000000:=by rw[h8,yq];exact f2 (qA<|iy _ _)<|f2 hl (by decide)
 clear P h A hl e aM;induction t with|bS=>refine⟨rfl,?_⟩;refine iO b ?_;rw[p9];exact a _ _|p=>refine⟨rfl,?_⟩;refine iO b ?_;rw[p9];exact a _ _|val=>refine⟨rfl,?_⟩;refine iO b ?_;rw[p9];exact a _ _|a0=>refine⟨rfl,?_⟩;refine iO b ?_;rw[p9];exact a _ _
theorem T8{C:Nat->PC}(Y:Sys C){d}{Q:AV->St->Prop}{X:hv->St->Prop}{w}{t}{r}{m}{st}(A:At (.cons t r) w m st)(aM:t.Good)(L:hm t.aT un=g)(h:∀ae N,At (.cons t r) {w with bP:=N,h:=1} m ae->Q (.au [.none,.none]) ae):C (d+14) 1375 [g4] st Q X:=by
 obtain⟨z,m',y,pk,P⟩:=A;refine Y.c O O ?_;obtain⟨e,hw⟩:∃e:Z,e={w with bP:=.mut<|.j m'.f,h:=0}:=⟨_,rfl⟩;haveI o:e.bP=.mut (.j _):=by rw[hw]
 haveI E:At (.cons t r) e (m'.add<|.bD [])<|((z.L e).s<|m'.add (.bD [])).aX y pk:=⟨z,_,y,pk,by rw[hw];exact⟨P.eR,gW.le.refl _,P.d2,P.df,(λq=>by cases q),P.bH⟩⟩;haveI i:(((z.L {w with bP:=.mut<|.j _}).s<|m'.add<|.bD []).aX y pk)=(((z.L e).s<|m'.add<|.bD []).aX y pk):=by rw[hw];rfl
 refine .turn (λB B=>False) (λB B x=>x.elim)<|ie Y (d:=d) (b:=g) (by haveI n:=E;rw[<-i]at n;exact n) aM (by rw[jW,L]) λst G=>?_;obtain⟨f,m2,l,k7,s⟩:=G;haveI D:m2.j m'.f=U (.bD []):=s.bG.at (kg _)<|gW.bT _ _;haveI M:m'.f<m2.f:=hD (kg _) s.bG.1;haveI tr:∀(m3:gW) i,m3.j _=U (.bD i)->nk (((f.L e).s m3).aX _ _) (.mut<|.j m'.f)=U (!i.isEmpty):=by intro m3 i c;show yF ((((f.L e).s m3).aX l k7).cell<|.j m'.f)=_;rw[show(((f.L e).s m3).aX _ _).cell (.j _)=U (.bD i)from c];rfl
 haveI p:∀(m3:gW) i k,m3.j _=U (.bD i)->nI _ (((f.L e).s m3).aX _ _) _ (.str k) (.mut<|.j _)=U (!qP k i):=by
  intro m3 i k c;haveI I:rX (((f.L e).s m3).aX l k7) (.j _) (.str k)=U (qP k i):=by show(match(((f.L e).s m3).aX _ _).cell<|.j _ with|some<|.bD i=>U<|qP k i|_=>V)=_;rw[show(((f.L e).s m3).aX _ _).cell (.j m'.f)=U _ from c]
  haveI J:nI gY _ .ct (.str k) (.mut<|.j m'.f)=(rX (((f.L e).s m3).aX l k7) _<|.str k).map _:=by induction k with|nil=>rfl|cons a r=>induction r<;>rfl
  rw[J,I];rfl
 left;rw[show((f.L e).s m2).bP=.mut _ from o];rw[tr m2 _ D];refine⟨trivial,?_⟩;left;rw[show((f.L e).s m2).bP=.mut _ from o,p m2 _ _ D];left;rw[show((f.L e).s m2).bP=.mut _ from o];left;rw[show(((f.L e).s m2).aX _ _).cell (.j _)=U _ from D];haveI d1:(m2.set _<|.bD [([33],.str [33])]).j m'.f=U (.bD [([33],.str [33])]):=gW.bj _ _ _;refine⟨trivial,?_⟩;left;rw[show((f.L e).s _).bP=.mut _ from o,p _ _ _ d1];left;rw[show((f.L e).s _).bP=.mut _ from o];left;rw[show(((f.L e).s<|m2.set _ _).aX _ _).cell (.j _)=U _ from d1];refine⟨trivial,?_⟩;refine h _ (.mut<|.j m'.f)<|.e_ f ((m2.set m'.f<|.bD [([33],.str [33])]).set m'.f<|.bD [([33],.str [33]),([33,33],.str [116,97,103,58,121,97,109,108,46,111,114,103,44,50,48,48,50,58])]) l k7 ?_ ?_;.rw[hw];rfl
 .haveI l1:=(P.bG.trans<|gW.le.add _ _).trans s.bG;haveI lL:=P.bG.1;haveI j:=s;rw[hw]at j;exact⟨j.eR,(l1.set _ lL).set _ lL,j.d2,j.df,λB=>.inr ⟨_,_,rfl,M,gW.bj _ _ _,rfl,rfl⟩,j.bH⟩
theorem T9(i:w.aN=[])(j:w.aY=[]):Gives 17 1354 [] (.cons (.p 191 a b) r) w<|.E .cT r<|w.go (.none):=by intro C Y d Q X m st A h;haveI e:(Tk.p 191 a b).id _:=rfl;refine Y.c O O<|.turn (λc c=>False) (λc c x=>x.elim)<|ie Y (b:=g) A e O λst A=>ie Y (b:=H) A e O λst A=>j1 Y A λst A=>?_;obtain⟨z,m',f,pk,P⟩:=A;refine⟨rfl,?_⟩;left;rw[show((z.L w).s m').aN=[]from i];left;rw[show((z.L w).s m').aY=[]from j];refine h _ _ ⟨_,_,rfl⟩<|.e_ z m' f pk ?_<|P.bL (hl:=P.bH);rfl
theorem HL(aM:t.Good)(c:hm t.aT wH=g):Gives 17 1361 [] (.cons t r) w<|.E (.cq g) (.cons t r)<|w.go (.aP 1354):=by
 intro C Y d Q X m st A h;refine Y.c O O<|lU Y A λst A=>?_;induction t with
 |bS=>refine ie Y A aM (by rw[jW,c]) λst A=>kf λb=>?_;obtain⟨z,m',a,pk,P⟩:=A;refine b ⟨rfl,?_⟩;exact h _ _ ⟨_,_,rfl⟩ ⟨z,m',a,pk,P.bL (hl:=P.bH)⟩
 |p=>refine ie Y A aM (by rw[jW,c]) λst A=>kf λb=>?_;obtain⟨z,m',a,pk,P⟩:=A;refine b ⟨rfl,?_⟩;exact h _ _ ⟨_,_,rfl⟩ ⟨z,m',a,pk,P.bL (hl:=P.bH)⟩
 |val=>refine ie Y A aM (by rw[jW,c]) λst A=>kf λb=>?_;obtain⟨z,m',a,pk,P⟩:=A;refine b ⟨rfl,?_⟩;exact h _ _ ⟨_,_,rfl⟩ ⟨z,m',a,pk,P.bL (hl:=P.bH)⟩
 |a0=>refine ie Y A aM (by rw[jW,c]) λst A=>?_;obtain⟨z,m',a,pk,P⟩:=A;refine⟨rfl,?_⟩;exact h _ _ ⟨_,_,rfl⟩ ⟨z,m',a,pk,P.bL (hl:=P.bH)⟩
end
section
set_option maxHeartbeats 1000000
open PySem
theorem HM{e:Ev}{v}(h:e.is v):∃K ks a,v=.obj K ks a:=by induction e<;>exact jO h λb b e=>⟨_,_,_,e⟩
noncomputable def PR.gP(r:PR)(m:gW)(Q:AV->St->Prop)(X:hv->St->Prop):Prop:=match r with| .E e a k=>∀(ae:St) (v:AV),e.is v->At a {k with E:=v} m ae->Q v ae| .fv e a W=>∀(ae:St) (v j:AV),e.is v->At a {W j with E:=v} m ae->Q v ae| .da b f=>∀(z:Z) (i:Bool) (pk c h:AV),m.le z.x->X ⟨1293,[c,b,h,f,.none]⟩ (z.aX i pk)| .cY b f=>∀(z:Z) (c h:AV),m.le z.x->X ⟨744,[c,b,h,f,.none]⟩ z.o
section
variable{C:Nat->PC}(Y:Sys C){Q:AV->St->Prop}{X:hv->St->Prop}{d:Nat}
include Y
theorem HN(G:Gives 18 f p T w r)(k:w.bZ=.aP f)(q:w.E=.none)(s:gY.cs f=U p)(A:At T w m st)(h:r.gP m Q X):C (d+19) 1326 [g4] st Q X:=by
 refine Y.c O O ?_;haveI l:=A;obtain⟨z,m',y,pk,P⟩:=A;left;rw[show((z.L w).s m').E=.none from q];left;rw[show((z.L w).s m').bZ=.aP f from k];left;rw[show((z.L w).s m').bZ=.aP f from k];left;rw[s];refine G Y l ?_;clear G;induction r with
 |E e n B=>intro ae v j i;obtain⟨c,m2,a,k7,b⟩:=i;exact(h (((c.L _).s m2).aX a k7) v j ⟨c,m2,a,k7,b.bL (hl:=b.bH)⟩)
 |fv e n W=>intro ae v x j i;obtain⟨c,m2,a,k7,b⟩:=i;exact(h (((c.L _).s m2).aX a k7) v x j ⟨c,m2,a,k7,b.bL (hl:=b.bH)⟩)
 |da o t=>exact h|cY o t=>exact h
theorem T_(b:w.bZ=.none)(a:w.E=.none)(A:At T w m st)(h:Q .none st):C (d+19) 1326 [g4] st Q X:=by refine Y.c O O ?_;obtain⟨z,m',c,pk,P⟩:=A;left;rw[show((z.L w).s m').E=.none from a];left;rw[show((z.L w).s m').bZ=.none from b];left;rw[show((z.L w).s m').E=.none from a];exact h
theorem T'{w:Z}(c:∃K ks a,v=.obj K ks a)(A:At T {w with E:=v} m st) (h:∀ae,At T {w with E:=.none} m ae->Q v ae):C (d+1) 1333 [g4] st Q X:=by obtain⟨K,ks,a,rfl⟩:=c;refine Y.c O O ?_;obtain⟨z,m',b,pk,P⟩:=A;exact h _ ⟨z,m',b,pk,P.bL (hl:=P.bH)⟩
noncomputable def lV(c:Nat):Prop:=c=9\/c=10\/(32<=c/\c<=126)
theorem Ua(hc:lV c)(h:Q (.bool H) st):C (d+1) 668 [.str [c]] st Q X:=by
 refine Y.c O O ?_;rcases hc with rfl|rfl|⟨a,b⟩
 .exact h
 .exact h
 .left;rw[mc (mg a O)<|mc (mg a O)<|mc (mg a O)<|mc (mz (s0 b) O) O];left;rw[mD,decide_eq_true a];left;rw[mD,decide_eq_true b];exact h
theorem Ub(h:∀ρ,k.n ρ st):∀l i a a3 b,(∀c∈l,lV c)->lj (WS gY (C (d+1)) Gs.bC) [2,3] (λm=>True) k (vn i l) [j,a1,a,a3,b] st:=by intro l;induction l with|nil=>exactλi a a3 b hl=>⟨trivial,h _⟩|cons c l f=>refineλi a a3 b hl=>⟨trivial,?_⟩;exact Ua Y (hl c<|.head _)<|f _ _ _ _ λx e=>hl x<|.tail _ e
theorem Uc(hl:∀c∈l,lV c)(h:Q .none st):C (d+2) 720 [g4,.str l] st Q X:=Y.c O O<|Ub Y (λa=>h) l 0 _ _ _ hl
noncomputable def o7(l:List Nat)(m:gW)(a:AV):Z:={e:=l++[0],h:=0,J:=0,I:=[.bS 0],bb:=0,M:= -1,a4:=[],ask:=H,A:=[],E:=.none,bP:=a,bZ:=.aP 1340,aN:=[],aY:=[],x:=m}
theorem Ud(hl:∀c∈l,lV c)(b:l.length<=100000){m:gW}(h:∀m' a,m.le m'->Q .none (o7 l m' a).o):C (d+6) 1312 [g4,.str l] ⟨U ([],[]),V,V,V,V,V,m.j,m.f⟩ Q X:=by refine Y.c O O<|Y.c O O<|Y.c O O<|Uc Y hl<|iO (by simp;apply f2<;>right)<|Y.c O O<|Y.c O O ⟨rfl,?_⟩;refine⟨rfl,?_⟩;exact h (m.add<|.bD _) (.mut<|.j m.f)<|gW.le.add _ _
end
end
section
open PySem
end
section
open PySem
theorem Ue:∀{ks},iA l ks=U k->∃q∈ks,q.2=k:=by
 intro ks;induction ks with|nil=>exact hu|cons c r b=>
  obtain⟨j,q⟩:=c;intro h;dsimp only[o2]at h;split at h;.cases ia h;exact h9 _ (.head _) O
  .exact g6 (b h) λx a e=>h9 x (.tail _ a) e
end
section
open PySem
end
section
open PySem
theorem Uf(q)(c):q.1<=(p1 q c).1:=by unfold p1;split;exact jo _;exact hJ _
theorem uu{B:List _}{p}:∀{a},p<=a->hO B p<=hO B a
 |0,h=>by cases Nat.le_zero.mp h;exact hJ _
 |a+1,h=>by
  rcases oD p (a+1)with h'|h'
  .refine f2 (uu<|yp h') ?_;rcases oD a _ with q|q
   .obtain⟨c,hc⟩:∃c,B[a]?=U c:=⟨_,mo q⟩;unfold hO;rw[uf hc];exact Uf _ _
   .unfold hO;rw[B1 q,B1<|lb q];exact hJ _
  .cases py h h';exact hJ _
inductive wN (z:Z):Z->Prop|mk {a:Nat} {b:Bool}:iv z.e z.h a b->z.e[a]?=U 0->mV z a->NR (z.a8 a b)->wN z (z.a8 a b).eM
set_option tactic.hygienic true in
theorem Ug(e:h5 z)(F:wN z c):lT z<|.done c:=by intro C Y d Q X w h;obtain⟨f,hc,b,A⟩:=F;refine sk Y _ (e.L w) f hc b λm a=>?_;rw[so,sr];refine Hm Y _<|Sg Y _ ((e.a8 f).L<|w.s m) A λm' pk l=>?_;rw[Tt];exact h m' pk<|a.trans l
end
section
open PySem
class inductive AY:Z->Z->Prop
 |done {z F:Z}:h5 z->wN z F->AY z F
 |step {z a F:Z}:h5 z->o4 z a->AY a F->AY z F
end
section
open PySem
theorem Uh(l):∀ks,(kF l ks).Sublist ks:=by
 intro ks;induction ks with|nil=>exact .slnil|cons b r a=>
  obtain⟨j,k⟩:=b;dsimp only[se];split;.exact .cons _<|.refl _
  .exact .cons₂ _ (a)
theorem AZ(l)(h:kN ks):kN<|kF l ks:=((Uh l ks).map _).nodup h
theorem zf(s:T+I+K<=w+5)(d:a<b)(o:w+8*b<=m):T+1+I+K+8*a<=m:=by rw[iZ T 1 I,iZ _ 1 K];exact f2 (iu (mj s) _)<|f2 (jh<|lZ w 6 _)<|f2 (iU (f2 (jh (pA 6 _)) (f2 (iU (by decide) _) (s7 8 d))) w) o
theorem z5(h:a<=b+n)(k:c<=d)(e:n<=5):a+c<=b+d+5:=f2 (j4 h k)<|f2 (jh<|iZ b n d)<|iU e _
theorem lW{z y:Z}(c:h5 z)(a:y.e=z.e)(hp:y.h=z.h)(l:kN y.A)(i:mC y.M y.a4)(s:y.I.length+y.a4.length+y.A.length<=z.I.length+z.a4.length+z.A.length+5)(b:0<n)(h:((y.G n).bE t).h<((y.G n).bE t).e.length):h5<|(y.G n).bE t:=by
 refine⟨l,i,?_,?_,?_,h⟩;.show(y.I++[t]).length+y.a4.length+y.A.length+8*(y.e.length - (y.h+n))<=9000;rw[a,hp,io];exact zf s (Nat.sub_lt_sub_left c.cy<|B5 b) c.dn
 .rw[a];exact c.cc
 .rw[a];exact c.cd
theorem A0(z:Z):z.a7.A.length<=z.A.length:=AB
theorem Ui(aN:h5 z)(A:Act z c o)(h:o.h<o.e.length):h5 o:=by
 refine l4 (rb z) λs1 s2 s3 L M N Q=>?_;haveI sl:=(G_ z aN g).1;haveI f:=(G_ z aN g).2.1;haveI i:z.aQ.I.length+z.aQ.a4.length+z.aQ.A.length<=z.I.length+z.a4.length+z.A.length+5:=by rw[L,N];exact f2 (iU M _)<|iU (by decide:1<=5) _
 haveI j:kN z.a7.A:=AZ _ aN.bt;haveI s:=A0 z;haveI m:z.a7.I.length+z.a7.a4.length+z.a7.A.length<=z.I.length+z.a4.length+z.A.length+5:=f2 (iU s _)<|iy _ 5;refine l4 (p7 z (-1)) λw T x B Y au av=>?_;haveI C:mC (z.a5 (-1)).M (z.a5 (-1)).a4:=by
  unfold Z.a5;split;.exact G2 _ _ _ _ _ aN.M
  .exact aN.M
 haveI us:=f2 (j4 (jh<|wt z (-1)) (by haveI:=A0<|z.a5 (-1);rw[w]at this;exact this))<|iy _ 5;haveI l:kN (z.a5 _).a7.A:=AZ _ (by rw[w];exact aN.bt);induction A with
 |f4=>exact lW (y:=z.aQ.bt _ H) aN s2 s1 sl f i (by apply hJ<;>right) h|mp=>exact lW (y:=z.aQ.bt _ H) aN s2 s1 sl f i (by apply hJ<;>right) h|f5=>exact lW (y:=z.a7.bt _ g) aN O O j aN.M m (by apply hJ<;>right) h|f6=>exact lW (y:=z.a7.bt _ g) aN O O j aN.M m (by apply hJ<;>right) h|f7=>exact lW (y:=(z.ab H).a7) aN O O j aN.M m (by apply hJ<;>right) h|ask=>exact lW (y:=(z.ab g).a7) aN O O j aN.M m (by apply hJ<;>right) h|fi=>
  haveI d:z.bF.e=z.e/\z.bF.h=z.h/\z.bF.A=z.A/\mC z.bF.M z.bF.a4/\z.bF.I.length+z.bF.a4.length<=z.I.length+z.a4.length+2:=by
   unfold Z.bF;split
   .unfold Z.bK Z.bE;split;.exact nH O O O aN.M (by simp;exact oe<|rT<|iU (lK (rT (iU (by decide) _))) _)
    .exact nH O O O aN.M (by simp;exact oc<|iU (by decide) _)
   .exact nH O O O aN.M (by apply lb<;>right)
  refine l3 d λd1 E r G I=>lW (y:=(z.bF.ab H).a7) aN d1 E (AZ _ (by rw[r];exact aN.bt)) G ?_ (by apply hJ<;>right) h;haveI:=A0<|z.bF.ab H;haveI:(z.bF.ab _).a7.A.length<=z.A.length:=by rw[<-r];exact this
  exact z5 I this (by decide)
 |@col k e a b c d=>
  refine l3 (G8 z k) λc1 c2 c3 p D=>?_;haveI q:mC (z.cf k).M (z.cf k).a4/\(z.cf k).a4.length<=z.a4.length+1:=by
   unfold Z.cf Z.bK Z.ce;split
   .dsimp only;split;.exact⟨aN.M,hJ _⟩
    .exact⟨aN.M,jo _⟩
   .exact⟨aN.M,jo _⟩
  refine lW (y:=(z.cf k).ab g) aN c2 c1 (by rw[p];exact j) q.1 ?_ (by apply hJ<;>right) h;exact z5 (f2 (j4 D q.2)<|jh<|congrArg _ (iZ _ 2 _)) (by rw[p];exact s) (by decide:3<=5)
 |f8=>exact lW (y:=z.ab g) aN O O aN.bt aN.M (iy _ _) (by apply hJ<;>right) h|dz=>exact lW (y:=z.aQ.ab g) aN s2 s1 sl f i (by apply lb<;>right) h|eX=>exact lW (y:=z.aQ.ab g) aN s2 s1 sl f i (by apply lb<;>right) h|eY=>exact lW (y:=z.aQ.ab g) aN s2 s1 sl f i (by apply lb<;>right) h|fj=>exact lW (y:=z.aQ.ab g) aN s2 s1 sl f i (by apply hD<;>right) h|@fk n t _ J=>exact lW (y:=z.aQ.ab J) aN s2 s1 sl f i (by apply hD<;>right) h|doc=>exact lW (y:=(z.a5 _).a7.ab g) aN x B l C us (by apply jM<;>right) h|f9=>exact lW (y:=(z.a5 _).a7.ab g) aN x B l C us (by apply jM<;>right) h
theorem Uj(c:h5 z)(F:o4 z a)(h:a.h<a.e.length):h5 a:=by obtain⟨d,hc,b,A⟩:=F;exact Ui (c.a8 d) A h
end
section
open PySem
section
variable{C:Nat->PC}(Y:Sys C){Q:AV->St->Prop}{X:hv->St->Prop}{d:Nat}
include Y
theorem Uk(z:Z)(a:z.A=[(j,k)])(b:hO z.e k.pos≠hO z.e z.h)(c:k.bi=H)(h:∀m,z.x.le m->X (ot AC (hy z.e k.pos) AD<|hy z.e z.h) (z.s m).o):C (d+2) 834 [g4] z.o Q X:=by
 refine Y.c O O ?_;left;haveI e:mM (λp:Int×AV=>AV.int p.1) (kZ z.e z.A)=z.A.map λq=>AV.int (q.1):=by rw[qx];rfl
 rw[e,GU,a];refine⟨gW.bT _ _,?_⟩;left;rw[sf,a,show iA j [(j,k)]=U k from if_pos O];left;rw[p3,decide_eq_false b];left;rw[c];exact i3 Y (z.s (z.x.add _)) _ _ (h _ (gW.le.add _ _))
theorem Ul(z)(l:h5 z)(n:iv z.e z.h a b)(hc:z.e[a]?=U c)(f:z.A=[(j,k)])(e:hO z.e k.pos≠hO z.e a)(i:k.bi=H)(h:∀m,z.x.le m->X (ot AC (hy z.e k.pos) AD<|hy z.e a) ((z.bl a b).s m).o):C (d+6) 820 [g4] z.o Q X:=Y.c O O<|Hj Y z l.cd l.cy n<|Uk Y (z.bl a b) f e i h
end
theorem HO(z:Z)(a)(b):(z.a8 a b).ask=(z.bl a b).ask:=(p7 ((z.bl a b).a3)<|g1 z.e a).2.2.2.2.2.1
theorem Um(n:h5 z)(o:iv z.e z.h a b)(hc:z.e[a]?=U c)(f:z.A=[(j,k)])(e:hO z.e k.pos≠hO z.e a)(l:k.bi=H):lT z (.be (hy z.e k.pos)<|hy z.e a):=by intro C Y d Q X w h;exact Ul Y _ (n.L w) o hc f e l λm i=>h _ _ _ i
theorem Un(n:h5 z)(o:iv z.e z.h a b)(hc:z.e[a]?=U 0)(c:z.A=[(0,k)])(hl:z.J=0)(i:hO z.e k.pos=hO z.e a)(l:k.bi=H):lT z (.be (hy z.e k.pos)<|hy z.e a):=by
 intro C Y d Q X w h;haveI fr:fresh z.e a (0,k)=true:=decide_eq_true i;refine sk Y _ (n.L w) o hc (by intro q f;rw[show(z.L w).A=_ from c]at f;cases iJ.mp f;intro e;exact iR (e.symm.trans fr)) λm j=>?_;rw[so,sr];haveI r:=wy z a b;haveI u:=p7 ((z.a8 a b).L<|w.s m) (-1);refine Hm Y _<|Y.c O O<|ws Y _ (by decide) ((n.a8 o).L<|w.s m).M (f2 ((n.a8 o).L<|w.s m).dW (by decide))<|Sb Y _ (k:=k) ?_ l ?_;.rw[u.1,u.2.1];show iA (z.a8 a b).J (z.a8 a b).A=_;rw[r.2.2.1,r.2.2.2.1,hl,c,Cg fr];rfl
 .rw[u.2.2.1,u.2.2.2.1];show X (ot _ (hy (z.a8 a b).e _) _<|hy (z.a8 a b).e (z.a8 a b).h) _;rw[r.1,r.2.1];refine h _ _ _ ?_;show w.x.le (((z.a8 a b).L<|w.s m).a5 (-1)).x;rw[u.2.2.2.2.1];exact j
theorem Uo(n:h5 z)(o:iv z.e z.h a b)(l:mV z a)(hc:z.e[a]?=U 45)(c:z.e[a+1]?=U e)(i:iF e)(j:z.J=0)(f:(z.bl a b).ask=g):lT z (.be .none<|hy z.e a):=by intro C Y d Q X w h;haveI r:=wy z a b;refine sk Y _ (n.L w) o hc l λm k=>?_;rw[so,sr];refine Hn Y _ (e:=e) (by show(z.a8 a b).e[(z.a8 a b).h]?=_;rw[r.1,r.2.1];exact hc) (by show(z.a8 a b).e[(z.a8 a b).h+1]?=_;rw[r.1,r.2.1];exact c) i<|Ss Y _ (r.2.2.1.trans j) ((HO z a b).trans f) ?_;show X (ot .none .none G6<|hy (z.a8 a b).e (z.a8 a b).h) _;rw[r.1,r.2.1];exact h _ _ _ k
theorem Up(n:h5 z)(o:iv z.e z.h a b)(c:z.A=[])(hc:z.e[a]?=U 58)(f:z.e[a+1]?=U e)(j:iF e)(k:z.J=0)(i:(z.bl a b).ask=g):lT z (.be .none<|hy z.e a):=by intro C Y d Q X w h;haveI r:=wy z a b;refine sk Y _ (n.L w) o hc (by show mV z a;intro q h;rw[c]at h;cases h) λm l=>?_;rw[so,sr];refine AL Y _ (e:=e) (by show(z.a8 a b).e[(z.a8 a b).h+1]?=_;rw[r.1,r.2.1];exact f) (.inr j)<|Sy Y _ (by show iA _ (z.a8 a b).A=V;rw[r.2.2.2.1,c];rfl) (r.2.2.1.trans k) ((HO z a b).trans i) ?_;show X (ot .none .none G7<|hy (z.a8 a b).e (z.a8 a b).h) _;rw[r.1,r.2.1];exact h _ _ _ l
theorem Uq(n:h5 z)(o:iv z.e z.h a b)(k:mV z a)(hc:z.e[a]?=U c)(f:c=9\/c=64)(i:z.e[a+1]?=U e):lT z (.be .none<|hy z.e a):=by intro C Y d Q X w h;haveI r:=wy z a b;refine sk Y _ (n.L w) o hc k λm j=>?_;rw[so,sr];refine Tj Y _ (e:=e) (by show(z.a8 a b).e[(z.a8 a b).h]?=_;rw[r.1,r.2.1];exact hc) f (by show(z.a8 a b).e[(z.a8 a b).h+1]?=_;rw[r.1,r.2.1];exact i) λt l=>?_;show X (ot Ho .none (.str t)<|hy (z.a8 a b).e (z.a8 a b).h) _;rw[r.1,r.2.1];exact h _ _ _ j
end
section
open PySem
set_option genCtorIdx true in
inductive Kd|z|d|aZ|i|k (b:Bool)
structure Th where
 i:Kd
 h:Nat
 Y:List Nat
noncomputable def iC:List Tk->TS->TS|[],T=>T|t::l,T=>.cons t (iC l T)
theorem ov{b T}:∀a,iC (a++b) T=iC a (iC b T):=by intro a;induction a with|nil=>exact O|cons t l c=>exact congrArg (TS.cons t) c
structure Pn where
 v:List Nat
 h:Nat
 aS:Bool
noncomputable def mX(v:List Nat)(p:Nat):Tk:=.a0 v g (.str [39]) p (p+4)
noncomputable def uw(i:Int)(l:List Int)(p:Nat)(c:Int):Int×List Int×List Tk:=jA c (.p 227 p p) i l []
noncomputable def ad(q:Int×List Int×List Tk)(c:Int):Int×List Int:=if q.1<c then(c,q.1::q.2.1)else(q.1,q.2.1)
noncomputable def sg(q:Int×List Int×List Tk)(c:Int)(t:Tk):List Tk:=if q.1<c then[t]else[]
noncomputable def p'(q:Int×List Int×List Tk)(c:Int)(v:List Nat)(p:Nat):List Tk:=sg q c (.p 215 p p)++[.p 287 p p,.a0 v H .none p (p+2),.p 299 (p+2) (p+3)]
noncomputable def nS(q:Int×List Int×List Tk)(c:Int)(p:Nat):List Tk:=sg q c (.p 203 p p)++[.p 311 p (p+1)]
noncomputable def hC(B:List Nat):Option Pn->Int->List Int->List Th->TS|_,_,_,[]=>.nil|n,i,l,t::r=>let c:Int:=g1 B t.h;let q:=uw i l t.h c;let T:TS:=Kd.rec (motive:=λ_=>TS) (.be .none (hy B t.h)) (iC (uw i l t.h (-1)).2.2 (.cons (.p 191 t.h t.h) .nil)) (iC q.2.2 (iC (nS q c t.h) (hC B V (ad q c).1 (ad q c).2 r))) (iC q.2.2 (iC (p' q c t.Y t.h) (hC B V (ad q c).1 (ad q c).2 r))) (λb=>iC q.2.2 (bif b then hC B (U ⟨t.Y,t.h,decide (q.1=c)⟩) q.1 q.2.1 r else .cons (mX t.Y t.h) (hC B V q.1 q.2.1 r))) t.i;match n with|V=>T|U n=>bif n.aS then .be (hy B n.h) (hy B t.h)else Kd.rec (motive:=λ_=>TS) T (.cons (mX n.v n.h) T) (.cons (mX n.v n.h) T) (.cons (mX n.v n.h) T) (λ_=>.cons (mX n.v n.h) T) t.i
inductive Txt (B:List Nat):Nat->Bool->List Th->Prop|d {q p:Nat} {a b:Bool} {v:List Nat}:iv B q p b->B[p]?=U 0->Txt B q a [⟨.d,p,v⟩]|aZ {q p e:Nat} {a b:Bool} {v:List Nat} {r:List Th}:iv B q p b->(b&&H||a)=H->B[p]?=U 45->B[p+1]?=U e->iF e->Txt B (p+1) H r->Txt B q a (⟨.aZ,p,v⟩::r)|i {q p c e:Nat} {a b:Bool} {r:List Th}:iv B q p b->(b&&H||a)=H->B[p]?=U c->97<=c/\c<=122->Wd B p 2->B[p+2]?=U 58->B[p+3]?=U e->iF e->Txt B (p+3) g r->Txt B q a (⟨.i,p,(B.drop p).take 2⟩::r)|k {q p e:Nat} {a b y:Bool} {r:List Th}:iv B q p b->(b&&H||a)=y->B[p]?=U 39->Wd B (p+1) 2->B[p+3]?=U 39->B[p+4]?=U e->e≠39->(∀t s,y=H->r=t::s->t.i=.d\/hO B (p+4)≠hO B t.h)->Txt B (p+4) g r->Txt B q a (⟨.k y,p,(B.drop (p+1)).take 2⟩::r)|g {q p c e:Nat} {a b:Bool} {v:List Nat} {r:List Th}:iv B q p b->B[p]?=U c->(c=9\/c=64)->B[p+1]?=U e->Txt B q a (⟨.z,p,v⟩::r)|ez {q p e:Nat} {a b:Bool} {v:List Nat} {r:List Th}:iv B q p b->(b&&H||a)=g->B[p]?=U 45->B[p+1]?=U e->iF e->Txt B q a (⟨.z,p,v⟩::r)|b0 {q p e:Nat} {a b:Bool} {v:List Nat} {r:List Th}:iv B q p b->(b&&H||a)=g->B[p]?=U 58->B[p+1]?=U e->iF e->Txt B q a (⟨.z,p,v⟩::r)
theorem wO(T:Txt B q a R):∃t r b c,R=t::r/\iv B q t.h b/\B[t.h]?=U c/\(t.i=.d->c=0):=by induction T with|d a b=>exact l5 _ _ _ _ O a b λ_=>rfl|aZ a _ b=>exact l5 _ _ _ _ O a b λh=>nomatch h|i a _ b=>exact l5 _ _ _ _ O a b λh=>nomatch h|k a _ b=>exact l5 _ _ _ _ O a b λh=>nomatch h|g a b=>exact l5 _ _ _ _ O a b λh=>nomatch h|ez a _ b=>exact l5 _ _ _ _ O a b λh=>nomatch h|b0 a _ b=>exact l5 _ _ _ _ O a b λh=>nomatch h
theorem Ur:∀{k},(∀i,i<k->B[p+i]?=U 32)->hO B (p+k)=hO B p:=by intro k;induction k with|zero=>exactλ_=>rfl|succ k d=>exactλh=>(sd (h k (kg k)) (by decide)).trans<|d λi c=>h i (pv c)
theorem Us(d:iv B q p b)(h:b=g):hO B p=hO B q:=by
 induction d with
 |here c=>exact Ur c|line=>cases h
 |cM=>cases h
theorem wP(c)(m):∀l i t,jA c m i l t=((jA c m i l []).1,(jA c m i l []).2.1,t++(jA c m i l []).2.2):=by
 intro l;induction l with|nil=>exactλi t=>by rw[show(jA c m i [] []).2.2=[]from O,j3];rfl|cons j r d=>
  intro i t;dsimp only[o3];split;.rw[d j (t++[m]),d j ([]++[m]),i8];rfl
  .rw[j3]
theorem Ut{c}{m}(h:e<=c):∀l i t,jA e m (jA c m i l t).1 (jA c m i l t).2.1 (jA c m i l t).2.2=jA e m i l t:=by
 intro l;induction l with|nil=>exactλi t=>rfl|cons j r d=>
  intro i t;dsimp only[o3];split;.rw[d,if_pos (xO h ‹_›)]
  .rfl
noncomputable def Z.a_(z:Z)(p:Nat)(al:List Tk)(n:Nat)(i:Int)(l:List Int)(a:Bool)(ks:kD):Z:={z with h:=p,J:=0,I:=al,bb:=n,M:=i,a4:=l,ask:=a,A:=ks}
variable{z:Z}{q p n:Nat}{al:List Tk}{i:Int}{l:List Int}{a b:Bool}{ks:kD}
theorem uv:(z.a_ q al n i l a ks).a8 p b=z.a_ p (al++(uw i l p (g1 z.e p)).2.2) n (uw i l p (g1 z.e p)).1 (uw i l p (g1 z.e p)).2.1 (b&&H||a) (ks.filter<|fresh z.e p):=by show z.a_ p (jA _ _ i l al).2.2 n (jA _ _ i l al).1 (jA _ _ i l al).2.1 (b&&H||a) (ks.filter<|fresh z.e p)=_;rw[wP _ _ _ _ al];rfl
theorem Uu:(z.a_ p al n i l a []).er=z.a_ (p+1) (al++nS (i,l,[]) (g1 z.e p) p) n (ad (i,l,[]) (g1 z.e p)).1 (ad (i,l,[]) (g1 z.e p)).2 H []:=by
 unfold Z.er Z.bF nS sg ad;by_cases h:i<g1 z.e p;.rw[if_pos (show(z.a_ p al n i l a []).J=0/\(z.a_ p al n i l a []).M<_ from⟨rfl,h⟩),if_pos h,if_pos h];unfold Z.bK;rw[if_pos (show(z.a_ p al n i l a []).M<_ from h)];show z.a_ (p+1) (al++[_]++[_]) n _ _ H []=_;rw[i8];rfl
 .rw[if_neg (show ¬((z.a_ p al n i l a []).J=0/\(z.a_ p al n i l a []).M<_)fromλq=>h q.2),if_neg h,if_neg h];rfl
theorem Uv{t:Tk}{y m}:(z.a_ p [t] n i l a [(0,⟨n,y,m⟩)]).dY ⟨n,y,m⟩=z.a_ (p+1) (sg (i,l,[]) (g1 z.e m) (.p 215 m m)++[.p 287 m m,t,.p 299 p (p+1)]) n (ad (i,l,[]) (g1 z.e m)).1 (ad (i,l,[]) (g1 z.e m)).2 g []:=by
 have e:(⟨n,y,m⟩:SK).num - (z.a_ p [t] n i l a [(0,⟨n,y,m⟩)]).bb=0:=yr _;unfold Z.dY Z.cf Z.ce sg ad;rw[e];by_cases h:i<g1 z.e m;.rw[if_pos (show(z.a_ p [t] n i l a [(0,⟨n,y,m⟩)]).J=0/\(z.a_ p [t] n i l a [(0,⟨n,y,m⟩)]).M<_ from⟨rfl,h⟩),if_pos h,if_pos h];unfold Z.bK;rw[if_pos (by exact h)];rfl
 .rw[if_neg (show ¬((z.a_ p [t] n i l a [(0,⟨n,y,m⟩)]).J=0/\(z.a_ p [t] n i l a [(0,⟨n,y,m⟩)]).M<_)fromλq=>h q.2),if_neg h,if_neg h];rfl
end
section
open PySem
inductive o8 (z:Z):Prop|nil:z.I=[]->o8 z|eZ {t:Tk} {k:SK}:z.I=[t]->z.A=[(0,k)]->hO z.e k.pos=hO z.e z.h->k.num=z.bb->o8 z
theorem HP{z:Z}(h:∀q∈z.A,hO z.e q.2.pos=hO z.e z.h):z.a3=z/\mV z z.h:=by have e:∀q∈z.A,fresh z.e z.h q=true:=λq a=>decide_eq_true (h q a);refine⟨?_,λq a f=>iR<|f.symm.trans (e q a)⟩;unfold Z.a3;rw[JO.mpr e]
theorem A1(R:o8 z){P:Prop}(a:z.I=[]->P)(b:∀t,z.I=[t]->mV z z.h->k4 V z.a3.A=U z.bb->z.a3=z->P):P:=by induction R with|nil h=>exact a h|eZ h k f n=>have e:=HP (z:=z) (by rw[k];intro q c;cases iJ.mp c;exact f);exact b _ h e.2 (by rw[e.1,k,<-n];rfl) e.1
noncomputable def Nn:TS->Prop| .nil=>False|_=>True
theorem Uw(R:o8 z)(j:h5 z)(D:lT z (.ok f))(i:f.e=z.e)(h:Nn T)(k:j0 T f g):j0 T z false:=by
 have up:∀{o},kP f o->kP z o:=λk=>A1 R (λh=>.fl h D k) λt h s n e=>.fm j h s n (by rw[e];exact D) k;induction T with|nil=>exact h.elim|be=>exact⟨rfl,up k.2⟩|cons t r=>
  rcases k with⟨y,l,a,b,c,d⟩|⟨y,l,a,b,c,d⟩
  .exact .inl ⟨y,l,up a,b.trans i,c,d⟩
  .exact .inr ⟨y,l,up a,b.trans i,c,d⟩
theorem uA(R:o8 z)(c:h5 z)(D:lT z (.be a b)):j0 (.be a b) z false:=⟨rfl,A1 R (λh=>.fq h D) λt h s n e=>.fs c h s n (by rw[e];exact D)⟩
theorem Ux:∀l z,z.I=l->j0 (iC l .nil) z true:=by intro l;induction l with|nil=>exactλ_ _=>trivial|cons t l a=>exactλz h=>⟨l,h,a _ O⟩
theorem Uy(R:o8 z)(d:h5 z)(D:lT z (.done a))(b:a.e=z.e):∀l,a.I=l->j0 (iC l .nil) z false:=by intro l;induction l with|nil=>exactλ_=>trivial|cons t l=>exactλc=>.inr ⟨a,l,A1 R (λh=>.fo h D) λt h s n e=>.fp d h s n (by rw[e];exact D),b,c,Ux _ _ O⟩
theorem Uz(a:h5 z)(h:z.I=t::l):h5 (z.dB l):=⟨a.bt,a.M,f2 (iu (iu (iu (by rw[h];exact jo _) _) _) _) a.dn,a.cc,a.cd,a.cy⟩
noncomputable def Z.dD(z:Z)(l:List Tk)(n:Nat):Z:={z with I:=l,bb:=z.bb+n}
theorem HQ{T:TS}{l1:List Tk}:∀l (z:Z),h5 z->z.I=l++l1->(∀q∈z.A,hO z.e q.2.pos=hO z.e z.h)->(z.A=[]\/∃k,z.A=[(0,k)]/\z.bb+l.length<=k.num)->(h5 (z.dD l1 l.length)->j0 T (z.dD l1 l.length) g)->j0 (iC l T) z false:=by
 intro l;induction l with
 |nil=>
  intro z j h f k m;have e:z.dD l1 0=z:=by unfold Z.dD;rw[show l1=z.I from h.symm];rfl
  haveI a:=m;dsimp only[Ch]at a;rw[e]at a;exact a j
 |cons t l i=>
  intro z j h f k m;have e:=HP f;have d:((z.dB (l++l1)).dD l1 l.length)=z.dD l1 (l.length+1):=by unfold Z.dD Z.dB;rw[lZ,pA 1]
  refine .inl ⟨z,l++l1,?_,rfl,h,i (z.dB (l++l1)) (Uz j h) O f ?_ (by rw[d];exact m)⟩
  .have:kP z (.ok z.a3):=.now j h e.2 (by
    rw[e.1]
    rcases k with k|⟨k,b,c⟩
    .rw[k];exactλq=>nomatch q
    .rw[b];exactλq=>absurd (ia q:k.num=_) (iP (hD (B5 (rG _)) c)))
   rw[e.1]at this
   exact this
  .rcases k with k|⟨k,b,c⟩
   .exact .inl k
   .exact .inr ⟨k,b,f2 (jh (by show z.bb+1+l.length=z.bb+(l.length+1);rw[lZ,pA 1])) c⟩
theorem qa{T}(h:Nn T):∀l,Nn (iC l T):=by intro l;induction l with|nil=>exact h|cons=>exact trivial
theorem uB{T}{l l1:List Tk}(R:o8 z)(f:h5 z)(F:o4 z a)(hp:a.h<a.e.length)(b:a.e=z.e)(h:Nn T)(e:a.I=l++l1)(c:∀q∈a.A,hO a.e q.2.pos=hO a.e a.h)(d:a.A=[]\/∃k,a.A=[(0,k)]/\a.bb+l.length<=k.num)(i:h5 (a.dD l1 l.length)->j0 T (a.dD l1 l.length) g):j0 (iC l T) z false:=Uw R f (Tv f F) b (qa h l)<|HQ l a (Uj f F hp) e c d i
end
section
open PySem
variable{z:Z}{q p n:Nat}{al:List Tk}{i:Int}{l:List Int}{a b:Bool}{ks:kD}
noncomputable abbrev uq(B:List Nat)(i:Int)(l:List Int)(p:Nat):=uw i l p (g1 B p)
theorem A2{z:Z}(h:z.A=[]):NR z:=λk q=>by rw[h]at q;cases q
theorem UA(o:iv z.e q p b)(k:∀x∈ks,x.2.bi=g)(j:ks.filter (fresh z.e p)=[])(f:(b&&H||a)=H)(c:z.e[p]?=U 45)(d:z.e[p+1]?=U e)(h:iF e):o4 (z.a_ q al n i l a ks) (z.a_ (p+1) (al++((uq z.e i l p).2.2++nS (uq z.e i l p) (g1 z.e p) p)) n (ad (uq z.e i l p) (g1 z.e p)).1 (ad (uq z.e i l p) (g1 z.e p)).2 H []):=by have A:=uv (z:=z) (q:=q) (al:=al) (n:=n) (i:=i) (l:=l) (a:=a) (b:=b) (ks:=ks) (p:=p);rw[j,f]at A;refine .mk o c (λx m _=>k x m) ?_;rw[A,<-i8];have D:=Act.fi (z:=z.a_ p (al++(uq z.e i l p).2.2) n (uq z.e i l p).1 (uq z.e i l p).2.1 H []) (λ_=>rfl) (A2 O) c d h;rw[Uu]at D;exact D
theorem UB(s:iv z.e q p b)(o:∀x∈ks,x.2.bi=g)(m:ks.filter (fresh z.e p)=[])(j:(b&&H||a)=H)(d:z.e[p]?=U c)(hc:97<=c/\c<=122)(w:Wd z.e p 2)(f:z.e[p+2]?=U 58)(h:z.e[p+3]?=U e)(k:iF e):o4 (z.a_ q al n i l a ks) (z.a_ (p+2) ((al++(uq z.e i l p).2.2)++[.a0 ((z.e.drop p).take 2) H .none p (p+2)]) n (uq z.e i l p).1 (uq z.e i l p).2.1 g [(0,⟨n+(al++(uq z.e i l p).2.2).length,decide ((uq z.e i l p).1=g1 z.e p),p⟩)]):=by have A:=uv (z:=z) (q:=q) (al:=al) (n:=n) (i:=i) (l:=l) (a:=a) (b:=b) (ks:=ks) (p:=p);rw[m,j]at A;refine .mk s d (λx r _=>o x r) ?_;rw[A];exact Act.fk (z:=z.a_ p (al++(uq z.e i l p).2.2) n (uq z.e i l p).1 (uq z.e i l p).2.1 H []) (A2 O) (by decide) (by decide) d hc w (.dZ f h k)
theorem UC(r:iv z.e q p b)(m:∀x∈ks,x.2.bi=g)(k:ks.filter (fresh z.e p)=[])(h:(b&&H||a)=y)(c:z.e[p]?=U 39)(w:Wd z.e (p+1) 2)(d:z.e[p+3]?=U 39)(f:z.e[p+4]?=U e)(j:e≠39):o4 (z.a_ q al n i l a ks) (z.a_ (p+4) ((al++(uq z.e i l p).2.2)++[mX ((z.e.drop (p+1)).take 2) p]) n (uq z.e i l p).1 (uq z.e i l p).2.1 g (bif y then[(0,⟨n+(al++(uq z.e i l p).2.2).length,decide ((uq z.e i l p).1=g1 z.e p),p⟩)]else[])):=by
 have A:=uv (z:=z) (q:=q) (al:=al) (n:=n) (i:=i) (l:=l) (a:=a) (b:=b) (ks:=ks) (p:=p);rw[k,h]at A;refine .mk r c (λx o _=>m x o) ?_;rw[A];have D:=Act.fj (z:=z.a_ p (al++(uq z.e i l p).2.2) n (uq z.e i l p).1 (uq z.e i l p).2.1 y []) (A2 O) (by decide) (by decide) c w d f j;induction y;.exact D
 .exact D
theorem A3(h:¬c<i):uw i l p c=(i,l,[]):=by induction l with|nil=>exact O|cons j r=>show jA _ _ _ _ _=_;dsimp only[o3];rw[if_neg h]
theorem UD{t:Tk}(o:¬(g1 z.e p:Int)<i)(hl:hO z.e m=hO z.e p)(c:z.e[p]?=U 58)(d:z.e[p+1]?=U e)(j:iF e):o4 (z.a_ p [t] n i l g [(0,⟨n,y,m⟩)]) (z.a_ (p+1) (sg (i,l,[]) (g1 z.e m) (.p 215 m m)++[.p 287 m m,t,.p 299 p (p+1)]) n (ad (i,l,[]) (g1 z.e m)).1 (ad (i,l,[]) (g1 z.e m)).2 g []):=by
 have fr:fresh z.e p (0,(⟨n,y,m⟩:SK))=true:=decide_eq_true hl;have A:=uv (z:=z) (q:=p) (al:=[t]) (n:=n) (i:=i) (l:=l) (a:=g) (b:=g) (ks:=[(0,⟨n,y,m⟩)]) (p:=p);rw[Cg fr,A3 o]at A;refine .mk (.here (k:=0) (λ_ h=>absurd h (rK _)) c (by decide)) c (λx r f=>?_) ?_;.cases iJ.mp r;exact iR (f.symm.trans fr)
 rw[show(z.a_ p [t] n i l g [(0,⟨n,y,m⟩)]).a8 (p+0) g=z.a_ p [t] n i l g [(0,⟨n,y,m⟩)]from A,<-Uv (a:=g)];exact .col O ⟨hJ _,by show n - n<=1;rw[yr];decide⟩ d (.inr j)
theorem UE(r:iv z.e q p b)(h:∀x∈ks,x.2.bi=g)(j:z.e[p]?=U 0):∃f,wN (z.a_ q al n i l a ks) f/\f.e=z.e/\f.I=al++((uw i l p (-1)).2.2++[.p 191 p p]):=by
 have A:=uv (z:=z) (q:=q) (al:=al) (n:=n) (i:=i) (l:=l) (a:=a) (b:=b) (ks:=ks) (p:=p);refine ve _ (.mk r j (λx d _=>h x d) ?_) ?_ ?_;.rw[A];intro k o;exact g6 (Ue o) λx d e=>e▸h x (B_.mp d).1
 .rw[A];rfl
 .rw[A];show(jA (-1) (.p 227 p p) (uq z.e i l p).1 (uq z.e i l p).2.1 (al++(uq z.e i l p).2.2)).2.2++[_]=_;rw[wP,i8,i8,<-i8 _ _ [_]];congr 2;have:=Ut (c:=g1 z.e p) (m:=.p 227 p p) (e:= -1) (pu (by decide) (j9 _)) l i [];rw[wP]at this;exact congrArg (·.2.2) this
end
section
open PySem
noncomputable def lX:Option Pn->List Tk|V=>[]|U m=>[mX m.v m.h]
noncomputable def mY(n:Nat):Option Pn->kD|V=>[]|U m=>[(0,⟨n,m.aS,m.h⟩)]
theorem HR{m:Pn}(h:m.aS=g)(a:t.i≠ .z):hC B (U m) i l (t::r)=iC (lX (U m)) (hC B V i l (t::r)):=by
 show(bif m.aS then _ else _)=_;rw[h];obtain⟨k,p,v⟩:=t;induction k;.exact absurd O a
 .exact O
 .exact O
 .exact O
 .exact O
theorem HS:Nn (hC B (U m) i l (t::r)):=by
 show Nn (bif m.aS then _ else _);induction m.aS;.obtain⟨k,p,v⟩:=t;induction k<;>exact trivial
 .exact trivial
theorem wQ(T:Txt B q a R):Nn (hC B V i l R):=by
 induction T with
 |d=>exact qa (by exact trivial) _|aZ=>exact qa (by unfold nS;rw[ov];exact qa (by exact trivial) _) _|i=>exact qa (by unfold p';rw[ov];exact qa (by exact trivial) _) _|@k q p e a b y r n h c w d f j k T m=>refine qa ?_ _;induction y with|false=>exact trivial|true=>obtain⟨t,s,_,_,rfl,_⟩:=wO T;exact HS
 |g=>exact trivial|ez=>exact trivial|b0=>exact trivial
theorem UF{z:Z}{m:Pn}(x:h5 (z.a_ q (lX (U m)) n i l a (mY n (U m))))(d:m.aS=H)(hl:hO z.e m.h=hO z.e q)(T:Txt z.e q a R)(w:∀t s,R=t::s->t.i=.d\/hO z.e q≠hO z.e t.h):j0 (hC z.e (U m) i l R) (z.a_ q (lX (U m)) n i l a (mY n (U m))) false:=by
 exists o;obtain⟨t,r,b,c,rfl,y,hc,p⟩:=wO T;have R:o8 (z.a_ q (lX (U m)) n i l a (mY n (U m))):=.eZ O O hl O;refine o ?_;show j0 (bif m.aS then .be (hy z.e m.h) (hy z.e t.h)else _) _ _;rw[d];by_cases e:hO z.e m.h=hO z.e t.h;.have f:c=0:=p ((w t r O).resolve_right λh=>h (hl.symm.trans e));subst f;exact uA R x (Un (z:=z.a_ q (lX (U m)) n i l a (mY n (U m))) (k:=⟨n,m.aS,m.h⟩) x y hc O O e d)
 .exact uA R x (Um (z:=z.a_ q (lX (U m)) n i l a (mY n (U m))) (k:=⟨n,m.aS,m.h⟩) (j:=0) x y hc O e d)
theorem wR(w:Wd B p 2):hO B (p+2)=hO B p/\g1 B (p+2)=g1 B p+2:=by
 refine g6 (w 0 (by decide)) λc h hc=>g6 (w 1 (by decide)) λd k hd=>⟨?_,?_⟩;.exact(sd k (by rintro rfl;exact absurd hd.1 (by decide))).trans<|sd h (by rintro rfl;exact absurd hc.1 (by decide))
 .exact(ug k (by rintro rfl;exact absurd hd.1 (by decide))).trans<|congrArg (· +1)<|ug h (by rintro rfl;exact absurd hc.1 (by decide))
theorem UG(h: -1<=c):∀l i t,mC i l->(jA c m i l t).1<=c:=by
 intro l;induction l with|nil=>exactλi t e=>(show i= -1 from e)▸h|cons j r a=>
  intro i t e;dsimp only[o3];split;.exact a _ _ e
  .exact oK.mp ‹_›
theorem UH{z:Z}(T:Txt z.e q a R):∀n i l (d:Option Pn),h5 (z.a_ q (lX d) n i l a (mY n d))->(∀m,d=U m->hO z.e m.h=hO z.e q/\∀t s,R=t::s->t.i=.d\/hO z.e q≠hO z.e t.h)->j0 (hC z.e d i l R) (z.a_ q (lX d) n i l a (mY n d)) false:=by
 have rd:∀{q a n i l} {d:Option Pn} {R:List Th},(∀m,d=U m->hO z.e m.h=hO z.e q/\∀t s,R=t::s->t.i=.d\/hO z.e q≠hO z.e t.h)->o8 (z.a_ q (lX d) n i l a (mY n d)):=by intro q a n i l d R h;induction d with|none=>exact .nil O|some m=>exact .eZ O O (h m O).1 O
 have fl:∀{q n} {d:Option Pn} {t:Th} {r:List Th},t.i≠ .d->(∀m,d=U m->hO z.e m.h=hO z.e q/\∀aN s,t::r=aN::s->aN.i=.d\/hO z.e q≠hO z.e aN.h)->(mY n d).filter (fresh z.e t.h)=[]:=by intro q n d t r av h;induction d with|none=>exact O|some m=>have:=(h m O).2 _ _ O;refine JQ ?_;intro f;exact(this.resolve_left av) ((h m O).1.symm.trans (of_decide_eq_true f))
 have Q:∀{n} {d:Option Pn},(∀m,d=U m->m.aS=g)->∀x∈mY n d,x.2.bi=false:=by intro n d h;induction d with|none=>exactλx J=>nomatch J|some m=>intro x J;cases iJ.mp J;exact h m O
 have au:∀{d:Option Pn} {i l} {t:Th} {r:List Th},(∀m,d=U m->m.aS=g)->t.i≠ .z->hC z.e d i l (t::r)=iC (lX d) (hC z.e V i l (t::r)):=by intro d i l t r h av;induction d with|none=>exact O|some m=>exact HR (h m O) av
 have tx:∀{d:Option Pn} {i l} {p v} {r:List Th},(∀m,d=U m->m.aS=g)->hC z.e d i l (⟨.z,p,v⟩::r)=.be .none (hy z.e p):=by intro d i l p v r h;induction d with|none=>exact O|some m=>show(bif m.aS then _ else _)=_;rw[h m O];rfl
 have L:∀{q a n i l R} {d:Option Pn},Txt z.e q a R->h5 (z.a_ q (lX d) n i l a (mY n d))->(∀m,d=U m->hO z.e m.h=hO z.e q/\∀t s,R=t::s->t.i=.d\/hO z.e q≠hO z.e t.h)->((∀m,d=U m->m.aS=g)->j0 (hC z.e d i l R) (z.a_ q (lX d) n i l a (mY n d)) g)->j0 (hC z.e d i l R) (z.a_ q (lX d) n i l a (mY n d)) false:=by
  intro q a n i l R d T aT h k;induction d with|none=>exact k λm h=>nomatch h|some m=>
   induction j:m.aS with
   |false=>exact k λm' h=>by cases h;exact j
   |true=>exact UF aT j (h m O).1 T (h m O).2
 have Y:∀{p c},z.e[p]?=U c->p<z.e.length:=λh=>(jq.mp h).1;induction T with
 |@d q p a b v aU o=>refineλn i l d aT h=>L (.d aU o) aT h λj=>?_;rw[au (t:=⟨.d,p,v⟩) j λh=>nomatch h];exists aP;obtain⟨aS,F,aQ,ht⟩:=UE (n:=n) (al:=lX d) (i:=i) (l:=l) (a:=a) aU (Q (n:=n) j) o;have:=Uy (rd h) aT (Ug aT F) aQ _ ht;rw[ov,ov]at this;exact aP this
 |@g q p c e a b v r aU o hc C=>refineλn i l d aT h=>L (.g aU o hc C) aT h λj=>?_;rw[tx j];exact uA (rd h) aT (Uq aT aU (λx J _=>Q j x J) o hc C)|@ez q p e a b v r aU A o C B=>refineλn i l d aT h=>L (.ez aU A o C B) aT h λj=>?_;rw[tx j];exact uA (rd h) aT (Uo aT aU (λx J _=>Q j x J) o C B O A)|@b0 q p e a b v r aU A o C B=>refineλn i l d aT h=>L (.b0 aU A o C B) aT h λj=>?_;rw[tx j];refine uA (rd h) aT (Up aT aU ?_ o C B O A);induction d with|none=>exact O|some m=>have:=(h m O).2 _ _ O;exact absurd (Us aU (by induction b;rfl;cases A)).symm (this.resolve_left λh=>nomatch h)
 |@aZ q p e a b v r aU A o C B T N=>refineλn i l d aT h=>L (.aZ aU A o C B T) aT h λj=>?_;rw[au (t:=⟨.aZ,p,v⟩) j λh=>nomatch h];show j0 (iC _ (iC (uq z.e i l p).2.2 (iC (nS (uq z.e i l p) (g1 z.e p) p) (hC z.e V (ad (uq z.e i l p) (g1 z.e p)).1 (ad (uq z.e i l p) (g1 z.e p)).2 r)))) _ _;rw[<-ov,<-ov,i8];exact uB (l1:=[]) (rd h) aT (UA aU (Q j) (fl (t:=⟨.aZ,p,v⟩) (λh=>nomatch h) h) A o C B) (Y C) O (wQ T) (j3 _).symm (λq G=>nomatch G) (.inl O) λD=>N _ _ _ V D λm h=>nomatch h|@i q p c e a b r aU A o hc w I E B T N=>refineλn i l d aT h=>L (.i aU A o hc w I E B T) aT h λj=>?_;rw[au (t:=⟨.i,p,_⟩) j λh=>nomatch h];show j0 (iC _ (iC (uq z.e i l p).2.2 (iC (p' (uq z.e i l p) (g1 z.e p) _ p) (hC z.e V (ad (uq z.e i l p) (g1 z.e p)).1 (ad (uq z.e i l p) (g1 z.e p)).2 r)))) _ _;rw[<-ov];have M:=(wR w).1.symm;refine uB (l1:=[_]) (rd h) aT (UB aU (Q j) (fl (t:=⟨.i,p,(z.e.drop p).take 2⟩) (λh=>nomatch h) h) A o hc w I E B) (Y I) O (qa (wQ T) _) O (λq G=>by cases iJ.mp G;exact M) (.inr ⟨_,rfl,hJ _⟩) λD=>?_;refine uB (l1:=[]) (.eZ O O M O) D (UD (n:=n+(lX d++(uq z.e i l p).2.2).length) (l:=(uq z.e i l p).2.1) (i:=(uq z.e i l p).1) (m:=p) (t:=.a0 ((z.e.drop p).take 2) H .none p (p+2)) ?_ M I E B) (Y E) O (wQ T) (j3 _).symm (λq G=>nomatch G) (.inl O) λD=>N _ _ _ V D λm h=>nomatch h;rw[(wR w).2];exactλh=>oK.mpr (UG (m:=.p 227 p p) (c:=g1 z.e p) (pu (by decide) (j9 _)) l i [] aT.M) (xO (rF.mpr (iy _ 2)) h)|@k q p e a b y r aU A o w I E B aO T N=>
  refineλn i l d aT h=>L (.k aU A o w I E B aO T) aT h λj=>?_;rw[au (t:=⟨.k y,p,_⟩) j λh=>nomatch h];have M:hO z.e p=hO z.e (p+4):=((sd (p:=p+3) I (by decide)).trans<|(wR w).1.trans<|sd o (by decide)).symm;have F:=UC (al:=lX d) (n:=n) (i:=i) (l:=l) (a:=a) aU (Q (n:=n) j) (fl (t:=⟨.k y,p,(z.e.drop (p+1)).take 2⟩) (λh=>nomatch h) h) A o w I E B;show j0 (iC _ (iC (uq z.e i l p).2.2 (bif y then hC z.e (U ⟨_,p,decide ((uq z.e i l p).1=g1 z.e p)⟩) (uq z.e i l p).1 (uq z.e i l p).2.1 r else .cons (mX _ p) (hC z.e V (uq z.e i l p).1 (uq z.e i l p).2.1 r)))) _ _;clear A;induction y with
  |true=>
   rw[<-ov];refine uB (l1:=[_]) (rd h) aT F (Y E) O ?_ rfl (λq G=>by cases iJ.mp G;exact M) (.inr ⟨_,rfl,hJ _⟩) λD=>N _ _ _ (U ⟨_,p,_⟩) D λm aR=>?_;.obtain⟨t,s,_,_,rfl,_⟩:=wO T;exact HS
   .cases aR;exact⟨M,λt s=>aO t s O⟩
  |false=>rw[<-ov];show j0 (iC _ (iC [_] _)) _ _;rw[<-ov];exact uB (l1:=[]) (rd h) aT F (Y E) O (wQ T) (j3 _).symm (λq G=>nomatch G) (.inl O) λD=>N _ _ _ V D λm h=>nomatch h
end
section
set_option maxHeartbeats 1000000
open PySem
theorem UI:Gives 17 1347 [] (.be a b) w (.cY a b):=λY _ _ _ _ _ A h=>Y.c O O<|rc Y A h
theorem UJ:Gives 17 1361 [] (.be a b) w (.cY a b):=λY _ _ _ _ _ A h=>Y.c O O<|TD Y A h
theorem UK:Gives 17 1418 [] (.be a b) w (.cY a b):=λY _ _ _ _ _ A h=>Y.c O O<|rc Y A h
theorem UL:Gives 17 1425 [] (.be a b) w (.cY a b):=λY _ _ _ _ _ A h=>Y.c O O<|rc Y A h
theorem UM:Gives 17 1439 [] (.be a b) w (.cY a b):=λY _ _ _ _ _ A h=>Y.c O O<|rc Y A h
theorem UN:Gives 17 1418 [] (.cons (.p 311 a b)<|.be c d) w (.cY c d):=λY _ _ _ _ _ A h=>Y.c O O<|ie Y (b:=H) A O O λst A=>j1 Y A λst A=>rc Y A h
theorem UO:Gives 17 1425 [] (.cons (.p 311 a b)<|.be c d) w (.cY c d):=λY _ _ _ _ _ A h=>Y.c O O<|ie Y (b:=H) A O O λst A=>j1 Y A λst A=>rc Y A h
theorem UP:Gives 17 1446 [] (.cons (.p 299 a b)<|.be c d) w (.cY c d):=λY _ _ _ _ _ A h=>Y.c O O<|ie Y (b:=H) A O O λst A=>j1 Y A λst A=>rc Y A h
noncomputable abbrev UQ:List Nat:=[101,120,112,101,99,116,101,100,32,39,60,100,111,99,117,109,101,110,116,32,115,116,97,114,116,62,39,44,32,98,117,116,32,102,111,117,110,100,32,37,114]
theorem UR:∀i∈o6,gY.dF UQ i=true:=by decide+kernel
theorem US(aM:t.Good)(e:hm t.aT wH=g)(c:hm t.aT wI=g)(f:hm t.aT un=g)(i:hm t.aT wG=g)(j:t.aT∈o6):Gives 17 1354 [] (.cons t r) w<|.da .none<|hy w.e t.bU:=by intro C Y d Q X m st A h;haveI k:=UR _ j;refine Y.c O O<|.turn (λa a=>False) (λa a x=>x.elim)<|ie Y (b:=g) A aM (by rw[jW,e]) λst A=>ie Y (b:=g) A aM (by rw[jW,c]) λst A=>lU Y A λst A=>?_;refine Hw<|T8 Y A aM f λst o A=>ie Y (b:=g) A aM (by rw[jW,i]) λst A=>lU Y A λst A=>?_;refine TC aM ?_;left;rw[k];refineλn c=>lU Y A λst A=>Hw ?_;obtain⟨z,m',l,pk,P⟩:=A;exact h _ _ _ _ _ P.bG
end
section
open PySem
structure Rf where
 k:Bool
 h:Nat
 aW:Option Nat
noncomputable def om(B:List Nat)(c:Option Nat):AV:=Option.rec .none (hy B) c
noncomputable def Rf.e0(B:List Nat)(x:Rf):PR:=bif x.k then .cY (om B x.aW) (hy B x.h)else .da (om B x.aW) (hy B x.h)
noncomputable abbrev cl(B:List Nat)(t:Th):Int:=g1 B t.h
noncomputable def k7(B:List Nat)(c:Int)(t:Th):List Th->Option Rf|[]=>V|u::_=>bif decide (cl B t=c)then U ⟨H,u.h,U t.h⟩else Kd.rec (U ⟨H,u.h,V⟩) V V V (λ_=>V) u.i
noncomputable def i0(B:List Nat)(c:Int):List Th->Option Rf|[]=>V|t::r=>Kd.rec (U ⟨H,t.h,V⟩) V V V (λy=>bif y&&decide (c<=cl B t)then k7 B c t r else V) t.i
noncomputable def ke(k:Kd):Bool:=Kd.rec g H g g (λ_=>g) k
noncomputable def j'(B:List Nat)(c:Int)(t:Th):Bool:=ke t.i||decide (cl B t<c)
noncomputable def ig(B:List Nat)(c:Int)(t:Th):Nat:=bif j' B c t then 0 else Kd.rec 9 0 (bif decide (cl B t=c)then 1 else 3) (bif decide (cl B t=c)then 2 else 4) (λ_=>5) t.i
inductive Wf (B:List Nat):List Th->Prop|z {p:Nat} {v:List Nat} {r:List Th}:Wf B (⟨.z,p,v⟩::r)|d {p:Nat} {v:List Nat} {r:List Th}:Wf B (⟨.d,p,v⟩::r)|aW {t:Th} {r:List Th}:Wf B r->(∀u s,(t.i=.i\/t.i=.aZ)->r=u::s->u.i=.k g->cl B t≠cl B u)->Wf B (t::r)
theorem sw{c l R}(h:i0 B c R=U x):hC B V c l R=.be (om B x.aW) (hy B x.h)/\x.k=true:=by
 induction R with|nil=>exact hu h|cons t r=>
  obtain⟨k,p,v⟩:=t;induction k with
  |z=>cases h;exact⟨rfl,rfl⟩
  |d=>exact hu h|aZ=>exact hu h|i=>exact hu h|k y=>
   induction y with|false=>exact hu h|true=>
    exists b;by_cases q:c<=g1 B p
    .have h':(bif decide (c<=g1 B p)then k7 B c ⟨.k H,p,v⟩ r else V)=U x:=h;rw[decide_eq_true q]at h';have e:=A3 (l:=l) (p:=p) (oK.mpr q);have aM:hC B V c l (⟨.k H,p,v⟩::r)=hC B (U ⟨v,p,decide (c=g1 B p)⟩) c l r:=by show iC (uw c l p (g1 B p)).2.2 (hC B (U ⟨v,p,decide ((uw c l p (g1 B p)).1=g1 B p)⟩) (uw c l p (g1 B p)).1 (uw c l p (g1 B p)).2.1 r)=_;rw[e];rfl
     refine b ?_;rw[aM];clear b e aM h;induction r with|nil=>exact hu h'|cons u s=>
      show(bif decide (c=g1 B p)then TS.be (hy B p) (hy B u.h)else _)=_/\_;have a:(bif decide ((g1 B p:Int)=c)then U ⟨H,u.h,U p⟩else Kd.rec (motive:=λ_=>Option Rf) (U ⟨H,u.h,V⟩) V V V (λ_=>V) u.i)=U x:=h';by_cases e:(g1 B p:Int)=c;.rw[decide_eq_true e]at a;rw[decide_eq_true e.symm];cases a;exact⟨rfl,rfl⟩
      .rw[decide_eq_false e]at a;rw[decide_eq_false λq=>e q.symm];obtain⟨k,p,v⟩:=u;induction k with
       |z=>cases a;exact⟨rfl,rfl⟩
       |d=>exact hu a|aZ=>exact hu a|i=>exact hu a|k=>exact hu a
    .have h':(bif decide (c<=g1 B p)then k7 B c ⟨.k H,p,v⟩ r else V)=U x:=h;rw[decide_eq_false q]at h';exact hu h'
inductive Vw (B:List Nat)(c:Int)(l:List Int)(t:Th)(r:List Th):Nat->TS->Prop|b0 {j:Int} {m:List Int}:l=j::m->Vw B c l t r 0 (.cons (.p 227 t.h t.h) (hC B V j m (t::r)))|aZ:Vw B c l t r 1 (.cons (.p 311 t.h (t.h+1)) (hC B V c l r))|i:Vw B c l t r 2 (.cons (.p 287 t.h t.h) (.cons (.a0 t.Y H .none t.h (t.h+2)) (.cons (.p 299 (t.h+2) (t.h+3)) (hC B V c l r))))|D:Vw B c l t r 3 (.cons (.p 203 t.h t.h) (.cons (.p 311 t.h (t.h+1)) (hC B V (cl B t) (c::l) r)))|K:Vw B c l t r 4 (.cons (.p 215 t.h t.h) (.cons (.p 287 t.h t.h) (.cons (.a0 t.Y H .none t.h (t.h+2)) (.cons (.p 299 (t.h+2) (t.h+3)) (hC B V (cl B t) (c::l) r)))))|k:Vw B c l t r 5 (.cons (mX t.Y t.h) (hC B V c l r))
theorem wS{c j:Int}{l}(h:e<c):uw c (j::l) p e=((uw j l p e).1,(uw j l p e).2.1,.p 227 p p::(uw j l p e).2.2):=by show jA _ _ _ _ _=_;dsimp only[o3];rw[if_pos h,wP];rfl
theorem UT{c j:Int}{l}(hc: -1<c)(h:j' B c t=H)(a:t.i≠ .z):hC B V c (j::l) (t::r)=.cons (.p 227 t.h t.h) (hC B V j l (t::r)):=by obtain⟨k,p,v⟩:=t;induction k with|z=>exact absurd O a|d=>show iC (uw c (j::l) p (-1)).2.2 _=.cons _ (iC (uw j l p (-1)).2.2 _);rw[wS hc];rfl|aZ=>have:=wS (p:=p) (j:=j) (l:=l) (of_decide_eq_true (show decide ((g1 B p:Int)<c)=H from h));show iC (uw c (j::l) p (g1 B p)).2.2 (iC (nS (uw c (j::l) p (g1 B p)) (g1 B p) p) (hC B V (ad (uw c (j::l) p (g1 B p)) (g1 B p)).1 (ad (uw c (j::l) p (g1 B p)) (g1 B p)).2 r))=_;rw[this];rfl|i=>have:=wS (p:=p) (j:=j) (l:=l) (of_decide_eq_true (show decide ((g1 B p:Int)<c)=H from h));show iC (uw c (j::l) p (g1 B p)).2.2 (iC (p' (uw c (j::l) p (g1 B p)) (g1 B p) v p) (hC B V (ad (uw c (j::l) p (g1 B p)) (g1 B p)).1 (ad (uw c (j::l) p (g1 B p)) (g1 B p)).2 r))=_;rw[this];rfl|k y=>have:=wS (p:=p) (j:=j) (l:=l) (of_decide_eq_true (show decide ((g1 B p:Int)<c)=H from h));show iC (uw c (j::l) p (g1 B p)).2.2 (bif y then hC B (U ⟨v,p,decide ((uw c (j::l) p (g1 B p)).1=g1 B p)⟩) (uw c (j::l) p (g1 B p)).1 (uw c (j::l) p (g1 B p)).2.1 r else .cons (mX v p) (hC B V (uw c (j::l) p (g1 B p)).1 (uw c (j::l) p (g1 B p)).2.1 r))=_;rw[this];rfl
theorem rg{c l}(hc:j' B c t=H->∃j m,l=j::m/\ -1<c)(h:i0 B c (t::r)=V)(w:Wf B (t::r)):Vw B c l t r (ig B c t) (hC B V c l (t::r)):=by
 have i:t.i≠ .z:=λe=>by obtain⟨k,p,v⟩:=t;cases(show k=.z from e);cases h
 unfold ig;induction f:j' B c t with
 |true=>exists o;obtain⟨j,m,e,hc⟩:=hc f;refine o ?_;rw[e,UT hc f i];exact .b0 O
 |false=>
  have a:ke t.i=g/\c<=cl B t:=by have:=(ys.mp f);exact⟨this.1,oK.mp (of_decide_eq_false this.2)⟩
  have e:=A3 (l:=l) (p:=t.h) (oK.mpr a.2);clear hc;obtain⟨k,p,v⟩:=t;induction k with
  |z=>exact absurd O i|d=>exact iR a.1|aZ=>
   show Vw B c l _ r (bif decide _ then 1 else 3) (iC (uw c l p (g1 B p)).2.2 (iC (nS (uw c l p (g1 B p)) (g1 B p) p) (hC B V (ad (uw c l p (g1 B p)) (g1 B p)).1 (ad (uw c l p (g1 B p)) (g1 B p)).2 r)));rw[e];unfold nS sg ad;by_cases q:(g1 B p:Int)=c;.rw[decide_eq_true q,if_neg (by show ¬c<_;rw[q];exact s8 _),if_neg (by show ¬c<_;rw[q];exact s8 _)];exact .aZ
   .have b:=JT.mpr ⟨a.2,Ne.symm q⟩;rw[decide_eq_false q,if_pos b,if_pos b];exact .D
  |i=>
   show Vw B c l _ r (bif decide _ then 2 else 4) (iC (uw c l p (g1 B p)).2.2 (iC (p' (uw c l p (g1 B p)) (g1 B p) v p) (hC B V (ad (uw c l p (g1 B p)) (g1 B p)).1 (ad (uw c l p (g1 B p)) (g1 B p)).2 r)));rw[e];unfold p' sg ad;by_cases q:(g1 B p:Int)=c;.rw[decide_eq_true q,if_neg (by show ¬c<_;rw[q];exact s8 _),if_neg (by show ¬c<_;rw[q];exact s8 _)];exact .i
   .have b:=JT.mpr ⟨a.2,Ne.symm q⟩;rw[decide_eq_false q,if_pos b,if_pos b];exact .K
  |k y=>
   show Vw B c l _ r 5 (iC (uw c l p (g1 B p)).2.2 (bif y then hC B (U ⟨v,p,decide ((uw c l p (g1 B p)).1=g1 B p)⟩) (uw c l p (g1 B p)).1 (uw c l p (g1 B p)).2.1 r else .cons (mX v p) (hC B V (uw c l p (g1 B p)).1 (uw c l p (g1 B p)).2.1 r)));rw[e];induction y with|false=>exact .k|true=>
    have h':(bif decide (c<=g1 B p)then k7 B c ⟨.k H,p,v⟩ r else V)=none:=h;rw[decide_eq_true a.2]at h';show Vw B c l _ r 5 (hC B (U ⟨v,p,decide (c=g1 B p)⟩) c l r);clear e f a h;have n:k7 B c ⟨.k H,p,v⟩ r=none:=h';obtain⟨u,s,rfl⟩:∃u s,r=u::s:=by cases w with|aW w=>induction w<;>exact pE _ _ O
    have d:(bif decide ((g1 B p:Int)=c)then U ⟨H,u.h,U p⟩else Kd.rec (motive:=λ_=>Option Rf) (U ⟨H,u.h,V⟩) V V V (λ_=>V) u.i)=none:=n;by_cases q:(g1 B p:Int)=c;.rw[decide_eq_true q]at d;cases d
    .rw[decide_eq_false q]at d;rw[decide_eq_false λz=>q z.symm,HR O λz=>by obtain⟨k,x,v⟩:=u;cases(show k=.z from z);cases d];exact .k
end
section
open PySem
structure Hq (n p:Nat)(t:Tk):Prop where
 cL:t.Good
 bU:t.bU=p
 e1:t.aT∈o6
 R:(hm t.aT [45]=(n==1)/\hm t.aT nz=(n==0)/\hm t.aT [63]=(n==2)/\hm t.aT [58]=g)/\hm t.aT un=g/\hm t.aT wG=g/\hm t.aT wH=g/\hm t.aT wI=g
theorem rh(aM:t.Good)(c:t.bU=p)(a:t.aT=i)(h:(o6.elem i&&(hm i [45]==(n==1))&&(hm i nz==(n==0))&&(hm i [63]==(n==2))&&(hm i [58]==g)&&(hm i un==g)&&(hm i wG==g)&&(hm i wH==g)&&(hm i wI==g))=H):Hq n p t:=by
 simp only[iG,beq_iff_eq]at h;refine hn h λh a8=>hn h λh f=>hn h λh a6=>hn h λh a5=>hn h λh e=>hn h λh a3=>hn h λh d=>hn h λb a1=>⟨aM,c,?_,⟨?_,?_,?_,?_⟩,?_,?_,?_,?_⟩;.rw[a];exact List.mem_of_elem_eq_true b
 all_goals (rw[a];assumption)
theorem qb(h:Vw B c l t r n T):∃k a,T=.cons k a/\Hq n t.h k:=by induction h with|b0=>exact ki _ _ O (rh (i:=nz) O O O l6)|aZ=>exact ki _ _ O (rh (i:=[45]) O O O l6)|i=>exact ki _ _ O (rh (i:=[63]) O O O l6)|D=>exact ki _ _ O (rh (i:=wC) O O O l6)|K=>exact ki _ _ O (rh (i:=wD) O O O l6)|k=>exact ki _ _ O (rh (i:=um) O O O l6)
theorem sx{T}:∀l,(iC l T).len=l.length+T.len:=by intro l;induction l with|nil=>exact(lG _).symm|cons t l a=>exact(congrArg (· +1) a).trans (iZ _ _ _)
theorem HT:∀R n i l,(hC B n i l R).len<=l.length+5*R.length+(Option.rec (motive:=λ_=>Nat) 0 (λ_=>1) n):=by
 intro R;induction R with|nil=>exactλn i l=>i' _|cons t r d=>
  intro n i l;have b:(hC B V i l (t::r)).len<=l.length+5*(r.length+1):=by
   have uq:∀c,(uw i l t.h c).2.2.length+(uw i l t.h c).2.1.length=l.length:=λc=>(G1 c _ _ _ []).trans (lG _);have e:∀q c x,(ad q c).2.length+(sg q c x).length<=q.2.1.length+2:=by
    intro q c x;unfold ad sg;split;.exact hJ _
    .exact iy _ 2
   have f:=uq (g1 B t.h);obtain⟨k,p,v⟩:=t;induction k with|z=>exact i' _|d=>show(iC (uw i l p (-1)).2.2 _).len<=_;rw[sx];exact j4 (f2 (iy _ _)<|jh (uq (-1))) (JR (Nat.mul_pos (by decide) (rG _)))|aZ=>show(iC (uw i l p (g1 B p)).2.2 (iC (nS (uw i l p (g1 B p)) (g1 B p) p) (hC B V (ad (uw i l p (g1 B p)) (g1 B p)).1 (ad (uw i l p (g1 B p)) (g1 B p)).2 r))).len<=_;have a1:=e (uw i l p (g1 B p)) (g1 B p) (.p 203 p p);have a:=d V (ad (uw i l p (g1 B p)) (g1 B p)).1 (ad (uw i l p (g1 B p)) (g1 B p)).2;have a:_<=_+5*r.length:=a;rw[sx,sx];unfold nS;rw[io];show _+(_+1+_)<=_;lia|i=>show(iC (uw i l p (g1 B p)).2.2 (iC (p' (uw i l p (g1 B p)) (g1 B p) v p) (hC B V (ad (uw i l p (g1 B p)) (g1 B p)).1 (ad (uw i l p (g1 B p)) (g1 B p)).2 r))).len<=_;have a1:=e (uw i l p (g1 B p)) (g1 B p) (.p 215 p p);have a:=d V (ad (uw i l p (g1 B p)) (g1 B p)).1 (ad (uw i l p (g1 B p)) (g1 B p)).2;have a:_<=_+5*r.length:=a;rw[sx,sx];unfold p';rw[io];show _+(_+3+_)<=_;lia|k y=>show(iC (uw i l p (g1 B p)).2.2 (bif y then hC B (U ⟨v,p,decide ((uw i l p (g1 B p)).1=g1 B p)⟩) (uw i l p (g1 B p)).1 (uw i l p (g1 B p)).2.1 r else .cons (mX v p) (hC B V (uw i l p (g1 B p)).1 (uw i l p (g1 B p)).2.1 r))).len<=_;rw[sx];induction y with|true=>have a:=d (U ⟨v,p,decide ((uw i l p (g1 B p)).1=g1 B p)⟩) (uw i l p (g1 B p)).1 (uw i l p (g1 B p)).2.1;have a:_<=_+5*r.length+1:=a;show _+(hC B (U ⟨v,p,_⟩) _ _ r).len<=_;lia|false=>have a:=d V (uw i l p (g1 B p)).1 (uw i l p (g1 B p)).2.1;have a:_<=_+5*r.length:=a;show _+((hC B V _ _ r).len+1)<=_;lia
  induction n with|none=>exact b|some m=>show(bif m.aS then TS.be _ _ else _).len<=_;induction m.aS with|true=>exact i' _|false=>obtain⟨k,p,v⟩:=t;induction k with|z=>exact i' _|_=>exact mj b
end
section
open PySem
variable{B:List Nat}
inductive Tp (B:List Nat):TS->Z->List Ev->Option Rf->Prop|nil {T:TS} {w:Z}:w.bZ=.none->w.E=.none->Tp B T w [] V|step {T h:TS} {w i:Z} {f:Nat} {d:List AV} {e:Ev} {D:List Ev} {x:Option Rf}:w.bZ=.aP f->w.E=.none->gY.cs f=U d->Gives 18 f d T w (.E e h i)->Tp B h i D x->Tp B T w (e::D) x|stop {T:TS} {w:Z} {f:Nat} {d:List AV} {x:Rf}:w.bZ=.aP f->w.E=.none->gY.cs f=U d->Gives 18 f d T w (x.e0 B)->Tp B T w [] (U x)
noncomputable def Nx(B:List Nat)(T:TS)(w:Z)(D:List Ev)(x:Option Rf)(d:TS)(e:Z):Prop:=Option.rec (∀D2 y,Tp B d e D2 y->Tp B T w (D++D2) y) (λr=>Tp B T w D (U r)) x
theorem Nx.cons(d:w.bZ=.aP f)(h:w.E=.none)(i:gY.cs f=U n)(j:Gives 18 f n T w (.E e m p))(k:Nx B m p D x l o):Nx B T w (e::D) x l o:=by induction x with|none=>exactλD2 y t=>.step d h i j (k D2 y t)|some=>exact .step d h i j k
theorem Nx.aO(h:Nx B T w D1 V e i)(k:Nx B e i D2 x d f):Nx B T w (D1++D2) x d f:=by induction x with|none=>exactλD y t=>by rw[i8];exact h _ _ (k D y t)|some=>exact h _ _ k
theorem Nx.refl:Nx B T w [] V T w:=λ_ _ t=>t
inductive Fs (B:List Nat)(F:PR->Prop)(d:TS)(f:Z):List Ev->Option Rf->Prop|E {e:Ev} {D:List Ev} {h:TS} {i:Z} {x:Option Rf}:F (.E e h i)->Nx B h i D x d f->Fs B F d f (e::D) x|no {x:Rf}:F (x.e0 B)->Fs B F d f [] (U x)
theorem Fs.e2(h:Fs B (Gives 18 f k T w) j l D x)(d:w.bZ=.aP f)(e:w.E=.none)(i:gY.cs f=U k):Nx B T w D x j l:=by induction h with|E G n=>exact .cons d e i G n|no G=>exact .stop d e i G
theorem Fs.map(h:Fs B F d e D x)(k:∀r,F r->G r):Fs B G d e D x:=by induction h with|E a n=>exact .E (k _ a) n|no a=>exact .no (k _ a)
theorem Fs.bR(h:Fs B (Gives 17 f e T w) d m D x)(i:w.bZ=.aP f)(j:w.E=.none)(l:gY.cs f=U e):Nx B T w D x d m:=(h.map λ_=>Gives.up (k:=1)).e2 i j l
theorem Fs.aO(h:Fs B F f j D1 V)(k:Nx B f j D2 x e i):Fs B F e i (D1++D2) x:=by generalize d:V=y at h;induction h with|E a n=>subst d;exact .E a (n.aO k)|no=>exact hu d
theorem Fs.av(h:Fs B F f j D (U x)):Fs B F e i D (U x):=by generalize d:U x=y at h;induction h with|E a n=>subst d;exact .E a n|no a=>cases d;exact .no a
noncomputable def nT(K:Nat)(w:Z)(l:List Int)(R:List Th):Prop:=w.aN.length+w.aY.length+l.length+10*R.length<=K
structure Fr (B:List Nat)(K:Nat)(e:List Nat)(op k:Nat)(h f:List Nat)(l:List Int)(R:List Th)(w:Z):Prop where
 b:w.e=B
 d:w.E=.none
 k:w.aN=e++k::h
 x:w.aY=op::f
 n:nT K w l R
noncomputable def wT(B:List Nat)(K f:Nat)(h:List Nat)(ah:TS->TS)(c:Int)(op:Nat)(R:List Th)(D:List Ev)(x:Option Rf)(R':List Th):Prop:=∀(w:Z) (s:Nat) (e d:List Nat) (j:Int) (l:List Int),Fr B K h op s e d (j::l) R w->Fs B (Gives 17 f [] (ah (hC B V c (j::l) R)) w) (hC B V j l R') (w.ft (.aP s) e d) D x
noncomputable def me(B:List Nat)(i:Int)(R:List Th)(D:List Ev)(x:Option Rf)(R':List Th):Prop:=∀(d:Bool) (w:Z) (s:Nat) (e:List Nat) (l:List Int),w.e=B->w.E=.none->w.aN=s::e->nT 997 w l R->Fs B (md H d w (hC B V i l R)) (hC B V i l R') (w.cy (.aP s) e) D x
noncomputable abbrev mE(B:List Nat)(il:Bool):=wT B 1000 (bif il then 1425 else 1418) (bif il then[1439]else[]) id
noncomputable abbrev sy(B:List Nat)(il:Bool)(a b:Nat):=wT B 990 (bif il then 1425 else 1418) (bif il then[1439]else[]) (.cons (.p 311 a b))
noncomputable abbrev o9(B:List Nat):=wT B 1000 1439 [] id
noncomputable abbrev ri(B:List Nat)(a b:Nat):=wT B 990 1446 [] (.cons (.p 299 a b))
theorem qc(h:nT K w l R)(k:K<=1000):w.aN.length+1+w.aY.length+4*(hC B V i l R).len<=100000:=by have:=HT R V i l (B:=B);have this:_<=_+5*R.length:=this;unfold nT at h;lia
theorem qd(F:Fr B K q op s t r l R w){d:Z}{i j l1 R1}{f s1:Nat}{h e}(p:d.aN=j++s1::h)(n:d.aY=f::e)(o:nT K w l R->nT i d l1 R1)(k:d.e=w.e:=by rfl) (m:d.E=w.E:=by rfl):Fr B i j f s1 h e l1 R1 d:=⟨k.trans F.b,m.trans F.d,p,n,o F.n⟩
theorem sA{x:Rf}(h:hC B V c l R=.be (om B x.aW) (hy B x.h)/\x.k=H):hC B V c l R=.be (om B x.aW) (hy B x.h)/\x.e0 B=.cY (om B x.aW) (hy B x.h):=⟨h.1,by unfold Rf.e0;rw[h.2];rfl⟩
section
variable{c:Int}{op:Nat}{R R1 R':List Th}{D D1 D2:List Ev}{x:Option Rf}{y:Rf}{il:Bool}{a b:Nat}
theorem HU(h:i0 B c R=U y):mE B il c op R [] (U y) R':=by
 refineλw s i f j l F=>hn (sA (sw h (l:=j::l))) λd e=>.no (show Gives 17 _ [] (hC B V c (j::l) R) w _ from ?_);rw[d,e];induction il;.exact UK
 .exact UL
theorem HV(h:i0 B c R=U y):sy B il a b c op R [] (U y) R':=by
 refineλw s i f j l F=>.no ?_;refine hn (sA (sw h (l:=j::l))) λd e=>?_;rw[e,d];induction il;.exact UN
 .exact UO
theorem UU(h:i0 B c R=U y):o9 B c op R [] (U y) R':=by refineλw s i f j l F=>hn (sA (sw h (l:=j::l))) λd e=>.no (show Gives 17 _ [] (hC B V c (j::l) R) w _ from ?_);rw[d,e];exact UM
theorem UV(h:i0 B c R=U y):ri B a b c op R [] (U y) R':=by refineλw s i f j l F=>.no ?_;refine hn (sA (sw h (l:=j::l))) λd e=>?_;rw[e,d];exact UP
end
end
section
open PySem
variable{B:List Nat}{c:Int}{op:Nat}{t:Th}{r R1 R':List Th}{D D1 D2:List Ev}{x:Option Rf}{y:Rf}{il:Bool}{a b:Nat}{l:List Int}{T:TS}{n:Nat}
theorem HW(v:Vw B c (j::l) t r n T)(h:n=0):T=.cons (.p 227 t.h t.h) (hC B V j l (t::r)):=by
 generalize hl:j::l=m at v;induction v with
 |b0 e=>cases hl.trans e;exact O
 |_=>cases h
theorem A4(v:Vw B c l t r n T)(h:n=1):T=.cons (.p 311 t.h (t.h+1)) (hC B V c l r):=by induction v with|aZ=>exact O|_=>cases h
theorem A5(v:Vw B c l t r n T)(h:n=2):T=.cons (.p 287 t.h t.h) (.cons (.a0 t.Y H .none t.h (t.h+2)) (.cons (.p 299 (t.h+2) (t.h+3)) (hC B V c l r))):=by induction v with|i=>exact O|_=>cases h
theorem UW(v:Vw B c l t r n T)(h:n=3):T=.cons (.p 203 t.h t.h) (.cons (.p 311 t.h (t.h+1)) (hC B V (cl B t) (c::l) r)):=by induction v with|D=>exact O|_=>cases h
theorem UX(v:Vw B c l t r n T)(h:n=4):T=.cons (.p 215 t.h t.h) (.cons (.p 287 t.h t.h) (.cons (.a0 t.Y H .none t.h (t.h+2)) (.cons (.p 299 (t.h+2) (t.h+3)) (hC B V (cl B t) (c::l) r)))):=by induction v with|K=>exact O|_=>cases h
theorem UY(v:Vw B c l t r n T)(h:n=5):T=.cons (mX t.Y t.h) (hC B V c l r):=by induction v with|k=>exact O|_=>cases h
theorem HX(h:nT (K+10) w l (t::r)):nT K w l r:=Nat.le_of_add_le_add_right (b:=10) h
theorem s1{a b c d K:Nat}(h:a+b+c+d<=K):a+1+b+c+d<=K+1:=by lia
theorem s2{a b c d e f K:Nat}(h:a+b+c+d<=K)(k:e<=f)(hd:d=10*f):a+b+c+10*e<=K:=by lia
theorem qe(h:n≠m):(n==m)=false:=beq_false_of_ne h
theorem HY(h:3<=n):(n==0)=g/\(n==1)=g/\(n==2)=false:=⟨qe (iP (hD (by decide) h)),qe (iP (hD (by decide) h)),qe (iP (hD (by decide) h))⟩
theorem qf{t:Tk}{i L}(e:t.aT=i)(h:(L.all λa=>!hm i a)=H):Not t L:=λa d=>by rw[e];haveI:=lH.mp h a d;exact Bool.not_inj this
section
variable(hc: -1<c)(hp:i0 B c (t::r)=V)(hw:Wf B (t::r))
include hc hp hw
omit hp hw in
theorem mZ(hp:i0 B c (t::r)=V)(hw:Wf B (t::r))(j l):Vw B c (j::l) t r (ig B c t) (hC B V c (j::l) (t::r)):=rg (λ_=>ki _ _ O hc) hp hw
theorem o_(d:ig B c t=1)(I:sy B il t.h (t.h+1) c op r D x R'):mE B il c op (t::r) D x R':=by intro w s f e j l F;show Fs B (Gives 17 _ [] (hC B V c (j::l) (t::r)) w) _ _ _ _;rw[A4 (mZ hc hp hw j l) d];exact I w s f e j l (qd F F.k F.x HX)
theorem UZ(d:ig B c t=0):mE B g c op (t::r) [.dC] V (t::r):=by intro w s f e j l F;show Fs B (Gives 17 _ [] (hC B V c (j::l) (t::r)) w) _ _ _ _;rw[HW (mZ hc hp hw j l) d];exact .E (TW F.k F.x) .refl
theorem U0(d:ig B c t=0):o9 B c op (t::r) [.ey] V (t::r):=by intro w s f e j l F;show Fs B (Gives 17 _ [] (hC B V c (j::l) (t::r)) w) _ _ _ _;rw[HW (mZ hc hp hw j l) d];exact .E (T3 F.k F.x) .refl
theorem A6(d:ig B c t≠0)(f:ig B c t≠1):mE B g c op (t::r) [] (U ⟨g,t.h,U op⟩) R':=by intro w s m i j l F;refine jv (qb (mZ hc hp hw j l)) λk h e aL=>?_;refine .no ?_;show Gives 17 _ [] (hC B V c (j::l) (t::r)) w (.da (hy B op) (hy B t.h));rw[e,<-F.b,<-aL.bU];exact TX aL.cL (aL.R.1.1.trans (qe f)) (aL.R.1.2.1.trans (qe d)) aL.e1 F.x
theorem U1(d:ig B c t≠0)(f:ig B c t≠2):o9 B c op (t::r) [] (U ⟨g,t.h,U op⟩) R':=by intro w s m i j l F;refine jv (qb (mZ hc hp hw j l)) λk h e aL=>?_;refine .no ?_;show Gives 17 _ [] (hC B V c (j::l) (t::r)) w (.da (hy B op) (hy B t.h));rw[e,<-F.b,<-aL.bU];exact T4 aL.cL (aL.R.1.2.2.1.trans (qe f)) (aL.R.1.2.1.trans (qe d)) aL.e1 F.x
theorem U2(i:ig B c t≠1)(M:o9 B c op (t::r) D x R'):mE B H c op (t::r) (.dC::D) x R':=by intro w s f m j l F;refine jv (qb (mZ hc hp hw j l)) λk o e aL=>?_;have d:=(M (w.cy (.aP 1439) (s::f)) s f m j l (qd F O F.x λh=>by unfold nT at h ⊢;rw[F.k]at h;exact f2 (iu (iu (iu (jo _) _) _) _) h)).bR O F.d O;show Fs B (Gives 17 _ [] (hC B V c (j::l) (t::r)) w) _ _ _ _;have d:Nx B (hC B V c (j::l) (t::r)) _ _ _ _ _:=d;rw[e]at d ⊢;exact .E (T1 aL.cL (aL.R.1.1.trans (qe i)) F.k) d
theorem HZ(h:ig B c t=0\/ig B c t=1\/il=H/\ig B c t=2)(M:mE B il c op (t::r) D x R'):sy B il a b c op (t::r) (p_::D) x R':=by intro w s m i j l F;refine jv (qb (mZ hc hp hw j l)) λk o e aL=>?_;have f:=(M (w.go (.aP (bif il then 1425 else 1418))) s m i j l (qd F F.k F.x λh=>f2 h (by decide))).bR O F.d (by induction il<;>rfl);have f:Nx B (hC B V c (j::l) (t::r)) _ _ _ _ _:=f;rw[e]at f ⊢;refine .E ?_ f;clear f F M;induction il with|false=>exact TV aL.cL (by rw[aL.R.1.1,aL.R.1.2.1];rcases h with d|d|d;rw[d];rfl;rw[d];rfl;exact iR d.1)|true=>exact TZ aL.cL (by rw[aL.R.1.1,aL.R.1.2.1,aL.R.1.2.2.1,aL.R.1.2.2.2];rcases h with d|d|d;rw[d];rfl;rw[d];rfl;rw[d.2];rfl)
theorem U3(h:ig B c t=0\/ig B c t=2)(M:o9 B c op (t::r) D x R'):ri B a b c op (t::r) (p_::D) x R':=by intro w s i f j l F;refine jv (qb (mZ hc hp hw j l)) λk m e aL=>?_;have d:=(M (w.go (.aP 1439)) s i f j l (qd F F.k F.x λh=>f2 h (by decide))).bR O F.d O;have d:Nx B (hC B V c (j::l) (t::r)) _ _ _ _ _:=d;rw[e]at d ⊢;exact .E (T6 aL.cL (by rw[aL.R.1.2.1,aL.R.1.2.2.1,aL.R.1.2.2.2];rcases h with h|h<;>(rw[h];rfl))) d
theorem U4(h:ig B c t=2):sy B g a b c op (t::r) [] (U ⟨g,t.h,U t.h⟩) R':=by intro w s f d j l F;have hl:=qc (B:=B) (i:=c) F.n (by decide);have e:=A5 (mZ hc hp hw j l) h;rw[e]at hl ⊢;have N:md H g (w.bU (1418::w.aN)) (.cons (.p 287 t.h t.h) (.cons (.a0 t.Y H .none t.h (t.h+2)) (.cons (.p 299 (t.h+2) (t.h+3)) (hC B V c (j::l) r)))) (.da (hy w.e t.h) (hy w.e t.h)):=.d4 O (qf (i:=[63]) O l6) (.av O O O ⟨qf (i:=[63]) O l6,(λh=>nomatch h),λ_=>qf (i:=[63]) O l6⟩ (rh (n:=2) (p:=t.h) (t:=.p 287 t.h t.h) (i:=[63]) O O O l6).e1);rw[F.b]at N;exact .no (HI (t:=.p 287 t.h t.h) O O hl N)
theorem H0(h:3<=ig B c t)(N:me B c (t::r) D1 x R1)(F:Fr B 990 (bif il then[1439]else[]) op s o m (j::l) (t::r) w):Fs B (Gives 17 (bif il then 1425 else 1418) [] (.cons (.p 311 a b) (hC B V c (j::l) (t::r))) w) (hC B V c (j::l) R1) (w.go (.aP (bif il then 1425 else 1418))) D1 x:=by have hl:=qc (B:=B) (i:=c) F.n (by decide);have v:=mZ hc hp hw j l;have d:=N g (w.bU ((bif il then 1425 else 1418)::w.aN)) (bif il then 1425 else 1418) w.aN (j::l) F.b F.d O (f2 (s1 F.n) (by decide));refine jv (qb v) λk f e aL=>?_;have n:=HY h;rw[e]at hl d;rw[e];refine d.map λr N=>?_;induction il with|false=>exact HI aL.cL (by rw[aL.R.1.1,aL.R.1.2.1,n.1,n.2.1];rfl) hl N|true=>exact T0 aL.cL (by rw[aL.R.1.1,aL.R.1.2.1,aL.R.1.2.2.1,aL.R.1.2.2.2,n.1,n.2.1,n.2.2];rfl) hl N
theorem H1(h:3<=ig B c t)(N:me B c (t::r) D1 V R1)(d:R1.length<=(t::r).length)(M:mE B il c op R1 D2 x R'):sy B il a b c op (t::r) (D1++D2) x R':=λw s f e j l F=>(H0 hc hp hw h N F).aO ((M (w.go (.aP (bif il then 1425 else 1418))) s f e j l (qd F F.k F.x λh=>f2 (s2 h d O) (by decide))).bR O F.d (by induction il<;>rfl))
theorem H2(h:3<=ig B c t)(N:me B c (t::r) D1 (U y) R1):sy B il a b c op (t::r) D1 (U y) R':=λw s e d j l F=>(H0 hc hp hw h N F).av
theorem H3(h:3<=ig B c t)(N:me B c (t::r) D1 x R1)(F:Fr B 990 [] op s o m (j::l) (t::r) w):Fs B (Gives 17 1446 [] (.cons (.p 299 a b) (hC B V c (j::l) (t::r))) w) (hC B V c (j::l) R1) (w.go (.aP 1439)) D1 x:=by have hl:=qc (B:=B) (i:=c) F.n (by decide);have v:=mZ hc hp hw j l;have d:=N H (w.bU (1439::w.aN)) 1439 w.aN (j::l) F.b F.d O (f2 (s1 F.n) (by decide));refine jv (qb v) λk f e aL=>?_;have n:=HY h;rw[e]at hl d;rw[e];exact d.map λr N=>HJ aL.cL (by rw[aL.R.1.2.1,aL.R.1.2.2.1,aL.R.1.2.2.2,n.1,n.2.2];rfl) hl N
theorem U5(h:3<=ig B c t)(N:me B c (t::r) D1 V R1)(d:R1.length<=(t::r).length)(M:o9 B c op R1 D2 x R'):ri B a b c op (t::r) (D1++D2) x R':=λw s f e j l F=>(H3 hc hp hw h N F).aO ((M (w.go (.aP 1439)) s f e j l (qd F F.k F.x λh=>f2 (s2 h d O) (by decide))).bR O F.d O)
theorem U6(h:3<=ig B c t)(N:me B c (t::r) D1 (U y) R1):ri B a b c op (t::r) D1 (U y) R':=λw s e d j l F=>(H3 hc hp hw h N F).av
theorem U7(h:ig B c t=1)(M:mE B H c op (t::r) D x R'):ri B a b c op (t::r) (.dh .none .none H .none::D) x R':=by intro w s k f j l F;have hl:=qc (B:=B) (i:=c) F.n (by decide);have e:=A4 (mZ hc hp hw j l) h;have d:=(M ((w.bU (1439::w.aN)).go (.aP 1425)) s k f j l (qd F (by show 1439::w.aN=_;rw[F.k];rfl) F.x λh=>f2 (s1 h) (by decide))).bR O F.d O;have d:Nx B (hC B V c (j::l) (t::r)) _ _ _ _ _:=d;rw[e]at hl d ⊢;exact .E (HJ (t:=.p 311 t.h (t.h+1)) O O hl (.d4 O (qf (i:=[45]) O l6) (.gc O))) d
theorem U8(h:ig B c t=2)(M:ri B (t.h+2) (t.h+3) c op r D x R'):o9 B c op (t::r) (.a0 .none .none H g t.Y .none::D) x R':=by intro w s k f j l F;have hl:=qc (B:=B) (i:=c) F.n (by decide);have e:=A5 (mZ hc hp hw j l) h;show Fs B (Gives 17 _ [] (hC B V c (j::l) (t::r)) w) _ _ _ _;rw[e]at hl ⊢;have d:=(M (w.go (.aP 1446)) s k f j l (qd F F.k F.x HX)).bR O F.d O;exact .E (T2 (t:=.a0 t.Y H .none t.h (t.h+2)) O O (f2 (iU (s7 4 (jo _)) _) hl) (.d4 O (qf (i:=um) O l6) (.a0 O))) d
end
theorem U9(hp:i0 B c (t::r)=V)(hw:Wf B (t::r))(h:ig B c t=5):me B c (t::r) [.a0 .none .none g H t.Y (.str [39])] V r:=by intro f w s o l j k d m;have e:=UY (rg (l:=l) (λq=>absurd h (by unfold ig;rw[q];exact(by decide:¬(0:Nat)=5))) hp hw) h;rw[e];exact .E (.d4 O (qf (i:=um) O l6) (.a0 d)) .refl
theorem U_(h:t.i=.aZ)(hw:Wf B (t::r)):hC B V (cl B t) l (t::r)=.cons (.p 311 t.h (t.h+1)) (hC B V (cl B t) l r):=by obtain⟨k,p,v⟩:=t;cases(show k=.aZ from h);have o:j' B (cl B ⟨.aZ,p,v⟩) ⟨.aZ,p,v⟩=false:=decide_eq_false (s8 _);refine A4 (n:=ig B (cl B ⟨.aZ,p,v⟩) ⟨.aZ,p,v⟩) (rg (λq=>iR (q.symm.trans o)) O hw) ?_;unfold ig;rw[o];show(bif decide _ then 1 else 3)=1;rw[decide_eq_true O];rfl
theorem U'(h:t.i=.i)(hw:Wf B (t::r)):hC B V (cl B t) l (t::r)=.cons (.p 287 t.h t.h) (.cons (.a0 t.Y H .none t.h (t.h+2)) (.cons (.p 299 (t.h+2) (t.h+3)) (hC B V (cl B t) l r))):=by obtain⟨k,p,v⟩:=t;cases(show k=.i from h);have o:j' B (cl B ⟨.i,p,v⟩) ⟨.i,p,v⟩=false:=decide_eq_false (s8 _);refine A5 (n:=ig B (cl B ⟨.i,p,v⟩) ⟨.i,p,v⟩) (rg (λq=>iR (q.symm.trans o)) O hw) ?_;unfold ig;rw[o];show(bif decide _ then 2 else 4)=2;rw[decide_eq_true O];rfl
theorem s3{a b c d:Nat}(h:a+b+c+d<=997):a+(b+1)+(c+1)+d<=1000:=by lia
theorem Va(hp:i0 B c (t::r)=V)(hw:Wf B (t::r))(m:t.i=.aZ)(h:ig B c t=3)(M:mE B g (cl B t) t.h (t::r) D x R'):me B c (t::r) (.dh .none .none H (.bool g)::D) x R':=by intro p w s z l k f o j;have e:=UW (rg (l:=l) (λq=>absurd h (by unfold ig;rw[q];exact(by decide:¬(0:Nat)=3))) hp hw) h;have d:=M ((w.go (.aP 1411)).d0 (t.h::w.aY)) s z w.aY c l ⟨k,f,o,rfl,s3 j⟩;have hl:=qc (B:=B) (i:=cl B t) (w:=(w.go (.aP 1411)).d0 (t.h::w.aY)) (l:=c::l) (R:=t::r) (s3 j) (by decide);have d:Fs B (Gives 17 1418 [] (hC B V (cl B t) (c::l) (t::r)) _) _ _ _ _:=d;rw[U_ m hw]at d hl;rw[e];refine .E (.d4 O (qf (i:=wC) O l6) (.f' O)) ((d.map (G:=Gives 18 1411 [] _ (w.go (.aP 1411))) λr G=>TY (a:=t.h) (b:=t.h) (w:=w.go (.aP 1411)) ?_ G).e2 O f O);exact f2 (iu (iu (jo _) _) _) hl
theorem Vb(hp:i0 B c (t::r)=V)(hw:Wf B (t::r))(m:t.i=.i)(h:ig B c t=4)(M:o9 B (cl B t) t.h (t::r) D x R'):me B c (t::r) (.d3 .none .none H (.bool g)::D) x R':=by intro p w s z l k f o j;have e:=UX (rg (l:=l) (λq=>absurd h (by unfold ig;rw[q];exact(by decide:¬(0:Nat)=4))) hp hw) h;have d:=M ((w.go (.aP 1432)).d0 (t.h::w.aY)) s z w.aY c l ⟨k,f,o,rfl,s3 j⟩;have hl:=qc (B:=B) (i:=cl B t) (w:=(w.go (.aP 1432)).d0 (t.h::w.aY)) (l:=c::l) (R:=t::r) (s3 j) (by decide);have d:Fs B (Gives 17 1439 [] (hC B V (cl B t) (c::l) (t::r)) _) _ _ _ _:=d;rw[U' m hw]at d hl;rw[e];refine .E (.d4 O (qf (i:=wD) O l6) (.gb O)) ((d.map (G:=Gives 18 1432 [] _ (w.go (.aP 1432))) λr G=>T5 (a:=t.h) (b:=t.h) (w:=w.go (.aP 1432)) ?_ G).e2 O f O);exact f2 (iu (iu (jo _) _) _) hl
end
section
open PySem
theorem o'(G:Gives 17 f args T w r):Gives 18 f args T w r:=Gives.up (k:=1) G
theorem H4(hp:i0 B (-1) (t::r)=V)(hw:Wf B (t::r))(c:ke t.i=g):∃k b,hC B V (-1) [] (t::r)=.cons k b/\Hq (ig B (-1) t) t.h k:=by refine qb (rg (l:=[]) (λq=>?_) hp hw);unfold j' at q;rw[c,decide_eq_false (oK.mpr (pu (by decide) (j9 _)))]at q;exact iR q
theorem Vc(h:t.i=.d):hC B V (-1) [] (t::r)=.cons (.p 191 t.h t.h) .nil:=by obtain⟨k,p,v⟩:=t;cases(show k=.d from h);exact O
structure H5 (B:List Nat)(R:List Th)(w:Z):Prop where
 b:w.e=B
 k:w.bZ=.aP 1340
 d:w.E=.none
 ci:w.aN=[]
 x:w.aY=[]
 n:R.length<=90
section
variable{B:List Nat}{R R1 r:List Th}{t:Th}{w:Z}{D:List Ev}{y:Rf}{a:Nat}{x:Option Rf}(aL:H5 B R w)
include aL
theorem Vd(h:i0 B (-1) R=U y):Tp B (.cons (.bS a) (hC B V (-1) [] R)) w [.bz] (U y):=by refine .step aL.k aL.d O (o' HK) (.stop O aL.d O (o' ?_));refine hn (sA (sw h (l:=[]))) λb c=>?_;rw[b,c];exact UI
theorem wU(hp:i0 B (-1) R=V)(hw:Wf B R)(d:∀t r,R=t::r->ke t.i=g)(N:me B (-1) R D x R1):∃w3:Z,(w3.bZ=.aP 1361/\w3.E=.none/\w3.aN=[]/\w3.aY=[]/\w3.e=B)/\Nx B (.cons (.bS a) (hC B V (-1) [] R)) w (.bz::.bM g::D) x (hC B V (-1) [] R1) w3:=by
 obtain⟨t,r,rfl⟩:∃t r,R=t::r:=by induction hw<;>exact pE _ _ O
 refine h9 (({w.go (.aP 1347)with bP:=.val (.ref 1304),h:=1,aN:=1361::w.aN,bZ:=.aP 1382}:Z).cy (.aP 1361) []) ⟨rfl,aL.d,rfl,aL.x,aL.b⟩ (.cons aL.k aL.d O (o' HK) ?_);have c:nT 997 ({w.go (.aP 1347)with bP:=.val (.ref 1304),h:=1,aN:=1361::w.aN,bZ:=.aP 1382}) [] (t::r):=by unfold nT;show(w.aN.length+1)+w.aY.length+0+10*(t::r).length<=997;rw[aL.ci,aL.x];exact f2 (iU (s7 10 aL.n) _) (by decide)
 have hl:=qc (B:=B) (i:= -1) c (by decide);have b:=(N g ({w.go (.aP 1347)with bP:=.val (.ref 1304),h:=1,aN:=1361::w.aN,bZ:=.aP 1382}) 1361 [] [] aL.b aL.d (congrArg (1361::·) aL.ci) c);refine jv (H4 hp hw (d _ _ O)) λk f e h=>?_;have b:=(b.map (G:=Gives 18 1382 [] _ _) λr N=>Gives.up (k:=2) (AW N)).e2 O aL.d O;rw[e]at b hl ⊢;refine .cons O aL.d O (o' (T7 h.cL (by rw[h.R.2.1,h.R.2.2.1,h.R.2.2.2.2];rfl) ?_)) b;exact f2 (iu (iu (jo _) _) _) hl
theorem Ve(hp:i0 B (-1) R=V)(hw:Wf B R)(b:∀t r,R=t::r->ke t.i=g)(N:me B (-1) R D (U y) R1):Tp B (.cons (.bS a) (hC B V (-1) [] R)) w (.bz::.bM g::D) (U y):=g6 (wU (a:=a) aL hp hw b N) λ_ _ n=>n
theorem Vf(hp:i0 B (-1) R=V)(hw:Wf B R)(e:∀t r,R=t::r->ke t.i=g)(N:me B (-1) R D V R1)(d:i0 B (-1) R1=U y):Tp B (.cons (.bS a) (hC B V (-1) [] R)) w (.bz::.bM g::D) (U y):=by refine g6 (wU (a:=a) aL hp hw e N) λw3 h n=>?_;have n:∀D2 y,Tp B (hC B V (-1) [] R1) w3 D2 y->Tp B _ w (.bz::.bM g::(D++D2)) y:=n;rw[<-j3 D];refine n [] (U y) (.stop h.1 h.2.1 O (o' ?_));.refine hn (sA (sw d (l:=[]))) λb c=>?_;rw[b,c];exact UJ
theorem Vg(hp:i0 B (-1) R=V)(hw:Wf B R)(c:∀t r,R=t::r->ke t.i=g)(N:me B (-1) R D V (t::r))(b:t.i=.d):Tp B (.cons (.bS a) (hC B V (-1) [] R)) w (.bz::.bM g::(D++[.cq g,.cT])) none:=by refine g6 (wU (a:=a) aL hp hw c N) λw3 h n=>n _ _ ?_;rw[Vc b];exact .step h.1 h.2.1 O (o' (HL (t:=.p 191 t.h t.h) O O)) (.step O h.2.1 O (o' (T9 (w:=w3.go (.aP 1354)) h.2.2.1 h.2.2.2.1)) (.nil O h.2.1))
theorem Vh(hp:i0 B (-1) R=V)(hw:Wf B R)(f:∀t r,R=t::r->ke t.i=g)(N:me B (-1) R D V (t::r))(d:ke t.i=g)(b:i0 B (-1) (t::r)=V)(c:Wf B (t::r)):Tp B (.cons (.bS a) (hC B V (-1) [] R)) w (.bz::.bM g::(D++[.cq g])) (U ⟨g,t.h,V⟩):=by refine g6 (wU (a:=a) aL hp hw f N) λw3 h n=>n _ _ ?_;refine jv (H4 b c d) λk i e q=>?_;rw[e];refine .step h.1 h.2.1 O (o' (HL q.cL q.R.2.2.2.1)) (.stop O h.2.1 O (o' ?_));show Gives 17 1354 [] _ _ (.da .none (hy B t.h));rw[<-h.2.2.2.2,<-q.bU];exact US (w:=w3.go (.aP 1354)) q.cL q.R.2.2.2.1 q.R.2.2.2.2 q.R.2.1 q.R.2.2.1 q.e1
end
end
section
open PySem
noncomputable def A7:List (Nat×Nat×Nat×DS):=[(1532,5,11,GK),(1539,2,19,GL),(1546,3,8,RP),(1553,3,7,RQ),(1560,3,7,RS),(1567,4,7,GN),(1574,4,7,GO),(1581,2,4,RT),(1588,1,1,RU),(1595,1,1,RV)]
structure mF (C:Nat->PC):Prop where
 eA:Sys C
 c:∀{d f a n:Nat} {e:DS} {args:List AV} {st:St} {Q:AV->St->Prop} {X:hv->St->Prop},lk f A7=U (a,n,e)->args.length=a->WS gY (C d) e (args.map U++jD (n - a) V) st ⟨λb st=>Q .none st,Q,λb b=>False,λb=>X⟩->C (d+1) f args st Q X
noncomputable def gW.l(m:gW):St:=⟨V,V,V,V,V,V,m.j,m.f⟩
structure gW.E (c:List Nat)(a b:gW):Prop where
 n:a.f<=b.f
 b9:∀k,k<a.f->k∉c->b.j k=a.j k
theorem gW.E.refl(c)(a):gW.E c a a:=⟨hJ _,λb b b=>rfl⟩
theorem gW.E.trans(x:gW.E d a b)(y:gW.E d b c):gW.E d a c:=⟨f2 x.n y.n,λk h h'=>(y.b9 k (hD h x.n) h').trans<|x.b9 k h h'⟩
theorem gW.E.set(x:gW.E i a b){n}(c)(h:n∈i\/a.f<=n):gW.E i a<|b.set n c:=⟨x.n,λk f d=>by
 rw[gW.dm _ _ λe=>?_];.exact x.b9 k f d
 .subst e;rcases h with h|h
  .exact d h
  .apply xx<;>right⟩
theorem gW.E.add(x:gW.E h a b)(c):gW.E h a<|b.add c:=⟨f2 x.n<|jo _,λk d e=>by rw[gW.fh _ _ (by haveI:=x.n;exact iw (hD d this))];exact x.b9 k d e⟩
theorem gW.E.sub{a b}(x:gW.E i a b)(h:∀n∈i,n∈c\/a.f<=n):gW.E c a b:=⟨x.n,λk d f=>x.b9 k d λe=>by
 rcases h k e with h|h
 .exact f h
 .lia⟩
theorem gW.E.at(x:gW.E i a b){n}(d:n<a.f)(e:n∉i)(h:a.j n=U c):b.j n=U c:=(x.b9 n d e).trans h
noncomputable def H6(l:List Int):MC:=.m (l.map .int)
noncomputable def mf(T:iW)(C:PC)(b:DS)(k:KS):KS:=⟨λρ st=>WS T C b ρ st k,k.aS,k.b,k.z⟩
noncomputable def lC(i:Nat):MC:=.m [.int i]
noncomputable def wV:DE:=.sub (.j 1) (.aV (.int 0))
theorem sB{m:gW}(h:m.j x=U (.m l))(a:l[i]?=U c)(q:Q c m.l):li T (.mut<|.j x) (.int (i:Nat)) m.l Q:=(tA h<|pO (if_pos<|j9 i) a q)
theorem A8{m:gW}(b:ρ[1]?=U (U<|.mut<|.j a))(h:m.j a=U (lC i))(q:Q (.int i) m.l):WE T C wV ρ m.l Q X:=(jl (T:=T) (C:=C) (X:=X) (Q:=λx st=>li T x _ st Q) b<|sB h O q)
noncomputable def H7:DS:=.c4 (.j 1) (.aV (.int 0)) (.a1 .add wV (.aV (.int 1)))
theorem Vi{m:gW}(b:ρ[1]?=U (U<|.mut<|.j a))(h:m.j a=U (lC i))(q:k.n ρ (m.set a<|lC (i+1)).l):WS T C H7 ρ m.l k:=A8 b h<|jl (T:=T) (C:=C) (X:=k.z ρ) (Q:=λa st=>y5 a _ _ ρ st _) b<|CW h ⟨sW 0,kg 0,q⟩
theorem Vj{m:gW}{K:St->Prop}(a:ρ[i]?=U (U<|.mut<|.j r))(h:m.j r=U (.m us))(hl:us.length<1000000)(b:∀Q,Q v m.l->WE T C e ρ m.l Q X)(k:K (m.set r<|.m (us++[v])).l):WE T C (.aO (.j i) e) ρ m.l (λc st=>K st) X:=(jl (T:=T) (C:=C) (X:=X) a<|uh h<|b _ (p5 h hl k))
noncomputable def H8(v:Bool)(a b:DS):DS:=match v with|H=>a|g=>b
theorem jd(v)(h:∀Q,Q (.bool v) st->WE T C t ρ st Q (k.z ρ))(q:WS T C (H8 v a b) ρ st k):WS T C (.ite t a b) ρ st k:=h _ (by induction v<;>exact q)
theorem iX(v)(h:∀Q,Q (.bool v) st->WE T C t ρ st Q (k.z ρ))(q:WS T C (H8 v a b) ρ st<|mf T C c k):WS T C (.seq (.ite t a b) c) ρ st k:=jd v h q
theorem j2(h:∀Q,Q (.bool g) st->WE T C t ρ st Q (k.z ρ))(q:WS T C c ρ st k):WS T C (.seq (.ite t a .dG) c) ρ st k:=iX _ h q
theorem kq(v)(h:∀Q,Q v st->WE T C e ρ st Q (k.z ρ))(q:WS T C c (qU v a ρ) st k):WS T C (.seq (.bW a e) c) ρ st k:=h _ q
theorem Vk(q:jb (WE T C t) (WS T C b) (mf T C c k) ρ st):WS T C (.seq (.bm t b) c) ρ st k:=q
theorem wW{m:gW}(b:ρ[1]?=U (U<|.mut<|.j a))(h:m.j a=U (lC i))(q:WS T C c ρ (m.set a<|lC (i+1)).l k):WS T C (.seq H7 c) ρ m.l k:=Vi b h q
theorem nU{ρ}{m:gW}(v)(a:ρ[i]?=U (U<|.mut<|.j r))(h:m.j r=U (.m us))(hl:us.length<1000000)(b:∀Q,Q v m.l->WE T C e ρ m.l Q (k.z ρ))(q:k.n ρ (m.set r<|.m (us++[v])).l):WS T C (.as<|.aO (.j i) e) ρ m.l k:=Vj a h hl b q
theorem nA{m:gW}(v)(a:ρ[i]?=U (U<|.mut<|.j r))(h:m.j r=U (.m us))(hl:us.length<1000000)(b:∀Q,Q v m.l->WE T C e ρ m.l Q (k.z ρ))(q:WS T C c ρ (m.set r<|.m (us++[v])).l k):WS T C (.seq (.as<|.aO (.j i) e) c) ρ m.l k:=nU v a h hl b q
theorem kr{e}(v)(a:∀Q,Q v st->WE T C e ρ st Q (k.z ρ))(q:k.aS v st):WS T C (.ret e) ρ st k:=a _ q
noncomputable def mG(F:List Nat)(p:Nat):AV:=.au [.int p,.int (hO F p),.int (g1 F p)]
theorem A9(v)(ae)(h:∀Q,Q v ae->WE T C e ρ st Q (k.z ρ))(q:WS T C c (qU v a ρ) ae k):WS T C (.seq (.bW a e) c) ρ st k:=h _ q
theorem H9(h:WS T C b ρ st k):(mf T C b k).n ρ st:=h
end
section
open PySem
noncomputable def kS(k:Kd):List Nat:=Kd.rec [88] [101,110,100] [68] [75] (λ_=>[83]) k
noncomputable def sC(t:Th):AV:=Kd.rec .none .none .none (.str t.Y) (λ_=>.str t.Y) t.i
noncomputable def kB(k:Kd):Bool:=Kd.rec g g g g (λy=>y) k
noncomputable def kG(B:List Nat)(t:Th):AV:=.au [.str (kS t.i),mG B t.h,sC t,.bool (kB t.i)]
noncomputable def uC(B:List Nat)(W:List Th):MC:=.m (W.map (kG B))
noncomputable def i7(B:List Nat)(x:Option Rf):AV:=Option.rec .none (λx=>.au [.str (bif x.k then[115,99,97,110,110,101,114]else[112,97,114,115,101,114]),mG B x.h,Option.rec .none (mG B) x.aW]) x
noncomputable abbrev uD:DE:=.sub (.j 0) wV
structure Rc (B:List Nat)(W:List Th)(z a9:Nat)(ah:List Th)(m:gW):Prop where
 z:m.j z=U (uC B W)
 a9:m.j a9=U (lC ah.length)
section
variable{B:List Nat}{W ah r:List Th}{t u:Th}{m:gW}{x a:Nat}{ρ:Loc}{T:iW}{C:PC}{Q:AV->St->Prop}{X:hv->St->Prop}
theorem wX(b:ρ[0]?=U (U<|.mut<|.j x))(e:ρ[1]?=U (U<|.mut<|.j a))(D:Rc B W x a ah m)(f:W=ah++t::r)(q:Q (kG B t) m.l):WE T C uD ρ m.l Q X:=by refine jl (T:=T) (C:=C) (X:=X) b<|A8 e D.a9<|sB D.z ?_ q;rw[f,kU,sR (by rw[h8];exact hJ _),h8,yr];rfl
theorem A_{k:KS}{c:DS}(b:ρ[0]?=U (U<|.mut<|.j x))(e:ρ[1]?=U (U<|.mut<|.j a))(D:Rc B W x a ah m)(f:W=ah++t::r)(q:WS T C c ((((ρ.set 3 (U (.str (kS t.i)))).set 4 (U (mG B t.h))).set 5 (U (sC t))).set 6 (U (.bool (kB t.i)))) m.l k):WS T C (.seq (.cI [3,4,5,6] uD) c) ρ m.l k:=wX b e D f q
theorem Vl(b:ρ[0]?=U (U<|.mut<|.j x))(e:ρ[1]?=U (U<|.mut<|.j a))(D:Rc B W x a ah m)(f:W=ah++t::u::r)(q:Q (kG B u) m.l):WE T C (.sub (.j 0) (.a1 .add wV (.aV (.int 1)))) ρ m.l Q X:=by refine jl (T:=T) (C:=C) (X:=X) b<|A8 e D.a9 (show nr .add (.int ah.length) (.int 1) m.l (λy st=>li T _ y st Q)from rZ O (show li T _ (.int (ah.length+1:Nat)) m.l Q from sB D.z ?_ q));rw[f,kU,sR (by rw[h8];exact jo _),h8,JP];rfl
end
section
variable{C:Nat->PC}(Y:mF C){B:List Nat}{W ah r:List Th}{t:Th}{m:gW}{x a d:Nat}{Q:AV->St->Prop}{X:hv->St->Prop}{c:Int}
include Y
theorem uE(D:Rc B W x a ah m)(b:W=ah++t::r)(f:t.i=.k H->r≠[])(k:Q (i7 B (i0 B c (t::r))) m.l):C (d+1) 1546 [.mut<|.j x,.mut<|.j a,.int c] m.l Q X:=by
 refine Y.c O O<|A_ O O D b ?_;obtain⟨kd,p,v⟩:=t;induction kd with|z=>exact k|d=>exact k|aZ=>exact k|i=>exact k|k y=>
  induction y with|false=>exact k|true=>
   obtain⟨u,s,rfl⟩:∃u s,r=u::s:=by induction r with|nil=>exact absurd O (f O)|cons u s=>exact pE _ _ O
   refine j2 (λQ q=>q)<|iX (decide (c<=g1 B p)) (λQ q=>q) ?_;have k':Q (i7 B (bif decide (c<=g1 B p)then k7 B c ⟨.k H,p,v⟩ (u::s)else V)) m.l:=k;generalize decide (c<=g1 B p)=b1 at k' ⊢;induction b1 with|false=>exact k'|true=>refine kq (kG B u) (λQ q=>Vl O O D b q) ?_;refine iX (decide ((g1 B p:Int)=c)) (λQ q=>q) ?_;have k':Q (i7 B (bif decide ((g1 B p:Int)=c)then U ⟨H,u.h,U p⟩else Kd.rec (motive:=λ_=>Option Rf) (U ⟨H,u.h,V⟩) V V V (λ_=>V) u.i)) m.l:=k';clear k;generalize decide ((g1 B p:Int)=c)=e at k' ⊢;induction e with|true=>exact k'|false=>obtain⟨kd,h,i⟩:=u;induction kd with|z=>exact k'|d=>exact k'|aZ=>exact k'|i=>exact k'|k=>exact k'
noncomputable def mh(B:List Nat)(c:Int)(t:Th):List Nat:=bif j' B c t then[111,117,116]else bif decide ((g1 B t.h:Int)=c)then kS t.i else[105,110]
theorem A'(D:Rc B W x a ah m)(e:W=ah++t::r)(k:Q (.str (mh B c t)) m.l):C (d+1) 1553 [.mut<|.j x,.mut<|.j a,.int c] m.l Q X:=by
 refine Y.c O O<|A_ O O D e ?_;refine iX (j' B c t) (λQ q=>?_) ?_;.obtain⟨kd,p,v⟩:=t;induction kd with|z=>exact q|d=>exact q|aZ=>exact q|i=>exact q|k=>exact q
 .unfold mh at k;generalize j' B c t=o at k ⊢;induction o with|true=>exact k|false=>refine kr _ (λQ q=>?_) k;show kL (decide ((g1 B t.h:Int)=c)) _ _;have q:Q (.str (bif decide ((g1 B t.h:Int)=c)then kS t.i else[105,110])) m.l:=q;generalize decide ((g1 B t.h:Int)=c)=b at q ⊢;induction b with|true=>exact q|false=>exact q
end
end
section
open PySem
noncomputable def h2:Ev->AV| .bz=>.au [.str [115,116,114,101,97,109]]| .cT=>.au [.str [115,116,114,101,97,109,32,101,110,100]]| .bM x=>.au [.str [100,111,99,117,109,101,110,116],.bool x]| .cq x=>.au [.str [100,111,99,117,109,101,110,116,32,101,110,100],.bool x]| .dz _=>.au [.str [110,111,110,101]]| .a0 _ _ i j v s=>.au [.str [118,97,108,117,101],.au [.bool i,.bool j],.str v,s]| .dh _ _ _ f=>.au [.str [108,105,115,116],f]| .dC=>.au [.str [108,105,115,116,32,101,110,100]]| .d3 _ _ _ f=>.au [.str [109,97,112],f]| .ey=>.au [.str [109,97,112,32,101,110,100]]
noncomputable def rj(e:Ev):Prop:=lN 6 (h2 e)=H
structure Rd (B:List Nat)(W:List Th)(x a u:Nat)(ah:List Th)(m:gW):Prop where
 aW:Rc B W x a ah m
 bR:x<m.f
 gd:a<m.f
 gf:u<m.f
 fw:x≠a
 fx:x≠u
 e3:a≠u
theorem Rd.e4(h:Rd B W x a u ah m)(t):Rd B W x a u (ah++[t]) (m.set a<|lC (ah.length+1)):=⟨⟨by rw[gW.dm _ _ h.fw];exact h.aW.z,by rw[io];exact gW.bj _ _ _⟩,h.bR,h.gd,h.gf,h.fw,h.fx,h.e3⟩
theorem Rd.cR(h:Rd B W x a u ah m)(v):Rd B W x a u ah (m.set u v):=⟨⟨by rw[gW.dm _ _ h.fx];exact h.aW.z,by rw[gW.dm _ _ h.e3];exact h.aW.a9⟩,h.bR,h.gd,h.gf,h.fw,h.fx,h.e3⟩
theorem Rd.e5(h:Rd B W x a u ah m)(e:m.j u=U v)(i):(m.set a<|lC i).j u=U v:=by rw[gW.dm _ _ (Ne.symm h.e3)];exact e
structure Ps (B:List Nat)(W:List Th)(x a u k:Nat)(m:gW)(us:List AV)(R:List Th)(D:List Ev)(v:Option Rf)(R':List Th)(m':gW):Prop where
 E:gW.E [a,u] m m'
 n:D.length+20*R'.length<=20*R.length+k
 db:m'.j u=U (.m (us++D.map h2))
 d5:∀e∈D,rj e
 cP:v=V->∃f,Rd B W x a u f m'/\W=f++R'/\Wf B R'/\R'.length<=R.length
noncomputable def Dat(W:List Th):Prop:=∀t∈W,∀c∈t.Y,c<1000
noncomputable def wY(C:Nat->PC)(B:List Nat)(W:List Th)(x a u:Nat)(R:List Th):Prop:=
 ∀{d:Nat} {m:gW} {ah:List Th} {us:List AV} {Q:AV->St->Prop} {X:hv->St->Prop} (i:Int),Rd B W x a u ah m->m.j u=U (.m us)->W=ah++R->Wf B R->i0 B i R=V->(∀t r,R=t::r->3<=ig B i t)->2*R.length<=d->us.length+20*R.length<=50000->
 (∀m' D v R',me B i R D v R'->Ps B W x a u 5 m us R D v R' m'->Q (i7 B v) m'.l)->C (d+1) 1560 [.mut (.j x),.mut (.j a),.mut (.j u)] m.l Q X
noncomputable def fr(B:List Nat)(x a u op:Nat)(c:Int)(a5 a6:Option AV):Loc:=[U (.mut (.j x)),U (.mut (.j a)),U (.mut (.j u)),U (mG B op),U (.int c),a5,a6]
noncomputable def qg(Q:AV->St->Prop)(X:hv->St->Prop):KS:=⟨λe st=>Q .none st,Q,λe e=>False,λe=>X⟩
noncomputable def sD:DS:=GN.snd.bC
noncomputable def sE:DS:=GO.snd.bC
theorem nV(h:Wf B R):∃t r,R=t::r:=by induction h<;>exact pE _ _ O
theorem rk(h:Wf B R):∀t r,R=t::r->t.i≠ .z->t.i≠ .d->Wf B r/\∀u s,(t.i=.i\/t.i=.aZ)->r=u::s->u.i=.k g->cl B t≠cl B u:=by
 induction h with
 |z=>intro t r e f;cases e;exact absurd O f
 |d=>intro t r e f i;cases e;exact absurd O i
 |aW f i=>intro t r e _ _;cases e;exact⟨f,i⟩
inductive Wh (B:List Nat)(c:Int)(t:Th):Prop|b0:ig B c t=0->mh B c t=[111,117,116]->Wh B c t|aZ:ig B c t=1->mh B c t=[68]->t.i=.aZ->cl B t=c->Wh B c t|i:ig B c t=2->mh B c t=[75]->t.i=.i->cl B t=c->Wh B c t|R:3<=ig B c t->mh B c t=[105,110]->Wh B c t|k {y:Bool}:3<=ig B c t->mh B c t=[83]->t.i=.k y->cl B t=c->Wh B c t
theorem Ba(h:i0 B c (t::r)=V):Wh B c t:=by
 have w:∀o,j' B c t=o->Wh B c t:=by
  intro o f;have hw:mh B c t=bif o then[111,117,116]else bif decide (cl B t=c)then kS t.i else[105,110]:=by unfold mh;rw[f]
  have hc:ig B c t=bif o then 0 else Kd.rec 9 0 (bif decide (cl B t=c)then 1 else 3) (bif decide (cl B t=c)then 2 else 4) (λ_=>5) t.i:=by unfold ig;rw[f]
  induction o with|true=>exact .b0 hc hw|false=>
   have i:ke t.i=false:=(ys.mp f).1;by_cases e:cl B t=c
   .rw[decide_eq_true e]at hw hc;obtain⟨k,p,v⟩:=t;induction k with
    |z=>exact hu h.symm|d=>cases i
    |aZ=>exact .aZ hc hw O e|i=>exact .i hc hw O e|k y=>exact .k (by rw[hc];exact(by decide:3<=5)) hw O e
   .rw[decide_eq_false e]at hw hc;refine .R ?_ hw;rw[hc];obtain⟨k,p,v⟩:=t;induction k with
    |z=>exact hu h.symm|d=>cases i
    |aZ=>exact(by decide:3<=3)|i=>exact(by decide:3<=4)|k y=>exact(by decide:3<=5)
 exact w _ O
section
variable{C:Nat->PC}(Y:mF C){B:List Nat}{W ah R:List Th}{x a u op:Nat}{c:Int}{m:gW}{d:Nat}{k:KS}{a5 a6:Option AV}{b1 b:DS}
include Y
theorem wZ(D:Rd B W x a u ah m)(e:W=ah++R)(hw:Wf B R)(f:∀y,i0 B c R=U y->k.aS (i7 B (U y)) m.l)(j:∀t r,R=t::r->i0 B c R=V->Wh B c t->WS gY (C (d+1)) b (fr B x a u op c (U .none) (U (.str (mh B c t)))) m.l k):WS gY (C (d+1)) (.seq (gX 5 (iS 1546 [ho,g7,im])) (.seq (g' (.Q .cm h3 hN) (.ret h3)) (.seq (gX 6 (iS 1553 [ho,g7,im])) b))) (fr B x a u op c a5 a6) m.l k:=by
 exists i;obtain⟨t,r,rfl⟩:=nV hw;refine i<|kq (i7 B (i0 B c (t::r))) (λQ q=>uE Y D.aW e (λh=>?_) q) ?_;.obtain⟨u,s,h⟩:=nV (rk hw t r O (by rw[h];exactλh=>nomatch h) (by rw[h];exactλh=>nomatch h)).1;rw[h];exact u_ _ _
 .have l:=f;induction hp:i0 B c (t::r)with|some y=>exact iX H (λQ q=>q)<|kr (i7 B (U y)) (λQ q=>q) (f y hp)|none=>exact j2 (λQ q=>q)<|kq (.str (mh B c t)) (λQ q=>A' Y D.aW e q)<|j t r O hp (Ba hp)
end
end
section
open PySem
theorem mH(h:WE T C e ρ st (λv st=>WS T C c (qU v b ρ) st k)<|k.z ρ):WS T C (.seq (.bW b e) c) ρ st k:=h
theorem Vm{T:iW}{C:PC}{B:List Nat}{W ah r:List Th}{t:Th}{m:gW}{x a:Nat}{ρ:Loc}{X:hv->St->Prop}(b:ρ[0]?=U (U<|.mut<|.j x))(c:ρ[1]?=U (U<|.mut<|.j a))(D:Rc B W x a ah m)(d:W=ah++t::r)(Q:AV->St->Prop)(q:Q (mG B t.h) m.l):WE T C (.sub uD ic) ρ m.l Q X:=wX (Q:=λx st=>li T x (.int 1) st Q) b c D d q
theorem uF{T:iW}{C:PC}{B:List Nat}{W ah r:List Th}{t:Th}{m:gW}{x a:Nat}{ρ:Loc}{l:List Nat}{b:DE}{v3:AV}{X:hv->St->Prop}(c:ρ[0]?=U (U<|.mut<|.j x))(d:ρ[1]?=U (U<|.mut<|.j a))(D:Rc B W x a ah m)(h:W=ah++t::r)(f:∀Q:AV->St->Prop,Q v3 m.l->WE T C b ρ m.l Q X)(Q:AV->St->Prop)(q:Q (.au [.str l,mG B t.h,v3]) m.l):WE T C (hj [hS l,.sub uD ic,b]) ρ m.l Q X:=wX (Q:=λx st=>li T x (.int 1) st λy st=>WE T C b ρ st (λz st=>Q (.au [.str l,y,z]) st) X) c d D h (f _ q)
section
variable{B:List Nat}{W ah R R' R1 R2 r:List Th}{x a u:Nat}{m m1 m':gW}{us:List AV}{D D1 D2:List Ev}{v:Option Rf}{k k':Nat}{t:Th}{e:Ev}
theorem nW(b:m.j u=U (.m us)):Ps B W x a u k m us R [] (U y) [] m:=⟨.refl _ _,i' _,by rw[b];exact congrArg (λl=>U (MC.m l)) (j3 _).symm,(λe h=>nomatch h),λh=>hu h.symm⟩
theorem Bb(c:m.j u=U (.m us))(D:Rd B W x a u ah m)(b:W=ah++R)(hw:Wf B R):Ps B W x a u k m us R [] V R m:=⟨.refl _ _,by rw[Ch,lG];exact iy _ _,by rw[c];exact congrArg (λl=>U (MC.m l)) (j3 _).symm,(λe h=>nomatch h),λ_=>⟨ah,D,b,hw,hJ _⟩⟩
theorem nX(c:rj e)(P:Ps B W x a u k (m.set u (.m (us++[h2 e]))) (us++[h2 e]) R D v R' m'):Ps B W x a u (k+1) m us R (e::D) v R' m':=⟨((gW.E.refl [a,u] m).set _ (.inl (.tail _ (.head _)))).trans (P.E.sub λn h=>.inl h),by rw[iD,iZ];exact mj P.n,by rw[P.db,i8];rfl,λb h=>(ir.mp h).elim (λq=>q▸c) (P.d5 b),P.cP⟩
theorem nB(c:k<=k'+20)(P:Ps B W x a u k (m.set a (lC i)) us r D v R' m'):Ps B W x a u k' m us (t::r) D v R' m':=⟨((gW.E.refl [a,u] m).set _ (.inl (.head _))).trans (P.E.sub λn h=>.inl h),by have:=P.n;rw[iD];lia,P.db,P.d5,λh=>hz (P.cP h) λb q=>⟨b,q.1,q.2.1,q.2.2.1,lb q.2.2.2⟩⟩
theorem w1(P:Ps B W x a u k m us R D1 V R1 m1)(b:Ps B W x a u k' m1 (us++D1.map h2) R1 D2 v R2 m'):Ps B W x a u (k+k') m us R (D1++D2) v R2 m':=⟨P.E.trans (b.E.sub λn h=>.inl h),by have:=P.n;have:=b.n;rw[io];lia,by rw[b.db,i8,kU],λe h=>(lg.mp h).elim (P.d5 e) (b.d5 e),λh=>hz (P.cP O) λ_ q=>hz (b.cP h) λc d=>⟨c,d.1,d.2.1,d.2.2.1,f2 d.2.2.2 q.2.2.2⟩⟩
theorem qh(P:Ps B W x a u k m us R D v R' m')(h:k<=k'):Ps B W x a u k' m us R D v R' m':=⟨P.E,f2 P.n (iU h _),P.db,P.d5,P.cP⟩
theorem Bc(P:Ps B W x a u k m us R D (U y) R' m'):Ps B W x a u k m us R D (U y) [] m':=⟨P.E,f2 (iU (i' _) _) P.n,P.db,P.d5,λh=>hu h.symm⟩
end
noncomputable def Vn(C:Nat->PC)(B:List Nat)(W:List Th)(x a u:Nat)(R:List Th):Prop:=
 ∀{d:Nat} {m:gW} {ah:List Th} {us:List AV} {Q:AV->St->Prop} {X:hv->St->Prop} {a5 a6:Option AV} (op:Nat) (c:Int), -1<c->Rd B W x a u ah m->m.j u=U (.m us)->W=ah++R->Wf B R->2*R.length<=d+2->us.length+20*R.length<=50010->
 (∀m' D v R',mE B g c op R D v R'->Ps B W x a u 4 m us R D v R' m'->Q (i7 B v) m'.l)->jb (WE gY (C (d+1)) hT) (WS gY (C (d+1)) sD) (qg Q X) (fr B x a u op c a5 a6) m.l
section
variable{C:Nat->PC}(Y:mF C){B:List Nat}{W:List Th}{x a u n:Nat}
include Y
theorem Vo(N:∀r,r.length<n->wY C B W x a u r):∀k R,R.length<=k->R.length<=n->Vn C B W x a u R:=by
 intro k;induction k with
 |zero=>intro R b aQ d m ah us Q X a5 a6 op c hc D A w hw;exists aO;obtain⟨t,r,rfl⟩:=nV hw;exact absurd b (Cn _)
 |succ k aR=>
  intro R aP aQ d m ah us Q X a5 a6 op c hc D A w hw hd hl K;refine .turn (jb (WE gY (C (d+1)) hT) (WS gY (C (d+1)) sD) (qg Q X)) (λ_ _ h=>h) ?_;show WS gY (C (d+1)) sD (fr B x a u op c a5 a6) m.l ⟨jb (WE gY (C (d+1)) hT) (WS gY (C (d+1)) sD) (qg Q X),Q,λM st=>Q .none st,λM=>X⟩;refine wZ Y D w hw (λy h=>K m [] (U y) [] (HU h) (nW A)) λt r e hp aW=>?_;subst e;have aS:us.length<1000000:=by lia
  induction aW with|b0 b p=>rw[p];exact iX H (λQ q=>q)<|nA (h2 .dC) O A aS (λQ q=>q)<|kr .none (λQ q=>q)<|K _ [.dC] V _ (UZ hc hp hw b) (qh (nX (k:=0) O (Bb (gW.bj _ _ _) (D.cR _) w hw)) (by decide))|i b p=>rw[p];refine j2 (λQ q=>q)<|iX H (λQ q=>q)<|kr (i7 B (U ⟨g,t.h,U op⟩)) (uF O O D.aW w λQ q=>q)<|K _ [] _ [] (A6 hc hp hw (by rw[b];decide) (by rw[b];decide)) (nW A)|R b p=>rw[p];refine j2 (λQ q=>q)<|iX H (λQ q=>q)<|kr (i7 B (U ⟨g,t.h,U op⟩)) (uF O O D.aW w λQ q=>q)<|K _ [] _ [] (A6 hc hp hw (by intro q;rw[q]at b;exact absurd b (by decide)) (by intro q;rw[q]at b;exact absurd b (by decide))) (nW A)|k b p=>rw[p];refine j2 (λQ q=>q)<|iX H (λQ q=>q)<|kr (i7 B (U ⟨g,t.h,U op⟩)) (uF O O D.aW w λQ q=>q)<|K _ [] _ [] (A6 hc hp hw (by intro q;rw[q]at b;exact absurd b (by decide)) (by intro q;rw[q]at b;exact absurd b (by decide))) (nW A)|aZ b p I=>
   rw[p];refine j2 (λQ q=>q)<|j2 (λQ q=>q)<|wW O D.aW.a9 ?_;have D1:=D.e4 t;have s:=D.e5 A (ah.length+1);have i:W=(ah++[t])++r:=by rw[w,i8];rfl
   have f:=(rk hw t r O (by rw[I];exactλh=>nomatch h) (by rw[I];exactλh=>nomatch h)).1;have z:r.length+1<=n:=aQ;rw[iD]at hl hd aP;refine wZ Y D1 i f (λy h=>K _ [] (U y) [] (o_ hc hp hw b (HV h)) (nB (k:=0) (by decide) (nW s))) λt2 aU e2 j av=>?_;subst e2;have E:∀a6,(ig B c t2=0\/ig B c t2=1)->WS gY (C (d+1)) (.as (.aO hR (.cZ ra))) (fr B x a u op c (U .none) a6) (m.set a (lC (ah.length+1))).l ⟨jb (WE gY (C (d+1)) hT) (WS gY (C (d+1)) sD) (qg Q X),Q,λM st=>Q .none st,λM=>X⟩:=by intro a6 G;refine nU (h2 p_) O s aS (λQ q=>q)<|aR (t2::aU) (by lia) (jM z) op c hc (D1.cR _) (gW.bj _ _ _) i f (by lia) (by rw[io,qE];lia) λm' D2 v R' L P=>K m' _ v R' (o_ hc hp hw b (HZ hc j f (G.imp_right .inl) L)) (nB (by decide) (nX O P))
   have J:∀a6,3<=ig B c t2->WS gY (C (d+1)) (.seq (gX 5 (iS 1560 [ho,g7,hR])) (g' (.Q .cm h3 hN) (.ret h3))) (fr B x a u op c (U .none) a6) (m.set a (lC (ah.length+1))).l ⟨jb (WE gY (C (d+1)) hT) (WS gY (C (d+1)) sD) (qg Q X),Q,λM st=>Q .none st,λM=>X⟩:=by intro a6 G;refine mH (N (t2::aU) z c D1 s i f j (λt r e=>by cases e;exact G) (by lia) (by lia) λm' D2 v R1 ns P=>?_);induction v with|some y=>exact jd H (λQ q=>q)<|kr (i7 B (U y)) (λQ q=>q)<|K m' D2 (U y) [] (o_ hc hp hw b (H2 hc j f G ns)) (nB (by decide) (Bc P))|none=>exists aO;obtain⟨aT,aV,T,au,aN⟩:=P.cP O;have pn:=P.n;rw[iD]at aN hl hd aP pn;refine aO<|jd g (λQ q=>q)<|aR R1 (by lia) (by rw[iD]at z;lia) op c hc aV P.db T au (by lia) (by rw[io,h8];lia) λm2 aX v R' L P2=>K m2 _ v R' (o_ hc hp hw b (H1 hc j f G ns aN L)) (nB (by decide) (w1 P P2))
   induction av with|b0 l o=>rw[o];exact jd H (λQ q=>q)<|E _ (.inl l)|aZ l o=>rw[o];exact jd H (λQ q=>q)<|E _ (.inr l)|i l o=>rw[o];exact jd g (λQ q=>q)<|jd H (λQ q=>q)<|kr (i7 B (U ⟨g,t2.h,U t2.h⟩)) (uF O O D1.aW i<|Vm O O D1.aW i)<|K _ [] _ [] (o_ hc hp hw b (U4 hc j f l)) (nB (k:=0) (by decide) (nW s))|R l o=>rw[o];exact jd g (λQ q=>q)<|jd g (λQ q=>q)<|J _ l|k l o=>rw[o];exact jd g (λQ q=>q)<|jd g (λQ q=>q)<|J _ l
end
end
section
open PySem
theorem H_{y:Bool}(hp:i0 B c (t::r)=V)(hw:Wf B (t::r))(d:t.i=.k y)(b:cl B t=c)(h:y=g->False):False:=by obtain⟨k,p,v⟩:=t;cases(show k=.k y from d);induction y with|false=>exact h O|true=>obtain⟨u,s,rfl⟩:=nV (rk hw _ r O (λh=>nomatch h) (λh=>nomatch h)).1;have hp:(bif decide (c<=g1 B p)then k7 B c ⟨.k H,p,v⟩ (u::s)else V)=none:=hp;rw[decide_eq_true (show c<=g1 B p by rw[<-b];exact sW _)]at hp;have hp:(bif decide ((g1 B p:Int)=c)then U ⟨H,u.h,U p⟩else Kd.rec (motive:=λ_=>Option Rf) (U ⟨H,u.h,V⟩) V V V (λ_=>V) u.i)=none:=hp;rw[decide_eq_true (show(g1 B p:Int)=c from b)]at hp;exact hu hp.symm
theorem w_(hw:Wf B (t::r))(h:t.i=.k H):r≠[]:=by obtain⟨u,s,h⟩:=nV (rk hw t r O (by rw[h];exactλh=>nomatch h) (by rw[h];exactλh=>nomatch h)).1;rw[h];exact u_ _ _
noncomputable def kM(C:PC)(Q:AV->St->Prop)(X:hv->St->Prop):KS:=⟨jb (WE gY C hT) (WS gY C sE) (qg Q X),Q,λb st=>Q .none st,λb=>X⟩
noncomputable def H'(C:Nat->PC)(B:List Nat)(W:List Th)(x a u:Nat)(R:List Th):Prop:=
 ∀{d:Nat} {m:gW} {ah:List Th} {us:List AV} {Q:AV->St->Prop} {X:hv->St->Prop} {a5 a6:Option AV} (op:Nat) (c:Int), -1<c->Rd B W x a u ah m->m.j u=U (.m us)->W=ah++R->Wf B R->2*R.length<=d+2->us.length+20*R.length<=50015->
 (∀m' D v R',o9 B c op R D v R'->Ps B W x a u 3 m us R D v R' m'->Q (i7 B v) m'.l)->jb (WE gY (C (d+1)) hT) (WS gY (C (d+1)) sE) (qg Q X) (fr B x a u op c a5 a6) m.l
noncomputable def qi:DS:=sE.snd.snd.snd.snd.snd.snd.snd.snd.snd.snd.gK.snd
noncomputable def pa(C:PC)(Q:AV->St->Prop)(X:hv->St->Prop):KS:=mf gY C qi.snd (kM C Q X)
noncomputable def uG:DE:=hH iz (hS [68])
noncomputable def Vp(C:Nat->PC)(B:List Nat)(W:List Th)(x a u:Nat)(t:Th)(r:List Th):Prop:=
 ∀{d:Nat} {m:gW} {ah:List Th} {us:List AV} {Q:AV->St->Prop} {X:hv->St->Prop} {a5:Option AV} (op:Nat) (c:Int), -1<c->Rd B W x a u ah m->m.j u=U (.m us)->W=ah++t::r->Wf B (t::r)->i0 B c (t::r)=V->2*(t::r).length<=d->us.length+20*(t::r).length<=50010->
 (∀m' D v R',mE B H c op (t::r) D v R'->Ps B W x a u 4 m us (t::r) D v R' m'->Q (i7 B v) m'.l)->jb (WE gY (C (d+1)) uG) (WS gY (C (d+1)) qi.fst.bC) (pa (C (d+1)) Q X) (fr B x a u op c a5 (U (.str (mh B c t)))) m.l
section
variable{C:Nat->PC}(Y:mF C){B:List Nat}{W:List Th}{x a u n:Nat}
include Y
theorem Vq(N:∀r,r.length<n->wY C B W x a u r)(M:∀R,R.length<=aM->H' C B W x a u R)(hg:aM<n):∀k t r,(t::r).length<=k->(t::r).length<=aM->Vp C B W x a u t r:=by
 intro k;induction k with|zero=>intro t r h;exact absurd h (Cn _)|succ k bf=>
  intro t r a0 aU d m ah us Q X a5 op c hc D a2 aZ hw hp hd hl K;refine .turn (jb (WE gY (C (d+1)) uG) (WS gY (C (d+1)) qi.fst.bC) (pa (C (d+1)) Q X)) (λ_ _ h=>h) ?_;have a4:us.length<1000000:=by lia
  have j':ig B c t≠1->(pa (C (d+1)) Q X).n (fr B x a u op c a5 (U (.str (mh B c t)))) m.l:=by intro bb;show WS gY (C (d+1)) qi.snd (fr B x a u op c a5 (U (.str (mh B c t)))) m.l (kM (C (d+1)) Q X);exact nU (h2 .dC) O a2 a4 (λQ q=>q)<|M (t::r) aU op c hc (D.cR _) (gW.bj _ _ _) aZ hw (lb (lb hd)) (by rw[io,qE];lia) λm' D2 v R' L P=>K m' _ v R' (U2 hc hp hw bb L) (nX O P)
  cases Ba hp with|b0 i w=>have o:=j' (by rw[i];decide);rw[w]at o ⊢;exact o|i i w=>have o:=j' (by rw[i];decide);rw[w]at o ⊢;exact o|R i w=>have o:=j' (by intro q;rw[q]at i;exact absurd i (by decide));rw[w]at o ⊢;exact o|k i w=>have o:=j' (by intro q;rw[q]at i;exact absurd i (by decide));rw[w]at o ⊢;exact o|aZ i w G aS=>
   rw[w];show WS gY (C (d+1)) qi.fst.bC (fr B x a u op c a5 (U (.str [68]))) m.l ⟨jb (WE gY (C (d+1)) uG) (WS gY (C (d+1)) qi.fst.bC) (pa (C (d+1)) Q X),Q,(pa (C (d+1)) Q X).n,λa'=>X⟩;have D1:=D.e4 t;have I:=D.e5 a2 (ah.length+1);have s:W=(ah++[t])++r:=by rw[aZ,i8];rfl
   have a_:=rk hw t r O (by rw[G];exactλh=>nomatch h) (by rw[G];exactλh=>nomatch h);have f:=a_.1;clear j';rw[iD]at hl hd a0 aU;obtain⟨t2,T,rfl⟩:=nV f;rw[iD]at hl hd a0 aU;have aQ:∀{m2:gW} {z:List AV} {l t3 j a5 a6},Rd B W x a u l m2->m2.j u=U (.m z)->W=l++t3::j->Wf B (t3::j)->i0 B c (t3::j)=V->(t3::j).length<=(t2::T).length->z.length+20*(t3::j).length<=50010->(∀m' D v R',mE B H c op (t3::j) D v R'->Ps B W x a u 4 m2 z (t3::j) D v R' m'->Q (i7 B v) m'.l)->WS gY (C (d+1)) (gX 6 (iS 1553 [ho,g7,im])) (fr B x a u op c a5 a6) m2.l ⟨jb (WE gY (C (d+1)) uG) (WS gY (C (d+1)) qi.fst.bC) (pa (C (d+1)) Q X),Q,(pa (C (d+1)) Q X).n,λa'=>X⟩:=by
    intro m2 z l t3 j a5 a6 D2 aV av aW b aO aT ba
    rw[iD]at aO
    rw[iD]at aO
    exact A' Y D2.aW av (bf t3 j (by rw[iD];lia) (by rw[iD];lia) op c hc D2 aV av aW b (by rw[iD];lia) aT ba)
   refine wW O D.aW.a9<|kq (i7 B (i0 B c (t2::T))) (λQ q=>uE Y D1.aW s (w_ f) q) ?_;induction b:i0 B c (t2::T)with|some y=>exact iX g (λQ q=>q)<|jd g (λQ q=>q)<|iX H (λQ q=>q)<|kr (i7 B (U y)) (λQ q=>q)<|K _ [] (U y) [] (o_ hc hp hw i (HV b)) (nB (k:=0) (by decide) (nW I))|none=>refine iX (hm (mh B c t2) [105,110]) (λQ q=>A' Y D1.aW s q) ?_;have E:(ig B c t2=0\/ig B c t2=1\/H=H/\ig B c t2=2)->WS gY (C (d+1)) (g' (.Q .ck h3 hN) (.as (.aO hR (.cZ ra)))) (fr B x a u op c (U .none) (U (.str [68]))) (m.set a (lC (ah.length+1))).l (mf gY (C (d+1)) (.seq (g' (.Q .cm h3 hN) (.ret h3)) (gX 6 (iS 1553 [ho,g7,im]))) ⟨jb (WE gY (C (d+1)) uG) (WS gY (C (d+1)) qi.fst.bC) (pa (C (d+1)) Q X),Q,(pa (C (d+1)) Q X).n,λa'=>X⟩):=λbc=>jd H (λQ q=>q)<|nU (h2 p_) O I a4 (λQ q=>q)<|j2 (λQ q=>q)<|aQ (D1.cR _) (gW.bj _ _ _) s f b (hJ _) (by rw[io,qE,iD];lia) λm' D2 v R' L P=>K m' _ v R' (o_ hc hp hw i (HZ hc b f bc L)) (nB (by decide) (nX O P));cases Ba b with|b0 p A=>rw[A];exact E (.inl p)|aZ p A=>rw[A];exact E (.inr (.inl p))|i p A=>rw[A];exact E (.inr (.inr ⟨rfl,p⟩))|k p A gk ge=>exact(H_ b f gk ge λbe=>a_.2 t2 T (.inr G) O (by rw[gk,be]) (aS.trans ge.symm)).elim|R p A=>rw[A];refine mH (N (t2::T) (by rw[iD];lia) c D1 I s f b (λt r e=>by cases e;exact p) (by rw[iD];lia) (by rw[iD];lia) λm' D2 v R1 ns P=>?_);induction v with|some y=>exact jd g (λQ q=>q)<|iX H (λQ q=>q)<|kr (i7 B (U y)) (λQ q=>q)<|K m' D2 (U y) [] (o_ hc hp hw i (H2 hc b f p ns)) (nB (by decide) (Bc P))|none=>exists bd;obtain⟨a7,aX,aN,J,aY⟩:=P.cP O;obtain⟨t3,j,rfl⟩:=nV J;have pn:=P.n;refine bd<|jd H (λQ q=>q) (uE Y aX.aW aN (w_ J) ?_);have au:∀aR v R',mE B H c op (t3::j) aR v R'->mE B H c op (t::t2::T) (D2++aR) v R':=λaR v R' L=>o_ hc hp hw i (H1 hc b f p ns aY L);induction aP:i0 B c (t3::j)with|some y=>exact iX H (λQ q=>q)<|kr (i7 B (U y)) (λQ q=>q)<|K m' _ (U y) [] (au [] _ _ (HU aP)) (nB (by decide) (w1 P (nW (k:=0) P.db)))|none=>exact j2 (λQ q=>q)<|aQ aX P.db aN J aP aY (by rw[io,h8];rw[iD,iD]at pn;rw[iD];lia) λm2 aR v R' L P2=>K m2 _ v R' (au _ _ _ L) (nB (by decide) (w1 P P2))
end
end
section
open PySem
theorem Vr{T:iW}{C:PC}{B:List Nat}{W ah r:List Th}{t:Th}{m:gW}{x a:Nat}{ρ:Loc}{X:hv->St->Prop}(b:ρ[0]?=U (U<|.mut<|.j x))(c:ρ[1]?=U (U<|.mut<|.j a))(D:Rc B W x a ah m)(d:W=ah++t::r)(e:t.i=.i)(Q:AV->St->Prop)(q:Q (h2 (.a0 .none .none H g t.Y .none)) m.l):WE T C (hj [hS [118,97,108,117,101],hj [hT,hF],.sub uD (hI 2),hN]) ρ m.l Q X:=by obtain⟨k,p,v⟩:=t;cases(show k=.i from e);exact wX (Q:=λx st=>li T x (.int 2) st λy st=>Q (.au [.str [118,97,108,117,101],.au [.bool H,.bool g],y,.none]) st) b c D d q
theorem Ia(h:Dat W)(f:W=ah++t::r)(k:lN 5 s=H):rj (.a0 a b i j t.Y s):=by
 have e:lN 5 (.str t.Y)=true:=lH.mpr λc hc=>u9 (f2 (h t (by rw[f];exact B' _ (.head _)) c hc) (by decide));refine lH.mpr λx d=>?_;simp only[ir,Co,or_false]at d;rcases d with rfl|rfl|rfl|rfl
 .rfl
 .rfl
 .exact e
 .exact k
section
variable{C:Nat->PC}(Y:mF C){B:List Nat}{W:List Th}{x a u n:Nat}(dW:Dat W)
include Y dW
theorem Vs(N:∀r,r.length<n->wY C B W x a u r):∀k R,R.length<=k->R.length<=n->H' C B W x a u R:=by
 intro k;induction k with
 |zero=>intro R l aO d m ah us Q X a5 a6 op c hc D av M hw;exists aY;obtain⟨t,r,rfl⟩:=nV hw;exact absurd l (Cn _)
 |succ k aV=>
  intro R aZ aO d m ah us Q X a5 a6 op c hc D av M hw hd hl K;refine .turn (jb (WE gY (C (d+1)) hT) (WS gY (C (d+1)) sE) (qg Q X)) (λ_ _ h=>h) ?_;show WS gY (C (d+1)) sE (fr B x a u op c a5 a6) m.l (kM (C (d+1)) Q X);refine wZ Y D M hw (λy h=>K m [] (U y) [] (UU h) (nW av)) λt r e hp bc=>?_;subst e;have a0:us.length<1000000:=by lia
  have w:∀s,hm s [111,117,116]=g->hm s [75]=g->ig B c t≠0->ig B c t≠2->WS gY (C (d+1)) sE.snd.snd.snd (fr B x a u op c (U .none) (U (.str s))) m.l (kM (C (d+1)) Q X):=λs a_ aQ a' ba=>iX g (λQ q=>by show Q (.bool (hm s _)) _;rw[a_];exact q)<|iX H (λQ q=>by show Q (.bool (!hm s _)) _;rw[aQ];exact q)<|kr (i7 B (U ⟨g,t.h,U op⟩)) (uF O O D.aW M λQ q=>q)<|K _ [] _ [] (U1 hc hp hw a' ba) (nW av);cases bc with|b0 l G=>rw[G];exact iX H (λQ q=>q)<|nA (h2 .ey) O av a0 (λQ q=>q)<|kr .none (λQ q=>q)<|K _ [.ey] V _ (U0 hc hp hw l) (qh (nX (k:=0) O (Bb (gW.bj _ _ _) (D.cR _) M hw)) (by decide))|aZ l G=>rw[G];exact w _ O O (by rw[l];decide) (by rw[l];decide)|R l G=>rw[G];exact w _ O O (by intro q;rw[q]at l;exact absurd l (by decide)) (by intro q;rw[q]at l;exact absurd l (by decide))|k l G=>rw[G];exact w _ O O (by intro q;rw[q]at l;exact absurd l (by decide)) (by intro q;rw[q]at l;exact absurd l (by decide))|i l G E aT=>
   clear w;rw[G];have aP:=D.cR (.m (us++[h2 (.a0 .none .none H g t.Y .none)]));have D1:=aP.e4 t;have J:((m.set u (.m (us++[h2 (.a0 .none .none H g t.Y .none)]))).set a (lC (ah.length+1))).j u=_:=aP.e5 (gW.bj _ _ _) (ah.length+1);have A:W=(ah++[t])++r:=by rw[M,i8];rfl
   have a4:=rk hw t r O (by rw[E];exactλh=>nomatch h) (by rw[E];exactλh=>nomatch h);have f:=a4.1;have dt:=Ia (a:=.none) (b:=.none) (i:=H) (j:=g) (s:=.none) dW M O;rw[iD]at hl hd aZ aO;have go:∀{D v R' m'},ri B (t.h+2) (t.h+3) c op r D v R'->Ps B W x a u 20 ((m.set u (.m (us++[h2 (.a0 .none .none H g t.Y .none)]))).set a (lC (ah.length+1))) (us++[h2 (.a0 .none .none H g t.Y .none)]) r D v R' m'->Q (i7 B v) m'.l:=λbe P=>K _ _ _ _ (U8 hc hp hw l be) (nX (k:=2) dt (nB (by decide) P));clear K;refine j2 (λQ q=>q)<|j2 (λQ q=>q)<|nA _ O av a0 (Vr O O D.aW M E)<|wW O aP.aW.a9<|wZ Y D1 A f (λy h=>go (UV h) (nW J)) λt2 aN e2 o aW=>?_;subst e2;rw[iD]at hl hd aZ aO;have T:(us++[h2 (.a0 .none .none H g t.Y .none)]).length=us.length+1:=io;have au:∀a6,(ig B c t2=0\/ig B c t2=2)->WS gY (C (d+1)) (.as (.aO hR (.cZ ra))) (fr B x a u op c (U .none) a6) ((m.set u (.m (us++[h2 (.a0 .none .none H g t.Y .none)]))).set a (lC (ah.length+1))).l (kM (C (d+1)) Q X):=by intro a6 aQ;refine nU (h2 p_) O J (by rw[T];lia) (λQ q=>q)<|aV (t2::aN) (by rw[iD];lia) (by rw[iD];lia) op c hc (D1.cR _) (gW.bj _ _ _) A f (by rw[iD];lia) (by rw[io,T,qE,iD];lia) λm' D2 v R' L P=>go (U3 hc o f aQ L) (qh (nX O P) (by decide))
   cases aW with|b0 p z=>rw[z];exact jd g (λQ q=>q)<|jd g (λQ q=>q)<|au _ (.inl p)|i p z=>rw[z];exact jd g (λQ q=>q)<|jd g (λQ q=>q)<|au _ (.inr p)|k p z gk ge=>exact(H_ o f gk ge λbb=>a4.2 t2 aN (.inl E) O (by rw[gk,bb]) (aT.trans ge.symm)).elim|aZ p z=>have I:=Vq Y (aM:=aN.length+1) (λr h=>N r (hD h aO)) (λR h=>aV R (by lia) (by lia)) (kg _) _ t2 aN (hJ _) (hJ _) (X:=X) (a5:=U .none) (d:=d) op c hc (D1.cR (.m ((us++[h2 (.a0 .none .none H g t.Y .none)])++[h2 (.dh .none .none H .none)]))) (gW.bj _ _ _) A f o (by rw[iD];lia) (by rw[io,T,qE,iD];lia) λm' D v R' L P=>go (U7 hc o f p L) (qh (nX O P) (by decide));rw[z]at I;rw[z];exact jd H (λQ q=>q)<|nA (h2 (.dh .none .none H .none)) O J (by rw[T];lia) (λQ q=>q)<|Vk I|R p z=>rw[z];refine jd g (λQ q=>q)<|jd H (λQ q=>q)<|mH (N (t2::aN) (by rw[iD];lia) c D1 J A f o (λt r e=>by cases e;exact p) (by rw[iD];lia) (by rw[T,iD];lia) λm' D2 v R1 ns P=>?_);induction v with|some y=>exact jd H (λQ q=>q)<|kr (i7 B (U y)) (λQ q=>q)<|go (U6 hc o f p ns) (qh (Bc P) (by decide))|none=>exists aY;obtain⟨a2,a7,aS,aU,aX⟩:=P.cP O;have pn:=P.n;have aR:=aX;rw[iD]at aX pn;refine aY<|jd g (λQ q=>q)<|aV R1 (by lia) (by lia) op c hc a7 P.db aS aU (by lia) (by rw[io,T,h8];lia) λm2 bd v R' L P2=>go (U5 hc o f p ns aR L) (qh (w1 P P2) (by decide))
end
end
section
open PySem
theorem Vt(h:3<=ig B c t):(∀{y},t.i=.k y->ig B c t=5)/\(t.i=.aZ->ig B c t=3)/\(t.i=.i->ig B c t=4)/\t.i≠ .d:=by
 obtain⟨k,p,v⟩:=t;unfold ig at h ⊢;generalize d:j' B c _=o at h ⊢;induction o with|true=>exact absurd h (by exact(by decide:¬3<=0))|false=>
  refine⟨λ{y} e=>?_,λe=>?_,λe=>?_,λe=>?_⟩;.cases(show k=.k y from e);rfl
  .cases(show k=.aZ from e);have h:3<=bif decide (cl B ⟨.aZ,p,v⟩=c)then 1 else 3:=h
   show(bif decide (cl B ⟨.aZ,p,v⟩=c)then 1 else 3)=3;generalize decide (cl B ⟨.aZ,p,v⟩=c)=b at h ⊢;induction b with|true=>exact absurd h (by decide)|false=>rfl
  .cases(show k=.i from e);have h:3<=bif decide (cl B ⟨.i,p,v⟩=c)then 2 else 4:=h
   show(bif decide (cl B ⟨.i,p,v⟩=c)then 2 else 4)=4;generalize decide (cl B ⟨.i,p,v⟩=c)=b at h ⊢;induction b with|true=>exact absurd h (by decide)|false=>rfl
  .cases(show k=.d from e);exact absurd h (by exact(by decide:¬3<=0))
section
variable{C:Nat->PC}(Y:mF C){B:List Nat}{W:List Th}{x a u:Nat}(dW:Dat W)
include Y dW
theorem Vu:∀n R,R.length<n->wY C B W x a u R:=by
 intro n;induction n with|zero=>intro R h;exact absurd h (rK _)|succ n A=>
  intro R z d m ah us Q X i D o f hw hp E hd hl K;exists w;obtain⟨t,r,rfl⟩:=nV hw;refine w ?_;clear w;have c3:=E t r O;have j:=Vt c3;have s:us.length<1000000:=by lia
  obtain⟨d,rfl⟩:∃e,d=e+2:=⟨d - 2,(JU (f2 (by rw[iD];lia:2<=2*(t::r).length) hd)).symm⟩;have D1:=D.cR;refine Y.c O O<|A_ O O D.aW f ?_;have c:(-1:Int)<cl B t:=sV (by decide) (j9 _);induction b:t.i with
  |z=>obtain⟨k,p,v⟩:=t;cases(show k=.z from b);exact hu hp.symm
  |d=>exact absurd b j.2.2.2|k y=>
   have G:sC t=.str t.Y:=by unfold sC;rw[b]
   have D2:=(D.cR (.m (us++[h2 (.a0 .none .none g H t.Y (.str [39]))])));have I:=(rk hw t r O (by rw[b];exactλh=>nomatch h) (by rw[b];exactλh=>nomatch h)).1;rw[G];exact iX H (λQ q=>q)<|nA (h2 (.a0 .none .none g H t.Y (.str [39]))) O o s (λQ q=>q)<|wW O D2.aW.a9<|kr .none (λQ q=>q)<|K _ [.a0 .none .none g H t.Y (.str [39])] V r (U9 hp hw (j.1 b)) (qh (nX (k:=0) (Ia dW f O) (nB (by decide) (Bb (k:=0) (D2.e5 (gW.bj _ _ _) _) (D2.e4 t) (by rw[f,i8];rfl) I))) (by decide))
  |aZ=>refine j2 (λQ q=>q)<|iX H (λQ q=>q)<|nA (h2 (.dh .none .none H (.bool g))) O o s (λQ q=>q) ?_;have l:=Vo Y (λr h=>A r (hD h (yp z))) _ (t::r) (hJ _) (hJ _) (d:=d) (Q:=Q) (X:=X) (a5:=V) (a6:=V) t.h (cl B t) c (D.cR (.m (us++[h2 (.dh .none .none H (.bool g))]))) (gW.bj _ _ _) f hw hd (by rw[io,qE];lia) λm' D v R' L P=>K m' _ v R' (Va hp hw b (j.2.1 b) L) (nX O P);exact(Y.c O O (kq (.int (cl B t)) (λQ q=>q) l):C (d+2) 1567 [.mut (.j x),.mut (.j a),.mut (.j u),mG B t.h] _ Q X)|i=>refine j2 (λQ q=>q)<|j2 (λQ q=>q)<|nA (h2 (.d3 .none .none H (.bool g))) O o s (λQ q=>q) ?_;have l:=Vs Y dW (λr h=>A r (hD h (yp z))) _ (t::r) (hJ _) (hJ _) (d:=d) (Q:=Q) (X:=X) (a5:=V) (a6:=V) t.h (cl B t) c (D.cR (.m (us++[h2 (.d3 .none .none H (.bool g))]))) (gW.bj _ _ _) f hw hd (by rw[io,qE];lia) λm' D v R' L P=>K m' _ v R' (Vb hp hw b (j.2.2.1 b) L) (qh (nX O P) (by decide));exact(Y.c O O (kq (.int (cl B t)) (λQ q=>q) l):C (d+2) 1574 [.mut (.j x),.mut (.j a),.mut (.j u),mG B t.h] _ Q X)
end
end
section
open PySem
theorem Vv(hp:i0 B (-1) (t::r)=V)(a:ke t.i=g):3<=ig B (-1) t:=by
 have c:∀p,¬(g1 B p:Int)< -1:=λp=>oK.mpr (pu (by decide) (j9 _));have b:∀p,¬(g1 B p:Int)= -1:=λp h=>absurd (h▸j9 (g1 B p):(0:Int)<= -1) (by decide);obtain⟨k,p,v⟩:=t;unfold ig j' cl;rw[a,decide_eq_false (c p),decide_eq_false (b p)];induction k with
 |z=>exact hu hp.symm|d=>cases a
 |aZ=>exact(by decide:3<=3)|i=>exact(by decide:3<=4)|k=>exact(by decide:3<=5)
theorem Ib{T:iW}{C:PC}{W ah r:List Th}{m:gW}{ρ:Loc}{Q:AV->St->Prop}{X:hv->St->Prop}(b:ρ[0]?=U (U<|.mut<|.j x))(c:ρ[2]?=U (U<|.mut<|.j a))(D:Rc B W x a ah m)(d:W=ah++t::r)(q:Q (kG B t) m.l):WE T C (.sub (.j 0) (.sub (.j 2) (.aV (.int 0)))) ρ m.l Q X:=by refine jl (T:=T) (C:=C) (X:=X) b<|(jl (T:=T) (C:=C) (X:=X) (Q:=λx st=>li T x _ st _) c<|sB D.a9 O<|sB D.z ?_ q);rw[d,kU,sR (by rw[h8];exact hJ _),h8,yr];rfl
theorem Ic{T:iW}{C:PC}{W ah r:List Th}{m:gW}{ρ:Loc}{X:hv->St->Prop}(b:ρ[0]?=U (U<|.mut<|.j x))(c:ρ[2]?=U (U<|.mut<|.j a))(D:Rc B W x a ah m)(d:W=ah++t::r)(Q:AV->St->Prop)(q:Q (.bool (!hm (kS t.i) l)) m.l):WE T C (.Q .b' (.sub (.sub ho (.sub hR hX)) hX) (hS l)) ρ m.l Q X:=Ib (Q:=λy st=>li T y (.int 0) st λy st=>l8 T .b' Q y (.str l) st) b c D d q
theorem Vx{T:iW}{C:PC}{W ah r:List Th}{m:gW}{ρ:Loc}{X:hv->St->Prop}(b:ρ[0]?=U (U<|.mut<|.j x))(c:ρ[2]?=U (U<|.mut<|.j a))(D:Rc B W x a ah m)(d:W=ah++t::r)(Q:AV->St->Prop)(q:Q (.au [.str l,mG B t.h,.none]) m.l):WE T C (hj [hS l,.sub (.sub ho (.sub hR hX)) ic,hN]) ρ m.l Q X:=Ib (Q:=λy st=>li T y (.int 1) st λy st=>Q (.au [.str l,y,.none]) st) b c D d q
theorem Vy{k:Kd}(h:ke k=H):k=.d:=by induction k<;>first|rfl|cases h
section
variable{C:Nat->PC}(Y:mF C){B:List Nat}{R:List Th}{x u:Nat}
include Y
theorem Vz{m:gW}{d:Nat}{Q:AV->St->Prop}{X:hv->St->Prop}(dW:Dat R)(hx:m.j x=U (uC B R))(aS:m.j u=U (.m [h2 .bz]))(M:x<m.f)(L:u<m.f)(xu:x≠u)(hw:Wf B R)(f:∀t r,R=t::r->ke t.i=g)(aV:R.length<=90)(K:∀m' D y,(∀w a,H5 B R w->Tp B (.cons (.bS a) (hC B V (-1) [] R)) w D y)->gW.E [u] m m'->m'.j u=U (.m (D.map h2))->(∀e∈D,rj e)->D.length<=9000->Q (i7 B y) m'.l):C (d+200) 1581 [.mut (.j x),.mut (.j u)] m.l Q X:=by
 generalize j:m.add (lC 0)=m1;have rS:m.le m1:=j▸ .add _ _;have J:m1.f=m.f+1:=by rw[<-j];rfl
 have aQ:m1.j m.f=U (lC 0):=by rw[<-j];exact gW.bT _ _
 have T:Rd B R x m.f u [] m1:=⟨⟨rS.at M hx,aQ⟩,CF M J,Kk J,CF L J,iw M,xu,iP L⟩;have A:=rS.at L aS;have p:∀{m'},gW.E [m.f,u] m1 m'->gW.E [u] m m':=λ{m'} e=>⟨f2 rS.1 e.n,λk f aR=>(e.b9 k (hD f rS.1) (λq=>(ir.mp q).elim (λq=>iw f q) λq=>aR q)).trans (rS.2 k f)⟩;obtain⟨t,r,e⟩:=nV hw;subst e;refine Y.c O O<|A9 (.mut (.j m.f)) m1.l (λQ q=>by rw[<-j]at q;exact q)<|kq (i7 B (i0 B (-1) (t::r))) (λQ q=>uE Y T.aW O (w_ hw) q) ?_;induction hp:i0 B (-1) (t::r)with|some y=>exact iX g (λQ q=>q)<|j2 (λQ q=>q)<|iX H (λQ q=>q)<|kr (i7 B (U y)) (λQ q=>q)<|K _ [.bz] (U y) (λw a aL=>Vd aL hp) (p (.refl _ _)) A (λe h=>by cases iJ.mp h;rfl) (by decide)|none=>
  have D1:=T.cR (.m ([h2 .bz]++[h2 (.bM g)]));refine iX H (λQ q=>q)<|nA (h2 (.bM g)) O A (by decide) (λQ q=>q)<|(Vu Y dW ((t::r).length+1) (t::r) (kg _) (-1) D1 (gW.bj _ _ _) O hw hp (λt r e=>by cases e;exact Vv hp (f _ _ O)) (by lia) (by show 2+_<=_;lia) λm' D v R1 E P=>?_:C (d+198+1) 1560 [.mut (.j x),.mut (.j m.f),.mut (.j u)] _ _ _);have l:=p (((gW.E.refl [m.f,u] m1).set (.m ([h2 .bz]++[h2 (.bM g)])) (.inl (.tail _ (.head _)))).trans (P.E.sub λn h=>.inl h));have pn:=P.n;have dd:∀D2,(∀e∈D2,rj e)->∀e∈ .bz::.bM g::(D++D2),rj e:=λD2 aP e b=>by
   rcases ir.mp b with rfl|b
   .rfl
   rcases ir.mp b with rfl|b
   .rfl
   .exact(lg.mp b).elim (P.d5 e) (aP e)
  have I:=dd [] λe h=>nomatch h;rw[j3]at I;induction v with|some y=>exact j2 (λQ q=>q)<|iX H (λQ q=>q)<|kr (i7 B (U y)) (λQ q=>q)<|K m' (.bz::.bM g::D) (U y) (λw a aL=>Ve aL hp hw f E) l P.db I (by rw[iD,iD];lia)|none=>
   exists av;obtain⟨aN,au,c,o,aU⟩:=P.cP O;obtain⟨t3,aT,rfl⟩:=nV o;refine av ?_;clear av;refine iX H (λQ q=>q) (uE Y au.aW c (w_ o) ?_);induction z:i0 B (-1) (t3::aT)with|some y=>exact iX H (λQ q=>q)<|kr (i7 B (U y)) (λQ q=>q)<|K m' (.bz::.bM g::D) (U y) (λw a aL=>Vf aL hp hw f E z) l P.db I (by rw[iD,iD];lia)|none=>
    have G:=au.cR (.m ((([h2 .bz]++[h2 (.bM g)])++D.map h2)++[h2 (.cq g)]));have s:=l.set (.m ((([h2 .bz]++[h2 (.bM g)])++D.map h2)++[h2 (.cq g)])) (.inl (.head _));have aO:(([h2 .bz]++[h2 (.bM g)])++D.map h2).length=D.length+2:=by rw[io,h8];exact pA _ _
    have e1:rj (.cq g):=rfl;refine j2 (λQ q=>q)<|nA (h2 (.cq g)) O P.db (by rw[aO];lia) (λQ q=>q) ?_;induction i:ke t3.i with
    |true=>
     have ek:=Vy i;have N:((m'.set u (.m ((([h2 .bz]++[h2 (.bM g)])++D.map h2)++[h2 (.cq g)]))).set u (.m (((([h2 .bz]++[h2 (.bM g)])++D.map h2)++[h2 (.cq g)])++[h2 .cT]))).j u=U (.m ((.bz::.bM g::(D++[.cq g,.cT])).map h2)):=by rw[gW.bj,i8,i8];show _=U (MC.m (h2 .bz::h2 (.bM g)::(D++[Ev.cq g,Ev.cT]).map h2));rw[kU];rfl
     exact j2 (λQ q=>Ic O O G.aW c Q (by rw[ek];exact q))<|nA (h2 .cT) O (gW.bj _ _ _) (by rw[io,aO];show _+1<_;lia) (λQ q=>q)<|kr .none (λQ q=>q)<|K _ (.bz::.bM g::(D++[.cq g,.cT])) V (λw a aL=>Vg aL hp hw f E ek) (s.set _ (.inl (.head _))) N (dd _ λe b=>by
      rcases ir.mp b with rfl|b
      .exact e1
      .cases iJ.mp b;rfl) (by rw[iD,iD,io];show _+2+1+1<=_;lia)
    |false=>
     have en:hm (kS t3.i) [101,110,100]=false:=by generalize t3.i=k at i;induction k<;>first|rfl|cases i
     have N:(m'.set u (.m ((([h2 .bz]++[h2 (.bM g)])++D.map h2)++[h2 (.cq g)]))).j u=U (.m ((.bz::.bM g::(D++[.cq g])).map h2)):=by rw[gW.bj,i8];show _=U (MC.m (h2 .bz::h2 (.bM g)::(D++[Ev.cq g]).map h2));rw[kU];rfl
     exact iX H (λQ q=>Ic O O G.aW c Q (by rw[en];exact q))<|kr (i7 B (U ⟨g,t3.h,V⟩)) (Vx O O G.aW c)<|K _ (.bz::.bM g::(D++[.cq g])) (U ⟨g,t3.h,V⟩) (λw a aL=>Vh aL hp hw f E i z o) s N (dd _ λe b=>by cases iJ.mp b;exact e1) (by rw[iD,iD,io];show _+1+1+1<=_;lia)
end
end
section
open PySem
theorem VA:∀{k},(∀i,i<k->B[p+i]?=U 32)->g1 B (p+k)=g1 B p+k:=by intro k;induction k with|zero=>exactλ_=>rfl|succ k d=>exactλh=>(ug (h k (kg k)) (by decide)).trans<|congrArg (· +1)<|d λi c=>h i (pv c)
theorem VB(Zt:iv B q p b)(h:b=g):g1 B q<=g1 B p:=by
 induction Zt with
 |here c=>rw[VA c];exact iy _ _|line=>cases h
 |cM=>cases h
theorem VC(Zt:iv B q p b)(h:b=H):hO B q<hO B p:=by
 induction Zt with
 |here=>cases h
 |line d c Zt=>exact hD (by rw[Az c];exact s0 (uu (iy _ _))) (uu Zt.le)|cM d c i f Zt=>exact hD (by rw[Az f];exact s0 (uu (f2 (iy _ _) (f2 (iy _ _) (iy _ _))))) (uu Zt.le)
theorem Ie(T:Txt B q a R):∀u s,R=u::s->u.i=.k g->a=g/\g1 B q<=g1 B u.h:=by
 induction T with
 |k Zt c=>intro u s e h;cases e;cases(show Kd.k _=.k g from h);have:=ys.mp c;exact⟨this.2,VB Zt (by rw[Bool.and_true]at this;exact this.1)⟩
 |_=>intro u s e h;cases e;cases h
theorem VD(T:Txt B q a R):Wf B R:=by
 induction T with
 |d=>exact .d|g=>exact .z|ez=>exact .z|b0=>exact .z|k _ _ _ _ _ _ _ _ _ c=>exact .aW c λu s h=>by rcases h with h|h<;>cases h
 |aZ _ _ _ _ _ T c=>exact .aW c λu s _ e h=>absurd (Ie T u s e h).1 (by decide)|i _ _ _ _ w f _ _ T c=>refine .aW c λu s _ e h q=>?_;have d:=(Ie T u s e h).2;rw[ug (p:=_+2) f (by decide),(wR w).2]at d;have q:(g1 _ _:Int)=g1 _ _:=q;have q:=s4.inj q;lia
theorem dg{B Zt:List Nat}(h:B.drop q=Zt)(i):B[q+i]?=Zt[i]?:=by rw[<-h,List.getElem?_drop]
theorem kb{B X Zt:List Nat}(h:B.drop q=X++Zt):B.drop (q+X.length)=Zt:=by rw[<-List.drop_drop,h,List.drop_left'];rfl
theorem Ig(h:B[p]?=U x)(f:97<=x/\x<=122)(c:B[p+1]?=U y)(j:97<=y/\y<=122):Wd B p 2:=λi d=>by cases i with|zero=>exact h9 x h f|succ i=>cases yt.mp<|JV d;exact h9 y c j
theorem Ih{B:List Nat}(h:B[p]?=U x)(f:B[p+1]?=U y):(B.drop p).take 2=[x,y]:=by refine hz (jq.mp h) λhl i=>hz (jq.mp f) λd c=>?_;rw[ye hl,ye d,i,c];rfl
structure Pc where
 i:Kd
 k:List Nat
 v:List Nat
noncomputable def jt:List Pc->List Nat|[]=>[]|x::r=>x.k++jt r
noncomputable def kH:Nat->List Pc->List Th|_,[]=>[]|p,x::r=>⟨x.i,p,x.v⟩::kH (p+x.k.length) r
noncomputable def pS(y:Bool)(L:Nat):Pc:=⟨.k y,[39,118,L,39],[118,L]⟩
noncomputable def pK(c L:Nat)(e:List Nat):Pc:=⟨.i,[c,L,58]++e,[c,L]⟩
noncomputable def pD(e:List Nat):Pc:=⟨.aZ,[45]++e,[]⟩
noncomputable def pX(e:List Nat):Pc:=⟨.z,e,[]⟩
inductive kt (L:Nat):List Pc->Prop|k:kt L [pS H L]|ek:kt L [pK 107 L [32],pS g L]|fy:kt L [pK 107 L []]|dx:kt L [pK 107 L [32],pX [45,32,39,119,39]]|eK:kt L [pK 107 L [32],pS g L,pX [58,32,39,119,39]]|fz:kt L [pK 107 L [32],pX [64]]|fA:kt L [pD [32],pX [64]]|fB:kt L [pD [32],pS H L]|fC:kt L [pD []]|fD:kt L [pD [32],pD [32],pS H L]|fE:kt L [pD [32],pD []]|cV:kt L [pD [32],pK 109 L []]
section
variable{B:List Nat}{p q e L:Nat}{a b y:Bool}{r:List Th}{Zt:List Nat}
theorem ow(h:B.drop q=32::e::Zt)(c:e<127/\e≠32/\e≠35/\e≠10/\e≠13):iv B q (q+1) false:=.here (λi d=>by cases yt.mp d;exact dg h 0) (dg h 1) c
theorem Ii(h:B.drop q=e::Zt)(c:e<127/\e≠32/\e≠35/\e≠10/\e≠13):iv B q q false:=.here (k:=0) (λi d=>absurd d (rK _)) (dg h 0) c
theorem uH(h:B.drop p=39::118::L::39::e::Zt)(hL:97<=L/\L<=122)(d:e≠39)(K:iv B q p b)(c:(b&&H||a)=y)(f:∀t s,y=H->r=t::s->t.i=.d\/hO B (p+4)≠hO B t.h)(T:Txt B (p+4) g r):Txt B q a (⟨.k y,p,[118,L]⟩::r):=by rw[<-Ih (p:=p+1) (dg h 1) (dg h 2)];exact .k K c (dg h 0) (Ig (p:=p+1) (dg h 1) (by decide) (dg h 2) hL) (dg h 3) (dg h 4) d f T
theorem sF{c:Nat}(h:B.drop p=c::L::58::e::Zt)(hc:97<=c/\c<=122)(hL:97<=L/\L<=122)(f:iF e)(K:iv B q p b)(d:(b&&H||a)=H)(T:Txt B (p+3) g r):Txt B q a (⟨.i,p,[c,L]⟩::r):=by rw[<-Ih (dg h 0) (dg h 1)];exact .i K d (dg h 0) hc (Ig (dg h 0) hc (dg h 1) hL) (dg h 2) (dg h 3) f T
theorem qj(h:B.drop p=45::e::Zt)(d:iF e)(K:iv B q p b)(c:(b&&H||a)=H)(T:Txt B (p+1) H r):Txt B q a (⟨.aZ,p,[]⟩::r):=.aZ K c (dg h 0) (dg h 1) d T
theorem VE(R:kt L ps)(hL:97<=L/\L<=122)(h:B.drop p=jt ps++e::Zt)(j:iF e)(K:iv B q p b)(d:(b&&H||a)=H)(i:∀l,Txt B (p+(jt ps).length) l r)(k:∀t s,r=t::s->t.i=.d\/hO B (p+(jt ps).length)≠hO B t.h):Txt B q a (kH p ps++r):=by
 have f:e≠39:=by rcases j with rfl|rfl|rfl<;>decide
 have c:iF 32:=.inr (.inl O);induction R with|k=>exact uH h hL f K d (λt s _=>k t s) (i _)|ek=>exact sF h (by decide) hL c K d (uH (p:=p+4) (y:=g) (kb (X:=[107,L,58,32]) h) hL f (ow (q:=p+3) (kb (X:=[107,L,58]) h) (by decide)) O (λ_ _ h=>nomatch h) (i _))|fy=>exact sF h (by decide) hL j K d (i _)|dx=>exact sF h (by decide) hL c K d (.ez (p:=p+4) (e:=32) (ow (q:=p+3) (kb (X:=[107,L,58]) h) (by decide)) O (dg h 4) (dg h 5) c)|eK=>exact sF h (by decide) hL c K d (uH (p:=p+4) (y:=g) (kb (X:=[107,L,58,32]) h) hL (by decide) (ow (q:=p+3) (kb (X:=[107,L,58]) h) (by decide)) O (λ_ _ h=>nomatch h) (.b0 (p:=p+8) (e:=32) (Ii (q:=p+8) (kb (X:=[107,L,58,32,39,118,L,39]) h) (by decide)) O (dg h 8) (dg h 9) c))|fz=>exact sF h (by decide) hL c K d (.g (p:=p+4) (ow (q:=p+3) (kb (X:=[107,L,58]) h) (by decide)) (dg h 4) (.inr O) (dg h 5))|fA=>exact qj h c K d (.g (p:=p+2) (ow (q:=p+1) (kb (X:=[45]) h) (by decide)) (dg h 2) (.inr O) (dg h 3))|fB=>exact qj h c K d (uH (p:=p+2) (y:=H) (kb (X:=[45,32]) h) hL f (ow (q:=p+1) (kb (X:=[45]) h) (by decide)) O (λt s _=>k t s) (i _))|fC=>exact qj h j K d (i _)|fD=>exact qj h c K d (qj (p:=p+2) (kb (X:=[45,32]) h) c (ow (q:=p+1) (kb (X:=[45]) h) (by decide)) O (uH (p:=p+4) (y:=H) (kb (X:=[45,32,45,32]) h) hL f (ow (q:=p+3) (kb (X:=[45,32,45]) h) (by decide)) O (λt s _=>k t s) (i _)))|fE=>exact qj h c K d (qj (p:=p+2) (kb (X:=[45,32]) h) j (ow (q:=p+1) (kb (X:=[45]) h) (by decide)) O (i _))|cV=>exact qj h c K d (sF (p:=p+2) (kb (X:=[45,32]) h) (by decide) hL j (ow (q:=p+1) (kb (X:=[45]) h) (by decide)) O (i _))
end
end
section
open PySem
structure Row where
 aW:Nat
 ci:Bool
 a2:Nat
 eS:List Pc
 d:List Nat
noncomputable def Row.bf(r:Row):List Pc:=bif r.ci then pX [9]::r.eS else r.eS
noncomputable def Row.bc(r:Row):List Nat:=jD r.aW 32++jt r.bf
structure Row.y (r:Row):Prop where
 k:kt r.a2 r.eS
 a2:97<=r.a2/\r.a2<=122
noncomputable def m0(x:List Nat):Prop:=x=[10]\/x=[32,35,32,99,10]\/x=[10,10]\/x=[10,32,32,32,35,32,99,10]
noncomputable def hE:List Row->List Nat|[]=>[]|r::s=>r.bc++(r.d++hE s)
noncomputable def jB:Nat->List Row->List Th|_,[]=>[]|p,r::s=>kH (p+r.aW) r.bf++jB (p+(r.bc.length+r.d.length)) s
inductive oy:List Row->Prop|nil:oy []|fF {r:Row}:r.y->r.d=[]->oy [r]|cons {r:Row} {s:List Row}:r.y->m0 r.d->oy s->oy (r::s)
theorem VF{B:List Nat}(h:B.drop s=jD n 32++Zt):∀i,i<n->B[s+i]?=U 32:=λi a=>by rw[dg h,rD (by rw[u'];exact a),List.getElem?_replicate,if_pos a]
theorem VG{B:List Nat}(l:m0 x)(h:B.drop q=x++Zt)(K:iv B (q+x.length) p b):iv B q p true:=by
 have d:∀{z:Nat} i,i<0->B[z+i]?=U 32:=λi a=>absurd a (rK _);have e:∀{z:Nat},B[z]?=U 32->∀i,i<1->B[z+i]?=U 32:=λh i a=>by cases yt.mp a;exact h
 have f:∀{z:Nat},B[z]?=U 32->B[z+1]?=U 99->∀i,i<2->∃c,B[z+i]?=U c/\Quiet c:=λh k i a=>by cases i with|zero=>exact h9 32 h (by unfold Quiet;decide)|succ i=>cases yt.mp (JV a);exact h9 99 k (by unfold Quiet;decide)
 rcases l with rfl|rfl|rfl|rfl
 .exact .line (k:=0) d (dg h 0) K
 .exact .cM (k:=1) (j:=2) (e (dg h 0)) (dg h 1) (f (z:=q+1+1) (dg h 2) (dg h 3)) (dg h 4) K
 .exact .line (k:=0) d (dg h 0) (.line (p:=q+1) (k:=0) d (dg h 1) K)
 .exact .line (k:=0) d (dg h 0) (.cM (p:=q+1) (k:=3) (j:=2) (λi a=>by
   rcases i with _|_|_|i
   .exact dg h 1
   .exact dg h 2
   .exact dg h 3
   .exact absurd a (by lia)) (dg h 4) (f (z:=q+1+3+1) (dg h 5) (dg h 6)) (dg h 7) K)
theorem Ij(h:kt L ps)(hL:97<=L/\L<=122):∃c Zt,jt ps=c::Zt/\c<127/\c≠32/\c≠35/\c≠10/\c≠13:=by induction h<;>exact ki _ _ O (by decide)
theorem VH{r:Row}(a:r.y):∃c Zt,jt r.bf=c::Zt/\c<127/\c≠32/\c≠35/\c≠10/\c≠13:=by unfold Row.bf;induction r.ci with|true=>exact ki 9 (jt r.eS) O (by decide)|false=>exact Ij a.k a.a2
theorem Bd(r:Row):r.bc.length=r.aW+(jt r.bf).length:=by unfold Row.bc;rw[io,u']
theorem VI{B:List Nat}{r:Row}(h:B.drop s=r.bc++Zt):B.drop (s+r.aW)=jt r.bf++Zt:=by unfold Row.bc at h;rw[i8]at h;have:=kb h;rw[u']at this;exact this
theorem Ik{B:List Nat}{r:Row}{e:Nat}(y:r.y)(h:B.drop s=r.bc++e::Zt)(w:iF e)(aL:∀p b,iv B s p b->∃j,iv B q p j/\(j&&H||a)=H)(f:∀n,Txt B (s+r.bc.length) n R)(d:∀t s',R=t::s'->t.i=.d\/hO B (s+r.bc.length)≠hO B t.h):Txt B q a (kH (s+r.aW) r.bf++R):=by
 have hp:=VI h;have x:iv B s (s+r.aW) false:=by obtain⟨c,m,i,k⟩:=VH y;rw[i]at hp;unfold Row.bc at h;rw[i8]at h;exact .here (VF h) (dg hp 0) k
 rw[Bd,<-lZ]at f d;refine g6 (aL _ _ x) λb K o=>?_;unfold Row.bf at hp f d ⊢;induction l:r.ci with
 |true=>rw[l]at hp;obtain⟨c,m,i,k⟩:=Ij y.k y.a2;have hp:B.drop (s+r.aW)=9::(jt r.eS++e::Zt):=hp;rw[i]at hp;exact .g K (dg hp 0) (.inl O) (dg hp 1)
 |false=>rw[l]at hp f d;exact VE y.k y.a2 hp w K o f d
theorem VJ(h:m0 x):∃e y,x=e::y/\iF e:=by
 rcases h with rfl|rfl|rfl|rfl
 .exact ki _ _ O (.inr (.inr O))
 .exact ki _ _ O (.inr (.inl O))
 .exact ki _ _ O (.inr (.inr O))
 .exact ki _ _ O (.inr (.inr O))
theorem VK{B:List Nat}(R:oy c):∀{s q a},B.drop s=hE c++[0]->(∀p b,iv B s p b->∃d,iv B q p d/\(c≠[]->(d&&H||a)=H))->Txt B q a (jB s c++[⟨.d,s+(hE c).length,[]⟩]):=by
 have nil:∀{s q a v},B.drop s=[0]->(∀p b,iv B s p b->∃d,iv B q p d)->Txt B q a [⟨.d,s,v⟩]:=λ{s q a v} h aL=>hz (aL s g (Ii (Zt:=[]) h (by decide))) λd K=>.d K (dg h 0);induction R with
 |nil=>intro s q a h aL;exact nil h λp b K=>g6 (aL p b K) λd K _=>⟨d,K⟩|@fF r I k=>
  intro s q a h aL;have f:hE [r]=r.bc:=by show r.bc++(r.d++[])=_;rw[k];exact j3 _
  rw[f]at h;have l:(hE [r]).length=r.bc.length:=congrArg _ f;have m:jB s [r]=kH (s+r.aW) r.bf:=j3 _;rw[l,m];refine Ik I h (.inl O) (λp b K=>g6 (aL p b K) λd K h=>h9 d K (h (u_ _ _))) (λA=>nil (kb h) λp b K=>⟨b,K⟩) λt s' e=>?_;cases e;exact .inl O
 |@cons r c I k R x=>
  intro s q a h aL;have h:B.drop s=r.bc++(r.d++(hE c++[0])):=h.trans ((i8 r.bc (r.d++hE c) [0]).trans (congrArg (r.bc++·) (i8 r.d _ _)));have w:=kb h;have i:B.drop (s+(r.bc.length+r.d.length))=hE c++[0]:=by have:=kb w;rw[lZ]at this;exact this
  have l:s+(hE (r::c)).length=s+(r.bc.length+r.d.length)+(hE c).length:=by have C:(hE (r::c)).length=r.bc.length+(r.d.length+(hE c).length):=(io (as:=r.bc)).trans (congrArg _ io);rw[C];lia
  have m:jB s (r::c)++[⟨.d,s+(hE (r::c)).length,[]⟩]=kH (s+r.aW) r.bf++(jB (s+(r.bc.length+r.d.length)) c++[⟨.d,s+(r.bc.length+r.d.length)+(hE c).length,[]⟩]):=by rw[l];exact i8 _ _ _
  rw[m];have j:∀{p b},iv B (s+(r.bc.length+r.d.length)) p b->iv B (s+r.bc.length) p true:=λ{p b} K=>VG k w (by rw[lZ];exact K);obtain⟨G,y,D,n⟩:=VJ k;rw[D,Jh]at h;refine Ik I h n (λp b K=>g6 (aL p b K) λd K h=>h9 d K (h (u_ _ _))) (λA=>x i λp b K=>h9 H (j K) λ_=>rfl) λt s' e=>.inr ?_;obtain⟨t2,s2,E,c2,o,z,_⟩:=wO (x (q:=s+(r.bc.length+r.d.length)) (a:=H) i λp b K=>h9 b K λ_=>xE _);rw[e]at o;cases o;exact iw (VC (j z) O)
end
section
open PySem
theorem w'(h:ρ[i]?=U (U<|.int v))(a:0<n)(hw:jg v n=w)(st)(Q)(q:Q (.int w) st):WE T C (.a1 .mod (.j i)<|.aV<|.int n) ρ st Q X:=jl (T:=T) (C:=C) (X:=X) h<|rZ (yU a) (hw▸q)
theorem rn(h:ρ[i]?=U (U<|.int v))(hp:0<p/\p<1000000)(a:0<n)(hw:jg (k9 v p) n=w)(st)(Q)(q:Q (.int w) st):WE T C (.a1 .mod (.a1 .fdiv (.j i)<|.aV<|.int p)<|.aV<|.int n) ρ st Q X:=jl (T:=T) (C:=C) (X:=X) h<|rZ (if_pos hp)<|rZ (yU a) (hw▸q)
theorem Il{T:iW}{C:PC}{ρ:Loc}{i:Nat}{v p n:Int}{st}{X}(h:ρ[i]?=U (U<|.int v))(hp:0<p/\p<1000000)(a:0<n)(Q:AV->St->Prop)(q:Q (.bool (decide (jg (k9 v p) n=0))) st):WE T C (hH (.a1 .mod (.a1 .fdiv (.j i) (hI p)) (hI n)) hX) ρ st Q X:=rn (w:=jg (k9 v p) n) h hp a O st (λx st=>l8 T .eq Q x (.int 0) st) q
theorem VL{T:iW}{C:PC}{ρ:Loc}{i:Nat}{v p n k:Int}{st}{X}(h:ρ[i]?=U (U<|.int v))(hp:0<p/\p<1000000)(a:0<n)(Q:AV->St->Prop)(q:Q (.bool (decide (jg (k9 v p) n<k))) st):WE T C (.Q .lt (.a1 .mod (.a1 .fdiv (.j i) (hI p)) (hI n)) (hI k)) ρ st Q X:=rn (w:=jg (k9 v p) n) h hp a O st (λx st=>l8 T .lt Q x (.int k) st) q
theorem uI{T:iW}{C:PC}{ρ:Loc}{st}{Q:AV->St->Prop}{X}{t a b:DE}(v:Bool)(h:∀Q:AV->St->Prop,Q (.bool v) st->WE T C t ρ st Q X)(c:v=H->WE T C a ρ st Q X)(e:v=g->WE T C b ρ st Q X):WE T C (.bI t a b) ρ st Q X:=by refine h (Db (WE T C a) (WE T C b) ρ Q X) ?_;induction v with|true=>exact c O|false=>exact e O
noncomputable def i_(x:Pc):AV:=.au [.str (kS x.i),.str x.k,Kd.rec .none .none .none (.str x.v) (λ_=>.str x.v) x.i,.bool (kB x.i)]
noncomputable def xb(c:Nat):AV:=.au [.str [],.str (jD c 32),.none,.bool g]
noncomputable def k8(c:Nat)(t:Bool)(ps:List Pc):List AV:=xb c::(bif t then pX [9]::ps else ps).map i_
theorem qk:k8 c t ps++qs.map i_=k8 c t (ps++qs):=by unfold k8;induction t with|true=>exact congrArg (λl=>xb c::i_ (pX [9])::l) kU.symm|false=>exact congrArg (xb c::·) kU.symm
theorem VM:(k8 c t ps).length<=ps.length+2:=by unfold k8;induction t with|true=>exact jh (congrArg (· +2) (h8 _))|false=>exact f2 (jh (congrArg (· +1) (h8 _))) (jo _)
section
variable{T:iW}{C:PC}{ρ:Loc}{m:gW}{Q:AV->St->Prop}{X:hv->St->Prop}
theorem mI(b:∀Q:AV->St->Prop,Q (.au l) m.l->WE T C (l' a) ρ m.l Q X)(hl:l.length<=1000)(K:∀m' z,gW.E [] m m'->m'.j z=U (.m l)->m.f<=z->z<m'.f->Q (.mut (.j z)) m'.l):WE T C (iM a) ρ m.l Q X:=b _ (iO (f2 hl (by decide)) (K (m.add (.m l)) m.f ((gW.E.refl _ _).add _) (gW.bT _ _) (hJ _) (kg _)))
theorem Be(b:m.j x=U (.m l))(c:m.j y=U (.m a))(hl:l.length+a.length<=1000)(K:∀m' z,gW.E [] m m'->m'.j z=U (.m (l++a))->m.f<=z->z<m'.f->Q (.mut (.j z)) m'.l):nr .add (.mut (.j x)) (.mut (.j y)) m.l Q:=mR b<|mR c<|iO (f2 hl (by decide)) (K (m.add (.m (l++a))) m.f ((gW.E.refl _ _).add _) (gW.bT _ _) (hJ _) (kg _))
theorem Im(k:ρ[i]?=U (U (.mut (.j x))))(o:m.j x=U (.m l))(q:x<m.f)(n:∀Q:AV->St->Prop,Q (.au j) m.l->WE T C (l' f) ρ m.l Q X)(hl:l.length+j.length<=1000)(K:∀m' z,gW.E [] m m'->m'.j z=U (.m (l++j))->m.f<=z->z<m'.f->Q (.mut (.j z)) m'.l):WE T C (hP (.j i) (iM f)) ρ m.l Q X:=jl (T:=T) (C:=C) (X:=X) (Q:=λa st=>WE T C (iM f) ρ st (λb st=>nr .add a b st Q) X) k<|mI n (f2 (kT _ _) hl) λm1 y c p _ s=>Be (c.at q ji o) p hl λm' z e h r=>K m' z (c.trans e) h (f2 c.n r)
theorem Bf{b1 b:Bool}{c a:DE}{st}(e:∀Q:AV->St->Prop,Q (.bool b1) st->WE T C c ρ st Q X)(f:∀Q:AV->St->Prop,Q (.bool b) st->WE T C a ρ st Q X)(Q:AV->St->Prop)(q:Q (.bool (b1&&b)) st):WE T C (.and c a) ρ st Q X:=by refine e (C_ (WE T C a) ρ Q X) ?_;induction b1 with|true=>exact f Q q|false=>exact q
theorem ro{a b:DE}{st}(h:WE T C a ρ st (λx st=>WE T C b ρ st (λy st=>nr o x y st Q) X) X):WE T C (.a1 o a b) ρ st Q X:=h
theorem Bg{a b c:DE}{st}(h:WE T C a ρ st (λx st=>WE T C b ρ st (λy st=>WE T C c ρ st (λz st=>Q (.au [x,y,z]) st) X) X) X):WE T C (hj [a,b,c]) ρ st Q X:=h
end
theorem Bh{T:iW}{C:PC}{ρ:Loc}{st:St}{X:hv->St->Prop}(a:ρ[5]?=U (U (.str [L])))(Q:AV->St->Prop)(q:Q (.str [107,L]) st):WE T C (hP (hS [107]) h3) ρ st Q X:=jl (T:=T) (C:=C) (X:=X) (Q:=λy st=>nr .add (.str [107]) y st Q) a q
theorem VN{T:iW}{C:PC}{ρ:Loc}{st:St}{X:hv->St->Prop}{b:Bool}(c:ρ[5]?=U (U (.str [L])))(a:∀P:Bool->St->Prop,P b st->WE T C (hL 10) ρ st (λx st=>jy x st P) X)(Q:AV->St->Prop)(q:Q (.au [i_ (pK 107 L (bif b then[32]else[]))]) st):WE T C (l' [hj [hS [75],hP (hP (hS [107]) h3) (.bI (hL 10) (hS [58,32]) (hS [58])),hP (hS [107]) h3,hF]]) ρ st Q X:=by show WE T C (hP (hS [107]) h3) ρ st (λx st=>WE T C (.bI (hL 10) (hS [58,32]) (hS [58])) ρ st (λy st=>nr .add x y st (λz st=>WE T C (hP (hS [107]) h3) ρ st (λu st=>Q (.au [.au [.str [75],z,u,.bool g]]) st) X)) X) X;refine Bh c _ (a (λr st=>kL r _ _) ?_);induction b with|true=>exact Bh (T:=T) (C:=C) (X:=X) c _ q|false=>exact Bh (T:=T) (C:=C) (X:=X) c _ q
noncomputable def mJ(q:Nat×Bool):AV:=.au [.int q.1,.str (bif q.2 then[75]else[68])]
noncomputable abbrev VO(m:gW)(c L:Nat)(Q:AV->St->Prop):Prop:=∀(m':gW) (x y:Nat) (rd:Bool) (ps:List Pc) (t:Bool) (ax:List (Nat×Bool)),gW.E [] m m'->m'.j x=U (.m (k8 c t ps))->m'.j y=U (.m (ax.map mJ))->m.f<=x->x<m'.f->y<m'.f->kt L ps->(∀q∈ax,q.1<=c+2)->ax.length<=2->Q (.au [.mut (.j x),.mut (.j y),.bool rd]) m'.l
section
variable{C:Nat->PC}(Y:mF C){d:Nat}
include Y
theorem VP{m:gW}{n f:Int}{i c:Nat}{kd:List Nat}{Q:AV->St->Prop}{X:hv->St->Prop}(hi:i<4)(hc:c<=900)(bc:kd=[68]\/kd=[75]\/kd=[83])(K:VO m c (97+i) Q):C (d+1) 1532 [.int n,.int i,.int c,.str kd,.int f] m.l Q X:=by
 have hl:([97,98,99,100]:List Nat)[i]?=U (97+i):=by
  rcases i with _|_|_|_|i
  .rfl
  .rfl
  .rfl
  .rfl
  .exact absurd hi (by lia)
 generalize 97+i=L at hl K;refine Y.c O O<|kq (.str [L]) (λQ q=>pO (if_pos<|j9 i) hl q)<|kq (i_ (pS g L)) (λQ q=>q) ?_;refine mH (mI (l:=[xb c]) (λQ q=>?_) (by exact(by decide:1<=1000)) λm1 x D hx aN B=>?_);.exact⟨32,rfl,j9 c,rF.mpr (f2 hc (by decide)),q⟩
 have aO:∀m1 t,gW.E [] m m1->m1.j x=U (.m (k8 c t []))->x<m1.f->WS gY (C d) GK.snd.snd.snd.snd [U (.int n),U (.int i),U (.int c),U (.str kd),U (.int f),U (.str [L]),U (i_ (pS g L)),U (.mut (.j x)),V,V,V] m1.l ⟨λa2 st=>Q .none st,Q,λa2 a2=>False,λa2=>X⟩:=by
  clear D hx B;intro m1 t D hx B;have l0:∀{ps:List Pc} {k},ps.length<=5->k<=5->(k8 c t ps).length+k<=1000:=λaX aW=>f2 (j4 (f2 VM (iu aX 2)) aW) (by decide);have I:∀{es:List DE} {qs:List Pc} {b:Bool} {bs:DE} {os:List DE} {ax:List (Nat×Bool)} {ρ:Loc} {X:hv->St->Prop},ρ[7]?=U (U (.mut (.j x)))->(∀(st:St) (Q:AV->St->Prop),Q (.au (qs.map i_)) st->WE gY (C d) (l' es) ρ st Q X)->(∀(st:St) (Q:AV->St->Prop),Q (.au (ax.map mJ)) st->WE gY (C d) (l' os) ρ st Q X)->(∀(st:St) (Q:AV->St->Prop),Q (.bool b) st->WE gY (C d) bs ρ st Q X)->kt L qs->qs.length<=5->(∀q∈ax,q.1<=c+2)->ax.length<=2->WE gY (C d) (hj [hP iK (iM es),iM os,bs]) ρ m1.l Q X:=by intro es qs b bs os ax ρ X a' bb bd ba aQ G aX aW;refine Bg (Im a' hx B (bb _) (by rw[h8];exact l0 (i' _) G) λm2 z a s bh zn=>mI (bd _) (by rw[h8];exact f2 aW (by decide)) λm3 y j aR _ aU=>ba _ _ ?_);rw[qk]at s;exact K m3 z y b _ t ax ((D.trans a).trans j) (j.at zn ji s) aR (f2 D.n bh) (hD zn j.n) aU aQ aX aW
  have aY:∀q∈[(c,g)],q.1<=c+2:=λq G=>by cases iJ.mp G;exact iy _ _
  rcases bc with rfl|rfl|rfl
  .refine j2 (λQ q=>q)<|j2 (λQ q=>q)<|iX (decide (f=8)) (λQ q=>q) ?_;generalize decide (f=8)=b;induction b with|true=>exact I (qs:=[pD [32],pX [64]]) (ax:=[(c,g)]) (b:=g) O (λst Q q=>q) (λst Q q=>q) (λst Q q=>q) .fA (by exact(by decide:2<=5)) aY (by exact(by decide:1<=2))|false=>
    generalize hw:jg (k9 n 20) 5=w;refine kq (.int w) (rn O (by decide) (by decide) hw _)<|iX (decide (w<2)) (λQ q=>q) ?_;generalize decide (w<2)=b;induction b with|true=>exact I (qs:=[pD [32],pS H L]) (ax:=[(c,g)]) (b:=g) O (λst Q q=>q) (λst Q q=>q) (λst Q q=>q) .fB (by exact(by decide:2<=5)) aY (by exact(by decide:1<=2))|false=>
     refine iX (decide (w=2)) (λQ q=>q) ?_;generalize decide (w=2)=b;induction b with|true=>exact I (qs:=[pD []]) (ax:=[(c,g)]) (b:=H) O (λst Q q=>q) (λst Q q=>q) (λst Q q=>q) .fC (by exact(by decide:1<=5)) aY (by exact(by decide:1<=2))|false=>
      generalize hg:decide (jg (k9 n 100) 2=0)=aM;have N:∀{m3:gW} {qs w3 aI a8},gW.E [] m m3->m3.j x=U (.m (k8 c t qs))->x<m3.f->kt L qs->(∀(st:St) (Q:AV->St->Prop),Q (.bool w3) st->WE gY (C d) (hH (hL 8) (hI 3)) [U (.int n),U (.int i),U (.int c),U (.str [68]),U (.int f),U (.str [L]),U (i_ (pS g L)),U (.mut (.j x)),a8,U (.bool aI),V] st Q λe st=>X e st)->WE gY (C d) (hj [iK,iM [hj [hR,hS [68]],hj [hP hR (hI 2),.bI (hH (hL 8) (hI 3)) (hS [68]) (hS [75])]],.not (hL 9)]) [U (.int n),U (.int i),U (.int c),U (.str [68]),U (.int f),U (.str [L]),U (i_ (pS g L)),U (.mut (.j x)),a8,U (.bool aI),V] m3.l Q X:=by
       intro m3 qs w3 aI a8 j a_ aT aQ J;refine Bg (jl O (mI (l:=[mJ (c,g),mJ (c+2,!w3)]) (λQ q=>J _ _ ?_) (by exact(by decide:2<=1000)) λm4 y A aR _ aU=>?_));.induction w3<;>exact q
       .exact K m4 x y (!aI) _ t [(c,g),(c+2,!w3)] (j.trans A) (A.at aT ji a_) aR aN (hD aT A.n) aU aQ (λq G=>(ir.mp G).elim (λe=>e▸iy _ _) λh=>by cases iJ.mp h;exact hJ _) (by exact(by decide:2<=2))
      have J:∀{a9 ay:Option AV} {X:hv->St->Prop} (st:St) (Q:AV->St->Prop),Q (.bool (decide (w=3))) st->WE gY (C d) (hH (hL 8) (hI 3)) [U (.int n),U (.int i),U (.int c),U (.str [68]),U (.int f),U (.str [L]),U (i_ (pS g L)),U (.mut (.j x)),U (.int w),a9,ay] st Q X:=λst Q q=>q;generalize decide (w=3)=w3 at J;have k1:=l0 (ps:=[]) (k:=1) (by decide) (by decide);have k2:=l0 (ps:=[pD [32]]) (k:=1) (by exact(by decide:1<=5)) (by decide);have k3:=l0 (ps:=[pD [32],pD [32]]) (k:=1) (by exact(by decide:2<=5)) (by decide);have ap:∀{k:Nat},k+1<=1000->k<1000000:=λh=>hD h (by decide);have c1:∀{m2:gW} {l v},(m2.set x (.m (l++[v]))).j x=U (.m (l++[v])):=λ{m2 l v}=>gW.bj _ _ _;have be:k8 c t []++[i_ (pD [32])]=k8 c t [pD [32]]:=qk (qs:=[pD [32]]);have M:=D.set (.m (k8 c t []++[i_ (pD [32])])) (.inr aN);have au:(m1.set x (.m (k8 c t []++[i_ (pD [32])]))).j x=U (.m (k8 c t [pD [32]])):=by rw[c1,be]
      refine kq (.bool (w3&&aM)) (Bf (J _) (λQ q=>Il (v:=n) O (by decide) (by decide) Q (by rw[<-hg]at q;exact q)))<|nA (i_ (pD [32])) O hx (ap k1) (λQ q=>q)<|iX w3 (J _) ?_;induction w3 with|false=>refine nU (i_ (pK 109 L [])) O au (ap k2) (λQ q=>q)<|j2 (λQ q=>q)<|N (w3:=g) (aI:=g) (qs:=[pD [32],pK 109 L []]) (M.set _ (.inr aN)) ?_ B .cV λst Q q=>J st Q q;rw[c1];exact congrArg (λl=>U (MC.m l)) (qk (qs:=[pK 109 L []]))|true=>
       induction aM with|false=>refine nU (i_ (pD [])) O au (ap k2) (λQ q=>q)<|j2 (λQ q=>q)<|N (w3:=H) (aI:=g) (qs:=[pD [32],pD []]) (M.set _ (.inr aN)) ?_ B .fE λst Q q=>J st Q q;rw[c1];exact congrArg (λl=>U (MC.m l)) (qk (qs:=[pD []]))|true=>
        have av:((m1.set x (.m (k8 c t []++[i_ (pD [32])]))).set x (.m (k8 c t [pD [32]]++[i_ (pD [32])]))).j x=U (.m (k8 c t [pD [32],pD [32]])):=by rw[c1];exact congrArg (λl=>U (MC.m l)) (qk (qs:=[pD [32]]))
        refine nU (i_ (pD [32])) O au (ap k2) (λQ q=>q)<|iX H (λQ q=>q)<|nU (i_ (pS H L)) O av (ap k3) (λQ q=>q)<|N (w3:=H) (aI:=H) (qs:=[pD [32],pD [32],pS H L]) ((M.set _ (.inr aN)).set _ (.inr aN)) ?_ B .fD λst Q q=>J st Q q;rw[c1];exact congrArg (λl=>U (MC.m l)) (qk (qs:=[pS H L]))
  .refine j2 (λQ q=>q)<|iX H (λQ q=>q) ?_;have o:∀{m2:gW} {z a8 a9} {aj:List Pc},gW.E [] m1 m2->m2.j z=U (.m (aj.map i_))->z<m2.f->kt L (pK 107 L (bif aj.isEmpty then[]else[32])::aj)->aj.length<=4->WE gY (C d) (hj [hP (hP iK (iM [hj [hS [75],hP (hP (hS [107]) h3) (.bI (hL 10) (hS [58,32]) (hS [58])),hP (hS [107]) h3,hF]])) (hL 10),iM [hj [hR,hS [75]]],.not (hL 10)]) [U (.int n),U (.int i),U (.int c),U (.str [75]),U (.int f),U (.str [L]),U (i_ (pS g L)),U (.mut (.j x)),a8,a9,U (.mut (.j z))] m2.l Q X:=by
    intro m2 z a8 a9 aj a s zn aQ hr;have bf:∀{m3:gW} {P:Bool->St->Prop},m3.j z=U (.m (aj.map i_))->P (!aj.isEmpty) m3.l->jy (.mut (.j z)) m3.l P:=λ{m3 P} h p=>ui (λh=>nomatch h) h (by rw[JW];exact p);have av:=a.at B ji hx;have aZ:=hD B a.n;have en:(bif !aj.isEmpty then[32]else[])=bif aj.isEmpty then[]else[32]:=by induction aj.isEmpty<;>rfl
    have aP:∀{m3:gW} (P:Bool->St->Prop),m3.j z=U (.m (aj.map i_))->P (!aj.isEmpty) m3.l->WE gY (C d) (hL 10) [U (.int n),U (.int i),U (.int c),U (.str [75]),U (.int f),U (.str [L]),U (i_ (pS g L)),U (.mut (.j x)),a8,a9,U (.mut (.j z))] m3.l (λx st=>jy x st P) X:=λP h p=>bf h p;refine Bg (ro (Im O av aZ (λQ q=>VN O (λP=>aP P s) Q q) (l0 (k:=1) (i' _) (by decide)) λm3 bi j aS _ bg=>?_));rw[en,qk (qs:=[pK 107 L (bif aj.isEmpty then[]else[32])])]at aS;refine jl O<|Be aS (j.at zn ji s) (by rw[h8];exact l0 (by exact(by decide:1<=5)) (f2 hr (by decide))) λm4 a7 A a4 a0 aV=>?_;rw[qk]at a4;refine mI (l:=[mJ (c,H)]) (λQ q=>q) (by exact(by decide:1<=1000)) λm5 y E aR _ aU=>?_;have z5:=E.at (hD zn (f2 j.n A.n)) ji (A.at (hD zn j.n) ji (j.at zn ji s));exact aP (λr st=>Q (.au [.mut (.j a7),.mut (.j y),.bool (!r)]) st) z5 (K m5 a7 y _ _ t [(c,H)] ((((D.trans a).trans j).trans A).trans E) (E.at aV ji a4) aR (f2 D.n (f2 a.n (f2 j.n a0))) (hD aV E.n) aU aQ (λq G=>by cases iJ.mp G;exact iy _ _) (by exact(by decide:1<=2)))
   refine iX (decide (f=5)) (λQ q=>q) ?_;generalize decide (f=5)=b;induction b with|true=>exact mI (l:=[i_ (pX [45,32,39,119,39])]) (λQ q=>q) (by exact(by decide:1<=1000)) λm2 z a s _ zn=>o (aj:=[pX [45,32,39,119,39]]) a s zn .dx (by exact(by decide:1<=4))|false=>refine jd (decide (f=6)) (λQ q=>q) ?_;generalize decide (f=6)=b;induction b with|true=>exact mI (l:=[i_ (pS g L),i_ (pX [58,32,39,119,39])]) (λQ q=>q) (by exact(by decide:2<=1000)) λm2 z a s _ zn=>o (aj:=[pS g L,pX [58,32,39,119,39]]) a s zn .eK (by exact(by decide:2<=4))|false=>refine jd (decide (f=8)) (λQ q=>q) ?_;generalize decide (f=8)=b;induction b with|true=>exact mI (l:=[i_ (pX [64])]) (λQ q=>q) (by exact(by decide:1<=1000)) λm2 z a s _ zn=>o (aj:=[pX [64]]) a s zn .fz (by exact(by decide:1<=4))|false=>exact uI (decide (jg (k9 n 20) 5<3)) (VL O (by decide) (by decide)) (λ_=>mI (l:=[i_ (pS g L)]) (λQ q=>q) (by exact(by decide:1<=1000)) λm2 z a s _ zn=>o (aj:=[pS g L]) a s zn .ek (by exact(by decide:1<=4))) λ_=>mI (l:=[]) (λQ q=>q) (by decide) λm2 z a s _ zn=>o (aj:=[]) a s zn .fy (by decide)
  .exact iX H (λQ q=>q) (I (qs:=[pS H L]) (ax:=[]) (b:=g) O (λst Q q=>q) (λst Q q=>q) (λst Q q=>q) .k (by exact(by decide:1<=5)) (λq G=>nomatch G) (i' _))
 refine iX (decide (f=4)) (λQ q=>q) ?_;generalize decide (f=4)=b;induction b with|false=>exact aO m1 g D hx B|true=>exact nU (i_ (pX [9])) O hx (by exact(by decide:1<1000000)) (λQ q=>q) (aO _ H (D.set _ (.inr aN)) (gW.bj _ _ _) B)
end
end
section
open PySem
noncomputable def fW(x:Nat)(hd:Int)(b pz:Nat)(rd:Bool)(T:List Nat)(ln th:Nat)(l:List (Option AV)):Loc:=U (.mut (.j x))::U (.int hd)::U (.int b)::U (.mut (.j pz))::U (.bool rd)::U (.str T)::U (.int ln)::U (.mut (.j th))::l
noncomputable def pb:DS:=GL.snd.snd.snd.snd.snd.snd.fst.bC
noncomputable def uJ(k:List Nat):Prop:=k=[68]\/k=[75]\/k=[83]
theorem xc{k}(h:n=((k:Nat):Int))(d:0<k):∃j,j<k/\jg v n=((j:Nat)):=by haveI c:=h▸ni.mpr d;haveI a:=(xU<|Int.fmod_nonneg_of_pos v c).symm;exact⟨_,ni.mp (a▸h▸Int.fmod_lt_of_pos v c),a⟩
theorem Io{T:iW}{C:PC}{ρ:Loc}{st:St}{X:hv->St->Prop}{l:List Nat}{n v:Int}{k i:Nat}{P:List Nat->Prop}(h:ρ[i]?=U (U (.int v)))(e:n=(k:Nat))(d:0<k)(hl:l.length=k)(hp:∀c∈l,P [c]):∃kd,P kd/\∀Q:AV->St->Prop,Q (.str kd) st->WE T C (.sub (hS l) (.a1 .mod (.j i) (hI n))) ρ st Q X:=by
 refine g6 (xc (v:=v) e d) λj p o=>?_;have a:j<l.length:=by rw[hl];exact p
 refine h9 [l[j]] (hp _ (yu _)) λQ q=>?_;exact w' (Q:=λx st=>li T (.str l) x st Q) h (by rw[e];exact ni.mpr d) o st (pO (if_pos (j9 j)) (mo a) q)
theorem uK{T:iW}{C:PC}{ρ:Loc}{st:St}{X:hv->St->Prop}{e i:DE}{Q:AV->St->Prop}(h:WE T C e ρ st (λx st=>WE T C i ρ st (λy st=>li T x y st Q) X) X):WE T C (.sub e i) ρ st Q X:=h
theorem VQ{T:iW}{C:PC}{ρ:Loc}{st:St}{X:hv->St->Prop}{e b:DE}{Q:AV->St->Prop}(h:WE T C e ρ st (λx st=>WE T C b ρ st (λj st=>tB x .none j st Q) X) X):WE T C (.c1 e .c2 b) ρ st Q X:=h
theorem Bi{T:iW}{C:PC}{ρ:Loc}{st:St}{k:KS}(h:WE T C e ρ st (λv st=>k.n (qU v a ρ) st) (k.z ρ)):WS T C (.bW a e) ρ st k:=h
theorem VR{T:iW}{C:PC}{ρ:Loc}{st:St}{X:hv->St->Prop}{i:Nat}{v n:Int}(h:ρ[i]?=U (U (.int v)))(a:0<n)(Q:AV->St->Prop)(q:Q (.bool (decide (0<jg v n))) st):WE T C (.Q .gt (.a1 .mod (.j i) (hI n)) hX) ρ st Q X:=w' (w:=jg v n) h a O st (λx st=>l8 T .gt Q x (.int 0) st) q
theorem VS{T:iW}{C:PC}{ρ:Loc}{st:St}{X:hv->St->Prop}{i:Nat}{v n j:Int}(h:ρ[i]?=U (U (.int v)))(a:0<n)(Q:AV->St->Prop)(q:Q (.bool (decide (jg v n=j))) st):WE T C (hH (.a1 .mod (.j i) (hI n)) (hI j)) ρ st Q X:=w' (w:=jg v n) h a O st (λx st=>l8 T .eq Q x (.int j) st) q
section
variable{C:PC}{k:KS}{x b pz ln th i:Nat}{hd n f q:Int}{rd:Bool}{tx:List Nat}{m:gW}{P:List (Nat×Bool)}{ar ap aA aw aD aE aC:Option AV}{aj:DS}
theorem VT(hp:m.j pz=U (.m (P.map mJ)))(Y:pz<m.f)(hP:∀q∈P,q.1<=10*i)(aO:b<=2)(hl:P.length<=100)(K:∀(m':gW) (d:Nat) (B:List (Nat×Bool)) (c:Nat) (kd:List Nat),gW.E [] m m'->m'.j d=U (.m (B.map mJ))->d<m'.f->(∀q∈B,q.1<=10*i)->B.length<=P.length->c<=10*i+2->uJ kd->WS gY C aj (fW x hd b d rd tx ln th [U (.int i),U (.int n),U (.int f),U (.int q),U (.int c),U (.str kd),aA,aw,aD,aE,aC]) m'.l k):WS gY C (.seq pb.snd.snd.snd.fst aj) (fW x hd b pz rd tx ln th [U (.int i),U (.int n),U (.int f),U (.int q),ar,ap,aA,aw,aD,aE,aC]) m.l k:=by
 have tp:∀{Q:Bool->St->Prop},Q (!P.isEmpty) m.l->jy (.mut (.j pz)) m.l Q:=λh=>ui (λh=>nomatch h) hp (by rw[JW];exact h);refine iX P.isEmpty (λQ q=>?_) ?_;.refine tp (Q:=λr st=>Q (.bool (!r)) st) ?_;rw[Bool.not_not];exact q
 induction J:P.isEmpty with
 |true=>
  refine kq (.int b) (λQ q=>q) ?_;refine g6 (Io (T:=gY) (C:=C) (P:=uJ) (l:=[68,75,68,75,68,75,75,83]) (n:=8) (k:=8) (i:=9) (v:=n) (st:=m.l) O O (by decide) O (λc hc=>?_)) λkd E e=>e _ ?_;.simp only[ir,Co,or_false]at hc;rcases hc with rfl|rfl|rfl|rfl|rfl|rfl|rfl|rfl<;>first|exact .inl O|exact .inr (.inl O)|exact .inr (.inr O)
  .exact K m pz P b kd (.refl _ _) hp Y hP (hJ _) (f2 aO (kT _ _)) E
 |false=>
  refine jd (rd&&decide (0<jg n 4)) (Bf (λQ q=>q) (VR O (by decide))) ?_;have A:P.length≠0:=λe=>by rw[List.length_eq_zero_iff.mp e]at J;cases J
  have a:=Jt A;generalize (rd&&decide (0<jg n 4))=b1;induction b1 with
  |true=>
   have M:P.length - 1<P.length:=Nat.sub_lt a (by decide);have p:∀{ρ:Loc} {X:hv->St->Prop} (Q:AV->St->Prop),ρ[3]?=U (U (.mut (.j pz)))->Q (mJ P[P.length - 1]) m.l->WE gY C (.sub hV (hI (-1))) ρ m.l Q X:=by
    intro ρ X Q t q;refine uK (jl t (tA (T:=gY) hp (pO (n:=P.length - 1) ?_ ?_ q)));.show(if(P.map mJ).length=0 then hU else U ((P.map mJ).length - 1))=_;rw[h8,if_neg A]
    .rw[n6,mo M];rfl
   have o:=hP _ (yu M);generalize P[P.length - 1]=z at p o;have s:∀w:Nat,w<=2->WS gY C (.seq (gX 13 (.sub (hS [68,75,75,83,68]) (.a1 .mod (hL 11) (hI 5)))) aj) (fW x hd b pz rd tx ln th [U (.int i),U (.int n),U (.int f),U (.int q),U (.int (z.1+w:Nat)),ap,aA,aw,aD,aE,aC]) m.l k:=by
    intro w hw;refine g6 (Io (T:=gY) (C:=C) (P:=uJ) (l:=[68,75,75,83,68]) (n:=5) (k:=5) (i:=11) (v:=q) (st:=m.l) O O (by decide) O (λc hc=>?_)) λkd E e=>e _ ?_;.simp only[ir,Co,or_false]at hc;rcases hc with rfl|rfl|rfl|rfl|rfl<;>first|exact .inl O|exact .inr (.inl O)|exact .inr (.inr O)
    .exact K m pz P (z.1+w) kd (.refl _ _) hp Y hP (hJ _) (j4 o hw) E
   refine mH (ro (uK (p _ O ?_)));refine uI (decide (jg q 5=4)&&hm (bif z.2 then[75]else[68]) [75]) (Bf (VS O (by decide)) (λQ q=>uK (p (λx st=>li gY x (.int 1) st λx st=>l8 gY .eq Q x (.str [75]) st) O q))) (λ_=>s 0 (by decide)) λ_=>s 2 (by decide)
  |false=>
   refine g6 (xc (v:=q) O a) λj L ej=>?_;have N:∀{ρ:Loc} {X:hv->St->Prop} (Q:AV->St->Prop),ρ[3]?=U (U (.mut (.j pz)))->ρ[11]?=U (U (.int q))->Q (.int j) m.l->WE gY C (.a1 .mod (hL 11) (.len hV)) ρ m.l Q X:=by intro ρ X Q t D G;refine ro (jl D (jl (T:=gY) (C:=C) (X:=X) (Q:=λx st=>yV x st (λy st=>nr .mod (.int q) y st Q)) t (mR hp ?_)));rw[h8];exact rZ (yU (ni.mpr a)) (by rw[ej];exact G)
   have o:=hP _ (yu L);have I:∀(Q:AV->St->Prop),Q (.au [.int P[j].1,.str (bif P[j].2 then[75]else[68])]) m.l->WE gY C (.sub hV (.a1 .mod (hL 11) (.len hV))) (fW x hd b pz rd tx ln th [U (.int i),U (.int n),U (.int f),U (.int q),ar,ap,aA,aw,aD,aE,aC]) m.l Q (k.z (fW x hd b pz rd tx ln th [U (.int i),U (.int n),U (.int f),U (.int q),ar,ap,aA,aw,aD,aE,aC])):=λQ G=>uK (jl O (N _ O O (tA (T:=gY) hp (pO (if_pos (j9 j)) (by rw[n6];show((P[j]?).map mJ)=_;rw[mo L];rfl) G))));refine I _ ?_;clear I;generalize P[j]=z at o;show WS gY C (gX 3 (.c1 hV .c2 (.a1 .mod (hL 11) (.len hV)))) (fW x hd b pz rd tx ln th [U (.int i),U (.int n),U (.int f),U (.int q),U (.int z.1),U (.str (bif z.2 then[75]else[68])),aA,aw,aD,aE,aC]) m.l (mf gY C aj k);refine Bi (VQ (jl O (N _ O O (yW (m:=.j pz) (st:=m.l) hp O (r:=(P.take j).map mJ) (by rw[List.map_take];rfl) ?_))));have au:=λ(m':gW) (d:Nat) e av aN t=>K m' d (P.take j) z.1 (bif z.2 then[75]else[68]) e av aN (λq o=>hP q (List.mem_of_mem_take o)) t (f2 o (iy _ _)) (by induction z.2;exact .inl O;exact .inr (.inl O));exact au (m.add (.m ((P.take j).map mJ))) m.f ((gW.E.refl _ _).add _) (gW.bT _ _) (kg _) (by rw[pq];exact sU _ _)
end
end
section
open PySem
theorem rp(T:List Nat):hO T T.length=(o1 T).1/\g1 T T.length=(o1 T).2:=by unfold hO g1;rw[Ct];exact⟨rfl,rfl⟩
theorem VU:∀{s:List Nat} {q},(∀c∈s,c≠10)->s.foldl p1 q=(q.1,q.2+s.length):=by intro s;induction s with|nil=>intro q _;rfl|cons c s a=>intro q h;have e:p1 q c=(q.1,q.2+1):=if_neg (h c (.head _));rw[Jw,e,a λc hc=>h c (.tail _ hc),iD,lZ,pA 1]
theorem Bj{T s:List Nat}(h:∀c∈s,c≠10):hO (T++s) (T++s).length=hO T T.length/\g1 (T++s) (T++s).length=g1 T T.length+s.length:=by rw[(rp (T++s)).1,(rp (T++s)).2,(rp T).1,(rp T).2];unfold o1;rw[Cf,VU h];exact⟨rfl,rfl⟩
noncomputable def ql:List (List Nat):=[[10],[32,35,32,99,10],[10,10],[10,32,32,32,35,32,99,10]]
noncomputable def rq:List Nat:=[1,1,2,2]
theorem uL{T e:List Nat}{j n:Nat}(a:ql[j]?=U e)(d:rq[j]?=U n):m0 e/\hO (T++e) (T++e).length=hO T T.length+n/\g1 (T++e) (T++e).length=0/\e.length<=8:=by
 rw[(rp (T++e)).1,(rp (T++e)).2,(rp T).1];unfold o1;rw[Cf];rcases j with _|_|_|_|j
 .cases a;cases d;exact⟨.inl O,rfl,rfl,by decide⟩
 .cases a;cases d;exact⟨.inr (.inl O),rfl,rfl,by decide⟩
 .cases a;cases d;exact⟨.inr (.inr (.inl O)),rfl,rfl,by decide⟩
 .cases a;cases d;exact⟨.inr (.inr (.inr O)),rfl,rfl,by decide⟩
 .exact hu a
theorem Ip{F M:List Nat}(h:p<=F.length):hO (F++M) p=hO F p/\g1 (F++M) p=g1 F p:=by unfold hO g1;rw[List.take_append_of_le_length h];exact⟨rfl,rfl⟩
theorem xe{F M:List Nat}{W:List Th}(h:∀t∈W,t.h<=F.length):W.map (kG (F++M))=W.map (kG F):=List.map_congr_left λt a=>by unfold kG mG;rw[(Ip (h t a)).1,(Ip (h t a)).2]
theorem Iq{T:iW}{C:PC}{ρ:Loc}{X:hv->St->Prop}{b1 d:Bool}{e a:DE}{st}(h:∀Q:AV->St->Prop,Q (.bool b1) st->WE T C e ρ st Q X)(j:∀Q:AV->St->Prop,Q (.bool d) st->WE T C a ρ st Q X)(Q:AV->St->Prop)(q:Q (.bool (b1||d)) st):WE T C (.or e a) ρ st Q X:=by refine h (C' (WE T C a) ρ Q X) ?_;induction b1 with|true=>exact q|false=>exact j Q q
section
variable{C:PC}{k:KS}{x b pz ln th i c:Nat}{hd n f q:Int}{rd:Bool}{tx kd:List Nat}{m:gW}{aA aw aD aE aC:Option AV}{aj:DS}
theorem VV(d:uJ kd)(K:∀(j:Nat) (e:List Nat),j<=c+3->uJ e->WS gY C aj (fW x hd b pz rd tx ln th [U (.int i),U (.int n),U (.int f),U (.int q),U (.int j),U (.str e),aA,aw,aD,aE,aC]) m.l k):WS gY C (.seq pb.snd.snd.snd.snd.fst aj) (fW x hd b pz rd tx ln th [U (.int i),U (.int n),U (.int f),U (.int q),U (.int c),U (.str kd),aA,aw,aD,aE,aC]) m.l k:=by refine iX (decide (f=0)) (λQ q=>q) ?_;generalize decide (f=0)=a;induction a with|true=>exact K (c+1) kd (iU (by decide) _) d|false=>refine jd (decide (f=1)) (λQ q=>q) ?_;generalize decide (f=1)=a;induction a with|true=>refine Bi (uI (decide ((0:Int)<(c:Int))) (λQ q=>q) (λh=>?_) λh=>K 3 kd (kT _ _) d);have l:1<=c:=ni.mp (of_decide_eq_true h);have:=K (c - 1) kd (f2 (B0 _ _) (iy _ _)) d;rw[<-rU l]at this;exact this|false=>refine jd (decide (f=2)) (λQ q=>q) ?_;generalize decide (f=2)=a;induction a with|true=>exact Bi (uI (hm kd [68]) (λQ q=>q) (λh=>K c [75] (iy _ _) (.inr (.inl O))) λh=>K c [68] (iy _ _) (.inl O))|false=>refine jd (decide (f=3)) (λQ q=>q) ?_;generalize decide (f=3)=a;induction a with|true=>exact K c [83] (iy _ _) (.inr (.inr O))|false=>refine jd (decide (f=5)||decide (f=6)) (Iq (λQ q=>q) λQ q=>q) ?_;generalize (decide (f=5)||decide (f=6))=a;induction a with|true=>exact K c [75] (iy _ _) (.inr (.inl O))|false=>refine jd (decide (f=7)) (λQ q=>q) ?_;generalize decide (f=7)=a;induction a with|true=>exact K (c+2) kd (iU (by decide) _) d|false=>exact K c kd (iy _ _) d
end
end
section
open PySem
structure m7 (x:Pc):Prop where
 k:∀c∈x.k,lV c/\c≠10
 b9:x.k.length<=5
 v:∀c∈x.v,c<1000
theorem VW{c:Nat}(h:32<=c)(k:c<=126):lV c/\c≠10:=⟨.inr (.inr ⟨h,k⟩),by lia⟩
theorem xf{l:List Nat}(h:(l.all λc=>c==9||(jf 32 c&&jf c 126))=H):∀c∈l,lV c/\c≠10:=λc hc=>by
 have:=lH.mp h c hc;simp only[Cd,iG,beq_iff_eq]at this;rcases this with rfl|⟨a,d⟩
 .exact⟨.inl O,by decide⟩
 .exact VW (jN a) (jN d)
section
variable{L:Nat}(hL:97<=L/\L<=122)
include hL
theorem Ir:(jf 32 L&&jf L 126)=true:=by rw[u9 (f2 (by decide) hL.1),u9 (f2 hL.2 (by decide))];rfl
theorem uM:m7 (pS y L):=by refine⟨xf ?_,by exact(by decide:4<=5),λc h=>(ir.mp h).elim (λe=>e▸by decide) λh=>by cases iJ.mp h;lia⟩;show((_||_)&&((_||_)&&((L==9||(jf 32 L&&jf L 126))&&_)))=H;rw[Ir hL];induction L==9<;>rfl
theorem sG(hc:c=107\/c=109)(a:e=[]\/e=[32]):m7 (pK c L e):=by refine⟨xf ?_,by rcases a with rfl|rfl;exact(by decide:3<=5);exact(by decide:4<=5),λd h=>(ir.mp h).elim (λe=>by rcases hc with rfl|rfl<;>(rw[e];decide)) λh=>by cases iJ.mp h;lia⟩;show((_||_)&&((L==9||(jf 32 L&&jf L 126))&&_))=H;rw[Ir hL];induction L==9<;>rcases hc with rfl|rfl<;>rcases a with rfl|rfl<;>rfl
omit hL in
theorem uN(h:(e.all λc=>c==9||(jf 32 c&&jf c 126))=H)(hl:e.length<=5):m7 (pX e):=⟨xf h,hl,λc h=>nomatch h⟩
omit hL in
theorem qm(a:e=[]\/e=[32]):m7 (pD e):=by rcases a with rfl|rfl<;>exact⟨xf O,by decide,λc h=>nomatch h⟩
theorem VX(h:kt L ps):(∀x∈ps,m7 x)/\ps.length<=3:=by
 have n:∀x∈([]:List Pc),m7 x:=λx h=>nomatch h;have c:∀{x:Pc} {l:List Pc},m7 x->(∀x∈l,m7 x)->∀y∈x::l,m7 y:=λh k y i=>(ir.mp i).elim (λe=>e▸h) (k y);have a:([32]:List Nat)=[]\/([32]:List Nat)=[32]:=.inr O;have f:([]:List Nat)=[]\/([]:List Nat)=[32]:=.inl O;have a1:1<=3:=by decide
 have d:2<=3:=by decide
 have a3:3<=3:=by decide
 induction h with|k=>exact⟨c (uM hL) n,a1⟩|ek=>exact⟨c (sG hL (.inl O) a) (c (uM hL) n),d⟩|fy=>exact⟨c (sG hL (.inl O) f) n,a1⟩|dx=>exact⟨c (sG hL (.inl O) a) (c (uN O (by decide)) n),d⟩|eK=>exact⟨c (sG hL (.inl O) a) (c (uM hL) (c (uN O (by decide)) n)),a3⟩|fz=>exact⟨c (sG hL (.inl O) a) (c (uN O (by decide)) n),d⟩|fA=>exact⟨c (qm a) (c (uN O (by decide)) n),d⟩|fB=>exact⟨c (qm a) (c (uM hL) n),d⟩|fC=>exact⟨c (qm f) n,a1⟩|fD=>exact⟨c (qm a) (c (qm a) (c (uM hL) n)),a3⟩|fE=>exact⟨c (qm a) (c (qm f) n),d⟩|cV=>exact⟨c (qm a) (c (sG hL (.inr O) f) n),d⟩
end
theorem xg{r:Row}(c:r.y):(∀x∈r.bf,m7 x)/\r.bf.length<=4:=by have h:=VX c.a2 c.k;unfold Row.bf;induction r.ci with|true=>exact⟨λy a=>(ir.mp a).elim (λe=>e▸uN O (by decide)) (h.1 y),mj h.2⟩|false=>exact⟨h.1,lb h.2⟩
theorem xh:∀{ps},(∀x∈ps,m7 x)->(∀c∈jt ps,lV c/\c≠10)/\(jt ps).length<=5*ps.length:=by intro ps;induction ps with|nil=>exactλ_=>⟨(λc h=>nomatch h),i' _⟩|cons x ps d=>intro h;have i:=d λy a=>h y (.tail _ a);refine⟨λc hc=>(lg.mp hc).elim ((h x (.head _)).k c) (i.1 c),?_⟩;show(x.k++jt ps).length<=_;rw[io,iD];have:=(h x (.head _)).b9;have:=i.2;lia
noncomputable def uO:DS:=pb.snd.snd.snd.snd.snd.snd.snd.snd.fst.bC
section
variable{C:PC}{k:KS}{x b pz ln th rz:Nat}{hd:Int}{rd:Bool}{ls:List AV}{a8 a9 ay aq aw:Option AV}
theorem VY(ne:rz≠th):∀(qs:List Pc) (T:List Nat) (a:List Th) (cl:Nat) (m:gW) (d f i j:Option AV),(∀x∈qs,m7 x)->m.j rz=U (.m ls)->m.j th=U (.m (a.map (kG T)))->(∀t∈a,t.h<=T.length)->rz<m.f->T.length+(jt qs).length<=900->a.length+qs.length<=900->hO T T.length=ln->g1 T T.length=cl->(∀m' d f i j,gW.E [th] m m'->m'.j th=U (.m ((a++kH T.length qs).map (kG (T++jt qs))))->(∀t∈a++kH T.length qs,t.h<=(T++jt qs).length)->k.n (fW x hd b pz rd (T++jt qs) ln th [a8,a9,ay,aq,U (.int (cl+(jt qs).length:Nat)),d,U (.mut (.j rz)),aw,f,i,j]) m'.l)->lj (WS gY C uO) [13,16,17,18] (λst=>st.cell (.j rz)=U (.m ls)) k (qs.map i_) (fW x hd b pz rd T ln th [a8,a9,ay,aq,U (.int cl),d,U (.mut (.j rz)),aw,f,i,j]) m.l:=by
 intro qs;induction qs with|nil=>intro T a cl m d f i j s r A hp G D E o l K;refine⟨r,?_⟩;have:=K m d f i j (.refl _ _);have e:T++jt []=T:=j3 _;have p:a++kH T.length []=a:=j3 _;rw[e,p]at this;exact this A hp|cons y qs aN=>
  intro T a cl m d f i j s r A hp G D E o l K;refine⟨r,?_⟩;have aO:=s y (.head _);have N:hm (kS y.i) []=false:=by generalize y.i=k;induction k<;>rfl
  have ls:(jt (y::qs)).length=y.k.length+(jt qs).length:=io;rw[ls]at D;rw[iD]at E;have Y:kG T ⟨y.i,T.length,y.v⟩=.au [.str (kS y.i),.au [.int T.length,.int ln,.int cl],sC ⟨y.i,T.length,y.v⟩,.bool (kB y.i)]:=by unfold kG mG;rw[o,l]
  have B:=Bj (T:=T) λc hc=>(aO.k c hc).2;show WS gY C uO (fW x hd b pz rd T ln th [a8,a9,ay,aq,U (.int cl),U (.str (kS y.i)),U (.mut (.j rz)),aw,U (.str y.k),U (sC ⟨y.i,T.length,y.v⟩),U (.bool (kB y.i))]) m.l ⟨lj (WS gY C uO) [13,16,17,18] (λst=>st.cell (.j rz)=U (.m _)) k (qs.map i_),k.aS,k.n,k.z⟩;refine iX H (λQ q=>by show Q (.bool (!hm (kS y.i) [])) _;rw[N];exact q)<|nU (kG T ⟨y.i,T.length,y.v⟩) O A (by rw[h8];lia) (λQ q=>by rw[Y]at q;exact q)<|kq (.str (T++y.k)) (λQ q=>iO (by lia) q) ?_;have I:T++jt (y::qs)=(T++y.k)++jt qs:=(i8 T y.k (jt qs)).symm;have p:(T++y.k).length=T.length+y.k.length:=io;have J:a++kH T.length (y::qs)=(a++[⟨y.i,T.length,y.v⟩])++kH (T++y.k).length qs:=by rw[p,i8];rfl
  rw[I,J]at K;have w:∀t∈a++[⟨y.i,T.length,y.v⟩],t.h<=(T++y.k).length:=λt h=>by
   rw[p];rcases lg.mp h with h|h
   .exact f2 (hp t h) (iy _ _)
   .cases iJ.mp h;exact iy _ _
  have z:∀t∈a++[⟨y.i,T.length,y.v⟩],t.h<=T.length:=λt h=>by
   rcases lg.mp h with h|h
   .exact hp t h
   .cases iJ.mp h;exact hJ _
  refine aN (T++y.k) (a++[⟨y.i,T.length,y.v⟩]) (cl+y.k.length) _ _ _ _ _ (λx h=>s x (.tail _ h)) (by rw[gW.dm _ _ ne];exact r) ?_ w G (by rw[p];lia) (by rw[io];show _+1+_<=_;lia) (B.1.trans o) (B.2.trans (congrArg (· +_) l)) λm' d f i j M au av=>?_;.rw[gW.bj,xe z,kU];rfl
  .have K:=K m' d f i j (((gW.E.refl _ m).set _ (.inl (.head _))).trans (M.sub λn h=>.inl h)) au av;rw[ls,<-lZ]at K;exact K
end
end
section
open PySem
theorem Bk{T:iW}{C:PC}{ρ:Loc}{m:gW}{l:List AV}{v:AV}{j:Nat}{a c:DE}{Q:AV->St->Prop}{X:hv->St->Prop}(e:∀Q:AV->St->Prop,Q (.au l) m.l->WE T C a ρ m.l Q X)(d:∀st (Q:AV->St->Prop),Q (.int (j:Nat)) st->WE T C c ρ st Q X)(hl:l.length<=1000)(f:l[j]?=U v)(q:Q v (m.add<|.m l).l):WE T C (.sub (.m a) c) ρ m.l Q X:=e _<|iO (f2 hl (by decide))<|d _ _<|sB (gW.bT _ _) f q
theorem VZ{T:iW}{C:PC}{ρ:Loc}{st:St}{X:hv->St->Prop}{i j:Nat}{v w n:Int}(c:ρ[i]?=U (U (.int v)))(a:ρ[j]?=U (U (.int w)))(d:0<n)(Q:AV->St->Prop)(q:Q (.bool (decide (v=jg w n))) st):WE T C (hH (.j i) (.a1 .mod (.j j) (hI n))) ρ st Q X:=jl (T:=T) (C:=C) (X:=X) (Q:=λx st=>WE T C (.a1 .mod (.j j) (hI n)) ρ st (λy st=>l8 T .eq Q x y st) X) c (w' (w:=jg w n) a d O st _ q)
theorem V0{T:iW}{C:PC}{ρ:Loc}{m:gW}{k:KS}{a:List Nat}{b c:DS}{l:List AV}{i rz:Nat}(h:ρ[i]?=U (U (.mut (.j rz))))(d:m.j rz=U (.m l))(q:lj (WS T C b) a (λst=>st.cell (.j rz)=U (.m l)) (mf T C c k) l ρ m.l):WS T C (.seq (.cb .m a (.j i) b) c) ρ m.l k:=jl (T:=T) (C:=C) (X:=k.z ρ) (Q:=λx st=>kW st x λm l=>lj (WS T C b) a (λst=>st.cell m=U (.m l)) (mf T C c k) l ρ st) h (mR d q)
theorem Iu{T:iW}{C:PC}{ρ:Loc}{m:gW}{i s:Nat}{l:List AV}{Q:AV->St->Prop}{X:hv->St->Prop}(a:ρ[i]?=U (U<|.mut<|.j s))(c:m.j s=U (.m l))(q:Q (.int l.length) m.l):WE T C (.len<|.j i) ρ m.l Q X:=(jl (T:=T) (C:=C) (X:=X) a<|mR (P:=λd l=>Q (.int l.length) _) c q)
theorem V1{T:iW}{C:PC}{ρ:Loc}{m:gW}{v:Int}{s:Nat}{l:List AV}{X:hv->St->Prop}(c:ρ[8]?=U (U (.int v)))(a:ρ[0]?=U (U<|.mut<|.j s))(d:m.j s=U (.m l))(Q:AV->St->Prop)(q:Q (.bool (decide (v+1<(l.length:Nat)))) m.l):WE T C (.Q .lt (hP (hL 8) ic) (.len ho)) ρ m.l Q X:=jl (T:=T) (C:=C) (X:=X) (Q:=λx st=>nr .add x (.int 1) st λx st=>WE T C (.len ho) ρ st (λy st=>l8 T .lt Q x y st) X) c (Iu (T:=T) (C:=C) (X:=X) (Q:=λy st=>l8 T .lt Q (.int (v+1)) y st) a d q)
section
variable{C:PC}{k:KS}{x b pz th i cl:Nat}{hd n:Int}{rd:Bool}{T:List Nat}{m:gW}{ay aq ap aA aw aD aE aC:Option AV}{am:List Int}
theorem V2(t:m.j x=U (.m (am.map .int)))(hT:T.length<=900)(d:g1 T T.length=cl)(K:∀(m':gW) (e:List Nat),gW.E [] m m'->(m0 e\/e=[]/\am.length<=i+1)->e.length<=8->k.n (fW x hd b pz rd (T++e) (hO (T++e) (T++e).length) th [U (.int i),U (.int n),ay,aq,U (.int (g1 (T++e) (T++e).length)),ap,aA,aw,aD,aE,aC]) m'.l):WS gY C pb.snd.snd.snd.snd.snd.snd.snd.snd.snd (fW x hd b pz rd T (hO T T.length) th [U (.int i),U (.int n),ay,aq,U (.int cl),ap,aA,aw,aD,aE,aC]) m.l k:=by
 have c:(decide ((i:Int)+1<(am.length:Nat))||decide (jg (k9 hd 135) 2=0))=g->am.length<=i+1:=λh=>jE.mp λs=>of_decide_eq_false (ys.mp h).1 (ni.mpr s);refine jd (decide ((i:Int)+1<(am.length:Nat))||decide (jg (k9 hd 135) 2=0)) (Iq (λQ q=>V1 O O t Q (by rw[h8];exact q)) (Il O (by decide) (by decide))) ?_;generalize (decide ((i:Int)+1<(am.length:Nat))||decide (jg (k9 hd 135) 2=0))=v at c;induction v with|false=>have:=K m [] (.refl _ _) (.inr ⟨rfl,c O⟩) (i' _);rw[j3,d]at this;exact this|true=>
  clear c;refine g6 (xc (v:=k9 n 200) (k:=4) O (by decide)) λj r f=>?_;have l1:j<ql.length:=r;have l2:j<rq.length:=r;have a:=uL (T:=T) (mo l1) (mo l2);have o:(ql.map AV.str)[j]?=U (.str ql[j]):=by rw[n6,mo l1];rfl
  have p:(rq.map λn=>AV.int (n:Nat))[j]?=U (.int (rq[j]:Nat)):=by rw[n6,mo l2];rfl
  generalize ql[j]=e at a o;generalize rq[j]=nn at a p;refine mH (ro (jl O (Bk (l:=ql.map AV.str) (λQ q=>q) (rn O (by decide) (by decide) f) (by exact(by decide:4<=1000)) o (iO ?_ ?_))));.exact f2 (j4 hT a.2.2.2) (by decide)
  refine mH (ro (jl O (Bk (m:=m.add (.m (ql.map AV.str))) (l:=rq.map λn=>AV.int (n:Nat)) (λQ q=>q) (rn O (by decide) (by decide) f) (by exact(by decide:4<=1000)) p ?_)));have:=K ((m.add (.m (ql.map AV.str))).add (.m (rq.map λn=>AV.int (n:Nat)))) e (((gW.E.refl _ _).add _).add _) (.inl a.1) a.2.2.2;rw[a.2.1,a.2.2.1]at this;exact this
end
end
section
open PySem
theorem V3:∀{a:List Row},hE (a++[r])=hE a++(r.bc++r.d):=by intro a;induction a with|nil=>exact congrArg (r.bc++·) (j3 _)|cons y a c=>show y.bc++(y.d++hE (a++[r]))=(y.bc++(y.d++hE a))++_;rw[c,i8 y.bc,i8 y.d]
theorem V4:∀{a:List Row} {p},jB p (a++[r])=jB p a++kH (p+(hE a).length+r.aW) r.bf:=by intro a;induction a with|nil=>intro p;exact j3 _|cons y a c=>intro p;have e:(hE (y::a)).length=y.bc.length+(y.d.length+(hE a).length):=(io (as:=y.bc)).trans (congrArg _ io);show kH _ y.bf++jB _ (a++[r])=(kH _ y.bf++jB _ a)++_;rw[c,e,i8];congr 3;lia
structure Rk (r:Row):Prop where
 b0:r.y
 aW:r.aW<=45
 d:r.d.length<=8
theorem V5(c:r.y)(e:m0 r.d\/r.d=[]):∀{a:List Row},(∀r∈a,Rk r/\m0 r.d)->oy (a++[r]):=by
 intro a;induction a with
 |nil=>
  intro _;rcases e with h|h
  .exact .cons c h .nil
  .exact .fF c h
 |cons y a f=>exactλh=>.cons (h y (.head _)).1.b0 (h y (.head _)).2 (f λr h'=>h r (.tail _ h'))
theorem V6(h:Rk r):r.bc.length<=65/\r.bf.length<=4:=by have p:=xg h.b0;have s:=(xh p.1).2;have c:=h.aW;rw[Bd];exact⟨by have:=p.2;lia,p.2⟩
theorem V7:∀{ps} {p},(kH p ps).length=ps.length:=by intro ps;induction ps with|nil=>intro p;rfl|cons y ps a=>intro p;exact congrArg (· +1) a
theorem Bl:∀{a:List Row},(∀r∈a,Rk r)->(hE a).length<=73*a.length/\∀p,(jB p a).length<=4*a.length:=by
 intro a;induction a with|nil=>exactλ_=>⟨i' _,λ_=>i' _⟩|cons y a f=>
  intro h;have c:=h y (.head _);have l:=V6 c;have i:=f λr h'=>h r (.tail _ h');have e:(hE (y::a)).length=y.bc.length+(y.d.length+(hE a).length):=(io (as:=y.bc)).trans (congrArg _ io);refine⟨?_,λp=>?_⟩;.rw[e,iD];have:=c.d;have:=i.1;lia
  .show(kH _ y.bf++jB _ a).length<=_;rw[io,V7,iD];have:=i.2 (p+(y.bc.length+y.d.length));lia
theorem V8{T e:List Nat}(h:m0 e):g1 (T++e) (T++e).length=0:=by
 rcases h with rfl|rfl|rfl|rfl
 .exact(uL (j:=0) (T:=T) O O).2.2.1
 .exact(uL (j:=1) (T:=T) O O).2.2.1
 .exact(uL (j:=2) (T:=T) O O).2.2.1
 .exact(uL (j:=3) (T:=T) O O).2.2.1
structure Wi (am:List Int)(x pz th i:Nat)(P:List (Nat×Bool))(a:List Row)(m:gW):Prop where
 c_:m.j x=U (.m (am.map .int))
 gQ:m.j pz=U (.m (P.map mJ))
 gR:m.j th=U (.m ((jB 0 a).map (kG (hE a))))
 eB:x<m.f
 gS:pz<m.f
 d6:th<m.f
 gg:x≠th
 gV:pz≠th
 gT:∀q∈P,q.1<=10*i
 fG:P.length<=2*i
 e6:∀r∈a,Rk r/\m0 r.d
 fH:a.length=i
 gU:g1 (hE a) (hE a).length=0
 gh:∀t∈jB 0 a,t.h<=(hE a).length
section
variable{C:Nat->PC}(Y:mF C){kk:KS}{x b th:Nat}{hd:Int}{am:List Int}{d:Nat}
include Y
theorem Iv{i pz:Nat}{P}{j:List Row}{m:gW}{rd:Bool}{bb N G aS D J L z A B:Option AV}{k:KS}(hi:i<4)(a0:i<am.length)(bu:b<=2)(I:Wi am x pz th i P j m)(K:∀(m':gW) (r:Row) (aU:Nat) (bp:List (Nat×Bool)) (bi:Bool) (bb N G D J L z A B:Option AV),gW.E [th] m m'->Rk r->(m0 r.d\/r.d=[]/\am.length<=i+1)->(m0 r.d->Wi am x aU th (i+1) bp (j++[r]) m')->m'.j th=U (.m ((jB 0 (j++[r])).map (kG (hE (j++[r])))))->k.n (fW x hd b aU bi (hE (j++[r])) (hO (hE (j++[r])) (hE (j++[r])).length) th [U (.int i),bb,N,G,U (.int (g1 (hE (j++[r])) (hE (j++[r])).length)),D,J,L,z,A,B]) m'.l):WS gY (C (d+1)) pb (fW x hd b pz rd (hE j) (hO (hE j) (hE j).length) th [U (.int i),bb,N,G,aS,D,J,L,z,A,B]) m.l k:=by
 have gl:=Bl λr h=>(I.e6 r h).1;rw[I.fH]at gl;have bc:∀{c:Nat},∀y∈jD c 32,y≠10:=λy bA=>by rw[JX bA];decide
 refine kq (.int am[i]) (λQ q=>uK (jl O (jl O (tA (T:=gY) I.c_ (pO (if_pos (j9 i)) (by rw[n6];show(am[i]?).map _=_;rw[mo a0];rfl) q))))) ?_;generalize am[i]=n;have aP:∀f,WS gY (C (d+1)) pb.snd.snd (fW x hd b pz rd (hE j) (hO (hE j) (hE j).length) th [U (.int i),U (.int n),U (.int f),G,aS,D,J,L,z,A,B]) m.l k:=by
  intro f;refine kq (.int (k9 n 4)) (λQ q=>ro (jl O (rZ (o:=.fdiv) (a:=n) (b:=4) O q)))<|VT I.gQ I.gS I.gT bu (by have:=I.fG;lia) λm1 bh P1 c kd l a_ bg aW bw aX a2=>VV a2 λc2 aR aY a4=>?_;have br:c2<=10*i+5:=f2 aY (iu aX 3);refine(VP Y hi (by lia) a4 λm2 rz be aN ps t ax p M a7 bC aV bD bj bz bx=>?_:C (d+1) 1532 [.int n,.int i,.int c2,.str aR,.int f] m1.l _ _);have bd:rz≠th:=iP (hD I.d6 (f2 l.n bC));show WS gY (C (d+1)) pb.snd.snd.snd.snd.snd.snd (fW x hd b bh aN (hE j) (hO (hE j) (hE j).length) th [U (.int i),U (.int n),U (.int f),U (.int (k9 n 4)),U (.int c2),U (.str aR),U (.mut (.j rz)),U (.mut (.j be)),z,A,B]) m2.l k;refine mH (ro (jl O (jl O (Be (p.at bg ji a_) a7 (by rw[h8,h8];have:=I.fG;lia) λm3 av s a' bf au=>kq (.int 0) (λQ q=>q)<|V0 O (s.at aV ji M) ⟨s.at aV ji M,?_⟩))));let aO:Row:=⟨c2,t,97+i,ps,[]⟩;have ok:aO.y:=⟨bj,by show 97<=97+i/\97+i<=122;lia⟩;have pk:=xg ok;have sl:=(xh pk.1).2;have e1:=Bj (T:=hE j) (bc (c:=c2));rw[I.gU]at e1;have l1:(hE j++jD c2 32).length=(hE j).length+c2:=by rw[io,u']
  have ba:∀t∈jB 0 j,t.h<=(hE j++jD c2 32).length:=λt h=>f2 (I.gh t h) (by rw[l1];exact iy _ _);have t3:=s.at (hD I.d6 (f2 l.n p.n)) ji (p.at (hD I.d6 l.n) ji (l.at I.d6 ji I.gR));have x3:=s.at (hD I.eB (f2 l.n p.n)) ji (p.at (hD I.eB l.n) ji (l.at I.eB ji I.c_));have aT:av≠th:=iP (hD I.d6 (f2 l.n (f2 p.n bf)));show WS gY (C (d+1)) uO (fW x hd b av aN (hE j) (hO (hE j) (hE j).length) th [U (.int i),U (.int n),U (.int f),U (.int (k9 n 4)),U (.int 0),U (.str []),U (.mut (.j rz)),U (.mut (.j be)),U (.str (jD c2 32)),U .none,U (.bool g)]) m3.l ⟨lj (WS gY (C (d+1)) uO) [13,16,17,18] (λst=>st.cell (.j rz)=U (.m (k8 c2 t ps))) (mf gY (C (d+1)) pb.snd.snd.snd.snd.snd.snd.snd.snd.snd k) (aO.bf.map i_),k.aS,_,k.z⟩;refine j2 (λQ q=>q)<|kq (.str (hE j++jD c2 32)) (λQ q=>iO (by rw[u'];lia) q)<|VY bd aO.bf (hE j++jD c2 32) (jB 0 j) (0+(jD c2 32).length) m3 _ _ _ _ pk.1 (s.at aV ji M) (by rw[xe I.gh];exact t3) ba (hD aV s.n) (by rw[l1];have:=pk.2;lia) (by have:=gl.2 0;have:=pk.2;lia) e1.1 e1.2 λm4 D z A B w bt bk=>?_;have e2:=Bj (T:=hE j++jD c2 32) λc hc=>((xh pk.1).1 c hc).2;have x4:=w.at (hD I.eB (f2 l.n (f2 p.n s.n))) (λh=>I.gg (iJ.mp h)) x3;have bB:=w.at au (λh=>aT (iJ.mp h)) a';have l2:((hE j++jD c2 32)++jt aO.bf).length<=900:=by rw[io,l1];have:=pk.2;lia
  refine H9 ?_;rw[<-e2.1.trans e1.1];refine V2 x4 l2 (e2.2.trans (congrArg (· +_) e1.2)) λm5 e E bv aZ=>?_;have eT:hE (j++[(⟨c2,t,97+i,ps,e⟩:Row)])=((hE j++jD c2 32)++jt aO.bf)++e:=by rw[V3,i8 (hE j),i8 (hE j)];rfl
  have eH:jB 0 (j++[(⟨c2,t,97+i,ps,e⟩:Row)])=jB 0 j++kH (hE j++jD c2 32).length aO.bf:=by rw[V4,l1,lG];rfl
  have ev:gW.E [th] m m5:=(((((l.trans p).trans s).sub λn h=>nomatch h).trans (w.sub λn h=>.inl h)).trans (E.sub λn h=>nomatch h));have bo:m5.j th=U (.m ((jB 0 (j++[(⟨c2,t,97+i,ps,e⟩:Row)])).map (kG (hE (j++[(⟨c2,t,97+i,ps,e⟩:Row)]))))):=by rw[eT,eH,xe bk];exact E.at (hD I.d6 (f2 l.n (f2 p.n (f2 s.n w.n)))) ji bt
  have bn:Rk ⟨c2,t,97+i,ps,e⟩:=⟨⟨ok.k,ok.a2⟩,by show c2<=45;lia,aZ⟩;have aQ:=K m5 ⟨c2,t,97+i,ps,e⟩ av (P1++ax) aN (U (.int n)) (U (.int f)) (U (.int (k9 n 4))) D (U (.mut (.j rz))) (U (.mut (.j be))) z A B ev bn bv (λbl=>⟨E.at (hD I.eB (f2 l.n (f2 p.n (f2 s.n w.n)))) ji x4,by rw[kU];exact E.at (hD au w.n) ji bB,bo,hD I.eB ev.n,hD au (f2 w.n E.n),hD I.d6 ev.n,I.gg,aT,λq hq=>(lg.mp hq).elim (λh=>f2 (aW q h) (by lia)) λh=>f2 (bz q h) (by lia),by rw[io];have:=I.fG;lia,λr hr=>(lg.mp hr).elim (I.e6 r) λh=>by cases iJ.mp h;exact⟨bn,bl⟩,by rw[io,I.fH];rfl,by rw[eT];exact V8 bl,λt ht=>by rw[eH]at ht;rw[eT,io];exact f2 (bk t ht) (iy _ _)⟩) bo;rw[eT]at aQ;exact aQ
 exact mH (uI (decide ((i:Int)=jg hd 5)) (VZ O O (by decide)) (λ_=>rn O (by decide) (by decide) O _ _ (aP _)) λ_=>aP 9)
end
end
section
open PySem
theorem V9:∀{ps p},∀t∈kH p ps,t.h<=p+(jt ps).length:=by
 intro ps;induction ps with|nil=>exactλt h=>nomatch h|cons y ps a=>
  intro p t h;have e:(jt (y::ps)).length=y.k.length+(jt ps).length:=io;rw[e];rcases ir.mp h with rfl|h
  .exact iy _ _
  .rw[<-lZ];exact a t h
theorem V_:∀{a:List Row} {p},∀t∈jB p a,t.h<=p+(hE a).length:=by
 intro a;induction a with|nil=>exactλt h=>nomatch h|cons y a c=>
  intro p t h;have e:(hE (y::a)).length=y.bc.length+(y.d.length+(hE a).length):=(io (as:=y.bc)).trans (congrArg _ io);rw[e];rcases lg.mp h with h|h
  .have:=V9 t h;have f:=Bd y;lia
  .have:=c t h;lia
theorem V'{T:iW}{C:PC}{ρ:Loc}{st:St}{k:KS}{n:Nat}(h:∀Q:AV->St->Prop,Q (.int n) st->WE T C e ρ st Q (k.z ρ))(a:n<=1000)(q:lj (WS T C b) f (λi=>True) (mf T C c k) (tw 0 n) ρ st):WS T C (.seq (.cb .d7 f e b) c) ρ st k:=h _ ⟨j9 n,rF.mpr a,q⟩
section
variable{C:Nat->PC}(Y:mF C){x b th:Nat}{hd:Int}{am:List Int}{d:Nat}
include Y
theorem Wa{kk:KS}(au:am.length<=4)(Q:b<=2):∀(j i pz:Nat) (P:List (Nat×Bool)) (z:List Row) (m:gW) (rd:Bool) (B s c e A f k l o p q:Option AV),i+(j+1)=am.length->Wi am x pz th i P z m->(∀(m':gW) (a:List Row) (t:Nat) (w:Bool) (B s c e f k l o p q:Option AV),gW.E [th] m m'->oy a->a≠[]->a.length<=4->(∀r∈a,Rk r)->m'.j th=U (.m ((jB 0 a).map (kG (hE a))))->kk.n (fW x hd b t w (hE a) (hO (hE a) (hE a).length) th [B,s,c,e,U (.int (g1 (hE a) (hE a).length)),f,k,l,o,p,q]) m'.l)->lj (WS gY (C (d+1)) pb) [8] (λaP=>True) kk (tw i (j+1)) (fW x hd b pz rd (hE z) (hO (hE z) (hE z).length) th [B,s,c,e,A,f,k,l,o,p,q]) m.l:=by intro j;induction j with|zero=>intro i pz P z m rd B s c e A f k l o p q T I K;refine⟨trivial,Iv Y (by lia) (by lia) Q I λm' r t N w s c e f k l o p q D M G _ ht=>⟨trivial,K m' (z++[r]) t w _ s c e f k l o p q D (V5 M.b0 (G.imp_right And.left) I.e6) (by intro h;exact absurd (congrArg Ca h) (by rw[io];exact Nat.succ_ne_zero _)) (by rw[io,I.fH];show i+1<=4;lia) (λy aN=>(lg.mp aN).elim (λh=>(I.e6 y h).1) λh=>by cases iJ.mp h;exact M) ht⟩⟩|succ j aO=>intro i pz P z m rd B s c e A f k l o p q T I K;refine⟨trivial,Iv Y (by lia) (by lia) Q I λm' r t N w s c e f k l o p q D M G hI _=>?_⟩;have av:m0 r.d:=G.elim id λh=>absurd h.2 (by lia);exact aO (i+1) t N (z++[r]) m' w _ s c e _ f k l o p q (by lia) (hI av) λm2 a J L B s c e f k l o p q E=>K m2 a J L B s c e f k l o p q (D.trans (E.sub λn h=>.inl h))
theorem Wb{m:gW}{Q:AV->St->Prop}{X:hv->St->Prop}(hx:m.j x=U (.m (am.map .int)))(G:x<m.f)(au:1<=am.length)(I:am.length<=4)(K:∀(m':gW) (th:Nat) (a:List Row),gW.E [] m m'->oy a->a≠[]->a.length<=4->(∀r∈a,Rk r)->m'.j th=U (uC (hE a++[0]) (jB 0 a++[⟨.d,(hE a).length,[]⟩]))->m.f<=th->th<m'.f->Q (.au [.str (hE a),.mut (.j th)]) m'.l):C (d+2) 1539 [.mut (.j x),.int hd] m.l Q X:=by
 refine kf λJ=>g6 (xc (v:=k9 hd 45) (k:=3) O (by decide)) λj aN ej=>J ?_;clear J;obtain⟨b,av,T⟩:∃b:Nat,b<=2/\([.int 0,.int 0,.int 2]:List AV)[j]?=U (.int b):=by
  rcases j with _|_|_|j
  .exact⟨0,by decide,rfl⟩
  .exact⟨0,by decide,rfl⟩
  .exact⟨2,by decide,rfl⟩
  .exact absurd aN (by lia)
 refine Y.c O O<|mH (Bk (l:=[.int 0,.int 0,.int 2]) (λQ q=>q) (rn O (by decide) (by decide) ej) (by exact(by decide:3<=1000)) T ?_);generalize A:m.add (.m [.int 0,.int 0,.int 2])=m1;have c:gW.E [] m m1:=A▸(gW.E.refl _ _).add _;refine mH (mI (l:=[]) (λQ q=>q) (by decide) λm2 pz e hp _ E=>kq (.bool g) (λQ q=>q)<|kq (.str []) (λQ q=>q)<|kq (.int 0) (λQ q=>q)<|mH (mI (l:=[]) (λQ q=>q) (by decide) λm3 th f ht s M=>?_));have o:=hD G (f2 c.n e.n);have x3:=f.at o ji (e.at (hD G c.n) ji (c.at G ji hx));have N:Wi am x pz th 0 [] [] m3:=⟨x3,f.at E ji hp,ht,hD o f.n,hD E f.n,M,iw (hD o s),iw (hD E s),(λq h=>nomatch h),i' _,(λr h=>nomatch h),rfl,rfl,(λt h=>nomatch h)⟩;obtain⟨D,z⟩:∃D,am.length=D+1:=⟨am.length - 1,(JU au).symm⟩;refine V' (n:=am.length) (λQ q=>Iu O x3 (by rw[h8];exact q)) (f2 I (by decide)) ?_;rw[z];refine Wa Y I av D 0 pz [] [] m3 g _ _ _ _ _ _ _ _ _ _ _ (by lia) N λm4 a aY aZ a0 a2 aP aQ aR aS aT aU aV aW i R ne aX L t4=>H9 ?_;have gl:=Bl L;have y:(m4.set th (.m ((jB 0 a).map (kG (hE a))++[kG (hE a) ⟨.d,(hE a).length,[]⟩]))).j th=U (uC (hE a++[0]) (jB 0 a++[⟨.d,(hE a).length,[]⟩])):=by
  unfold uC;rw[gW.bj,xe λt h=>?_,kU];.rfl
  .rcases lg.mp h with h|h
   .have:=V_ t h;rw[lG]at this;exact this
   .cases iJ.mp h;exact hJ _
 have w:gW.E [] m m4:=⟨f2 c.n (f2 e.n (f2 f.n i.n)),λn B aO=>(i.b9 n (hD B (f2 c.n (f2 e.n f.n))) λh=>iw (hD B (f2 c.n (f2 e.n s))) (iJ.mp h)).trans (((c.trans e).trans f).b9 n B aO)⟩;have p:=f2 c.n (f2 e.n s);exact nA (kG (hE a) ⟨.d,(hE a).length,[]⟩) O t4 (by rw[h8];have:=gl.2 0;lia) (λQ q=>q)<|kr (.au [.str (hE a),.mut (.j th)]) (λQ q=>q)<|K _ th a (w.set _ (.inr p)) R ne aX L y p (hD M i.n)
end
end
section
open PySem
theorem At.bh(A:At T w m st){us}(l)(o:aM<m.f)(h:m.j aM=U (.m us)):At T w (m.set aM<|.m l)<|st.bh (.j aM)<|.m l:=by
 obtain⟨z,m',c,pk,P⟩:=A;refine⟨z,m'.set aM _,c,pk,P.eR,⟨P.bG.1,λn p=>?_⟩,P.d2,P.df,λq=>?_,P.bH⟩
 .by_cases e:n=aM;.rw[e,gW.bj,gW.bj]
  .rw[gW.dm _ _ e,gW.dm _ _ e];exact P.bG.2 n p
 .exists b;rcases P.fu q with h'|⟨n,f,i,j,a,k⟩
  .exact b<|.inl h'
  .refine b<|.inr ⟨n,f,i,j,?_,k⟩;rw[gW.dm _ _ λe=>?_];.exact a
   .rw[e,P.bG.at o h]at a;exact iR<|congrArg MC.gk<|ia a
theorem At.cell(A:At T w m st)(a:aM<m.f)(h:m.j aM=U c):st.j aM=U c:=by obtain⟨z,m',b,pk,P⟩:=A;exact P.bG.at a h
theorem Wc(h:w.E=.none):({w with E:=.none}:Z)=w:=by clear zz3 (Eq.symm h);rfl
noncomputable def DS.try:DS->DS| .dU b _ _ _ _ _=>b|_=>.av
noncomputable def DS.gi:DS->DE| .bm t _=>t| .ite t _ _=>t|_=>.av
noncomputable def lw:Nat->DS|0=>wp|n+1=>(lw n).snd
noncomputable def xi:DS:=(lw 7).fst.try
theorem We(h:Tp B T w D x):w.E=.none:=by induction h<;>assumption
section
variable{C:Nat->PC}(Y:mF C){d:Nat}{Q:AV->St->Prop}{X:hv->St->Prop}
include Y
theorem Wg(h:e.is v)(k:Q (h2 e) st):C (d+1) 1588 [v] st Q X:=by refine Y.c O O ?_;induction e<;>(refine jO h λm n a=>?_;clear zz3 a;exact k)
theorem Iw(k:Q (mG B p) st):C (d+1) 1595 [hy B p] st Q X:=Y.c O O k
theorem Ix(c:Option Nat)(k:Q (Option.rec .none (mG B) c) st):C (d+1) 1595 [om B c] st Q X:=by induction c with|none=>exact Y.c O O k|some p=>exact Y.c O O k
set_option tactic.hygienic true in
theorem Wj{k:KS}{ρ}{aM}{B:List _}(J:ρ[4]?=U (U g4))(aN:ρ[5]?=U (U<|.mut<|.j aM)){T}{w}{D:List Ev}{x:Option Rf}(h:Tp B T w D x):∀{us:List AV} {m} {st},At T w m st->aM<m.f->m.j aM=U (.m us)->us.length+D.length<=100000->(x=V->∀ae m',gW.E [aM] m m'->m'.j aM=U (.m (us++D.map h2))->(∀n c,n<m'.f->m'.j n=U c->ae.j n=U c)->k.n ρ ae)->(∀y,x=U y->∀ae m' c q,gW.E [aM] m m'->m'.j aM=U (.m (us++D.map h2))->(∀n c,n<m'.f->m'.j n=U c->ae.j n=U c)->k.z ρ ⟨bif y.k then 744 else 1293,[c,om B y.aW,q,hy B y.h,.none]⟩ ae)->jb (WE gY (C (d+19)) xi.gi) (WS gY (C (d+19)) xi.bC) k ρ st:=by
 have j:∀{Q:AV->St->Prop} {X:hv->St->Prop} {st},C (d+19) _ [g4] st (λx st=>match nI gY st _ x _ with
  |some r=>Q _ st|hU=>False) X->WE _ _ xi.gi ρ st Q X:=λ{Q X st} h=>by
  show(match ρ[4]? with|some<|U a=>qT a _|_=>False)
  rw[J]
  exact h
 have av:∀{k'} {T} {w:Z} {m} {st} {e} {v} {us},At T {w with E:=v} m st->e.is v->aM<m.f->m.j aM=U (.m us)->us.length<100000->(∀ae,At T _ (m.set aM<|.m (us++[h2 e])) ae->k'.n ρ ae)->WS gY _ xi.bC ρ st k':=λ{k' T w m st e v us} A M i f hl K=>by show(match ρ[5]? with|some<|U a=>r0 a st (match ρ[4]? with|some<|U b=>qT b<|C _ _ _ st (λx st=>C (d+19) _ _ st _ _) _|_=>False)|_=>False);rw[J,aN];exact uh (A.cell i f)<|T' Y.eA (HM M) A λae au=>Wg Y M<|p5 (au.cell i f) (by apply hD<;>right)<|K _<|au.bh _ i f
 induction h with|nil I L=>refineλus m st A i f hl E _=>.turn (jb _ _ k) (λN N h=>h)<|j<|T_ Y.eA I L A ?_;rw[j3]at E;exact E O st m (.refl _ _) f λn c=>A.cell|step I L aO G _ aQ=>refineλus m st A i f hl E t=>.turn _ (λN N h=>h)<|j<|HN Y.eA G I L aO A λae v M au=>nj (HM M) λK ks vs o=>?_;subst o;refine av au M i f ((ja<|f2 (iU (kT _ _) _) hl)) λaR aP=>?_;rw[Wc<|We ‹_›]at aP;exact aQ aP i (gW.bj _ _ _) (by rw[io];exact oc<|rT hl) (λhx ae m' e1 e2 e3=>(E hx _ m' (((gW.E.refl _ m).set _<|.inl<|.head _).trans<|e1.sub λn=>.inl) (by rw[e2,i8];rfl) e3)) λy hx ae m' c q e1 e2 e3=>(t y hx _ m' c q (((gW.E.refl _ m).set _<|.inl<|.head _).trans<|e1.sub λn=>.inl) (by rw[e2,i8];rfl) e3)|stop I L aO G=>
  rename_i x;intro us m st A i f hl E t;refine .turn (jb _ _ k) (λN N h=>h)<|j<|HN Y.eA G I L aO A ?_;have t:=t _ O;have h0:m.j aM=U (.m (us++[])):=by rw[j3];exact f
  obtain⟨s,p,cc⟩:=x;induction s with|false=>exactλz dn pk c q l=>t _ m c q (.refl _ _) h0 λn c=>l.at|true=>exactλz c q l=>t _ m c q (.refl _ _) h0 λn c=>l.at
end
end
section
open PySem
theorem Wk(h:∀c∈F,lV c)(hl:F.length<=500):h5<|o7 F m a where
 bt:=Ci
 M:=rfl
 dn:=by show 1+0+0+8*((F++[0]).length - 0)<=9000;rw[io,qE];lia
 cc:=by rw[io];apply n3<;>right
 cd:=λi c hc=>by
  rcases lg.mp<|k_ hc with h'|h'
  .haveI:=h c h';unfold lV at this;exact⟨by lia,by lia⟩
  .cases iJ.mp h';exact⟨by decide,by decide⟩
 cy:=by rw[io];exact rG _
theorem Wl(c:st.j a=U (.m l))(e:st.j b=U (.m l))(f:yL l=H)(q:Q (.bool H) st):vq (.mut<|.j a) (.mut<|.j b) st Q:=(.inl ⟨_,_,_,rfl,rfl,c,e,f,q⟩)
theorem Wm(q:Q (.bool H) st):vq (i7 B x) (i7 B x) st Q:=by induction x with|none=>exact .inr ⟨rfl,rfl,q⟩|some v=>obtain⟨s,p,c⟩:=v;induction s<;>induction c<;>exact .inr ⟨rfl,rfl,q⟩
section
variable{C:Nat->PC}(Y:mF C){d:Nat}
include Y
theorem Wn{k:KS}{F:List Nat}{z:List Ev}{x:Option Rf}{D a1 a4 a5 a6 a9:Option AV}{m:gW}(G:m.j T=U c0)(j:T<m.f)(au:m.j u=U (.m<|z.map h2))(l:u<m.f)(hF:∀c∈F,lV c)(hl:F.length<=500)(hd:yL (z.map h2)=H)(E:z.length<=10000)(L:∀m' A,∃w,Tp (F++[0]) w (o7 F m' A) z x/\j0 w (o7 F m' A) g/\w.len<=1000) (K:∀st,st.j T=U c0->k.aS (.bool H) st):WS gY (C (d+19)) (lw 4) [D,a1,U<|.mut<|.j u,U<|i7 (F++[0]) x,a4,a5,a6,V,U<|.str F,a9] m.l k:=by
 refine Ud Y.eA hF (f2 hl (by decide)) λm' A o=>?_;haveI M:=(gW.le.add m'<|.m []);refine jj (L (m'.add<|.m []) A) λw tp aN tl=>A9 (.mut<|.j m'.f) (o7 F (m'.add _) A).o (λQ q=>q)<|kq .none (λQ q=>q) ?_;have i:∀st m2 I,gW.E [m'.f] (m'.add (.m [])) m2->m2.j m'.f=U (.m ([]++z.map h2))->(∀n c,n<m2.f->m2.j n=U c->st.j n=U c)->I=i7 (F++[0]) x->WS gY (C (d+19)) (lw 8) [D,a1,U (.mut (.j u)),U (i7 (F++[0]) x),U g4,U (.mut (.j m'.f)),U I,V,U<|.str F,a9] st k:=λst m2 I b t f e4=>by subst e4;haveI N:=hD l<|f2 o.1<|jo _;haveI c1:=f _ _ (hD (kg _) b.n) t;haveI c2:=f _ _ (hD N b.n)<|b.at N (λh=>(by haveI:=o.1;exact iw (hD l this):u≠m'.f)<|iJ.mp h)<|(o.trans M).at l au;exact Wl (Q:=λv st=>jy v st λr st=>kL r (WE gY (C (d+19)) _ _ st _ _) _) c1 c2 hd<|Wm<|K st (f _ _ (hD (hD j<|f2 o.1<|jo _) b.n)<|b.at (hD j<|f2 o.1 (jo _)) (λh=>by haveI:=iJ.mp h;haveI:=o.1;lia)<|(o.trans M).at j G)
 haveI av:=Wj Y (d:=d) (k:=⟨(mf _ _ (lw 8) k).n,k.aS,k.b,λρ e st=>match gY.cr e.b_ with
  |some ks=>match gY.sub e.b_ 744 with|true=>WS gY (C (d+19)) (gX 6 (hj [hS [115,99,97,110,110,101,114],iS 1595 [hB iK 44],iS 1595 [hB iK 42]])) (ρ.set 7<|U<|.cG e.b_ ks e.dM) st ⟨λρ st=>WS gY (C (d+19)) (lw 8) (ρ.set 7 hU) st k,λa a=>False,λa a=>False,λa a a=>False⟩|false=>match gY.sub e.b_ 1293 with|true=>WS gY (C (d+19)) (gX 6 (hj [hS [112,97,114,115,101,114],iS 1595 [hB iK 44],iS 1595 [hB iK 42]])) (ρ.set 7<|U<|.cG e.b_ ks e.dM) st ⟨λρ st=>WS gY (C (d+19)) (lw 8) (ρ.set 7 hU) st k,λa a=>False,λa a=>False,λa a a=>False⟩|false=>False
  |hU=>False⟩) (ρ:=[D,a1,U<|.mut<|.j u,U<|i7 (F++[0]) x,U g4,U (.mut (.j m'.f)),U .none,V,U<|.str F,a9]) O O tp ⟨_,m'.add<|.m [],_,_,aN,.refl _,λa=>rfl,rfl,λh=>absurd h (by show ¬(0=1);decide),by show 0+0+4*w.len<=100000;exact f2 (j4 (j4 (hJ _)<|hJ _)<|s7 _ tl) (by decide)⟩ (kg _) (gW.bT _ _) (f2 (j4 (hJ _) E) (by decide)) (λB st m2 b t f=>i st m2 .none b t f (by rw[B];rfl)) λy B st m2 c pr b t f=>?_
 .exact av
 .obtain⟨s,p,J⟩:=y;induction s with|true=>refine Iw Y<|Ix Y J<|i st m2 _ b t f ?_;rw[B];rfl|false=>refine Iw Y<|Ix Y J<|i st m2 _ b t f ?_;rw[B];rfl
end
end
section
open PySem
theorem Wo:∀{b:List Row},oy b->(∀r∈b,Rk r)->∀c∈hE b,lV c:=by
 have tx:∀{r:Row},r.y->∀c∈r.bc,lV c:=λ{r} o c hc=>by
  rcases lg.mp hc with h|h
  .rw[JX h];exact .inr (.inr (by decide))
  .exact((xh (xg o).1).1 c h).1
 have n:∀{e:List Nat},m0 e->∀c∈e,lV c:=λh c hc=>by
  have:∀{l:List Nat},(l.all λc=>c==10||(jf 32 c&&jf c 126))=H->c∈l->lV c:=λh hc=>by
   have:=lH.mp h c hc;simp only[Cd,iG,beq_iff_eq]at this;rcases this with h|⟨a,i⟩
   .exact .inr (.inl h)
   .exact .inr (.inr ⟨jN a,jN i⟩)
  rcases h with rfl|rfl|rfl|rfl<;>exact this O hc
 intro b R;induction R with
 |nil=>exactλ_ c h=>nomatch h|@fF r o f=>
  intro _ c hc;rcases lg.mp hc with h|h
  .exact tx o c h
  .rw[f]at h;cases h
 |cons o f R m=>
  intro h c hc;rcases lg.mp hc with a|a
  .exact tx o c a
  .rcases lg.mp a with a|a
   .exact n f c a
   .exact m (λr j=>h r (.tail _ j)) c a
theorem Wp:∀{ps p},(∀x∈ps,m7 x)->Dat (kH p ps):=by
 intro ps;induction ps with|nil=>exactλ_ t h=>nomatch h|cons y ps c=>
  intro p h t a;rcases ir.mp a with rfl|a
  .exact(h y (.head _)).v
  .exact c (λx b=>h x (.tail _ b)) t a
theorem Wq:∀{b:List Row} {p},(∀r∈b,Rk r)->Dat (jB p b):=by
 intro b;induction b with|nil=>exactλ_ t h=>nomatch h|cons y b e=>
  intro p h t a;rcases lg.mp a with a|a
  .exact Wp (xg (h y (.head _)).b0).1 t a
  .exact e (λx c=>h x (.tail _ c)) t a
theorem Wr{r:Row}(a:r.y):∃y ps,r.bf=y::ps/\ke y.i=false:=by obtain⟨c,t,L,ps,e⟩:=r;have h:=a.k;induction t with|true=>exact ki _ _ O O|false=>have h:kt L ps:=h;show ∃y qs,ps=y::qs/\_;induction h<;>exact ki _ _ O O
noncomputable def oz(a:List Row):List Th:=jB 0 a++[⟨.d,(hE a).length,[]⟩]
structure Al (a:List Row):Prop where
 ci:Txt (hE a++[0]) 0 H (oz a)
 aZ:Dat (oz a)
 i:∀ci r,oz a=ci::r->ke ci.i=g
 n:(oz a).length<=17
 h:∀c∈hE a,lV c
 b9:(hE a).length<=500
theorem Ws(R:oy f)(x:f≠[])(w:f.length<=4)(j:∀r∈f,Rk r):Al f:=by
 have l:=Bl j;refine⟨?_,λt o=>?_,λt r e=>?_,?_,Wo R j,by have:=l.1;lia⟩;.have:=VK (B:=hE f++[0]) R (s:=0) (q:=0) (a:=H) O λp b K=>h9 b K λ_=>xE _;rw[lG]at this;exact this
 .rcases lg.mp o with h|h
  .exact Wq j t h
  .cases iJ.mp h;exactλc h=>nomatch h
 .clear l R w;induction f with|nil=>exact absurd O x|cons y f A=>obtain⟨z,ps,m,n⟩:=Wr (j y (.head _)).b0;have i:oz (y::f)=(kH (0+y.aW) y.bf++jB (0+(y.bc.length+y.d.length)) f)++[⟨.d,(hE (y::f)).length,[]⟩]:=rfl;rw[m]at i;rw[e]at i;have i:t::r=⟨z.i,0+y.aW,z.v⟩::_:=i;rw[(BG i).1];exact n
 .show(jB 0 f++[_]).length<=17;rw[io];have:=l.2 0;show _+1<=17;lia
theorem Wt{a:List Row}(A:Al a)(m b):j0 (.cons (.bS 0) (hC (hE a++[0]) V (-1) [] (oz a))) (o7 (hE a) m b) false:=HQ (T:=hC (hE a++[0]) V (-1) [] (oz a)) (l1:=[]) [.bS 0] (o7 (hE a) m b) (Wk A.h A.b9) O (λq h=>nomatch h) (.inl O) λc=>UH (z:=o7 (hE a) m b) A.ci 1 (-1) [] V c λm h=>nomatch h
theorem Wu{T:iW}{C:PC}{ρ:Loc}{st:St}{X:hv->St->Prop}{a b:DE}{Q:AV->St->Prop}(h:WE T C a ρ st (λx st=>WE T C b ρ st (λy st=>C f [x,y] st Q X) X) X):WE T C (iS f [a,b]) ρ st Q X:=h
theorem Wv{T:iW}{C:PC}{ρ:Loc}{st:St}{X:hv->St->Prop}{t a b:DE}{Q:AV->St->Prop}(h:WE T C t ρ st (λx st=>jy x st λr st=>kL r (WE T C a ρ st Q X) (WE T C b ρ st Q X)) X):WE T C (.bI t a b) ρ st Q X:=h
theorem Ww{T:iW}{C:PC}{ρ:Loc}{st:St}{X:hv->St->Prop}{a b:DE}{Q:AV->St->Prop}(h:WE T C a ρ st (λx st=>jy x st λr st=>kL r (Q x st) (WE T C b ρ st Q X)) X):WE T C (.or a b) ρ st Q X:=h
theorem Wx{T:iW}{C:PC}{ρ:Loc}{st:St}{X:hv->St->Prop}{e:DE}{j:Int}{Q:AV->St->Prop}(h:WE T C e ρ st (λx st=>tB x (.int j) .none st Q) X):WE T C (.c1 e (hI j) .c2) ρ st Q X:=h
theorem Wy{T:iW}{C:PC}{ρ:Loc}{st:St}{X:hv->St->Prop}{e:DE}{j:Int}{Q:AV->St->Prop}(h:WE T C e ρ st (λx st=>li T x (.int j) st Q) X):WE T C (.sub e (hI j)) ρ st Q X:=h
theorem Wz(h:WE T C e ρ st (λa st=>tD b a ρ st (mf T C c k).n) (k.z ρ)):WS T C (.seq (.cI b e) c) ρ st k:=h
section
variable{C:Nat->PC}(Y:mF C){d:Nat}{k:KS}
include Y
theorem WA{m:gW}{t x:Nat}{hd:Int}{am:List Int}{a1:Option AV}(hx:m.j x=U (.m (am.map .int)))(xn:x<m.f)(I:1<=am.length)(J:am.length<=4)(N:m.j s=U E)(f:s<m.f)(K:∀st,st.j s=U E->k.aS (.bool H) st):C (d+300) 1539 [.mut (.j x),.int hd] m.l (λa st=>tD [8,9] a [U<|.mut<|.j s,a1,V,V,V,V,V,V,V,V] st (mf gY (C (d+300)) (lw 2) k).n) (k.z [U<|.mut<|.j s,a1,V,V,V,V,V,V,V,V]):=by
 refine Wb Y (d:=d+298) hx xn I J λm2 th j b R ne av aN T aO p=>?_;have A:=Ws R ne av aN;show WS gY (C (d+300)) (lw 2) [U<|.mut<|.j s,a1,V,V,V,V,V,V,U (.str (hE j)),U (.mut (.j th))] m2.l k;refine mH (mI (l:=[h2 .bz]) (λQ q=>q) (by exact(by decide:1<=1000)) λm3 u c au w z=>?_);have t3:=c.at p ji T;have s3:=c.at (hD f b.n) ji (b.at f ji N);have n:=hD f (f2 b.n c.n);refine mH (Vz Y (d:=d+100) (B:=hE j++[0]) (R:=oz j) A.aZ t3 au (hD p c.n) z (iw (hD p w)) (VD A.ci) A.i (f2 A.n (by decide)) λm4 D y tp i o dd G=>?_:C (d+300) 1581 [.mut (.j th),.mut (.j u)] m3.l _ _);refine Wn Y (d:=d+281) (i.at n (λh=>iw (hD (hD f b.n) w) (iJ.mp h)) s3) (hD n i.n) o (hD z i.n) A.h A.b9 ?_ (f2 G (by decide)) (λm' r=>⟨_,tp (o7 (hE j) m' r) 0 ⟨rfl,rfl,rfl,rfl,rfl,f2 A.n (by decide)⟩,Wt A m' r,?_⟩) K;.refine lH.mpr λa L=>?_;obtain⟨e,M,rfl⟩:=List.mem_map.mp L;exact dd e M
 .have:=HT (B:=hE j++[0]) (oz j) V (-1) [];have this:_<=0+5*(oz j).length+0:=this;have:=A.n;show(hC _ _ _ _ _).len+1<=1000;lia
theorem WB{e:List Int}{m:gW}(au:m.j s=U (.dq o<|e.map .int))(z:s<m.f)(K:∀st,st.j s=U (.dq o<|e.map .int)->k.aS (.bool H) st):WS gY (C (d+300)) wp [U<|.mut<|.j s,V,V,V,V,V,V,V,V,V] m.l k:=by
 generalize p:m.add _=m1;haveI I:m1.j _=U (.m<|(e.take 5).map .int):=by rw[<-p,List.map_take];exact gW.bT _ _
 generalize b:m1.add (H6 ((e.take 5).map λi=>jg i 1000000))=m2;haveI aN:m2.f=m1.f+1:=by rw[<-b];rfl
 refine A9 (.mut<|.j m1.f) m2.l (λQ q=>?_) ?_;.refine yW (Q:=λx st=>y2 _ x st Q) au O O ?_;show y2 _ _ (m.add _).l Q;rw[p];refine mR I<|h9 (e.take 5) O ?_;rw[<-b]at q;unfold H6 at q;rw[qx]at q;exact q
 have w:gW.E [] m m2:=by rw[<-b,<-p];exact((gW.E.refl _ _).add _).add _
 have D:m2.j m1.f=U (.m (((e.take 5).map λi=>jg i 1000000).map .int)):=by rw[<-b];exact gW.bT _ _
 have s2:=w.at z ji au;have A:=hD z w.n;have tl:((e.take 5).map λi=>jg i 1000000).length<=5:=by rw[h8,pq];exact yo _ _
 generalize ((e.take 5).map λi=>jg i 1000000)=f at D tl;have B:m1.f<m2.f:=by rw[aN];exact kg _
 generalize m1.f=t at D B;have c:∀{m':gW} {x:Nat} {am:List Int},gW.E [] m2 m'->m'.j x=U (.m (am.map .int))->x<m'.f->1<=am.length->am.length<=4->WE gY (C (d+300)) (.bI g7 (.sub g7 hX) hX) [U (.mut (.j s)),U (.mut (.j t)),V,V,V,V,V,V,V,V] m'.l (λy st=>C (d+300) 1539 [.mut (.j x),y] st (λa st=>tD [8,9] a [U<|.mut<|.j s,U (.mut (.j t)),V,V,V,V,V,V,V,V] st (mf gY (C (d+300)) (lw 2) k).n) (k.z [U<|.mut<|.j s,U (.mut (.j t)),V,V,V,V,V,V,V,V])) (k.z [U<|.mut<|.j s,U (.mut (.j t)),V,V,V,V,V,V,V,V]):=by intro m' x am E L M I av;have t3:=E.at B ji D;have N:=λhd=>WA Y (d:=d) (k:=k) (a1:=U (.mut (.j t))) (t:=t) (hd:=hd) L M I av (E.at A ji s2) (hD A E.n) K;refine Wv (jl O (ui (λh=>nomatch h) t3 ?_));induction f with|nil=>exact N 0|cons v f=>exact Wy (jl O (tA (T:=gY) (m:=.j t) (st:=m'.l) t3 (pO (n:=0) O O (N v))))
 refine Wz (Wu (Ww (Wx (jl O (yW (m:=.j t) (st:=m2.l) (r:=(f.drop 1).map .int) D O (by rw[List.map_drop];rfl) ?_)))));have hl:(f.drop 1).length<=4:=by rw[sS];lia
 have j:gW.E [] m2 (m2.add (.m ((f.drop 1).map .int))):=(gW.E.refl _ _).add _;have J:(m2.add (.m ((f.drop 1).map .int))).j m2.f=U (.m ((f.drop 1).map .int)):=gW.bT _ _;generalize f.drop 1=am at J hl j;refine ui (st:=(m2.add (.m (am.map .int))).l) (λh=>nomatch h) J ?_;induction am with|nil=>show WE gY (C (d+300)) (iM [hX]) [U (.mut (.j s)),U (.mut (.j t)),V,V,V,V,V,V,V,V] (m2.add (.m [])).l (λx st=>WE gY (C (d+300)) (.bI g7 (.sub g7 hX) hX) [U (.mut (.j s)),U (.mut (.j t)),V,V,V,V,V,V,V,V] st (λy st=>C (d+300) 1539 [x,y] st (λa st=>tD [8,9] a [U<|.mut<|.j s,U (.mut (.j t)),V,V,V,V,V,V,V,V] st (mf gY (C (d+300)) (lw 2) k).n) (k.z [U<|.mut<|.j s,U (.mut (.j t)),V,V,V,V,V,V,V,V])) (k.z [U<|.mut<|.j s,U (.mut (.j t)),V,V,V,V,V,V,V,V])) (k.z [U<|.mut<|.j s,U (.mut (.j t)),V,V,V,V,V,V,V,V]);exact mI (m:=m2.add (.m [])) (l:=[.int 0]) (λQ q=>q) (by exact(by decide:1<=1000)) λm4 x G L _ M=>c (am:=[0]) (j.trans G) L M (by exact(by decide:1<=1)) (by exact(by decide:1<=4))|cons v l=>exact c (am:=v::l) j J (kg _) (mj (i' _)) hl
end
end
section
open PySem PySem.W PySem.Calls PyProof.Rows Builtin Builtin.Str
theorem WC(h:Q (.str (vb z) s.toks) {s with toks:=s.toks+1}) (d:(vb z).length<=qz):g0 (ii ai w) A (pyReprObjUnder b<|.str z u) Q E s:=by refine hk (m:=callSpecialIfBoundBy? _ _ _)<|wpAny_callSpecialIfBoundBy?_slotG (qy s z u) F.slot_str_repr.toG<|call_gives F.slot_str_repr (qy s z u) F.entry_str_repr (F.args_str_repr_1 _) (gives_str_repr z u) ⟨d,?_⟩;exact hk<|wpAny_isInstance O isSubtype_str_str<|ib h
noncomputable def Iy(ah ao:List Nat)(c:Nat)(T:g2->g2):Prop:=∀(t u:Tok) (z:g2),(T z).length<=100000->Meets («str.__mod__» ⟨[.str ⟨(ah++37::c::ao).toArray⟩ t,.str z u],[]⟩) (λd R s=>∀b k,R (.ok (.ret (.str (⟨ah.toArray⟩++T z++⟨ao.toArray⟩) b))) {s with toks:=k})
theorem Iz{r:List Nat}(e:r.head?.all (· ==37)=H):∀{l d:List Nat},l.all (· !=37)=H->Cp (· !=37) (l++r) d=(d.reverse++l,r):=by
 intro l;induction l with
 |nil=>intro d _;rw[j3];cases r with|nil=>rfl|cons b r=>cases beq_iff_eq.mp e;rfl
 |cons x l i=>intro d h;have h:=kV.mp h;show(match x !=37 with|true=>Cp _ (l++r) _|false=>(d.reverse,x::(l++r)))=_;rw[show(x !=37)=H from h.1];show Cp _ _ _=_;rw[i h.2,yl,i8];rfl
section
variable{M:nD}{A:ix}{E:gZ->hb->Prop}{s:hb}{f:Nat->List gZ×s9×List Nat->Sem (ForInStep (List gZ×s9×List Nat))}{v:gZ}{a n c:Nat}{p ao:List Nat}{Y:g2}{w0:s9}{Q:List gZ×s9×List Nat->hb->Prop}
theorem WD(l:n=p.length+ao.length+3)(hl:p.length+ao.length<=900)(D:(a::p).all (· !=37)=H)(G:ao.all (· !=37)=H)(B:pB w0 Bw 0)(m:∀x d w r b q t T N (R:ForInStep (List _×s9×List _)->hb->Prop) s,pB w T N->N<=1000000->r.span (· !=37)=(b::q,t)->q.length+1≠n->(∀e,pB e (T++⟨(b::q).toArray⟩) (N+(q.length+1))->R (.yield (d,e,t)) s)->g0 M A (f x (d,w,r)) R E s)(z:∀x w T N (R:ForInStep (List _×s9×List _)->hb->Prop),pB w T N->N<=1000000->(∀e k,pB e (T++Y) (N+100000)->R (.yield ([],e,ao)) {s with toks:=k})->g0 M A (f x ([v],w,37::c::ao)) R E s)(o:∀x d w T N R s,pB w T N->N<=1000000->R (.done (d,w,[])) s->g0 M A (f x (d,w,[])) R E s)(k:∀w k,pB w (⟨(a::p).toArray⟩++Y++⟨ao.toArray⟩) 200000->Q ([],w,[]) {s with toks:=k}):g0 M A (forIn (List.range' 0 n 1) ([v],w0,a::p++37::c::ao) f) Q E s:=by
 have hp:0+(p.length+1)<=901:=by rw[lG];exact mj<|lL hl
 rw[l];refine vc<|m _ _ _ _ a p _ _ _ _ _ B (i' _) (Iz O D) (l▸iw (s0<|mj (lb (iy _ _)))) λI C=>vc<|z _ _ _ _ _ C (f2 hp (by decide)) λw2 j h=>?_;cases ao with|nil=>exact vc<|o _ _ _ _ _ _ _ h (up hp (by decide))<|k _ _ (by rewrite[KPc.empty_app]at h;exact Cq (congrArg (pB w2 · _) (congrArg _ Array.append_empty).symm▸h) (up hp (by decide)))|cons b q=>have y:0+(p.length+1)+100000+(q.length+1)<=200000:=f2 (j4 (up hp<|hJ _)<|f2 (kT _ _) hl) (by decide);refine vc<|m _ _ _ _ b q [] _ _ _ _ h (up hp (by decide)) ((congrArg _ (j3 _).symm).trans<|Iz O G) (l▸iw (s0<|f2 (kT _ _) (iy _ 2))) λw3 i=>?_;rewrite[KPc.empty_app]at i;exact vc<|o _ _ _ _ _ _ _ i (f2 y (by decide))<|k _ _ (Cq i y)
end
theorem IA{a c}{p ao:List Nat}{T:g2->g2}(hc:c=114/\T=vb\/c=115/\T=λz=>z)(B:(a::p).all (· !=37)=H)(C:ao.all (· !=37)=H)(hl:p.length+ao.length<=900):Iy (a::p) ao c T:=by
 intro t u z i;apply KPc.meets_of;intro _ _ _ _ _ _ D;rw[KPc.entry_is_s];refine hk<|wpAny_isInstance (qy _ _ _) F.sub_str_tuple<|hk<|sT O<|hk<|KPc.wp_fills_str λ_=>hk<|ib<|hk ?_;rw[KPc.range_list];refine KPc.start λw0 m=>WD (Y:=T z) (io.trans<|congrArg (· +2)<|iZ _ 1 _) hl B C m (λx I w r b q t T N R s aM hN l h k=>?_) (λx w J N R aM hN k=>?_) (λx I w T N R s aM hN k=>?_) λw k aM=>(KPc.finish_ok aM (by decide) O D)
 .refine wpAny_ite<|Cr (Cs aM<|f2 hN (by decide)) ?_;cases r with
  |nil=>cases l
  |cons L au=>rw[l];exact ib<|k _<|KPc.good_add aM (KPc.obj_none (if_neg λe=>h (beq_iff_eq.mp e)))
 .refine wpAny_ite<|Cr (Cs aM<|f2 hN (by decide)) ?_;have d:∀{y} t,KPc.Obj (if ao.isEmpty=H then U<|.str y t else V) y:=λt=>by cases ao;exact KPc.obj_some O;exact KPc.obj_none O
  have j:∀{y} o,y.length<=100000->KPc.Obj o y->pB _ _ (N+100000):=λo G d=>Cq (KPc.good_add aM d)<|iU G _;rcases hc with⟨rfl,rfl⟩|⟨rfl,rfl⟩
  .refine hk<|nc<|hk (WC (hk (sT O (ib (ib ?_)))) (f2 i (by decide)));exact k _ _<|j _ i<|d _
  .refine hk<|nc<|hk (sT (KPc.strOf_str _ _) (hk (sT O (ib (ib ?_)))));exact k _ _<|j _ i<|d _
 .exact wpAny_ite<|Cr (Cs aM<|f2 hN (by decide))<|ib k
theorem IB{ai}{w}{A}{E:gZ->hb->Prop}{s:hb}{Q}{ah ao}{c}{T:g2->g2}(d:Iy ah ao c T){l:List _}{t u}(hl:(T<|S l).length<=100000)(hp:ah.length+ao.length<=1000)(k:∀r b k,r.length<=1000000->Q (.str (S r) b) {s with toks:=k}):g0 (ii ai w) A (pg .Mod (.str (S (ah++37::c::ao)) t)<|.str (S l) u) Q E s:=binaryOp_meets (T:="str") (op:=.Mod) (qy s _ t) (qy s (S l) u) F.fills_str_mod F.slot_str_mod F.entry_str_mod (F.args_str_mod_2 _ _) (d t u (S l) hl) λb n=>⟨(λe=>nomatch e),k ((⟨_⟩:g2)++T _++(⟨_⟩:g2)).cps.toList b n (by show((⟨_⟩)++T _++(⟨_⟩)).length<=_;rewrite[JY,JY];exact f2 (jh<|iZ _ _ _)<|f2 (j4 hp hl) (by decide))⟩
noncomputable def IC(l:List Nat):Bool:=l.all (· !=37)
noncomputable def ID(l:List Nat):List Nat:=l.takeWhile (· !=37)
noncomputable def Bm(l:List Nat):List Nat:=(l.dropWhile (· !=37)).drop 2
noncomputable def Bn(f:List Nat):Bool:=match ID f with|a::p=>f==a::p++37::114::Bm f&&(IC (a::p)&&(IC (Bm f)&&decide (p.length+(Bm f).length<=900)))|[]=>g
theorem WF(h:Bn f=H)(hl:(vb<|S l).length<=100000)(k:∀r i k,r.length<=1000000->Q (.str (S r) i) {s with toks:=k}):g0 (ii ai w) A (pg .Mod (.str (S f) t)<|.str (S l) u) Q E s:=by unfold Bn at h;generalize ID f=r at h;cases r with|nil=>exact(xY h).elim|cons a p=>have h:=kV.mp h;have d:=kV.mp h.2;have e:=kV.mp d.2;have b:=of_decide_eq_true e.2;rw[beq_iff_eq.mp h.1];exact IB (IA (.inl ⟨rfl,rfl⟩) d.1 e.1 b) hl (f2 (jh<|iZ _ 1 _)<|up b (by decide)) k
theorem WG:(wl.all λp=>(Bn p.1||p.1==[119,104,105,108,101,32,112,97,114,115,105,110,103,32,97,32]++37::115::[32,110,111,100,101])&&p.2.all λl=>decide ((vb<|S l).length<=100000/\(S l).length<=100000))=true:=by kernel_rfl
theorem IE(h:hm a b=H):a=b:=of_decide_eq_true (tL a b▸h)
theorem WH{ai}{w}{A}{E:gZ->hb->Prop}{s:hb}{Q:gZ->hb->Prop}{f l:List _}{t u}(h:gY.dF f l=H)(k:∀r d k,r.length<=1000000->Q (.str (S r) d) {s with toks:=k}):g0 (ii ai w) A (pg .Mod (.str (S f) t)<|.str (S l) u) Q E s:=
 have⟨_,hp,h⟩:=JZ.mp (show(wl.any λp=>hm _ f&&p.2.any (hm l))=H from h)
 have h:=kV.mp h
 have⟨_,hl,b⟩:=JZ.mp h.2
 have z:=kV.mp<|lH.mp WG _ hp
 have y:=of_decide_eq_true<|lH.mp z.2 _ hl
 have y:=(IE b).symm▸y
 (IE h.1).symm▸(sN.mp z.1).elim (λe=>WF e y.1 k) λe=>(beq_iff_eq.mp e).symm▸IB (IA (.inr ⟨rfl,rfl⟩) O O (by decide)) y.2 (by decide) k
end
section
open PySem PySem.W PySem.Calls PyProof.Rows
noncomputable section
theorem mi:∀{l:List (Nat×α)},lk n l=U v->(n,v)∈l:=by
 intro l;induction l with|nil=>exactλh=>hu h|cons b r a=>
  obtain⟨k,x⟩:=b;intro h;dsimp only[RN]at h;induction q:jn n k with
  |true=>rw[q]at h;cases h;rw[oA q];exact .head _
  |false=>rw[q]at h;exact .tail _<|a h
theorem WI:∀{l:List (g2×α)},ue n l=U v->(n,v)∈l:=by
 intro l;induction l with|nil=>exactλh=>hu h|cons b r a=>
  obtain⟨k,x⟩:=b;intro h;dsimp only[RO]at h;split at h;.rename_i e;cases h;subst e;exact .head _
  .exact .tail _<|a h
theorem jC{α:Type}{l:List α}{f}(h:l.all f=H){x}(a:x∈l):f x=true:=lH.mp h x a
theorem WJ(h:kK c l=H):c∈l:=by induction l with|nil=>exact iR h|cons x r a=>haveI h:(match jn c x with|true=>H|false=>kK c r)=true:=h;induction q:jn c x with|true=>rw[oA q];exact .head _|false=>rw[q]at h;exact .tail _<|a h
section
variable(G:Gl)
noncomputable def vI(j:Int):gZ->Bool| .int i _=>decide (i=j)|_=>g
noncomputable def vS(l:List Nat):gZ->Bool| .str x _=>decide (x=S l)&&jf l.length 1000000|_=>g
noncomputable def oT(f:gZ->AV->Bool)(l:List AV)(o:iT):Bool:=match o.cls with| .type c=>c=="tuple"&&o.dict.isNone&&o.slots.size==0&&(match o.data with| .seq a _=>jf l.length 1000000&&a.toList.length==l.length&&(a.toList.zip l).all λp=>f p.1 p.2|_=>g)|_=>g
noncomputable def vT(f:gZ->AV->Bool)(l:List AV):gZ->Bool| .ref a=>(G.K.lookup a).any (oT f l)|_=>g
noncomputable def uP(f:gZ->AV->Bool)(v:gZ):AV->Bool| .none=>decide (v=.none)| .bool b=>decide (v=.bool b)| .int j=>vI j v| .str l=>vS l v| .val u=>decide (v=u)&&qp v| .au l=>vT G f l v|_=>g
noncomputable def uQ:Nat->gZ->AV->Bool|0=>uP G λa a=>g|n+1=>uP G (uQ n)
end
theorem WK{R:gZ->AV->Prop}(k:∀v a,R v a->RelV G μ v a)(h:b.length=l.length)(c:∀p∈b.zip l,R p.1 p.2):hZ G μ b l:=by
 induction l generalizing b with
 |nil=>induction b with|nil=>exact .nil|cons=>cases h
 |cons a l d=>induction b with
  |nil=>cases h
  |cons v b=>exact .cons (k v a<|c _<|.head _)<|d (sZ h) λp hp=>c p<|.tail _ hp
theorem WL(h:oT f l o=H):∃b n,o=({cls:=.type "tuple",data:=.seq b n})/\l.length<=1000000/\b.toList.length=l.length/\∀p∈b.toList.zip l,f p.1 p.2=true:=by
 induction o with|mk c d x sl=>
 induction c<;>first|exact ff h|skip
 haveI h:=f1 h;induction x<;>first|exact ff h.2|skip
 haveI a:=f1 h.1;haveI e:=f1 a.1;haveI i:=f1 h.2;haveI j:=f1 i.1;clear h;induction d with|some=>exact ff e.2|none=>clear h;cases Array.eq_empty_of_size_eq_zero<|beq_iff_eq.mp a.2;clear a;cases beq_iff_eq.mp e.1;exact to _ _ O (jN j.1) (beq_iff_eq.mp j.2)<|lH.mp i.2
set_option tactic.hygienic true in
theorem IF{f}(i:∀v a,f v a=H->RelV G μ v a){a}(h:uP G f v a=H):RelV G μ v a:=by
 cases a<;>first|exact ff h|skip
 .rw[of_decide_eq_true h];exact .none
 .rw[of_decide_eq_true h];exact .bool _
 .induction v<;>first|exact ff h|skip
  rw[of_decide_eq_true h];exact .int _ _
 .induction v<;>first|exact ff h|skip
  haveI h:=f1 h;rw[of_decide_eq_true h.1];exact .str _ _<|jN h.2
 .haveI h:=f1 h;rw[<-of_decide_eq_true h.1];exact .val _ h.2
 .induction v<;>first|exact ff h|skip
  rename_i l a;induction q:G.K.lookup a with|none=>rw[show uP G f _ _=(G.K.lookup a).any _ from O,q]at h;exact ff h|some o=>rw[show uP G f _ _=(G.K.lookup a).any _ from O,q]at h;exact mq (WL h) λj n e b c d=>.au (.inr<|q.trans<|congrArg _ (e.trans (by rw[Jx]))) (WK i c d) b
theorem Bo(h:uQ G n v a=H)(μ):RelV G μ v a:=by induction n generalizing v a with|zero=>exact IF h7 h|succ n b=>exact IF (λv a=>b) h
end
end
section
open PySem PySem.W PySem.Calls PyProof.Rows
noncomputable section
noncomputable def IG(v:gZ)(f:lY->Bool):Bool:=match v with| .ref a=>f a|_=>g
theorem WM{P:Prop}(h:IG v f=H)(k:∀a,v=.ref a->f a=H->P):P:=by cases v<;>first|exact ff h|exact k _ O h
noncomputable def IH(l:List gZ)(f:lY->List gZ->Bool):Bool:=match l with|v::r=>IG v λa=>f a r|[]=>g
theorem WN{P:Prop}(h:IH l f=H)(k:∀a r,l=.ref a::r->f a r=H->P):P:=by cases l with|nil=>exact ff h|cons v r=>exact WM h λa e=>k a r<|congrArg (· ::r) e
noncomputable def II(d:Data)(f:ClassData->Bool):Bool:=match d with| .cls cd=>f cd|_=>g
theorem WO{P:Prop}(h:II v f=H)(k:∀a,v=.cls a->f a=H->P):P:=by cases v<;>first|exact ff h|exact k _ O h
noncomputable def IJ(d:gZ)(f:String->Bool):Bool:=match d with| .type t=>f t|_=>g
theorem WP{P:Prop}(h:IJ v f=H)(k:∀a,v=.type a->f a=H->P):P:=by cases v<;>first|exact ff h|exact k _ O h
noncomputable def IK(o:iT)(f:ClassData->List (Option gZ)->Bool):Bool:=IJ o.cls λt=>II o.data λcd=>t=="type"&&f cd o.slots.toList
theorem WQ{P:Prop}(h:IK o f=H)(k:∀dd cd l,o=⟨.type "type",dd,.cls cd,l.toArray⟩->f cd l=H->P):P:=WP h λb e h=>WO h λcd a h=>haveI h:=f1 h;k o.dict cd o.slots.toList (by cases eq_of_beq h.1;clear zz3 (Eq.symm e);clear zz3 (Eq.symm a);rfl) h.2
noncomputable def IL(d:Option gZ)(f:String->Bool):Bool:=match d with|U (.builtin t)=>f t|_=>g
theorem WR{P:Prop}(h:IL v f=H)(k:∀a,v=U (.builtin a)->f a=H->P):P:=by cases v with|none=>exact ff h|some v=>cases v<;>first|exact ff h|exact k _ O h
noncomputable def IM(l:List (Option gZ))(f:String->Bool):Bool:=match l with|[_,_,_,_,x,_]=>IL x f|_=>g
theorem WT{P:Prop}(h:IM l f=H)(k:∀n a b c d e,l=[a,b,c,d,U<|.builtin n,e]->f n=H->P):P:=by rcases l with _|⟨a,_|⟨b,_|⟨c,_|⟨d,_|⟨x,_|⟨e,_|_⟩⟩⟩⟩⟩⟩<;>first|exact ff h|exact WR h λn q=>k n a b c d e (q▸rfl)
section
variable(G:Gl)
noncomputable def xj:List (g2×Option gZ)->i6->Bool|[],[]=>H|(x,V)::ps,(y,V)::sg=>decide (x=y)&&xj ps sg|(x,U v)::ps,(y,U a)::sg=>decide (x=y)&&uQ G 6 v a&&xj ps sg|_,_=>g
noncomputable def uR(f:Nat)(ps:i6):Bool:=oB (kn G f) λa=>a.params.posonlyargs.isEmpty&&a.params.kwonlyargs.isEmpty&&a.params.vararg.isNone&&a.params.kwarg.isNone&&oB (zC G a) λD=>jf D.length (it a).length&&decide (it a).Nodup&&xj G (kC a D) ps
noncomputable def WU{α:Type}(f:α->List α->Bool):List α->Bool|x::l=>f x l|[]=>g
noncomputable def Bp(C f:Nat)(ks:List Nat)(ps:i6)(b:Bool):Bool:=decide (iB G.K (.ref C) "__init__"=U (U (.ref f)))&&decide (nF G.K (.ref f)=U (.type "function"))&&oB (kn G f) λa=>wf a.body (λh6=>WU (λsn c=>l_ sn c (ks.map G.Y) h6&&(b||!c.isEmpty)&&uR G f ((sn,V)::ps)) (it a))&&decide (a.scope.kind=.function)&&!a.scope.isCoroutine&&!a.scope.isGenerator&&a.scope.names.all (λx=>x.2 != .cell)&&decide (it a).Nodup&&(it a).all (λx=>a.scope.names.lookup x==U .local&&!(x==("__debug__":g2)))&&sP G.K a.code a.qualname&&decide ks.Nodup&&jf ks.length 500
noncomputable def xk(C:Nat):Nat:=match iB G.K (.ref C) "__init__" with|U (U (.ref f))=>f|_=>0
noncomputable def IN(C:Nat)(ps:i6):Bool:=oB (G.T.cj C) λks=>makesIn G.K C&&ps.length==ks.length&&Bp G C (xk G C) ks ps H
noncomputable def IP(C:Nat)(ps:i6):Bool:=oB (G.T.cr C) λks=>oB (G.K.lookup C) (λo=>IK o λcd l=>IH cd.mro λa bm=>a==C&&!cd.hasDel&&oS (.ref C::bm)&&IM l λn=>n=="Exception.__new__")&&ps.length==ks.length&&Bp G C (xk G C) ks ps g
end
variable{G:Gl}
theorem Bq:∀{ps} {sg},xj G ps sg=H->jH G ps sg
 |[],[],_=>.nil|[],_::_,h=>by cases h
 |(x,V)::_,[],h=>by cases h
 |(x,U v)::_,[],h=>by cases h
 |(x,V)::ps,(y,V)::sg,h=>by haveI h:=f1 h;induction of_decide_eq_true h.1;exact .none<|Bq h.2
 |(x,V)::ps,(y,U a)::sg,h=>by cases h
 |(x,U v)::ps,(y,V)::sg,h=>by cases h
 |(x,U v)::ps,(y,U a)::sg,h=>by haveI h:=f1 h;haveI b:=f1 h.1;induction of_decide_eq_true b.1;exact .some (Bo b.2)<|Bq h.2
theorem IQ{α:Type}{l:List α}(h:l.isEmpty=H):l=[]:=Jg.mp h
theorem IR{α:Type}{o:Option α}(h:o.isNone=H):o=none:=by induction o<;>first|rfl|cases h
theorem xl(h:uR G f ps=H):∃a D,kn G f=U a/\o0 G f a D ps:=jF h λa e h=>by haveI h:=f1 h;haveI c:=f1 h.1;haveI d:=f1 c.1;haveI i:=f1 d.1;refine jF h.2 λD k b=>?_;haveI b:=f1 b;haveI j:=f1 b.1;exact⟨a,D,e,e,IQ i.1,IQ i.2,IR d.2,IR c.2,k,jN j.1,of_decide_eq_true j.2,Bq b.2⟩
structure WV (G:Gl)(C f:Nat)(ks:List Nat)(ps:i6)(b:Bool)(a:kR)(sn:g2)(c:List g2)(h6:List h4)(D:List gZ):Prop where
 init:iB G.K (.ref C) "__init__"=U (U (.ref f))
 fn:nF G.K (.ref f)=U (.type "function")
 at_:kn G f=U a
 bC:a.body=.stmts h6
 kind:a.scope.kind=.function
 dk:a.scope.isCoroutine=g
 dl:a.scope.isGenerator=g
 cell:∀x∈a.scope.names,x.2≠ .cell
 L:it a=sn::c
 b':b=g->c≠[]
 nodup:(it a).Nodup
 j:∀x∈it a,a.scope.names.lookup x=U .local/\(x==("__debug__":g2))=g
 code:sP G.K a.code a.qualname=H
 co:l_ sn c (ks.map G.Y) h6=H
 b8:ks.Nodup
 gj:ks.length<=500
 bp:o0 G f a D ((sn,V)::ps)
theorem IS(h:Bp G C f ks ps d=H):∃b sn c h6 D,WV G C f ks ps d b sn c h6 D:=by
 haveI h:=f1 h;haveI l:=f1 h.1;refine jF h.2 λb e h=>?_;simp only[iG,decide_eq_true_eq,rx]at h;refine kf λi=>hn h λa ay=>hn a λa a9=>?_;haveI a1:=a.1.1.1.1.1.1.1;refine i<|Aq a1 λh6 n a1=>?_
 .exists i;cases hp:it b with
  |nil=>rw[hp]at a1;cases a1
  |cons sn c=>
   rw[hp]at a1;haveI a1:=f1 a1;haveI b1:=f1 a1.1;refine jv (xl a1.2) λm D k o=>?_;rw[e]at k;cases k;refine i ⟨b,sn,c,_,D,of_decide_eq_true l.1,of_decide_eq_true l.2,e,n,(a.1.1.1.1.1.1.2),(a.1.1.1.1.1.2),(a.1.1.1.1.2),λx j=>?_,hp,λq=>?_,(a.1.1.2),λx j=>?_,(a.2),b1.1,a9,jN ay,o⟩;.haveI:=jC (a.1.1.1.2) j;simpa using this
   .haveI:=b1.2;rw[q]at this;clear hp b1;induction c with
    |nil=>cases this
    |cons=>exact u_ _ _
   .haveI:=jC (a.1.2) j;simpa using this
theorem WW(h:IN G C ps=H):q_ G C ps:=jF h λks e h=>by haveI h:=f1 h;haveI a:=f1 h.1;exact nj (IS h.2) λb sn c d=>jO d λh6 D I=>⟨xk G C,ks,b,sn,c,h6,D,⟨e,a.1,I.init,I.fn,I.at_,I.bC,I.kind,I.dk,I.dl,I.cell,I.L,I.nodup,I.j,I.code,I.co,I.b8,I.gj⟩,I.bp,beq_iff_eq.mp a.2⟩
theorem WX{C i}{bm}{dd}{a b c d f}(m:cd.mro=.ref i::bm)(j:i=C)(hd:(!cd.hasDel)=H)(k:l=[a,b,c,d,U<|.builtin n,f])(o:n="Exception.__new__"):(⟨.type "type",dd,.cls cd,l.toArray⟩)=s6 cd.name cd.qualname C cd.ns cd.bases bm cd.hasDict cd.slotNames cd.subclasses cd.abstract cd.collection dd a b c d f "Exception.__new__":=by subst j o k;obtain⟨nm,bs,p,r,q,h,sn,sub,ab,aB,e⟩:=cd;cases m;cases e with|true=>exact ff hd|false=>rfl
theorem WY(h:IP G C ps=H):we G C ps:=
 jF h λks e h=>haveI h:=f1 h;haveI j:=f1 h.1;jF j.1 λo x i=>WQ i λdd cd l t i=>WN i λB bm s i=>haveI q:=f1 i;haveI p:=f1 q.1;haveI m:=f1 p.1;nj (IS h.2) λw sn z A=>jO A λh6 D I=>WT q.2 λn a b c d f r y=>
  ⟨xk G C,ks,w,sn,z,h6,D,⟨e,λk=>k cd.name cd.qualname cd.ns cd.bases bm cd.hasDict cd.slotNames cd.subclasses cd.abstract cd.collection dd a b c d f (x.trans<|congrArg _<|t.trans (WX s (eq_of_beq m.1) m.2 r (eq_of_beq y))) p.2,I.init,I.fn,I.at_,I.bC,I.kind,I.dk,I.dl,I.cell,I.L,I.b' O,I.nodup,I.j,I.code,I.co,I.b8,I.gj⟩,I.bp,beq_iff_eq.mp j.2⟩
end
end
section
open PySem PySem.W PySem.Calls PyProof.Rows
noncomputable section
theorem IT{K}{a:Nat}(X:K.In h)(e:nsOkIn K a=H):h.Ns a<|wo K a:=by
 unfold nsOkIn at e;induction b:K.lookup a with|none=>rw[b]at e;exact ff e|some o=>
  rw[b]at e;obtain⟨c,d,u,sl⟩:=o;cases u with
  |dict f i=>
   refine⟨_,f,i,X _ _ b,rfl,λx j=>?_,λname=>?_⟩;.haveI:=(Array.all_eq_true_iff_forall_mem.mp e) x j;revert this;cases x.key<;>intro h<;>first|exact ff h|exact pE _ _ O
   .unfold wo nsIn nsFind findBy;rw[b];dsimp only;rw[<-Array.find?_toList];induction q:f.toList.find? _ with|some x=>rfl|none=>dsimp only;split<;>rfl
  |_=>exact ff e
noncomputable def IU(o:Option (Option gZ))(f:gZ->Bool):Bool:=match o with|U (U v)=>f v|_=>g
theorem WZ{P:Prop}(h:IU o f=H)(k:∀v,o=U (U v)->f v=H->P):P:=by
 rcases o with _|_|v
 .exact iR h
 .exact iR h
 .exact k v O h
noncomputable def Br:i6->List AV->Bool|[],[]=>H|(_,U a)::ps,b::l=>pV a b&&Br ps l|_,_=>g
theorem IV:∀{ps} {l:List AV},Br ps l=H->ps.map (·.2)=l.map U|[],[],_=>rfl|[],_::_,h=>iR h|(_,U a)::ps,b::l,h=>by haveI h:=f1 h;rw[xM,xM,vZ _ _ h.1,IV h.2]|(_,V)::_,[],h=>iR h|(_,U _)::_,[],h=>iR h|(_,V)::_,_::_,h=>iR h
section
variable(R:p0)(ai:m8)(w:iI)(K:iY)(az:Nat)
noncomputable def W0(f:i6->Bool):i6->Bool|p::ps=>p.2.isNone&&f ps|[]=>g
noncomputable def allB:List Bool:=
 let G:=R.b7 ai w K az
 [nsOkIn K yk&&nsIn K yk "sys.recursionlimit"==U V&&nsOkIn K pi&&nsOkIn K uW,decide R.bJ.Nodup&&R.bJ.all (λx=>pf x.length R.bJ.length),oR K Ax&&q'.all (λp=>oR K p.1),R.bJ.all (qZ K Ax),q'.all (λp=>p.2.all λk=>qZ K p.1 (G.Y k)),ud.all (λp=>vF K p.1&&p.2.all λk=>qZ K p.1 (G.Y k)),ud.all (λp=>ud.all λq=>decide (nE K p.1 (.ref q.1)=U (gY.sub p.1 q.1))),GI.all (λp=>p.2.all λq=>IU (iB K (.ref p.1) (G.Y q.1)) λv=>uQ G 6 v q.2&&zj K p.1 (G.Y q.1) v&&zk K p.1 (G.Y q.1) v),q'.all (λp=>GH.all λD=>vG K p.1 D (gY.sub p.1 D)),R.cx.all (λp=>oB (G.c5 p.1) λv=>uQ G 6 v p.2),R.bp.all (λp=>uR G p.1 p.2),R.ch.all (λp=>IN G p.1 p.2),q'.all (λp=>(lk p.1 R.ch).isSome&&mL K (.ref p.1)),GJ.all (λp=>fnIn K p.1&&oB (lk p.1 R.bp) (W0 λps=>Br ps p.2)),R.c'.all (λp=>IP G p.1 p.2)]
end
end
end
section
open PySem PySem.W PySem.Calls PyProof.Rows
noncomputable section
theorem Bs(h:gY.cj C=U ks):(C,ks)∈q':=mi h
theorem sH{α:Type}{o:Option α}(h:o.isSome=H):∃a,o=U a:=yh.mp h
noncomputable def xm(w:iI)(t1 t2 t3 t4 n:Nat):iT:=⟨.type "dict",V,.dict #[⟨hashStr w (S [33]),.str (S [33]) t1,.str (S [33]) t2⟩,⟨hashStr w (S [33,33]),.str (S [33,33]) t3,.str (S [116,97,103,58,121,97,109,108,46,111,114,103,44,50,48,48,50,58]) t4⟩] n,#[]⟩
variable{R:p0}{ai:m8}{w:iI}{K:iY}{az t1 t2 t3 t4 nn:Nat}
theorem W1(B:2<=az)(d:K.lookup 1304=U (xm w t1 t2 t3 t4 nn))(hB:(allB R ai w K az).all id=H):(R.b7 ai w K az).y:=by
 haveI jJ:∀i b,(allB R _ w K _)[i]?=U b->b=true:=λi b h=>jC hB<|k_ h;haveI q:=jJ 0 _ O;simp only[iG,beq_iff_eq]at q;refine kf λn=>hn q λc t=>hn c λc a3=>?_;obtain⟨a1,s⟩:=c;haveI m:=f1<|jJ 1 _ O;haveI r:=f1<|jJ 2 _ O;refine n ?_;refine {eh:=λh X=>⟨_,.of_isNs<|isNs_of_in X a1,nsMap_none_of_in X a1 s⟩,bn:=B,b7:=λh X=>IT X a3,cc:=λh X=>IT X t,fM:=⟨of_decide_eq_true m.1,λx E=>jN<|jC m.2 E⟩,cls:=λD d=>?_,ei:=λD ks k d=>?_,eF:=λD ks j=>?_,bN:=λC D o d=>(kf λn=>hz (sH o) λks e=>hz (sH d) λG y=>n<|of_decide_eq_true<|jC (jC (jJ 6 _ O)<|mi e)<|mi y),cat:=λD k a h=>?_,eU:=λD z h=>?_,fN:=λI D o d=>(hz (sH o) λks e=>jC (jC (jJ 8 _ O)<|mi e)<|WJ d)}
 .rcases d with rfl|d
  .exact r.1
  .exact hz (sH d) λks e=>jC r.2<|Bs e
 .rcases d with⟨rfl,j⟩|⟨d,j⟩
  .haveI:(R.b7 _ w K _).Y k=R.bJ[k]:=by
    unfold Gl.Y
    rw[show(R.b7 _ w K _).bJ[k]?=U R.bJ[k]from mo j]
   rw[this]
   exact jC (jJ 3 _ O)<|yu j
  .exact jC (jC (jJ 4 _ O)<|Bs d) j
 .haveI h:=f1<|jC (jJ 5 _ O)<|mi j;exact⟨h.1,λk j=>jC h.2 j⟩
 .haveI h':(match lk D _ with
   |some l=>lk k l
   |none=>V)=U a:=h
  induction e:lk D _ with
  |none=>rw[e]at h';exists n;cases h'
  |some l=>
   rw[e]at h'
   refine WZ (jC (jC (jJ 7 _ O)<|mi e)<|mi h') λv J h=>?_
   haveI h:=f1 h
   haveI m:=f1 h.1
   exact ve v (Bo m.1) m.2 h.2
 .haveI A:=mi (show lk D _=U z from h);cases iJ.mp A;refine⟨by decide,[(S _,.str _ t2),(S _,.str _ t4)],nn,λh X=>⟨_,_,X _ _ d,⟨rfl,rfl,rfl⟩,rfl,λe p=>?_,(.cons (beq_self_eq_true _) O<|.cons (beq_self_eq_true _) O .nil),(by simp[S])⟩,λμ=>.cons (.str _ _ (by decide))<|.cons (.str _ _ (by decide)) .nil,by decide⟩
  .rcases ir.mp<|Array.mem_toList_iff.mpr p with f|p;clear zz3 f
   .exact h9 (S _) (beq_self_eq_true _) O
   .cases iJ.mp p;exact h9 (S _) (beq_self_eq_true _) O
end
end
section
open PySem PySem.W PySem.Calls PyProof.Rows
noncomputable section
variable{R:p0}{ai:m8}{w:iI}{K:iY}{az t1 t2 t3 t4 nn:Nat}
theorem W2(m:2<=az)(k:K.lookup 1304=U (xm w t1 t2 t3 t4 nn))(hB:(allB R ai w K az).all id=H):Gx (R.b7 ai w K az) R.eo:=by have jJ:∀i b,(allB R _ w K _)[i]?=U b->b=true:=λi b h=>jC hB<|k_ h;haveI c:=jJ 10 _ O;haveI j:∀C ps,R.eo.ch C=U ps->q_ (R.b7 ai w K az) C ps:=λC ps h=>WW<|jC (jJ 11 _ O)<|mi h;refine {go:=W1 m k hB,cx:=λx a h=>jF (jC (jJ 9 _ O)<|WI h) λv e h=>⟨v,e,Bo h⟩,bp:=λf ps h=>by obtain⟨d,D,_,h⟩:=xl<|jC c<|mi h;exact pE d D h,ch:=j,el:=λC h=>by refine hz (sH h) λks e=>?_;haveI h:=f1<|jC (jJ 12 _ O)<|Bs e;exact hz (sH h.1) λps e=>h9 ps (j C ps e) h.2,cs:=λf n h=>?_,ca:=λA E Q s f l t u=>WH,dy:=λC ps h=>WY<|jC (jJ 14 _ O)<|mi h};haveI h:=f1<|jC (jJ 13 _ O)<|mi h;refine⟨h.1,jF h.2 λps e h=>?_⟩;cases ps with|nil=>exact ff h|cons p ps=>haveI h:=f1 h;obtain⟨sn,o⟩:=p;cases o with|some v=>exact ff h.1|none=>exact jv (xl<|jC c<|mi e) λd D q r=>⟨d,D,sn,ps,r,IV h.2⟩
end
end
section
open PySem PySem.W PySem.Calls PyProof.Rows
noncomputable section
variable{G:Gl}{t:Tb}
noncomputable def IW(K:iY)(f:Nat):Option kR:=(K.lookup f).bind D0
noncomputable def Bt(K:iY)(f:Nat):List g2:=(IW K f).elim [] λa=>
 let l:=(a.scope.names.filter λp=>p.2== .local).map (·.1)
 (lk f RX).elim l (·.map λi=>l.getD i Bw)
noncomputable def IX(G:Gl)(t:Tb)(f c n:Nat)(a:DS):Bool:=(kn G f).any (λb=>(it b).length==c)&&((Bt G.K f).length==n&&(Gh G t f (Bt G.K f) a||oB (lk f [(783,1281),(1312,1521)]) λD=>Gr G t f (Bt G.K f) D a))
theorem IY(X:Gx G t)(hT:G.T=gY){st}(h:IX G t f e n i=H)(j:args.length=e)(w:WS gY (iN G d) i (args.map U++jD (n - e) V) st ⟨λb st=>Q .none st,Q,λb b=>False,λb=>Xc⟩):iN G (d+1) f args st Q Xc:=by
 haveI h:=f1 h;rw[<-hT]at w;haveI a:=f1 h.2;clear zz3 (Eq.symm j) h w;clear zz3 (Eq.symm<|beq_iff_eq.mp a.1) w;rcases sN.mp a.2 with c|c
 .exact Qk X c h.1 w
 .exact jF c λp b a=>Qw X a h.1 w
noncomputable def Bu(G:Gl)(t:Tb):Bool:=(Ay++A7).all λp=>IX G t p.1 p.2.1 p.2.2.1 p.2.2.2
theorem W3(X:Gx G t)(hT:G.T=gY)(h:Bu G t=H):mF<|iN G where
 eA:=⟨λa=>IY X hT<|jC h (sQ _ (mi a))⟩
 c:=λa=>IY X hT<|jC h (B' _ (mi a))
end
end
section
open PySem PySem.W PySem.Calls PyProof.Rows
noncomputable section
noncomputable def W4:gZ->AV| .int i _=>.int i| .bool b=>.bool b| .ref _=>.au []|_=>.none
noncomputable def IZ(K:iY)(f:Nat):i6:=(IW K f).elim [] λa=>(kC a ((zA a.defaults λT=>(K.lookup T).bind zB).getD [])).map λp=>(p.1,p.2.map W4)
noncomputable def I0(K:iY)(C:Nat):Nat×i6:=(C,(IZ K (match iB K (.ref C) "__init__" with|U (U (.ref f))=>f|_=>0)).tail)
noncomputable def W5(p:lY×iT):Option (g2×AV):=match p.2.data with| .cls cd=>U (cd.name,.val (.ref p.1))|_=>V
noncomputable def rr(K:iY):p0:=⟨RW,("_law_NOTHING",ra)::K.filterMap W5,(1600::1051::(Ay++A7).map (·.1)).map λf=>(f,IZ K f),q'.map λp=>I0 K p.1,ud.map λp=>I0 K p.1,1595⟩
noncomputable def qn(w:iI)(K:iY):Gl:=(rr K).b7 pw w K 1601
noncomputable def xo(w:iI)(K:iY):Bool:=(allB (rr K) pw w K 1601).all id&&Bu (qn w K) (rr K).eo&&wh (qn w K) (rr K).eo 1600 GP wp&&uR (qn w K) 1600 [("script",V)]&&K.all (λp=>pf p.1 1601)&&decide (nsIn K pi "law"=U (U (.ref 1600)))
structure rs (w:iI)(K:iY)(h:je):Prop where
 cH:K.In h
 low:∀a,a<1601->∃o,h.get? a=U o/\o.cls≠ .type "list"
theorem rs.keeps{K}{h h'}(x:rs w K h)(k:∀b o,h.get? b=U o->h'.get? b=U o):rs w K h':=⟨λa o e=>k a o<|x.cH a o e,λa c=>by obtain⟨o,e,n⟩:=x.low a c;exact⟨o,k a o e,n⟩⟩
noncomputable def xp(a:Nat):Mu:=⟨V,λm=>match m with| .j 0=>U a|_=>V,[],[]⟩
noncomputable def W6(c:MC):gW:=⟨λn=>match n with|0=>U c|_=>V,1⟩
theorem Bv(h:(xp a).cell m=U b):m=.j 0/\b=a:=by
 induction m with
 |j n=>induction n with
  |zero=>cases h;exact⟨rfl,rfl⟩
  |succ n=>exact hu h
 |_=>exact hu h
theorem I1(h:h_ (xp a) b):b=a:=by
 exists c;rcases h with⟨x,h⟩|⟨m,h⟩|⟨D,d,h⟩
 .exact hu h
 .exact c<|(Bv h).2
 .cases h
theorem W7:∀{b},J0 R b .int=H->∃c:List Int,b=c.map .int:=by intro b;induction b with|nil=>exactλ_=>⟨[],rfl⟩|cons x b d=>intro h;have h:=kV.mp (show(WShape.has R x _&&J0 R b _)=H from h);refine hz (d h.2) λc a=>?_;subst a;cases x<;>first|exact⟨_::c,rfl⟩|exact absurd h.1 xY
theorem W8(w:WellAll P h d [.list e]):∃l us,d=[.ref l]/\h.get? l=U {cls:=.type "list",data:=.seq us.toArray}/\WellAll P h us e:=by cases w with|cons hw c=>cases c;cases hw with|list b a=>exact⟨_,_,rfl,b,a⟩
theorem W9{b:List Int}{c}(w:WellAll P h c<|b.map .int):hZ G μ c<|b.map .int:=by
 induction b generalizing c with
 |nil=>cases w;exact .nil
 |cons i b d=>cases w with|cons a r=>cases a;exact .cons (.int _ _)<|d r
end
end
section
open PySem PySem.W PySem.Calls PyProof.Rows
theorem W_(a b):ij.row.toRowW.claim.post a (.bool H) b=true:=by kernel_rfl
noncomputable def W'(d:Bool):Bool:=(WTm.and (.not (.lit (.bool d))) (.lit (.bool H))).holds [] {args:=[]}
theorem Xa{a:List Int}:ij.row.toRowW.pre.holds ij.row.toRowW.records {args:=[.list<|a.map .int]}=W' (decide ((63)<((a.map WData.int).length:Int))):=by kernel_rfl
theorem Xb{a:List Int}(h:ij.row.toRowW.pre.holds ij.row.toRowW.records {args:=[.list<|a.map .int]}=H):a.length<=63:=by rw[Xa,h8]at h;exact jE.mp λq=>by rw[decide_eq_true<|ni.mpr q]at h;exact iR h
end
section
open PySem PySem.W PySem.Calls PyProof.Rows
noncomputable section
theorem I2{K:iY}{a:Nat}{o}(h:K.lookup a=U o):(a,o)∈K:=by
 induction K with|nil=>exact hu h|cons p r c=>
  obtain⟨b,d⟩:=p;rw[List.lookup_cons]at h;induction e:a==b with
  |true=>rw[e]at h;cases h;induction eq_of_beq e;exact .head _
  |false=>rw[e]at h;exact .tail _<|c h
theorem Xd{K}{a:Nat}{f}{l:List Int}{n}(aL:rs w K h)(j:K.all (λp=>pf p.1 1601)=H)(i:h.get? a=U (listOf f.toArray n))(r:WellAll w.params h f<|l.map .int)(hl:l.length<=1000000):Inv (qn w K) (xp a) (W6<|.dq (listOf f.toArray n) (l.map .int)).l h where
 aU:=aL.cH
 cu:=λb o e=>jN<|jC j (I2 e)
 t:=λp hp=>by cases hp
 cU:=λks f=>hu
 cA:=λs=>rfl
 cp:=λm c e=>by
  induction m with
  |j k=>induction k with
   |zero=>cases e;exact⟨a,rfl,i,f.toArray,n,rfl,W9 r,by rw[h8];exact hl⟩
   |succ k=>exists z;cases e
  |_=>exists z;cases e
 cg:=λm e=>by
  induction m with
  |j k=>induction k with|zero=>exact hu<|Eq.symm e|succ k=>rfl
  |_=>rfl
 cO:=λa D d e=>by cases e
 bu:=λb m=>by have:=I1 m;subst this;refine⟨?_,ih i⟩;show 1601<=b;cases oD b _ with|inr q=>exact q|inl q=>refine g6 (aL.low b q) λo e n=>?_;rw[i]at e;cases e;exact absurd O n
 inj:=λm m' b t y=>(Bv t).1.trans (Bv y).1.symm
 bf:=λx b m=>hu
 c7:=λx b D d=>hu
 cv:=λm b D d s e=>by cases e
 bR:=λk j=>by induction k with|zero=>exact absurd j (by show ¬(1<=0);decide)|succ k=>rfl
 c8:=rfl
 bn:=g6 (aL.low 1600 (by decide)) λo e s=>ih e
theorem walk{K:iI->iY}{tk:iI->Nat×Nat×Nat×Nat×Nat}(hc:∀w,xo w (K w)=H)(aU:∀w,(K w).lookup 1304=U (xm w (tk w).1 (tk w).2.1 (tk w).2.2.1 (tk w).2.2.2.1 (tk w).2.2.2.2)){d:DefRec}(hd:d.name="law"):WalkO q I XP (λw h=>rs w (K w) h) ij.row.toRowW d aV λf vs=>PySem.call f vs:=by
 intro w av aN mg mb aQ aL a o pm cd aS dV aX _ _ _ _ i j args aO as td _ _ k _;have hc:=hc w;unfold xo at hc;simp only[iG,decide_eq_true_eq]at hc;refine hn hc λp b6=>hn p λc b5=>?_;have X:Gx (qn w _) _:=W2 (by decide) (aU w) (c.1.1.1);have Y:=W3 X O (c.1.1.2);have e:=mg_of aL.cH aQ.T.g b6;rw[hd]at i;rw[e]at i;cases i;refine hn (pre_splitW td) λt G=>jk (hasAllW_cons t) λdd r m B aT=>?_;clear td t;subst m;cases hasAllW_nil aT;obtain⟨aP,rfl⟩:∃aP,dd=.list aP:=by cases dd<;>first|exact⟨_,rfl⟩|exact absurd B xY
 refine hz (W7<|(Bool.or_false _).symm.trans B) λis n=>?_;clear B;subst n;have hl:is.length<=1000000:=f2 (Xb G) (by decide);refine jk (W8 k) λl vs z N s=>?_;clear k;subst z;refine jv (xl (c.2)) λM D jJ aY=>?_;have x:(it M).length=1:=by rw[<-zz M aY.cW,h8,aY.cw.len];rfl
 have bd:=by have y:=aY.cw.len;have:=oW (aa:=[.ref l]) (kw:=[]) aY.dt aY.du aY.dv aY.dw aY.cW (oX aL.cH aY.cV) aY.b8<|Fn (by rw[h8,y];rfl);rw[Fk (by rw[y];rfl)]at this;exact this
 have go:=Qx X (Q:=λv st=>v=.bool H/\st.j 0=U (.dq _ _)) (Xc:=λJ J=>False) (c.1.2) (A:=callerA) O O ⟨by decide,by decide⟩ (Xd aL b5 N s hl) (.cons (.mut O (by intro h;cases h)) .nil) jJ x.symm bd<|WB Y (d:=0) O (rG 0) λst h=>⟨rfl,h⟩;refine oF<|u0 go λr s' q=>?_;induction r with
 |error v=>exists C;obtain⟨_,_,_,_,_,_,P⟩:=q;exact P.c_.elim
 |ok fl=>
  induction fl with
  |ret v=>
   obtain⟨st,af,b,ae,⟨rfl,au⟩,E,aW,aR,kp,nw,nf⟩:=q;have z:=aW.R;subst z;refine⟨.inl ⟨_,_,[],rfl,λig=>rfl,.bool _,(W_ _ _),λJ=>⟨Ci,λa h=>by cases h⟩⟩,.of_keep λb o e=>?_,st.bY,.of_eq<|st.bX.trans j⟩
   .exists C;by_cases T:h_ (xp l) b;.clear j;cases I1 T;refine jj (aR.cp (.j 0) _ au) λa' L h0 J=>?_;have:=E.cell (.j 0) l O;rw[this]at L;clear au;cases L;rw[N]at e;cases e;exact C h0
    .exact C<|kp b o e T
  |next=>exact q.2.elim|brk=>exact q.2.elim|cont=>exact q.2.elim
end
end
section
set_option maxHeartbeats 0
open PySem PySem.W PySem.Calls PyProof.Rows
theorem Xe:(λw=>(allB (rr (kE w)) pw w (kE w) 1601).all id)=λ_=>true:=by kernel_rfl
theorem Xf:(λw=>Bu (qn w (kE w)) (rr (kE w)).eo)=λ_=>true:=by kernel_rfl
theorem Xg:(λw=>wh (qn w (kE w)) (rr (kE w)).eo 1600 GP wp&&uR (qn w (kE w)) 1600 [("script",V)]&&(kE w).all (λp=>pf p.1 1601)&&decide (nsIn (kE w) pi "law"=U (U (.ref 1600))))=λ_=>true:=by kernel_rfl
theorem Xh(w:iI):xo w (kE w)=true:=by have d:=congrFun Xe w;have e:=congrFun Xf w;have a:=f1 (congrFun Xg w);have b:=f1 a.1;have c:=f1 b.1;unfold xo;simp only[iG];exact⟨⟨⟨⟨⟨d,e⟩,c.1⟩,c.2⟩,b.2⟩,a.2⟩
end
section
set_option maxHeartbeats 4000000
open PySem PySem.W PySem.Calls PyProof.Rows
noncomputable section
noncomputable def Xi:h4->DefRec| .FunctionDef name a b _ _ _ c _ _ aa=>⟨name,a,b,c,aa⟩|_=>⟨"",⟨[],[],V,[],[],V,[]⟩,[],⟨.function,[],g,g,[]⟩,⟨0,0,0,0⟩⟩
noncomputable def rt:DefRec:=Xi (qG 65)
theorem x1:defOf qv ij.row.name=U (rt,[]):=by kernel_rfl
theorem x2:pw.theDef ij.row.name=U (rt.params,rt.body,rt.scope):=by kernel_rfl
theorem x3:kwWritten? rt.params.kwonlyargs rt.params.kw_defaults=U []:=by kernel_rfl
theorem x4:(chainsOk qv&&opensWell pw&&(frees ij.row.toRowW&&ij.row.within.isEmpty))=true:=by kernel_rfl
theorem x6:ij.row.toRowW.promised:=⟨[.list []],by kernel_rfl,by kernel_rfl⟩
theorem x5:pw.tablesWhole=true:=by kernel_rfl
theorem x7:pw.bare:=⟨rfl,rfl,rfl,rfl,by kernel_rfl,x5⟩
theorem x8:rt.name="law":=by kernel_rfl
end
end
section
set_option maxHeartbeats 4000000
open PySem PySem.W PySem.Calls PyProof.Rows
noncomputable section
noncomputable def I3(w:iI)(os:pe):Option nC:=ta (stepT (denote s_) pw w) (stepOk 11 (U (.ref 6))) 16000 ⟨vd w.params,11,{},#[],sJ,sK,os⟩ (topStub pw)
theorem Xj:I3=n':=by unfold I3 n';rw[Fast.te10156331382660048174,Fast.te11892475500146522536,Fast.te14364793385576792824,Fast.te6613529449190102663]
theorem Xk(a:hb):openSeen qv nG (qo pw.main.body) (λ_=>H) H a=xs qv nG (qo pw.main.body) (λ_=>H) H a:=by rw[Fast.te4187177175401517315]
theorem Xl:opening pw=plainProg pw.main.scope.names:=by kernel_rfl
theorem Xm(s:hb):fenceModules? pw s=U s:=by kernel_rfl
theorem Xn(P:sI):(pd P).isNs pi=true:=by kernel_rfl
theorem Xo(P:sI):(pd P).nsMap pi "__annotations__"=U (.ref 6):=by kernel_rfl
theorem Xp(P:sI):(pd P).objs.size=11:=by kernel_rfl
noncomputable def ru(w:iI)(a:hb):Prop:=(rP w.params a&&qJ a.heap)=H/\openSeen qv nG (qo pw.main.body) (λ_=>H) H a=xv qv nG/\tm a.heap (kE w)=kE w
theorem Xq{N:Nat}(hN:jf 16000 N=H)(run:∀w os,∃T:nC,n' w os=U T/\ru w T.abs)(w:iI):∃a,yv s_ pw w N=U a/\ru w a:=by
 have j:=jN hN;obtain⟨⟨h,i,d,k,os⟩,e,f⟩:=uS.mp (boot_open (p:=pw) (N:=N) Xl (u9 (by omega)) Xm w);obtain⟨rfl,rfl,rfl,rfl⟩:h=pd w.params/\i=#[]/\d=sJ/\k=sK:=by simpa using f
 obtain⟨T,b,c⟩:=run w os;rw[<-Xj]at b;have r:=topRun_mono (N - 16000) _ _ _ _ (Cu b);rw[show 16000+(N - 16000)=N by omega]at r;have m:J1 ⟨vd w.params,11,{},#[],sJ,sK,os⟩=⟨pd w.params,#[],sJ,sK,os⟩:=by unfold J1;rw[J4]
 rw[m]at r;have l:rP w.params T.abs=true:=(f1 c.1).1;have t:topFrom s_ pw w N ⟨pd w.params,#[],sJ,sK,os⟩=U T.abs:=by unfold topFrom;dsimp only;rw[Xn,Xo,Xp,r];show(match rP w.params T.abs with|true=>U T.abs|false=>V)=_;rw[l]
 refine⟨T.abs,?_,c⟩;unfold yv;rw[e];show topFrom s_ pw w N _=_;rw[t]
noncomputable def xq(N:Nat)(w:iI):je:=((yv s_ pw w N).map (·.heap)).getD {}
theorem I4{h:je}(e:qJ h=H):1601<=h.objs.size/\∀(a:Nat) o,h.objs[a]?=U o->h.get? a=U o/\o.cls≠ .type "list":=by refine⟨jN (f1 e).1,λa o q=>?_⟩;have b:=f1 (jC (f1 e).2 (k_ ((oG ..).trans q)));exact⟨(je.get?_eq_some _ _ _).2 ⟨q,b.1⟩,λc=>absurd ((congrArg CB c).symm.trans b.2) (by decide)⟩
theorem Xr{a:Nat}{o:iT}{l:List iT}:∀{i:Nat} {K:iY},(a,o)∈qI l i K->∃j,a=i+j/\l[j]?=U o:=by
 induction l with|nil=>exactλh=>nomatch h|cons x l d=>
  intro i K h;cases K with|nil=>exact nomatch h|cons k r=>
   rw[show qI (x::l) i (k::r)=cond (jn k.1 i) ((k.1,x)::qI l (i+1) r) (qI l (i+1) (k::r))from O]at h;cases q:jn k.1 i with
   |true=>
    rw[q]at h;rcases ir.mp h with h|h
    .exact⟨0,(congrArg xH h).trans (oA q),congrArg U (congrArg Prod.snd h).symm⟩
    .obtain⟨j,b,c⟩:=d h;exact⟨j+1,b.trans (iZ ..),c⟩
   |false=>rw[q]at h;obtain⟨j,b,c⟩:=d h;exact⟨j+1,b.trans (iZ ..),c⟩
theorem Xs{h:je}(e:qJ h=H)(K:iY):(tm h K).In h:=λa o q=>by obtain⟨j,b,c⟩:=Xr (I2 q);rw[lG]at b;subst b;rw[oG]at c;exact((I4 e).2 a o c).1
theorem Xt{h:je}(e:qJ h=H)(a:Nat)(b:a<1601):∃o,h.get? a=U o/\o.cls≠ .type "list":=by obtain⟨c,k⟩:=I4 e;exact⟨_,k a _ (Array.getElem?_eq_getElem (hD b c))⟩
section
variable{N:Nat}(hN:jf 16000 N=H)(run:∀w os,∃T:nC,n' w os=U T/\ru w T.abs)
include hN run
theorem I5(w:iI):∃a,yv s_ pw w N=U a/\a.heap=xq N w/\ru w a:=by obtain⟨a,e,s⟩:=Xq hN run w;exact⟨a,e,by unfold xq;rw[e];rfl,s⟩
theorem Xu:LeftO pw qv nG (λ_=>H) (λs=>s.heap) (xq N) N:=λw=>by obtain⟨b,e,a,s⟩:=I5 hN run w;rw[e];exact congrArg U (Prod.ext s.2.1 a)
theorem Xv(w:iI)(s:hb)(e:s.heap=xq N w):rs w (kE w) s.heap:=by obtain⟨c,_,b,a⟩:=I5 hN run w;rw[e,<-b,<-a.2.2];exact⟨Xs (f1 a.1).2 _,Xt (f1 a.1).2⟩
end
theorem Xw(w:iI):(kE w).lookup 1304=U (xm w 2128 2129 2130 2131 2):=by kernel_rfl
end
end
set_option maxHeartbeats 4000000
open PySem PySem.W PySem.Calls PyProof.Rows
theorem I6(w:iI)(os:pe):∃T:nC,n' w os=U T/\ru w T.abs:=by
 have a:∀(w:iI) (os:pe),(n' w os).map (λT=>rP w.params T.abs&&qJ T.abs.heap)=U H->(n' w os).map (λT=>xs qv nG (qo pw.main.body) (λ_=>H) H T.abs)=U (xv qv nG)->(n' w os).map (λT=>tm T.abs.heap (kE w))=U (kE w)->∃T:nC,n' w os=U T/\ru w T.abs:=λw os h h1 h2=>by obtain⟨T,e,h⟩:=uS.mp h;rw[e]at h1 h2;refine⟨T,e,h,?_,Option.some.inj h2⟩;rw[Xk];exact Option.some.inj h1
 exact byRow2 oL (P:=λw=>∃T:nC,n' w os=U T/\ru w T.abs) (λw=>a _ os (congrFun (congrFun Zo01 w) os) (congrFun (congrFun Zo02 w) os) (congrFun (congrFun Zo03 w) os)) (λw=>a _ os (congrFun (congrFun Zo11 w) os) (congrFun (congrFun Zo12 w) os) (congrFun (congrFun Zo13 w) os)) w
theorem XD{N:Nat}(hN:jf 16000 N=H):ij.row.Holds:=holds_open (XP:=λ_ _=>True) (YP:=λw h=>rs w (kE w) h) (Xu hN I6) (Xv hN I6) (λw h h' x k=>x.keeps k) (λ_ _=>trivial) (λ_ _ _ _ _=>trivial) x1 x2 x3 (λs _=>recFacts_nil O) O CC x4 x7 x6 (walk (K:=kE) (tk:=λ_=>(2128,2129,2130,2131,2)) Xh Xw x8)
end Mine.Internal
theorem PySem.Challenge.cw_qm0005_02_holds : PySem.Challenge.rw_qm0005_02.Holds :=
⟨Mine.Internal.Xx,Mine.Internal.XD (N:=16000) (by decide)⟩
