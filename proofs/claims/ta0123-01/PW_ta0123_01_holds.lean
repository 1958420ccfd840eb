import PyProof.Rows.All
import Wide.All
import OpenK.AllK
import Wide.FinOn
import PyProof.Draws
import KE.KRevIter
import KE.KTurns
import KE.KRevSl
import KE.KSlice
import PyProof.GenArm
import PyProof.GenQ
import PyProof.Rows.RowBridgeG
import KE.KMulAny
import KE.KPar
import KE.KTurnsAny
import Flt.RightMore
import Flt.Calls
import KE.KEqDict
import PySem.Challenge.RW_ta0123_01
theorem Mine.PI:True:=trivial
open Mine(PI)
open PySem.Str renaming ofString→aa,length→tz
open PySem renaming wpAny_bind→ab,Value→af,Shared→ai,Addr→aj,Expr→aw,World→aB,wpAny_pure→aD,Heap→aL,Stmt→aS,wpAny_mono→aU,Spec→aV,wpAny_execs_cons→bc,wpAny_field→bg,Around→be,wpAny_callSpecial?_slot→bA,wpAny_holding→bI,wpAny_newObj_type→bL,wpAny_loadName_local→bQ,wpAny_call_entry→bZ,Program→cj,Comprehension→cD,wpAny_truthy_bool→cK,wpAny_storeName_local→cM,wpAny_standAt→da,seg_execs_nil→db,wpAny_seqItems→dc,seg_execs_cons→dd,wpAny_Name→dt,seg_bind_wrap→dw,Scope→dC,GenSince→dE,wpAny_Assign_Name→dH,Operator→dM,wpAny_rule→eF,wpAny_setField→eW,NameKind→l7,wpAny_attempt→fK,wpAny_isTrue_Compare1→fM,wpAny_allTrue_Or_cons→oW,wpAny_Constant_bool→gg,IsPair→gq,wpAny_execs_nil→gy,wpAny_setField_rec→gI,wpAny_pyIter_list→gV,wpAny_assign_Name→gW,CmpOp→iu,wpAny_call→iG,wpAny_of_eq→iM,FuncData→iQ,list_getitem_lookup→jf,Keyword→jq,wpAny_Expr_any→jM,wpAny_Constant_str→jN,slot_listiter_next→jO,ExcName→j0,wpAny_pyIter_zip→kY,wpAny_Assign_Subscript→lI,UnaryOp→lJ,Result→lK,OsState→lL,strKind→lP,IsZip→lT,builtinLookup_eq_fast→mF,wpAny_pyIter_revIter→nc,wpAny_letGo→nf,wpAny_allTrue_Or_nil→ng,Model→nk,wpAny_isTrue_BoolOp→nZ,Flow→rx,wpAny_onRaise→oE,wpAny_pyIter_tuple→qC,wpAny_getItem_list→qD,wpAny_Constant_int→qF,wpAny_pyIter_enum→rj,wpAny_If→rl,getMethod_builtin→rp,wpAny_isInstance→ty,DictEntry→tC,Walks→tF,wpAny_specialOf→uS,typeLookup_type→uT,Builtin→u6,wpAny_listPart→wt,isSubtype_stop→wu,Protocol→wy,GenState→wD,Draws→wF,BoolOp→wH,call→yZ,Const→zd,Arguments→ze,wpAny_typeOf→Ca,Params→Cd,wpAny_throw→Ew,wpAny_BinOp→Ex,wpAny_load→Id,typeIs_str→Ie,IsEnum→Ih,CmpOf→Iy,BindsTo→Iz,seg_wrap→MQ,MulOk→MT,IsPart→MX,GenEnd→MY,Code→MZ
open Option.some renaming inj→ac
open PySem.Heap renaming get?_push_of_some→ag,get?_push_size→aE,lt_size→aO,size_push→bW,ExtBut→cW,get?_update_self→df,SameBut→dI,get?_none_of_le→d8,get?_update_other→eU,dictOf_iff→ir
open Nat renaming le_trans→ar,le_refl→aI,le_of_eq→bq,add_le_add→du,le_add_right→a8,ne_of_lt→aY,lt_of_le_of_lt→cS,le_of_lt→bN,lt_succ_of_lt→bF,le_succ_of_le→cq,add_le_add_right→cX,le_of_ble_eq_true→ci,lt_irrefl→bY,sub_self→b9,sub_add_cancel→cO,lt_succ_self→cC,zero_add→cA,ne_of_gt→cL,two_pow_pos→cy,not_lt→cP,mul_le_mul_left→NQ,add_le_add_left→NR,le_add_left→dZ,succ_le_succ→fU,lt_of_lt_of_le→eX,add_sub_cancel_left→eH,add_right_comm→gj,beq→dS,ble→fW,succ_ne_self→eG,le_of_not_lt→hH,succ_pos→fT,succ→fq,le_antisymm→f7,le_of_succ_le→n6,sub_le→gZ,zero_le→jw,mul_comm→gK,add_comm→NZ,pow_add→io,min_eq_left→kP,add_left_cancel→iK,lt_trans→iP,mul_lt_mul_of_pos_left→jd,add_sub_cancel→N6,mul_left_comm→jx,le_succ→qR,add_assoc→N8,succ_ne_zero→jW,lt_add_of_pos_right→jX,eq_of_beq_eq_true→k6,ble_eq_true_of_le→k8,mul_le_mul_right→lM,add_eq_zero_iff→mG,sub_pos_of_lt→Og,lt_of_succ_lt→Oh,compare_eq_lt→n7,compare_eq_eq→n8,min_le_right→qL,lt_of_not_le→qM,cast→tA,mul_assoc→uV,zero_mul→wz,lt_or_ge→wA,add_zero→wB,sub_sub→Ox,one_mul→Oy,mul_pos→y5,le_zero→y6,blt→Pv,rec→PL
open List renaming append_nil→ao,forall_mem_cons→am,append_assoc→au,length_map→aA,mem_singleton→ay,getElem?_eq_getElem→aF,getElem?_map→aG,length_append→aJ,size_toArray→aK,getElem?_append_right→aM,mem_append_right→aN,mem_cons→aQ,all_eq_true→aR,isEmpty_iff→aX,mem_append→bf,exists_of_findSome?_eq_some→br,range→bz,lookup_cons→bv,length_eq_zero_iff→bE,replicate→bG,contains_iff_mem→bM,mem_append_left→bP,length_reverse→bV,take_of_length_le→cz,map_map→c8,not_mem_nil→di,mem_range→dm,mem_of_getElem?→dr,take_length→dK,mem_filterMap→dP,getElem?_append_left→dW,take_add_one→d5,mem_map→d7,map_id→eM,map_append→eZ,map_cons→ft,all_cons→fu,length→lh,length_cons→cV,getElem?_eq_some_iff→fX,foldl_cons→fc,getElem?_cons_succ→gl,reverse_cons→jo,length_range→gC,getElem?_inj→gG,foldl_append→jp,map_reverse→gT,drop_append_of_le_length→ig,getD_eq_getElem?_getD→iX,eq_of_mem_replicate→jy,nodup_cons→ky,nil_append→kz,forIn_cons→kA,lookup→Oc,getElem?_set_ne→li,replicate_succ→lR,getElem?_range→lS,mem_reverse→oF,length_take→oG,drop_length→oH,append_cons→oJ,mem_filter→qS,nodup_nil→sf,drop_zero→si,any_cons→tH
open Bool renaming and_eq_true→aq,false_ne_true→aP,and_eq_true_iff→d9,false_eq_true→eV,true_and→f6,or_eq_true→fh,eq_false_iff→jt,or_eq_false_iff→ll,and_assoc→Pc,or_eq_true_iff→Oe,and_true→mH,casesOn→nM,or_false→tI,not_not→u7,true→PG,false→PH
open PySem.Builtin.Int renaming intBits→az
open PySem.Builtin renaming divisionGoesByPylong→aC,bitNot→bO,bitXor→qO,bitAnd→qP
open Int renaming le_trans→dj,lt_of_le_of_lt→NJ,le_of_lt→c9,ofNat_le→dJ,fmod_nonneg_of_pos→bu,le_of_lt_add_one→de,toNat→bw,fdiv_eq_ediv_of_nonneg→bK,fmod_lt_of_pos→bJ,natCast_nonneg→dR,lt_of_lt_of_le→NM,not_lt→dQ,lt_trans→kD,max_eq_right→ia,toNat_of_nonneg→dG,toNat_natCast→fF,le_of_eq→NT,le_refl→ip,min_eq_right→eJ,add_nonneg→NU,sub_nonneg_of_le→NV,mul_le_mul_of_nonneg_left→NW,not_le→nq,add_zero→gL,add_sub_cancel→NX,natCast_mul→fv,add_assoc→mK,fmod_eq_emod_of_nonneg→Aj,add_le_add_right→lN,zero_add→kB,ofNat_lt→n9,min_le_right→fY,sub_le_self→NY,eq_ofNat_of_zero_le→jY,add_comm→N1,min_eq_left→kS,toNat_le→N5,natAbs_natCast→je,sub_sub→N7,natCast_pow→N9,natCast_add→Oa,min_le_left→kR,max_eq_left→Ob,mul_nonneg→Od,ofNat_sub→mJ,le_min→nt,toNat_lt→Oi,sub_self→wC,mul_comm→Oj,le_total→Ol,le_max_right→qN,mul_one→On,le_antisymm→Op,add_le_add→Oq,mul_assoc→Ot,sub_zero→Ou,ne_of_gt→Ov,one_mul→Oz,neg_neg→y7,neg_mul→OA,add_mul→OB,neg→KC
open PySem.Challenge renaming rw_ta0123_01→aH
open PySem.Builtin.Str renaming occurrences→aT
open PySem.Txt renaming slice→ba,charAt→bR,lower→bX,item→fk,join→jV,upper→qK,count→uZ,mul→ww
open Option renaming map_eq_some_iff→bh,or_eq_some_iff→cH,eq_none_iff_forall_ne_some→cU,isSome_iff_exists→dY,bind_some→ei,isNone_iff_eq_none→iW,map→lQ,some→PD,none→PF
open Rat renaming natCast_le_natCast→bj,natCast_add→bo,natCast_mul→bx,natCast_pos→fm,sub_eq_add_neg→gh,natCast_nonneg→gi,neg_le_neg→gJ,mul_le_mul_of_nonneg_right→gX,one_mul→il,intCast_neg→iH,intCast_natCast→iJ,ne_of_gt→iN,le_of_lt→iO,mul_nonneg→i9,le_of_mul_le_mul_right→ja,div_mul_cancel→jb,mul_assoc→jP,le_trans→n5,add_mul→qQ,intCast_mul→rr,add_comm→wx,neg_mul→yX,div_def→yY
open PySem.Value renaming ref→bl,none→ca,type→dL,bool→rq
open PyProof renaming noPylong_small→bB
open PySem.Float64 renaming isInf→bC,divmod→bD,truncOf→bH,cmp→bS,isNaN→cI,ofInt→cZ,sub→eB,ofFrac→gr,isZero→gt,mul→gS,add→kE,isFinite→nu,sgn→nK
open Decidable renaming em→NP
open PySem.Flt renaming toInt→ce,NumV→iq,ltV→sj
open PySem.Builtin.SmallTypes renaming nextOf→cf,ownedTupleIsFree→dh
open Classical renaming em→cJ
open PyProof.V renaming FlatPairs→cY
open Ordering renaming lt→c7,eq→tG
open PySem.NameKind renaming free→dD
open Iff renaming rfl→dT
open PySem.Builtin.Re renaming reRawNat→dX,reRawItems→jz,reAnswer→j1
open Int.ofNat renaming inj→eK
open PySem.F renaming slot_str_ascii_iterator_next→eS,slot_tuple_getitem→iI,slot_zip_next→lj
open PySem.Heap.SameBut renaming update→fw
open PySem.Builtin.Tuple renaming tupleExact→fE
open Array renaming getElem?_eq_some_iff→fJ,length_toList→iw,getElem?_toList→kF
open ForInStep renaming yield→fR
open PySem.Sem renaming bind_eq_wrap→IR
open PySem.BindsTo renaming of_eq→fZ
open Eq renaming refl→gu
open Prod renaming ext→gz,fst→nJ,snd→sd
open PySem.PyData renaming str→gO
open Ne renaming symm→im
open PyProof.Rows renaming News→gY,IntsAre→jr,AllBare→ju,isTrue_plain→rm,Below→ry,CellsAre→wG,args_cons→zc,args_nil→MS,IsTup→MW
open PySem.W.KTurns renaming ofWalks→iL
open PySem.Obj renaming data_mapFields→jc,isFreed_of_fields→kZ,mapFields→mI
open UInt8 renaming ofNat→jg
open PySem.W renaming hideAll_get→jZ,topRead_of→qG,of_hideAll→qH,fresh_of_stays→wv,Frag→wE,piece_app→za,look_both→zb,keeps_K→Cc,LeaveK→Ce,codeHd_of_K→Ey,mg_none_of→Ig,GoodWG→Ii,keq_flat→MR,KTurns→MV
open LT renaming lt→k9
open PySem.GenSince renaming refl→lb
open PySem.Calls renaming evalArgs_plain→nh,loadGlobal_builtin→qI,spliced_cons→Cb
open PySem.PassesOwn renaming never→nj
open PySem.Value.ref renaming inj→qJ
open Nat.succ renaming inj→se
open PySem.Frame renaming guarded→tB
open PySem.Sre renaming forSearch→uU,M→yW
open PySem.Data renaming seq→x9
open PUnit renaming unit→y4
open LE renaming le→MU
set_option Elab.async false
set_option exponentiation.threshold 2000
set_option maxRecDepth 1000000
set_option maxHeartbeats 0
set_option linter.unusedVariables false
set_option tactic.hygienic false
set_option bootstrap.genMatcherCode false
set_option genCtorIdx false
set_option genSizeOf false
set_option genInjectivity false
noncomputable section
section
namespace Mine
theorem bU {P:Prop}(h:∀ G:Prop,(P->G)->G):P:=h P id
section
variable {a b c d x y z lo hi mid:Int}{n m k j:Nat}
theorem O1 (hb:0<b)(h:a<c*b):a.fdiv b<c:=by rw[bK _ (c9 hb)]; exact(Int.ediv_lt_iff_lt_mul hb).mpr h
theorem O4 (hb:0<b)(h:c*b<=a):c<=a.fdiv b:=by rw[bK _ (c9 hb)]; exact(Int.le_ediv_iff_mul_le hb).mpr h
theorem OE (h0:0<=a)(h:a<n):a.natAbs<n:=n9.mp (by rw[Int.natAbs_of_nonneg h0]; exact h)
theorem OQ (hn:0<n)(h:a<n):a.toNat<n:=(Int.toNat_lt' hn).mpr h
theorem c3 (h0:0<=a)(h:a<3):a=0\/a=1\/a=2:=by lia
theorem c4 (h0:0<=a)(h:a<4):a=0\/a=1\/a=2\/a=3:=by lia
theorem OV (h:mid<hi)(hk:hi - lo<=((k+1:Nat):Int)):mid - lo<=k:=de (NM (Int.sub_lt_sub_right h lo) hk)
theorem OU (h:lo<mid)(hk:hi - lo<=((k+1:Nat):Int)):hi - mid<=k:=de (NM (Int.sub_lt_sub_left h hi) hk)
theorem OO (h:a=2\/a=4):0<a/\a<=4:=by rcases h with rfl | rfl<;>decide
theorem OT (hb:0<n)(h:j<=k):(n:Int) ^ j<=(n:Int) ^ k:=by rw[<- N9,<- N9]; exact dJ.mpr (Nat.pow_le_pow_right hb h)
theorem O8 (h:a<0):0<=-a - 1:=NV (Int.neg_pos_of_neg h)
theorem O7 (h:-b<=a):-a - 1<b:=NM (Int.sub_lt_self _ (by decide)) (Int.neg_le_of_neg_le h)
theorem OX {N n n':Nat}(hl:n<N)(h:N - n=n'+1):N - 1 - (n'+1 - 1)=n:=by rw[Nat.eq_add_of_sub_eq (bN hl) h,gj,N6,N6,eH]
theorem OZ (h:k<n):(n:Int) - 1 - k=((n - 1 - k:Nat):Int):=by rw[Int.natCast_sub (Nat.le_sub_one_of_lt h),Int.natCast_sub (cS (jw _) h)]; rfl
theorem revB (h:k<n):n - 1 - k<n:=cS (gZ _ k) (Nat.sub_lt (Nat.zero_lt_of_lt h) Nat.one_pos)
theorem O0 (h:0<=a):max 0 (min a n)=((min a.toNat n:Nat):Int):=by
 obtain⟨k,rfl⟩:=jY h;rcases Nat.le_total k n with q | q
 ·rw[fF,kP q,kS (dJ.mpr q),ia (dR _)]
 ·rw[fF,Nat.min_eq_right q,eJ (dJ.mpr q),ia (dR _)]
theorem OF (h:n=m)(q:k<=m):k<=n:=h▸q
theorem OR (h0:0<=a)(h:a<=2):a=0\/a=1\/a=2:=c3 h0 (NJ h (by decide))
theorem O6 (h1:(n:Int) - 729<=a)(h2:a<n+k - 729):(a+729 - n).toNat<k:=by lia
theorem O5 (h1:(n:Int) - 729<=a):((n+(a+729 - n).toNat:Nat):Int) - 729=a:=by lia
theorem tn3 (h0:0<=a):((a.toNat:Nat):Int)=a:=dG h0
end
end Mine
end
section
open PySem PySem.W PyProof.Rows
namespace Mine
noncomputable abbrev pr9:cj:=aH.row.toRowW.prog
noncomputable def Jz (l:List aS)(n:Nat):aS:=(l.drop n).headD (.Pass ⟨0,0,0,0⟩)
def ib (n:Nat):aS:=Jz pr9.main.body n
def kI (n:Nat):aS:=match ib 29 with
 | .ClassDef _ _ _ b ..=>Jz b n
 | s=>s
noncomputable abbrev sQ (x:String)(n:Nat):af:=.str (aa x) n
def uQ (l:List String)(n:Nat):af:=.str ⟨(l.flatMap λs=>(aa s).cps.toList).toArray⟩ n
abbrev eQ (P:Cd)(x:String)(n:Nat)(v:af):tC:=⟨PyData.keyHash P (aa x),sQ x n,v⟩
noncomputable abbrev cQ (l:List af):Obj:=⟨.type "code",PF,.fields l.toArray,#[]⟩
noncomputable abbrev tQ (l:List af):Obj:=⟨.type "tuple",PF,.seq l.toArray,#[]⟩
noncomputable abbrev nQ:Obj:=⟨.none,PF,.fields #[],#[]⟩
def Fa (t:aS):DefRec:=match t with
 | .FunctionDef n ps b _ _ _ sc _ _ p=>⟨n,ps,b,sc,p⟩
 | _=>⟨Str.empty,⟨[],[],PF,[],[],PF,[]⟩,[],pr9.main.scope,⟨0,0,0,0⟩⟩
def fQ (c p:af)(g:aj)(t:aS)(q:String)(m d k:af):Obj:=⟨c,PF,.func { name:=(Fa t).name,qualname:=aa q,params:=(Fa t).params,body:=.stmts (Fa t).body,scope:=(Fa t).scope,globals:=g,closure:=[],defaults:=d,kwdefaults:=k,pyModule:=m,code:=p },#[]⟩
def jv (a:Nat)(t:aS)(q:String)(m d k:af):aj×Obj:=(a,fQ (.type "function") (.ref (a - 1)) 3 t q m d k)
def yI (a:Nat)(t:aS)(q:String):aj×Obj:=(a,fQ .none .none 0 t q .none .none .none)
def kC (a:Nat)(n q:String)(t l c g f d:Nat)(r:List af):aj×Obj:=(a,cQ ([sQ n t,sQ q (t+1),sQ "/claim/cut.py" (t+2),.int l 0,.int c 0,.int 0 0,.int g 0,.int f 0]++r++[.int (t+d) 0,.int l 0,sQ "/claim/cut.py" (t+d+1)]))
def kQ (a:Nat)(n q:String)(t l c g f d:Nat):aj×Obj:=kC a n q t l c g f d [.ref (a - 5),.bool PG,.int 276 0,.ref (a - 4),.none,.ref (a - 3),.ref (a - 2),.ref (a - 1)]
def k2 (a:Nat)(n q:String)(t l c g f d:Nat):aj×Obj:=kC a n q t l c g f d [.ref (a - 3),.bool PG,.int 276 0,.ref (a - 2),.none,.none,.none,.ref (a - 1)]
noncomputable def vQ:Nat->List String->List af
 | t,x :: r=>.str (aa x) t :: vQ (t+1) r
 | _,[]=>[]
def rG (a:Nat)(x:aS)(q:String)(t:Nat)(v:List String)(r:wE):wE:=(a,tQ []) :: (a+1,nQ) :: (a+2,tQ (vQ t v)) :: (a+3,tQ []) :: yI (a+4) x q :: r
def oQ (P:Cd)(m:Nat)(v:af):Obj:=⟨.type "dict",PF,.dict (([eQ P "__name__" 165 v,eQ P "__doc__" 166 .none,eQ P "__package__" 167 .none,eQ P "__loader__" 168 (.builtin "__main__.__loader__#opaque"),eQ P "__spec__" 169 .none,eQ P "__annotations__" 170 (.ref 6),eQ P "__builtins__" 171 (.ref 4),eQ P "__file__" 173 (sQ "/claim/cut.py" 172),eQ P "__cached__" 174 .none,eQ P "_sre" 275 (.ref 12),eQ P "_wall" 288 (.ref 38),eQ P "_DIV_LIMIT" 292 (.int 4000 291),eQ P "_div2n1n" 309 (.ref 45),eQ P "_div3n2n" 323 (.ref 52),eQ P "_int2digits" 334 (.ref 59),eQ P "_digits2int" 345 (.ref 66),eQ P "_divmod_pos" 360 (.ref 73),eQ P "int_divmod" 370 (.ref 80),eQ P "ONE_THIRD" 376 (.float 4599676419421066581 375),eQ P "ONE_SIXTH" 380 (.float 4595172819793696085 379),eQ P "TWO_THIRD" 384 (.float 4604180019048437077 383),eQ P "rgb_to_hls" 403 (.ref 87),eQ P "hls_to_rgb" 414 (.ref 94),eQ P "_v" 423 (.ref 101),eQ P "rgb_to_hsv" 441 (.ref 108),eQ P "hsv_to_rgb" 455 (.ref 115),eQ P "_iter_escaped_chars" 467 (.ref 122),eQ P "_strip_quoted_realnames" 479 (.ref 129),eQ P "_check_parenthesis" 489 (.ref 136),eQ P "_pre_parse_validation" 498 (.ref 143),eQ P "tspecials" 534 (.ref 148),eQ P "_name_disallowed_re" 560 (.ref 153),eQ P "_value_disallowed_re" 594 (.ref 158),eQ P "_formatparam" 604 (.ref 166),eQ P "Headers" 764 (.ref 289),eQ P "_law_lifted" 772 (.ref 298),eQ P "_law_turned" 778 (.ref 303),eQ P "_law_place" 784 (.ref 308),eQ P "_law_read" 790 (.ref 313),eQ P "_law_own" 796 (.ref 318),eQ P "law" 802 (.ref 323)]:List tC).take m).toArray m,#[]⟩
noncomputable def xQ (n:Nat):Obj:=⟨.none,PF,.fields (([.int 2 0,.int 0 0,.ref 37,.int 7 0,.int 0 0,.ref 44,.int 23 0,.int 0 0,.ref 51,.int 33 0,.int 0 0,.ref 58,.int 49 0,.int 0 0,.ref 65,.int 58 0,.int 0 0,.ref 72,.int 69 0,.int 0 0,.ref 79,.int 84 0,.int 0 0,.ref 86,.int 107 0,.int 0 0,.ref 93,.int 116 0,.int 0 0,.ref 100,.int 125 0,.int 0 0,.ref 107,.int 144 0,.int 0 0,.ref 114,.int 166 0,.int 0 0,.ref 121,.int 179 0,.int 0 0,.ref 128,.int 197 0,.int 0 0,.ref 135,.int 208 0,.int 0 0,.ref 142,.int 219 0,.int 0 0,.ref 165,.int 228 0,.int 0 0,.ref 172,.int 315 0,.int 0 0,.ref 297,.int 317 0,.int 0 0,.ref 302,.int 325 0,.int 0 0,.ref 307,.int 348 0,.int 0 0,.ref 312,.int 362 0,.int 0 0,.ref 317,.int 376 0,.int 0 0,.ref 322]:List af).take n).toArray,#[]⟩
def hd.heap_39:Cd->wE:=λP=>
  [(2,⟨.none,PF,.dict #[eQ P "\x69mport.loaded._sre" 183 (.bool PG),eQ P "class._frozen_importlib.BuiltinImporter" 185 (.ref 14),eQ P "watched.\x69mport" 206 (.ref 18),eQ P "class._frozen_importlib.ModuleSpec" 216 (.ref 22),eQ P "sys.modules.booked-epoch" 245 (.int 3 0),eQ P "\x69mport.later-laid._sre" 270 (.bool PG),eQ P "watched.library" 272 (.ref 27),eQ P "watched.library-objects" 0 (sQ "\x0c" 0),eQ P "watched.library-deep._sre" 273 (sQ "\x04\x00\x00\x0b\x04\x00\x00\x0b\x04\x00\x00\x03\x04\x00\x00\x0b\x08\x04dict\x02" 0)] 9,#[]⟩),
  (3,oQ P 41 (sQ "law_ta0123_01" 765)),
  kQ 44 "_div2n1n" "_div2n1n" 293 7 3 0 3 14,
  jv 45 (ib 4) "_div2n1n" (sQ "cpy313._pylong" 289) .none .none,
  kQ 51 "_div3n2n" "_div3n2n" 310 23 6 0 3 11,
  jv 52 (ib 5) "_div3n2n" (sQ "cpy313._pylong" 289) .none .none,
  kQ 58 "_int2digits" "_int2digits" 324 33 2 0 3 8,
  jv 59 (ib 6) "_int2digits" (sQ "cpy313._pylong" 289) .none .none,
  kQ 65 "_digits2int" "_digits2int" 335 49 2 0 3 8,
  jv 66 (ib 7) "_digits2int" (sQ "cpy313._pylong" 289) .none .none,
  kQ 72 "_divmod_pos" "_divmod_pos" 346 58 2 0 3 12,
  jv 73 (ib 8) "_divmod_pos" (sQ "cpy313._pylong" 289) .none .none,
  kQ 79 "int_divmod" "int_divmod" 361 69 2 0 3 7,
  jv 80 (ib 9) "int_divmod" (sQ "cpy313._pylong" 289) .none .none,
  kQ 86 "rgb_to_hls" "rgb_to_hls" 385 84 3 0 3 16,
  jv 87 (ib 14) "rgb_to_hls" (sQ "cpy313.colorsys" 371) .none .none,
  kQ 93 "hls_to_rgb" "hls_to_rgb" 404 107 3 0 3 8,
  jv 94 (ib 15) "hls_to_rgb" (sQ "cpy313.colorsys" 371) .none .none,
  kQ 100 "_v" "_v" 415 116 3 0 3 6,
  jv 101 (ib 16) "_v" (sQ "cpy313.colorsys" 371) .none .none,
  kQ 107 "rgb_to_hsv" "rgb_to_hsv" 424 125 3 0 3 15,
  jv 108 (ib 17) "rgb_to_hsv" (sQ "cpy313.colorsys" 371) .none .none,
  kQ 114 "hsv_to_rgb" "hsv_to_rgb" 442 144 3 0 3 11,
  jv 115 (ib 18) "hsv_to_rgb" (sQ "cpy313.colorsys" 371) .none .none,
  kQ 121 "_iter_escaped_chars" "_iter_escaped_chars" 458 166 1 0 35 7,
  jv 122 (ib 20) "_iter_escaped_chars" (sQ "cpy313.email.utils" 456) .none .none,
  kQ 128 "_strip_quoted_realnames" "_strip_quoted_realnames" 468 179 1 0 3 9,
  jv 129 (ib 21) "_strip_quoted_realnames" (sQ "cpy313.email.utils" 456) .none .none,
  kQ 135 "_check_parenthesis" "_check_parenthesis" 480 197 1 0 3 7,
  jv 136 (ib 22) "_check_parenthesis" (sQ "cpy313.email.utils" 456) .none .none,
  kQ 142 "_pre_parse_validation" "_pre_parse_validation" 490 208 1 0 3 6,
  jv 143 (ib 23) "_pre_parse_validation" (sQ "cpy313.email.utils" 456) .none .none,
  (147,tQ [.int 14 0,.int 14 0,.int 4 0,.int 1 0,.int 1 0,.int 9 0,.int 0 0,.int 4227896069 0,.int 939524097 0,.int 0 0,.int 0 0,.int 0 0,.int 0 0,.int 0 0,.int 0 0,.int 13 0,.int 11 0,.int 9 0,.int 0 0,.int 4227896069 0,.int 939524097 0,.int 0 0,.int 0 0,.int 0 0,.int 0 0,.int 0 0,.int 0 0,.int 1 0]),
  (148,⟨.type "re.Pattern",PF,.fields #[sQ "[ \\(\\)<>@,;:\\\\\"/\\[\\]\\?=]" 502,.int 32 533,.int 0 0,.none,.none,.ref 147,.int 0 0],#[]⟩),
  (152,tQ [.int 14 0,.int 10 0,.int 4 0,.int 1 0,.int 1 0,.int 22 0,.int 0 0,.int 31 0,.int 16 0,.int 127 0,.int 0 0,.int 13 0,.int 7 0,.int 22 0,.int 0 0,.int 31 0,.int 16 0,.int 127 0,.int 0 0,.int 1 0]),
  (153,⟨.type "re.Pattern",PF,.fields #[sQ "[\\x00-\\x1F\\x7F]" 536,.int 32 559,.int 0 0,.none,.none,.ref 152,.int 0 0],#[]⟩),
  (157,tQ [.int 14 0,.int 14 0,.int 4 0,.int 1 0,.int 1 0,.int 9 0,.int 4294966783 0,.int 0 0,.int 0 0,.int 2147483648 0,.int 0 0,.int 0 0,.int 0 0,.int 0 0,.int 0 0,.int 13 0,.int 11 0,.int 9 0,.int 4294966783 0,.int 0 0,.int 0 0,.int 2147483648 0,.int 0 0,.int 0 0,.int 0 0,.int 0 0,.int 0 0,.int 1 0]),
  (158,⟨.type "re.Pattern",PF,.fields #[sQ "[\\x00-\\x08\\x0A-\\x1F\\x7F]" 562,.int 32 593,.int 0 0,.none,.none,.ref 157,.int 0 0],#[]⟩),
  (174,tQ [.none]),
  kQ 180 "__init__" "Headers.__init__" 617 230 2 0 3 7,
  jv 181 (kI 0) "Headers.__init__" (sQ "cpy313.wsgiref.headers" 499) (.ref 174) .none,
  kQ 187 "_convert_string_type" "Headers._convert_string_type" 627 240 2 1 3 7,
  jv 188 (kI 1) "Headers._convert_string_type" (sQ "cpy313.wsgiref.headers" 499) .none .none,
  kQ 201 "__setitem__" "Headers.__setitem__" 644 251 3 0 3 6,
  jv 202 (kI 3) "Headers.__setitem__" (sQ "cpy313.wsgiref.headers" 499) .none .none,
  k2 206 "__delitem__" "Headers.__delitem__" 653 255 2 0 3 3,
  jv 207 (kI 4) "Headers.__delitem__" (sQ "cpy313.wsgiref.headers" 499) .none .none,
  (229,tQ [.none]),
  kQ 235 "get" "Headers.get" 683 268 3 0 3 8,
  jv 236 (kI 8) "Headers.get" (sQ "cpy313.wsgiref.headers" 499) (.ref 229) .none,
  kQ 278 "setdefault" "Headers.setdefault" 733 293 3 0 3 7,
  jv 279 (kI 15) "Headers.setdefault" (sQ "cpy313.wsgiref.headers" 499) .none .none,
  kQ 285 "add_header" "Headers.add_header" 743 301 3 0 11 10,
  jv 286 (kI 16) "Headers.add_header" (sQ "cpy313.wsgiref.headers" 499) .none .none,
  (288,⟨.type "dict",PF,.dict #[eQ P "__module__" 612 (sQ "cpy313.wsgiref.headers" 499),eQ P "__firstlineno__" 616 (.int 228 615),eQ P "__init__" 626 (.ref 181),eQ P "_convert_string_type" 636 (.ref 188),eQ P "__len__" 643 (.ref 195),eQ P "__setitem__" 652 (.ref 202),eQ P "__delitem__" 658 (.ref 207),eQ P "__getitem__" 666 (.ref 214),eQ P "__contains__" 674 (.ref 221),eQ P "get_all" 682 (.ref 228),eQ P "get" 693 (.ref 236),eQ P "keys" 699 (.ref 241),eQ P "values" 705 (.ref 246),eQ P "items" 712 (.ref 253),eQ P "__repr__" 719 (.ref 260),eQ P "__str__" 725 (.ref 265),eQ P "__bytes__" 732 (.ref 272),eQ P "setdefault" 742 (.ref 279),eQ P "add_header" 755 (.ref 286),eQ P "__static_attributes__" 757 (.ref 287),eQ P "__dict__" 759 (.ref 290),eQ P "__weakref__" 761 (.ref 291),eQ P "__doc__" 762 .none] 4,#[]⟩),
  (289,⟨.type "type",PF,.cls { name:=aa "Headers",bases:=[.type "object"],mro:=[.ref 289,.type "object"],ns:=288,qualname:=aa "Headers" },#[PF,PF,PD (sQ "Headers" 605),PD (sQ "Headers" 613),PD (.builtin "object.__new__"),PD (.bool PG)]⟩),
  (290,⟨.type "getset_descriptor",PF,.fields #[sQ "__dict__" 758,.ref 289,.builtin "function.__dict__",.builtin "function.__dict__#set"],#[]⟩),
  (291,⟨.type "getset_descriptor",PF,.fields #[sQ "__weakref__" 760,.ref 289,.builtin "ExceptionGroup.__weakref__",.none],#[]⟩),
  k2 297 "_law_lifted" "_law_lifted" 767 315 1 0 3 3,
  jv 298 (ib 31) "_law_lifted" (sQ "law_ta0123_01" 765) .none .none,
  k2 302 "_law_turned" "_law_turned" 773 317 4 0 3 3,
  jv 303 (ib 32) "_law_turned" (sQ "law_ta0123_01" 765) .none .none,
  k2 307 "_law_place" "_law_place" 779 325 5 0 3 3,
  jv 308 (ib 33) "_law_place" (sQ "law_ta0123_01" 765) .none .none,
  k2 312 "_law_read" "_law_read" 785 348 4 0 3 3,
  jv 313 (ib 34) "_law_read" (sQ "law_ta0123_01" 765) .none .none,
  k2 317 "_law_own" "_law_own" 791 362 2 0 3 3,
  jv 318 (ib 35) "_law_own" (sQ "law_ta0123_01" 765) .none .none,
  k2 322 "law" "law" 797 376 1 0 3 3,
  jv 323 (ib 36) "law" (sQ "law_ta0123_01" 765) .none .none]
def rQ:Cd->wE:=λP=>
  [(0,boot_o_0 P),
  (1,⟨.type "dict",PF,.dict #[eQ P "builtins" 162 (.ref 4),eQ P "__main__" 163 (.ref 5),eQ P "_sre" 244 (.ref 12)] 3,#[]⟩),
  (4,⟨.type "module",PD 0,.plain,#[]⟩),
  (5,⟨.type "module",PD 3,.plain,#[]⟩),
  (6,⟨.type "dict",PF,.dict #[] 0,#[]⟩),
  (7,tQ []),
  (8,nQ),
  (9,cQ [sQ "<module>" 176,sQ "<module>" 177,sQ "/claim/cut.py" 178,.int 1 0,.int 0 0,.int 0 0,.int 0 0,.int 0 0,.ref 7,.bool PH,.int 175 0,.ref 8,.none,.none,.none,.none,.int 179 0,.int 1 0,sQ "/claim/cut.py" 180]),
  (10,⟨.type "frame",PF,.plain,#[PD (.ref 9),PD (.ref 3),PD (.ref 3),PF,PD (sQ "__main__" 164),PF,PD (.ref 0)]⟩),
  (11,⟨.type "dict",PF,.dict #[eQ P "__name__" 247 (sQ "_sre" 246),eQ P "__doc__" 248 .none,eQ P "__package__" 250 (sQ "" 249),eQ P "__loader__" 251 (.builtin "off-the-table:_sre.__loader__:shared#opaque"),eQ P "__spec__" 252 (.builtin "off-the-table:_sre.__spec__:shared#opaque"),eQ P "compile" 253 (.builtin "_sre.compile"),eQ P "template" 254 (.builtin "off-the-table:_sre.template:shared#opaque"),eQ P "getcodesize" 255 (.builtin "off-the-table:_sre.getcodesize:shared#opaque"),eQ P "ascii_iscased" 256 (.builtin "off-the-table:_sre.ascii_iscased:shared#opaque"),eQ P "unicode_iscased" 257 (.builtin "off-the-table:_sre.unicode_iscased:shared#opaque"),eQ P "ascii_tolower" 258 (.builtin "off-the-table:_sre.ascii_tolower:shared#opaque"),eQ P "unicode_tolower" 259 (.builtin "off-the-table:_sre.unicode_tolower:shared#opaque"),eQ P "MAGIC" 261 (.int 20230612 260),eQ P "CODESIZE" 263 (.int 4 262),eQ P "MAXREPEAT" 265 (.int 4294967295 264),eQ P "MAXGROUPS" 267 (.int 1073741823 266),eQ P "copyright" 269 (sQ " SRE 2.2.2 Copyright (c) 1997-2002 by Secret Labs AB " 268)] 17,#[]⟩),
  (12,⟨.type "module",PD 11,.plain,#[]⟩),
  (13,⟨.type "dict",PF,.dict #[eQ P "__module__" 189 (sQ "_frozen_importlib" 186),eQ P "__firstlineno__" 190 (.int 971 187),eQ P "__doc__" 191 (.builtin "_frozen_importlib.BuiltinImporter.__doc__:str#opaque"),eQ P "_ORIGIN" 192 (sQ "built-in" 188),eQ P "find_spec" 193 (.builtin "_frozen_importlib.BuiltinImporter.find_spec#opaque"),eQ P "create_module" 194 (.builtin "_frozen_importlib.BuiltinImporter.create_module#opaque"),eQ P "exec_module" 195 (.builtin "_frozen_importlib.BuiltinImporter.exec_module#opaque"),eQ P "get_code" 196 (.builtin "_frozen_importlib.BuiltinImporter.get_code#opaque"),eQ P "get_source" 197 (.builtin "_frozen_importlib.BuiltinImporter.get_source#opaque"),eQ P "is_package" 198 (.builtin "_frozen_importlib.BuiltinImporter.is_package#opaque"),eQ P "load_module" 199 (.builtin "_frozen_importlib.BuiltinImporter.load_module#opaque"),eQ P "__static_attributes__" 200 (.ref 15),eQ P "__dict__" 202 (.ref 16),eQ P "__weakref__" 204 (.ref 17)] 14,#[]⟩),
  (14,⟨.type "type",PF,.cls { name:=aa "BuiltinImporter",bases:=[.type "object"],mro:=[.ref 14,.type "object"],ns:=13,qualname:=aa "BuiltinImporter" },#[]⟩),
  (15,tQ []),
  (16,⟨.type "getset_descriptor",PF,.fields #[sQ "__dict__" 201,.ref 14,.builtin "function.__dict__",.builtin "function.__dict__#set"],#[]⟩),
  (17,⟨.type "getset_descriptor",PF,.fields #[sQ "__weakref__" 203,.ref 14,.builtin "ExceptionGroup.__weakref__",.none],#[]⟩),
  (18,⟨.none,PF,.seq #[.int 13 0,uQ ["\x06½\n__module__\x06º\x11_frozen_importlib\x06¾\x0f__firstlineno_","_\x04»\x00ϋ\x06¿\x07__doc__\t4_frozen_importlib.BuiltinImporter",".__doc__:str#opaque\x06À\x07_ORIGIN\x06¼\x08built-in\x06Á\tfind_sp","ec\t2_frozen_importlib.BuiltinImporter.find_spec#op","aque\x06Â\x0dcreate_module\t6_frozen_importlib.BuiltinImp","orter.create_module#opaque\x06Ã\x0bexec_module\t4_frozen_","importlib.BuiltinImporter.exec_module#opaque\x06Ä\x08get","_code\t1_frozen_importlib.BuiltinImporter.get_code#","opaque\x06Å\nget_source\t3_frozen_importlib.BuiltinImpo","rter.get_source#opaque\x06Æ\nis_package\t3_frozen_impor","tlib.BuiltinImporter.is_package#opaque\x06Ç\x0bload_modu","le\t4_frozen_importlib.BuiltinImporter.load_module#","opaque\x06È\x15__static_attributes__\x04\x00\x00\x0f\x06Ê\x08__dict__\x04\x00\x00\x10\x06","Ì\x0b__weakref__\x04\x00\x00\x11"] 0,.bool PG,.bool PG,sQ "" 205,.int 21 0,uQ ["\x06ã\n__module__\x06Ù\x11_frozen_importlib\x06ä\x0f__firstlineno_","_\x04Ú\x00Ȳ\x06å\x07__doc__\t/_frozen_importlib.ModuleSpec.__do","c__:str#opaque\x06æ\x08__init__\t,_frozen_importlib.Modul","eSpec.__init__#opaque\x06ç\x08__repr__\t,_frozen_importli","b.ModuleSpec.__repr__#opaque\x06è\x06__eq__\t*_frozen_imp","ortlib.ModuleSpec.__eq__#opaque\x06é\x06cached\t*_frozen_","importlib.ModuleSpec.cached#opaque\x06ê\x06parent\t*_froz","en_importlib.ModuleSpec.parent#opaque\x06ë\x0chas_locati","on\t0_frozen_importlib.ModuleSpec.has_location#opaq","ue\x06ì\x15__static_attributes__\x04\x00\x00\x17\x06î\x08__dict__\x04\x00\x00\x18\x06ð\x0b__","weakref__\x04\x00\x00\x19\x06ñ\x08__hash__\x00"] 0,.bool PG,.bool PG,sQ "" 242] 1,#[]⟩),
  (19,⟨.type "list",PF,.seq #[],#[]⟩),
  (20,⟨.type "dict",PF,.dict #[eQ P "name" 208 (sQ "_sre" 207),eQ P "loader" 209 (.ref 14),eQ P "origin" 210 (sQ "built-in" 184),eQ P "loader_state" 211 .none,eQ P "submodule_search_locations" 212 .none,eQ P "_uninitialized_submodules" 213 (.ref 19),eQ P "_set_fileattr" 214 (.bool PH),eQ P "_cached" 215 .none,eQ P "_initializing" 243 (.bool PH)] 9,#[]⟩),
  (21,⟨.type "dict",PF,.dict #[eQ P "__module__" 227 (sQ "_frozen_importlib" 217),eQ P "__firstlineno__" 228 (.int 562 218),eQ P "__doc__" 229 (.builtin "_frozen_importlib.ModuleSpec.__doc__:str#opaque"),eQ P "__init__" 230 (.builtin "_frozen_importlib.ModuleSpec.__init__#opaque"),eQ P "__repr__" 231 (.builtin "_frozen_importlib.ModuleSpec.__repr__#opaque"),eQ P "__eq__" 232 (.builtin "_frozen_importlib.ModuleSpec.__eq__#opaque"),eQ P "cached" 233 (.builtin "_frozen_importlib.ModuleSpec.cached#opaque"),eQ P "parent" 234 (.builtin "_frozen_importlib.ModuleSpec.parent#opaque"),eQ P "has_location" 235 (.builtin "_frozen_importlib.ModuleSpec.has_location#opaque"),eQ P "__static_attributes__" 236 (.ref 23),eQ P "__dict__" 238 (.ref 24),eQ P "__weakref__" 240 (.ref 25),eQ P "__hash__" 241 .none] 13,#[]⟩),
  (22,⟨.type "type",PF,.cls { name:=aa "ModuleSpec",bases:=[.type "object"],mro:=[.ref 22,.type "object"],ns:=21,qualname:=aa "ModuleSpec" },#[]⟩),
  (23,tQ (vQ 219 ["_cached","_set_fileattr","_uninitialized_submodules","loader","loader_state","name","origin","submodule_search_locations"])),
  (24,⟨.type "getset_descriptor",PF,.fields #[sQ "__dict__" 237,.ref 22,.builtin "function.__dict__",.builtin "function.__dict__#set"],#[]⟩),
  (25,⟨.type "getset_descriptor",PF,.fields #[sQ "__weakref__" 239,.ref 22,.builtin "ExceptionGroup.__weakref__",.none],#[]⟩),
  (26,⟨.ref 22,PD 20,.plain,#[]⟩),
  (27,⟨.none,PF,.seq #[.int 11 0,.str ⟨#[6,247,8,95,95,110,97,109,101,95,95,6,246,4,95,115,114,101,6,248,7,95,95,100,111,99,95,95,0,6,250,11,95,95,112,97,99,107,97,103,101,95,95,6,249,0,6,251,10,95,95,108,111,97,100,101,114,95,95,4,0,0,14,6,252,8,95,95,115,112,101,99,95,95,4,0,0,26,6,253,7,99,111,109,112,105,108,101,9,12,95,115,114,101,46,99,111,109,112,105,108,101,6,254,8,116,101,109,112,108,97,116,101,9,13,95,115,114,101,46,116,101,109,112,108,97,116,101,6,255,11,103,101,116,99,111,100,101,115,105,122,101,9,16,95,115,114,101,46,103,101,116,99,111,100,101,115,105,122,101,6,256,13,97,115,99,105,105,95,105,115,99,97,115,101,100,9,18,95,115,114,101,46,97,115,99,105,105,95,105,115,99,97,115,101,100,6,257,15,117,110,105,99,111,100,101,95,105,115,99,97,115,101,100,9,20,95,115,114,101,46,117,110,105,99,111,100,101,95,105,115,99,97,115,101,100,6,258,13,97,115,99,105,105,95,116,111,108,111,119,101,114,9,18,95,115,114,101,46,97,115,99,105,105,95,116,111,108,111,119,101,114,6,259,15,117,110,105,99,111,100,101,95,116,111,108,111,119,101,114,9,20,95,115,114,101,46,117,110,105,99,111,100,101,95,116,111,108,111,119,101,114,6,261,5,77,65,71,73,67,4,260,0,20230612,6,263,8,67,79,68,69,83,73,90,69,4,262,0,4,6,265,9,77,65,88,82,69,80,69,65,84,4,264,0,4294967295,6,267,9,77,65,88,71,82,79,85,80,83,4,266,0,1073741823,6,269,9,99,111,112,121,114,105,103,104,116,6,268,53,32,83,82,69,32,50,46,50,46,50,32,67,111,112,121,114,105,103,104,116,32,40,99,41,32,49,57,57,55,45,50,48,48,50,32,98,121,32,83,101,99,114,101,116,32,76,97,98,115,32,65,66,32]⟩ 0,.bool PG,.bool PH,sQ "_sre" 271],#[]⟩),
  (28,tQ []),
  (29,xQ 72),
  (30,cQ [sQ "<module>" 277,sQ "<module>" 278,sQ "/claim/cut.py" 279,.int 1 0,.int 0 0,.int 0 0,.int 0 0,.int 0 0,.ref 28,.bool PH,.int 276 0,.ref 29,.none,.none,.none,.none,.int 280 0,.int 1 0,sQ "/claim/cut.py" 281]),
  (31,⟨.type "frame",PF,.plain,#[PD (.ref 30),PD (.ref 3),PD (.ref 3),PF,PD (sQ "__main__" 164),PF,PD (.ref 0)]⟩)]++(rG 32 (ib 1) "_wall" 285 ["k"]<|
  [kQ 37 "_wall" "_wall" 282 2 1 0 3 4,
  jv 38 (ib 1) "_wall" (sQ "__main__" 164) .none .none]++(rG 39 (ib 4) "_div2n1n" 296 ["a","b","n","pad","half_n","mask","b1","b2","q1","r","q2"]<|
  rG 46 (ib 5) "_div3n2n" 313 ["a12","a3","b","b1","b2","n","q","r"]<|
  [(53,tQ []),
  (54,nQ),
  (55,tQ (vQ 327 ["a","n"])),
  (56,tQ (vQ 329 ["n","a_digits","inner"])),
  yI 57 (ib 6) "_int2digits",
  (60,tQ []),
  (61,nQ),
  (62,tQ (vQ 338 ["digits","n"])),
  (63,tQ (vQ 340 ["digits","n","inner"])),
  yI 64 (ib 7) "_digits2int"]++(rG 67 (ib 8) "_divmod_pos" 349 ["a","b","n","a_digits","r","q_digits","a_digit","q_digit","q"]<|
  rG 74 (ib 9) "int_divmod" 364 ["a","b","q","r"]<|
  rG 81 (ib 14) "rgb_to_hls" 388 ["r","g","b","maxc","minc","sumc","rangec","l","s","rc","gc","bc","h"]<|
  rG 88 (ib 15) "hls_to_rgb" 407 ["h","l","s","m2","m1"]<|
  rG 95 (ib 16) "_v" 418 ["m1","m2","hue"]<|
  rG 102 (ib 17) "rgb_to_hsv" 427 ["r","g","b","maxc","minc","rangec","v","s","rc","gc","bc","h"]<|
  rG 109 (ib 18) "hsv_to_rgb" 445 ["h","s","v","i","f","p","q","t"]<|
  rG 116 (ib 20) "_iter_escaped_chars" 461 ["addr","pos","escape","ch"]<|
  rG 123 (ib 21) "_strip_quoted_realnames" 471 ["addr","start","open_pos","result","pos","ch"]<|
  rG 130 (ib 22) "_check_parenthesis" 483 ["addr","opens","pos","ch"]<|
  rG 137 (ib 23) "_pre_parse_validation" 493 ["email_header_fields","accepted_values","v"]<|
  [(144,⟨.type "list",PF,.seq #[.int 14 504,.int 14 505,.int 4 506,.int 1 507,.int 1 508,.int 9 509,.int 0 510,.int 4227896069 511,.int 939524097 512,.int 0 513,.int 0 514,.int 0 515,.int 0 516,.int 0 517,.int 0 518,.int 13 519,.int 11 520,.int 9 521,.int 0 522,.int 4227896069 523,.int 939524097 524,.int 0 525,.int 0 526,.int 0 527,.int 0 528,.int 0 529,.int 0 530,.int 1 531],#[]⟩),
  (145,⟨.type "dict",PF,.dict #[] 0,#[]⟩),
  (146,tQ [.none]),
  (149,⟨.type "list",PF,.seq #[.int 14 538,.int 10 539,.int 4 540,.int 1 541,.int 1 542,.int 22 543,.int 0 544,.int 31 545,.int 16 546,.int 127 547,.int 0 548,.int 13 549,.int 7 550,.int 22 551,.int 0 552,.int 31 553,.int 16 554,.int 127 555,.int 0 556,.int 1 557],#[]⟩),
  (150,⟨.type "dict",PF,.dict #[] 0,#[]⟩),
  (151,tQ [.none]),
  (154,⟨.type "list",PF,.seq #[.int 14 564,.int 14 565,.int 4 566,.int 1 567,.int 1 568,.int 9 569,.int 4294966783 570,.int 0 571,.int 0 572,.int 2147483648 573,.int 0 574,.int 0 575,.int 0 576,.int 0 577,.int 0 578,.int 13 579,.int 11 580,.int 9 581,.int 4294966783 582,.int 0 583,.int 0 584,.int 2147483648 585,.int 0 586,.int 0 587,.int 0 588,.int 0 589,.int 0 590,.int 1 591],#[]⟩),
  (155,⟨.type "dict",PF,.dict #[] 0,#[]⟩),
  (156,tQ [.none]),
  (159,tQ [.none,.int 1 595])]++(rG 160 (ib 28) "_formatparam" 599 ["param","value","quote"]<|
  [kQ 165 "_formatparam" "_formatparam" 596 219 3 0 3 6,
  jv 166 (ib 28) "_formatparam" (sQ "cpy313.wsgiref.headers" 499) (.ref 159) .none,
  (167,tQ []),
  (168,⟨.type "builtin_function_or_method",PF,.fields #[.builtin "type.__prepare__",.type "type"],#[]⟩),
  (169,⟨.type "dict",PF,.dict #[eQ P "__module__" 612 (sQ "cpy313.wsgiref.headers" 499),eQ P "__qualname__" 614 (sQ "Headers" 613),eQ P "__firstlineno__" 616 (.int 228 615),eQ P "__init__" 626 (.ref 181),eQ P "_convert_string_type" 636 (.ref 188),eQ P "__len__" 643 (.ref 195),eQ P "__setitem__" 652 (.ref 202),eQ P "__delitem__" 658 (.ref 207),eQ P "__getitem__" 666 (.ref 214),eQ P "__contains__" 674 (.ref 221),eQ P "get_all" 682 (.ref 228),eQ P "get" 693 (.ref 236),eQ P "keys" 699 (.ref 241),eQ P "values" 705 (.ref 246),eQ P "items" 712 (.ref 253),eQ P "__repr__" 719 (.ref 260),eQ P "__str__" 725 (.ref 265),eQ P "__bytes__" 732 (.ref 272),eQ P "setdefault" 742 (.ref 279),eQ P "add_header" 755 (.ref 286),eQ P "__static_attributes__" 757 (.ref 287)] 21,#[]⟩),
  (170,tQ []),
  (171,⟨.none,PF,.fields #[.int 230 0,.int 4 0,.ref 180,.int 240 0,.int 4 0,.ref 187,.int 248 0,.int 4 0,.ref 194,.int 251 0,.int 4 0,.ref 201,.int 255 0,.int 4 0,.ref 206,.int 259 0,.int 4 0,.ref 213,.int 262 0,.int 4 0,.ref 220,.int 265 0,.int 4 0,.ref 227,.int 268 0,.int 4 0,.ref 235,.int 275 0,.int 4 0,.ref 240,.int 278 0,.int 4 0,.ref 245,.int 281 0,.int 4 0,.ref 252,.int 284 0,.int 4 0,.ref 259,.int 287 0,.int 4 0,.ref 264,.int 290 0,.int 4 0,.ref 271,.int 293 0,.int 4 0,.ref 278,.int 301 0,.int 4 0,.ref 285],#[]⟩),
  (172,cQ [sQ "Headers" 607,sQ "Headers" 608,sQ "/claim/cut.py" 609,.int 228 0,.int 0 0,.int 0 0,.int 0 0,.int 0 0,.ref 170,.bool PH,.int 276 0,.ref 171,.none,.none,.none,.none,.int 610 0,.int 228 0,sQ "/claim/cut.py" 611]),
  (173,⟨.type "frame",PF,.plain,#[PD (.ref 172),PD (.ref 3),PD (.ref 169),PF,PD (sQ "cpy313.wsgiref.headers" 499),PF,PD (.ref 0)]⟩)]++(rG 175 (kI 0) "Headers.__init__" 620 ["self","headers","k","v"]<|
  rG 182 (kI 1) "Headers._convert_string_type" 630 ["self","value","name","regex"]<|
  rG 189 (kI 2) "Headers.__len__" 640 ["self"]<|
  [kQ 194 "__len__" "Headers.__len__" 637 248 1 0 3 4,
  jv 195 (kI 2) "Headers.__len__" (sQ "cpy313.wsgiref.headers" 499) .none .none]++(rG 196 (kI 3) "Headers.__setitem__" 647 ["self","name","val"]<|
  [(203,tQ []),
  (204,nQ),
  yI 205 (kI 4) "Headers.__delitem__"]++(rG 208 (kI 5) "Headers.__getitem__" 662 ["self","name"]<|
  [kQ 213 "__getitem__" "Headers.__getitem__" 659 259 2 0 3 5,
  jv 214 (kI 5) "Headers.__getitem__" (sQ "cpy313.wsgiref.headers" 499) .none .none]++(rG 215 (kI 6) "Headers.__contains__" 670 ["self","name"]<|
  [kQ 220 "__contains__" "Headers.__contains__" 667 262 2 0 3 5,
  jv 221 (kI 6) "Headers.__contains__" (sQ "cpy313.wsgiref.headers" 499) .none .none]++(rG 222 (kI 7) "Headers.get_all" 678 ["self","name"]<|
  [kQ 227 "get_all" "Headers.get_all" 675 265 2 0 3 5,
  jv 228 (kI 7) "Headers.get_all" (sQ "cpy313.wsgiref.headers" 499) .none .none]++(rG 230 (kI 8) "Headers.get" 686 ["self","name","default","k","v"]<|
  [(237,tQ []),
  (238,nQ),
  yI 239 (kI 9) "Headers.keys",
  k2 240 "keys" "Headers.keys" 694 275 1 0 3 3,
  jv 241 (kI 9) "Headers.keys" (sQ "cpy313.wsgiref.headers" 499) .none .none,
  (242,tQ []),
  (243,nQ),
  yI 244 (kI 10) "Headers.values",
  k2 245 "values" "Headers.values" 700 278 1 0 3 3,
  jv 246 (kI 10) "Headers.values" (sQ "cpy313.wsgiref.headers" 499) .none .none]++(rG 247 (kI 11) "Headers.items" 709 ["self"]<|
  [kQ 252 "items" "Headers.items" 706 281 1 0 3 4,
  jv 253 (kI 11) "Headers.items" (sQ "cpy313.wsgiref.headers" 499) .none .none]++(rG 254 (kI 12) "Headers.__repr__" 716 ["self"]<|
  [kQ 259 "__repr__" "Headers.__repr__" 713 284 1 0 3 4,
  jv 260 (kI 12) "Headers.__repr__" (sQ "cpy313.wsgiref.headers" 499) .none .none,
  (261,tQ []),
  (262,nQ),
  yI 263 (kI 13) "Headers.__str__",
  k2 264 "__str__" "Headers.__str__" 720 287 1 0 3 3,
  jv 265 (kI 13) "Headers.__str__" (sQ "cpy313.wsgiref.headers" 499) .none .none]++(rG 266 (kI 14) "Headers.__bytes__" 729 ["self"]<|
  [kQ 271 "__bytes__" "Headers.__bytes__" 726 290 1 0 3 4,
  jv 272 (kI 14) "Headers.__bytes__" (sQ "cpy313.wsgiref.headers" 499) .none .none]++(rG 273 (kI 15) "Headers.setdefault" 736 ["self","name","value","result"]<|
  rG 280 (kI 16) "Headers.add_header" 746 ["self","_name","_value","_params","parts","k","v"]<|
  [(287,tQ (vQ 756 ["_headers"])),
  (292,⟨.type "super",PF,.fields #[.ref 289,.ref 289,.ref 289],#[]⟩),
  (293,⟨.type "builtin_function_or_method",PF,.fields #[.builtin "object.__init_subclass__",.ref 289],#[]⟩),
  (294,tQ []),
  (295,nQ),
  yI 296 (ib 31) "_law_lifted",
  (299,tQ []),
  (300,nQ),
  yI 301 (ib 32) "_law_turned",
  (304,tQ []),
  (305,nQ),
  yI 306 (ib 33) "_law_place",
  (309,tQ []),
  (310,nQ),
  yI 311 (ib 34) "_law_read",
  (314,tQ []),
  (315,nQ),
  yI 316 (ib 35) "_law_own",
  (319,tQ []),
  (320,nQ),
  yI 321 (ib 36) "law"]))))))))))))))
noncomputable def mQ:Nat->wE->wE->List Obj
 | n+1,(a,x) :: l,(b,y) :: r=>bif fW a b then x :: mQ n l ((b,y) :: r) else y :: mQ n ((a,x) :: l) r
 | _,l,r=>l.map (·.2)++r.map (·.2)
def hQ (n m:Nat)(v:af)(k:Nat)(P:Cd):aL:=⟨((((mQ 324 (hd.heap_39 P) (rQ P)).take n).set 3 (oQ P m v)).set 29 (xQ k)).toArray,{}⟩
abbrev wQ (n m:Nat)(v:af)(k t:Nat)(w:aB)(os:lL):ai:=⟨hQ n m v k w.params,#[],{},t,os⟩
def hd.view_39:cj:={ pr9 with main:={ pr9.main with body:=[0,1,3,4,5,6,7,8,9,11,12,13,14,15,16,17,18,20,21,22,23,25,26,27,29,31,32,33,34,35,36].map (Jz pr9.main.body) } }
def FJ:List aS:=behindTheImports pr9
def Me:Env:={ scope:=pr9.main.scope,locals:=mainNs,globals:=mainNs,cells:=[],code:=.ref 30,frame:=PD 31 }
abbrev Ck:MZ:=.body FJ Me
noncomputable abbrev q9:Pos:=⟨0,0,0,0⟩
def E4 (a n:Nat):List aS:=(pr9.main.body.drop a).take n
abbrev K5 (w:aB)(n:Nat)(s:ai)(l:List aS)(p:Pos):=segRun treeTable pr9 w 28 (PD (.ref 6)) 1 n s (piecesOf l Me Ck p [topFrame q9])
theorem op9:∀ w:aB,(fencedOpening treeTable pr9 w 3708).map (λs=>(s.heap,s.gens,s.drawn,s.toks))=PD ((wQ 28 10 (sQ "__main__" 164) 0 276 w {}).heap,#[],{},276):=λw=>by kernel_rfl
theorem pe9 (w:aB)(os:lL):topGo treeTable pr9 w 28 (PD (.ref 6)) 12 (wQ 28 10 (sQ "__main__" 164) 0 276 w os) (topStub pr9)=PD (wQ 32 10 (sQ "__main__" 164) 0 282 w os,⟨denote treeTable Ck,Ck,q9,[topFrame q9]⟩):=by kernel_rfl
theorem bl9 (w:aB)(os:lL):segRun treeTable pr9 w 28 (PD (.ref 6)) 1 1 (wQ 32 10 (sQ "__main__" 164) 0 282 w os) (blockOf FJ Me Ck q9 [topFrame q9])=PD (.next,wQ 32 10 (sQ "__main__" 164) 0 282 w os,Ck,q9):=by kernel_rfl
theorem g09 (w:aB)(os:lL):K5 w 493 (wQ 32 10 (sQ "__main__" 164) 0 282 w os) (E4 1 18) q9=PD (.next,wQ 116 26 (sQ "cpy313.colorsys" 371) 36 456 w os,Ck,⟨144,0,164,24⟩):=by kernel_rfl
theorem g19 (w:aB)(os:lL):K5 w 404 (wQ 116 26 (sQ "cpy313.colorsys" 371) 36 456 w os) (E4 19 10) ⟨144,0,164,24⟩=PD (.next,wQ 167 34 (sQ "cpy313.wsgiref.headers" 499) 51 605 w os,Ck,⟨219,0,227,20⟩):=by kernel_rfl
theorem g29 (w:aB)(os:lL):K5 w 732 (wQ 167 34 (sQ "cpy313.wsgiref.headers" 499) 51 605 w os) (E4 29 1) ⟨219,0,227,20⟩=PD (.next,wQ 294 35 (sQ "cpy313.wsgiref.headers" 499) 54 765 w os,Ck,⟨228,0,313,93⟩):=by kernel_rfl
theorem g39 (w:aB)(os:lL):K5 w 166 (wQ 294 35 (sQ "cpy313.wsgiref.headers" 499) 54 765 w os) (E4 30 7) ⟨228,0,313,93⟩=PD (.next,wQ 324 41 (sQ "law_ta0123_01" 765) 72 803 w os,Ck,⟨376,0,412,16⟩):=by kernel_rfl
theorem fi9 (w:aB)(os:lL):topRun treeTable pr9 w 28 (PD (.ref 6)) 2 (wQ 324 41 (sQ "law_ta0123_01" 765) 72 803 w os) ⟨doneF .next,Ck,⟨376,0,412,16⟩,[topFrame q9]⟩=PD (wQ 324 41 (sQ "law_ta0123_01" 765) 72 803 w os):=by kernel_rfl
theorem sp9:FJ=E4 1 18++(E4 19 10++(E4 29 1++(E4 30 7++[]))):=by kernel_rfl
theorem rn9 (w:aB)(os:lL):topRun treeTable pr9 w 28 (PD (.ref 6)) (12+(1+(493+(404+(732+(166+2)))))) (wQ 28 10 (sQ "__main__" 164) 0 276 w os) (topStub pr9)=PD (wQ 324 41 (sQ "law_ta0123_01" 765) 72 803 w os):=
 go_top (pe9 w os) (piece_block (bl9 w os) (by rw[sp9]; exact(za (g09 w os) (za (g19 w os) (za (g29 w os) (za (g39 w os) (piece_nil (fi9 w os))))))))
noncomputable abbrev KO:=aH
abbrev tT:=KO.row
noncomputable abbrev Ir:List Str:=[aa "ONE_THIRD",aa "ONE_SIXTH",aa "TWO_THIRD",aa "tspecials",aa "_name_disallowed_re",aa "_value_disallowed_re",aa "_formatparam"]
abbrev H9:=kmHook hd.heap_39 [2,3,44,45,51,52,58,59,65,66,72,73,79,80,86,87,93,94,100,101,107,108,114,115,121,122,128,129,135,136,142,143,147,148,152,153,157,158,174,180,181,187,188,201,202,206,207,229,235,236,278,279,285,286,288,289,290,291,297,298,302,303,307,308,312,313,317,318,322,323] (λ_=>by kernel_rfl) [61,54]
theorem lk9 (w:aB):(λos=>((staticsOk (importedModules pr9.main.body) (wQ 28 10 (sQ "__main__" 164) 0 276 w os).heap (wQ 324 41 (sQ "law_ta0123_01" 765) 72 803 w os).heap&&namesBound pr9 (wQ 324 41 (sQ "law_ta0123_01" 765) 72 803 w os).heap&&gensDone (wQ 324 41 (sQ "law_ta0123_01" 765) 72 803 w os)&&laidKept (wQ 28 10 (sQ "__main__" 164) 0 276 w os).heap (wQ 324 41 (sQ "law_ta0123_01" 765) 72 803 w os).heap),
 openSeen hd.view_39 Ir (importedModules pr9.main.body) (λs=>recOk tT.toRowW.records s) PG (wQ 324 41 (sQ "law_ta0123_01" 765) 72 803 w os),Hook.obs H9 (wQ 324 41 (sQ "law_ta0123_01" 765) 72 803 w os)))=λU=>(PG,openGood hd.view_39 Ir,Hook.val H9 w):=by kernel_rfl
theorem lf9:LeftO tT.prog hd.view_39 Ir (λs=>recOk tT.toRowW.records s) (Hook.obs H9) (Hook.val H9) 3708:=
 LeftO.of_pieces (H₀:=λP=>hQ 28 10 (sQ "__main__" 164) 0 P) (H₁:=λP=>hQ 324 41 (sQ "law_ta0123_01" 765) 72 P) op9 (λw=>by kernel_rfl) rn9 (by decide +kernel) lk9
def dk9:DefRec:=Fa (ib 36)
theorem sd1:(sreFenced pr9.main&&((moduleNames pr9.main.body).isEmpty||lookedIntoSs (moduleNames pr9.main.body) pr9.main.body))=PG:=by kernel_rfl
theorem sd2:(namesResolve pr9)=PG:=by kernel_rfl
theorem sd3:(pr9.boundNames.all (λn=>!worldNames.contains n))=PG:=by kernel_rfl
theorem sd4:(noRoadLSs { strict:=!(importedModules pr9.main.body).all cThrough.contains,foot:=PF,bare:=(["vars","dir","locals"]:List Str).filter (readsOut pr9 pr9.main.body) } pr9.main.body)=PG:=by kernel_rfl
theorem sd5:(namesMeet pr9 pr9.main.body λU n=>attrL n)=PG:=by kernel_rfl
theorem sd6:looksOpen pr9=PG:=zb (zb (zb (zb sd1 sd2) sd3) sd4) sd5
theorem Na:tT.wellSaid=PG:=by
 unfold OpenRow.wellSaid OpenRow.partSaid;rw[show looksOpen tT.prog=PG from sd6]
 kernel_rfl
theorem sd8:KO.wellSaid=PG:=by
 unfold OpenLaw.wellSaid;rw[show OpenRow.wellSaid (OpenLaw.row KO)=PG from Na]
 kernel_rfl
theorem hd (call:WalkO hd.view_39 Ir (λU U=>True) H9.says tT.toRowW dk9 [] λf vs=>yZ f vs):KO.Holds:=
 holds_law sd8 λU=>holds_open (q:=hd.view_39) (Xt:=λs=>recOk tT.toRowW.records s) lf9 H9.of H9.keeps (λU U=>trivial) (λU U U U U=>trivial)
  (by kernel_rfl) (by kernel_rfl) (by kernel_rfl) (λU e=>recFacts_of e) (by kernel_rfl) Na (by kernel_rfl) ⟨rfl,rfl,rfl,rfl,rfl,by decide +kernel⟩ ⟨[.list []],by decide +kernel,by decide +kernel⟩ call
end Mine
end
section
open PySem PySem.W PySem.Calls PySem.Spec PyProof.Rows
namespace Mine
variable {α:Type}{o:Obj}{i n:Nat}{t u v:Tok}{x y z:Int}{pos:Pos}{h h':aL}{it l:aj}{c a b:af}{op:iu}{fp:List aj}{elts:List aw}{bt:Nat->Nat->Bool}{Q:Option af->ai->Prop}
def HdOk (hd:Option af)(h:aL):Prop:=∀ v,hd=PD v->∃ a o vs,v=.ref a/\h.get? a=PD o/\o.cls=.type "ZeroDivisionError"/\o.data=.fields vs/\vs[2]?=PD .none
theorem HdOk.keep {hd:Option af}(H:HdOk hd h)(k:∀ b o,h.get? b=PD o->h'.get? b=PD o):HdOk hd h':=λv e=>(H v e).elim λa z=>z.elim λo z=>z.elim λvs z=>⟨a,o,vs,z.1,k _ _ z.2.1,z.2.2⟩
noncomputable def hdL:Option af->List aj
 | some (.ref a)=>[a]
 | _=>[]
theorem HdOk.keepL {hd:Option af}(H:HdOk hd h)(k:∀ b∈hdL hd,∀ o,h.get? b=PD o->h'.get? b=PD o):HdOk hd h':=λv e=>by
 refine bU λG1 hG1=>?_;obtain⟨a,o,vs,e1,e2,r⟩:=H v e;refine hG1 ?_;refine⟨a,o,vs,e1,k a ?_ _ e2,r⟩;rw[e,e1]; exact .head _
theorem HdOk.ne {hd:Option af}(H:HdOk hd h){b:aj}(e:h.get? b=PD o)(hc:o.cls≠.type "ZeroDivisionError"):b∉hdL hd:=by
 intro hb;cases hd with
 | none=>cases hb
 | some v=>
  obtain⟨a,o',vs,e1,e2,ec,_⟩:=H v rfl;subst e1;rw[ay.mp hb,e2] at e;cases e; exact hc ec
theorem HdOk.at {hd:Option af}(H:HdOk hd h){b:aj}(hb:b∈hdL hd):∃ o,h.get? b=PD o:=by
 cases hd with
 | none=>cases hb
 | some v=>
  refine bU λG1 hG1=>?_;obtain⟨a,o',vs,e1,e2,_⟩:=H v rfl;subst e1;refine hG1 ?_;rw[ay.mp hb];exact⟨_,e2⟩
theorem HdOk.extBut {hd:Option af}(H:HdOk hd h)(e:h.get? it=PD o)(hc:o.cls≠.type "ZeroDivisionError")(k:cW it h h'):HdOk hd h':=
 H.keepL λb hb o' eo=>k b o' (λq=>H.ne e hc (q▸hb)) eo
theorem qZ:entryFor table "proto.unchain"=PD u6.«proto.unchain»:=entryFor_of_tree (by kernel_rfl)
section
variable {prog:cj}{w:aB}{A:be}{E:af->ai->Prop}{s:ai}
theorem stop_raise {Q:α->ai->Prop}(H:HdOk A.handled s.heap)
  (hE:∀ h' e,(∀ b o,s.heap.get? b=PD o->h'.get? b=PD o)->(∃ o,h'.get? e=PD o/\o.cls=.type "StopIteration")->E (.ref e) { s with heap:=h' }):
  wpAny (model prog w) A (newExc (.type "StopIteration") [] >>= λe=>raiseNew e) Q E s:=by
 refine ab ?_;simp only[newExc,newTuple];refine ab (bL ?_ (by size_fits));refine ab (m:=firstArgMember _ _) (iM (a:=ca) (by first | rfl | (simp only[firstArgMember]; rfl)) ?_);refine bL ?_ (by size_fits);simp only[raiseNew];refine ab (wpAny_handled ?_);have up:∀ (x y:Obj) b o,s.heap.get? b=PD o->((s.heap.push x).push y).get? b=PD o:=λx y b o e=>ag _ (ag _ e);generalize hX:A.handled=X at H⊢;cases X with
 | none=>
  refine ab (aD (Ew ?_));exact hE _ _ (up _ _) ⟨_,aE _ rfl,rfl⟩
 | some v=>
  refine bU λG1 hG1=>?_;obtain⟨a,o,vs,rfl,e2,ec,ed,e3⟩:=H v rfl
  have ne:∀ x,a≠(s.heap.push x).objs.size:=λx q=>by
   have:=aO e2;rw[q,bW] at this;exact bY _ (Oh this)
  have nv:(bl a != bl (s.heap.push { cls:=dL "tuple",data:=x9 #[] }).objs.size)=PG:=by
   rw[bne_iff_ne]; intro q; exact ne _ (qJ q)
  refine hG1 ?_;dsimp only;rw[if_pos nv];refine ab (bI (wpAny_runValue (codeAny_builtin qZ ?_)));rw[Around.under_plain (show(Code.builtin "proto.unchain" _).weight=0 from rfl) rfl];refine(?_:wpAny _ _ (field (.ref a) 2 >>= _) _ _ _);refine ab (bg (up _ _ _ _ e2) ed e3 ?_);refine aD ?_;dsimp only;generalize hn:(s.heap.push { cls:=dL "tuple",data:=x9 #[] }).objs.size=n;generalize hO:(#[bl s.heap.objs.size,ca,ca,ca,rq PH,ca]++ownMembersOf (dL "StopIteration") []:Array af)=O;have hsz:2<O.size:=by rw[<- hO]; exact eX (by decide:2<6) (by rw[Array.size_append]; exact a8 _ _)
  generalize hg:(s.heap.push { cls:=dL "tuple",data:=x9 #[] }).push { cls:=dL "StopIteration",data:=Data.fields O }=g;have eg:g.get? n=PD { cls:=dL "StopIteration",data:=Data.fields O }:=by rw[<- hg,<- hn]; exact aE _ rfl
  refine ab ?_;unfold updateField;refine ab (Id eg ?_);dsimp only;rw[if_pos hsz];refine wpAny_update eg (Ew ?_);refine hE _ _ (λb o' e=>?_) ⟨_,df _ eg (kZ (jc rfl _)),Obj.cls_mapFields _ _⟩
  have hb:n≠b:=λq=>by
   have h1:=aO e;rw[<- q,<- hn,bW] at h1;exact bY _ (Oh h1)
  rw[eU _ _ hb,<- hg];exact up _ _ _ _ e
end
section
variable {prog:cj}{w:aB}{A:be}{E:af->ai->Prop}{s:ai}
abbrev sW (h:aL)(e:aj):Prop:=∃ o,h.get? e=PD o/\o.cls=.type "StopIteration"
theorem mj {t:String}(h:t≠"ZeroDivisionError")(e:c=.type t):c≠.type "ZeroDivisionError":=by
 rw[e]; intro q; exact h (dL.inj q)
theorem gH {e:aj}(x:cW it s.heap h')(he:sW h' e)(hQ:∀ h',cW it s.heap h'->Q PF { s with heap:=h' }){E':af->ai->Prop}{k:Bool->Sem (Option af)}(hk:k PG=pure PF):
  wpAny (model prog w) A (isInstance (.ref e) (.type "StopIteration") >>= k) Q E' { s with heap:=h' }:=by
 refine bU λG1 hG1=>?_;obtain⟨o,ho,hc⟩:=he;refine hG1 ?_;refine ab (ty (T:="StopIteration") (b:=PG) ⟨o,ho,hc⟩ wu ?_);rw[hk];exact aD (hQ _ x)
theorem iE {l:aj}{i:Nat}{items:Array af}{Q:α->ai->Prop}{f:Obj->Obj}(H:HdOk A.handled s.heap)(ho:s.heap.get? it=PD o)(hc:o.cls≠.type "ZeroDivisionError")
  (hE:∀ h' e,cW it s.heap h'->sW h' e->E (.ref e) { s with heap:=h' }):
  wpAny (model prog w) A (newExc (.type "StopIteration") [] >>= λe=>raiseNew e) Q E { s with heap:=s.heap.update it f }:=
 stop_raise (H.extBut ho hc (fw ..).extBut) λh' e k he=>hE h' e (λb o' hb eo=>k _ _ ((fw ..).extBut b o' hb eo)) he
theorem mS {items:Array af}{Q:af->ai->Prop}(H:HdOk A.handled s.heap)
  (hit:s.heap.IsListIter it l i) (hl:s.heap.IsList l items) (hx:items[i]?=PF) (hE:∀ h' e,cW it s.heap h'->sW h' e->E (.ref e) { s with heap:=h' }):
  wpAny (model prog w) A (cf (.ref it)) Q E s:=by
 refine bU λG1 hG1=>?_;obtain⟨o,ho,hc,hd⟩:=id hit;obtain⟨ol,hol,_,nl,hdl⟩:=hl;refine hG1 ?_;unfold cf;refine ab (bA (name:=aa "__next__") hit.typeIs jO (bZ jO hit.typeIs entry_listiter_next ?_ (args_listiter_next _)));refine(?_:wpAny _ _ (field (.ref it) 0 >>= _) _ _ s);refine ab (bg ho hd (x:=.ref l) rfl ?_);refine(?_:wpAny _ _ (if(bl l == ca)=PG then _ else _) _ _ s);rw[if_neg (show ¬ ((bl l == ca)=PG) from aP)];refine(?_:wpAny _ _ (field (.ref it) 1 >>= _) _ _ s);refine ab (bg ho hd (x:=.int i 0) rfl ?_);refine(?_:wpAny _ _ (seqItems? (.ref l) >>= _) _ _ s);refine ab (dc hol hdl ?_);simp only[fF,hx];refine ab (eF (ab (eW ho hd (by simp) ?_)));exact iE (A:=A.in1) (l:=l) (i:=i) (items:=items) H ho (mj (by decide) hc) hE
theorem jh {items:Array af}(H:HdOk A.handled s.heap)
  (hit:s.heap.IsListIter it l i) (hl:s.heap.IsList l items) (hx:items[i]?=PF) (hQ:∀ h',cW it s.heap h'->Q PF { s with heap:=h' }):wpAny (model prog w) A (pyNext (.ref it)) Q E s:=by
 refine bU λG1 hG1=>?_;obtain⟨o,ho,hc,hd⟩:=id hit;obtain⟨ol,hol,_,nl,hdl⟩:=hl;refine hG1 ?_;unfold pyNext;refine ab (fK (bA (name:=aa "__next__") hit.typeIs jO (bZ jO hit.typeIs entry_listiter_next ?_ (args_listiter_next _))));refine(?_:wpAny _ _ (field (.ref it) 0 >>= _) _ _ s);refine ab (bg ho hd (x:=.ref l) rfl ?_);refine(?_:wpAny _ _ (if(bl l == ca)=PG then _ else _) _ _ s);rw[if_neg (show ¬ ((bl l == ca)=PG) from aP)];refine(?_:wpAny _ _ (field (.ref it) 1 >>= _) _ _ s);refine ab (bg ho hd (x:=.int i 0) rfl ?_);refine(?_:wpAny _ _ (seqItems? (.ref l) >>= _) _ _ s);refine ab (dc hol hdl ?_);simp only[fF,hx];refine ab (eF (ab (eW ho hd (by simp) ?_)));exact iE (A:=A.in1) (l:=l) (i:=i) (items:=items) H ho (mj (by decide) hc) λh' e x he=>gH x he hQ rfl
theorem iR {items:Array af}(H:HdOk A.handled s.heap)
  (hit:s.heap.IsTupleIter it l i) (hl:s.heap.IsTuple l items) (hx:items[i]?=PF) (hQ:∀ h',cW it s.heap h'->Q PF { s with heap:=h' }):wpAny (model prog w) A (pyNext (.ref it)) Q E s:=by
 refine bU λG1 hG1=>?_;obtain⟨o,ho,hc,hd⟩:=id hit;obtain⟨ol,hol,_,nl,hdl⟩:=hl;refine hG1 ?_;unfold pyNext;refine ab (fK (bA (name:=aa "__next__") hit.typeIs F.slot_tuple_iterator_next (bZ F.slot_tuple_iterator_next hit.typeIs F.entry_tuple_iterator_next ?_ (F.args_tuple_iterator_next_1 _))));refine(?_:wpAny _ _ (field (.ref it) 0 >>= _) _ _ s);refine ab (bg ho hd (x:=.ref l) rfl ?_);refine(?_:wpAny _ _ (if(bl l == ca)=PG then _ else _) _ _ s);rw[if_neg (show ¬ ((bl l == ca)=PG) from aP)];refine(?_:wpAny _ _ (field (.ref it) 1 >>= _) _ _ s);refine ab (bg ho hd (x:=.int i 0) rfl ?_);refine(?_:wpAny _ _ (seqItems? (.ref l) >>= _) _ _ s);refine ab (dc hol hdl ?_);simp only[fF,hx];refine ab (eF (ab (eW ho hd (by simp) ?_)));exact iE (A:=A.in1) (l:=l) (i:=i) (items:=items) H ho (mj (by decide) hc) λh' e x he=>gH x he hQ rfl
theorem me {x:Str}(H:HdOk A.handled s.heap)
  (hit:s.heap.IsStrIter it "str_ascii_iterator" x t i) (hx:x.cps[i]?=PF) (hQ:∀ h',cW it s.heap h'->Q PF { s with heap:=h' }):wpAny (model prog w) A (pyNext (.ref it)) Q E s:=by
 refine bU λG1 hG1=>?_;obtain⟨o,ho,hc,hd⟩:=id hit;refine hG1 ?_;unfold pyNext;refine ab (fK (bA (name:=aa "__next__") hit.typeIs eS (bZ eS hit.typeIs F.entry_str_ascii_iterator_next ?_ (F.args_str_ascii_iterator_next_1 _))));refine(?_:wpAny _ _ (field (.ref it) 0 >>= _) _ _ s);refine ab (bg ho hd (x:=.str x t) rfl ?_);refine(?_:wpAny _ _ (field (.ref it) 1 >>= _) _ _ s);refine ab (bg ho hd (x:=.int i 0) rfl ?_);simp only[fF,hx];refine ab (eF (ab (eW ho hd (by simp) (ab (nf ?_)))));exact iE (A:=A.in1) (l:=it) (i:=i) (items:=#[]) H ho (mj (by decide) hc) λh' e x he=>gH x he hQ rfl
theorem ml {x:Str}{Q:af->ai->Prop}(H:HdOk A.handled s.heap)
  (hit:s.heap.IsStrIter it "str_ascii_iterator" x t i) (hx:x.cps[i]?=PF) (hE:∀ h' e,cW it s.heap h'->sW h' e->E (.ref e) { s with heap:=h' }):
  wpAny (model prog w) A (cf (.ref it)) Q E s:=by
 refine bU λG1 hG1=>?_;obtain⟨o,ho,hc,hd⟩:=id hit;refine hG1 ?_;unfold cf;refine ab (bA (name:=aa "__next__") hit.typeIs eS (bZ eS hit.typeIs F.entry_str_ascii_iterator_next ?_ (F.args_str_ascii_iterator_next_1 _)));refine(?_:wpAny _ _ (field (.ref it) 0 >>= _) _ _ s);refine ab (bg ho hd (x:=.str x t) rfl ?_);refine(?_:wpAny _ _ (field (.ref it) 1 >>= _) _ _ s);refine ab (bg ho hd (x:=.int i 0) rfl ?_);simp only[fF,hx];refine ab (eF (ab (eW ho hd (by simp) (ab (nf ?_)))));exact iE (A:=A.in1) (l:=it) (i:=i) (items:=#[]) H ho (mj (by decide) hc) hE
theorem md {left step:Int}(H:HdOk A.handled s.heap)(hit:IsRangeIter s.heap it x left step)(hleft:left<=0)
  (hQ:∀ h',cW it s.heap h'->Q PF { s with heap:=h' }):wpAny (model prog w) A (pyNext (.ref it)) Q E s:=by
 have hT:s.TypeIs (.ref it) "range_iterator":=⟨_,hit,rfl⟩;unfold pyNext;refine ab (fK (bA (name:=aa "__next__") hT F.slot_range_iterator_next (bZ F.slot_range_iterator_next hT F.entry_range_iterator_next ?_ (F.args_range_iterator_next_1 _))));refine(?_:wpAny _ _ (field (.ref it) 0 >>= _) _ _ s);refine ab (bg hit rfl (x:=rawInt x) rfl ?_);refine(?_:wpAny _ _ (field (.ref it) 1 >>= _) _ _ s);refine ab (bg hit rfl (x:=rawInt left) rfl ?_);refine(?_:wpAny _ _ (field (.ref it) 2 >>= _) _ _ s);refine ab (bg hit rfl (x:=rawInt step) rfl ?_);refine(?_:wpAny _ _ (if left<=0 then _ else _) _ _ s);rw[if_pos hleft];refine ab (eF ?_);refine ab ?_;exact stop_raise (A:=A.in1) H λh' e k he=>gH (λb o U eo=>k b o eo) he hQ rfl
theorem nR (H:HdOk A.handled s.heap)(hit:s.heap.IsRevIter it l (-1))
  (hQ:∀ h',cW it s.heap h'->Q PF { s with heap:=h' }):wpAny (model prog w) A (pyNext (.ref it)) Q E s:=by
 refine bU λG1 hG1=>?_;obtain⟨o,ho,hc,hd⟩:=id hit;refine hG1 ?_;unfold pyNext;refine ab (fK (bA (name:=aa "__next__") hit.typeIs F.slot_lri_next (bZ F.slot_lri_next hit.typeIs F.entry_lri_next ?_ (F.args_lri_next_1 _))));unfold u6.«list_reverseiterator.__next__»;refine ab (iM (a:=(bl it,[])) rfl ?_)
 try dsimp only
 refine ab (bg ho hd (x:=rawInt (-1)) rfl ?_);refine(?_:wpAny _ _ (if(-1:Int)<0 then _ else _) _ _ s);rw[if_pos (by decide)];refine ab (eF ?_)
 first
 | exact stop_raise (A:=A.in1) H λh' e k he=>gH (λb o U eo=>k b o eo) he hQ rfl
 | (refine ab ?_; exact stop_raise (A:=A.in1) H λh' e k he=>gH (λb o U eo=>k b o eo) he hQ rfl)
end
section
variable {prog:cj}{w:aB}{A:be}
theorem oK {I:aj}{P:Nat->af->Prop}{St:Nat->aL->Prop}(hI:I∈fp)
  (frame:∀ i h h',St i h->(∀ b∈fp,∀ o,h.get? b=PD o->h'.get? b=PD o)->St i h')
  (item:∀ i (s:ai) (Q:Option af->ai->Prop) (E:af->ai->Prop),i<n->St i s.heap->
   (∀ v h' tk,P i v->St (i+1) h'->cW I s.heap h'->Q (PD v) { s with heap:=h',toks:=tk })->wpAny (model prog w) A (pyNext (.ref I)) Q E s)
  (done:∀ (s:ai) (Q:Option af->ai->Prop) (E:af->ai->Prop),St n s.heap->HdOk A.handled s.heap->(∀ h',cW I s.heap h'->Q PF { s with heap:=h' })->wpAny (model prog w) A (pyNext (.ref I)) Q E s)
  (self:∀ i (s:ai) (Q:af->ai->Prop) (E:af->ai->Prop),St i s.heap->Q (.ref I) s->wpAny (model prog w) A (pyIter (.ref I)) Q E s)
  (cls:∀ i h,St i h->∃ o,h.get? I=PD o/\o.cls≠.type "ZeroDivisionError"):
  tF prog w A I (fp++hdL A.handled) [I] n P (λi h=>St i h/\HdOk A.handled h) where
 sub:=λb hb=>by rw[ay.mp hb]; exact bP _ hI
 frame:=λi h h' st hk=>⟨frame i h h' st.1 λb hb=>hk b (bP _ hb),st.2.keepL λb hb=>hk b (aN _ hb)⟩
 item:=λi s Q E hi st hQ=>item i s Q E hi st.1 λv h' tk hP st' hx=>by
  obtain⟨o,ho,hc⟩:=cls i _ st.1;exact hQ v h' tk hP ⟨st',st.2.extBut ho hc hx⟩ λb o' hb eo=>hx b o' (λq=>hb (by rw[q]; exact .head _)) eo
 done:=λs Q E st hQ=>done s Q E st.1 st.2 λh' hx=>hQ h' s.toks λb o' hb eo=>hx b o' (λq=>hb (by rw[q]; exact .head _)) eo
 self:=λi s Q E st h=>self i s Q E st.1 h
theorem j3 (I ax:aj)(hne:ax≠I)(items:Array af):
  tF prog w A I ([I,ax]++hdL A.handled) [I] items.size (λi v=>items[i]?=PD v) (λi h=>(h.IsListIter I ax i/\h.IsList ax items)/\HdOk A.handled h):=by
 refine oK (.head _) (λU U U st hk=>⟨st.1.at λo e=>hk I (by simp) o e,st.2.at λo e=>hk ax (by simp) o e⟩) (λi s Q E hi st hQ=>?_) (λs Q E st H hQ=>jh H st.1 st.2 (by simp) hQ)
  (λU U U U st hQ=>wpAny_pyIter_listiter st.1 hQ) (λi h st=>?_)
 ·refine wpAny_pyNext_list_item st.1 st.2 (x:=items[i]) (by simp[hi]) λh' hit' hs'=>?_;exact hQ _ h' s.toks (by simp[hi]) ⟨hit',st.2.extBut hs'.extBut hne⟩ hs'.extBut
 ·obtain⟨o,ho,hc,_⟩:=st.1; exact⟨o,ho,mj (by decide) hc⟩
theorem lX (I ax:aj)(hne:ax≠I)(items:Array af):
  tF prog w A I ([I,ax]++hdL A.handled) [I] items.size (λi v=>items[i]?=PD v) (λi h=>(h.IsTupleIter I ax i/\h.IsTuple ax items)/\HdOk A.handled h):=by
 refine oK (.head _) (λU U U st hk=>⟨st.1.at λo e=>hk I (by simp) o e,st.2.at λo e=>hk ax (by simp) o e⟩) (λi s Q E hi st hQ=>?_) (λs Q E st H hQ=>iR H st.1 st.2 (by simp) hQ)
  (λU U U U st hQ=>wpAny_pyIter_tupleiter st.1 hQ) (λi h st=>?_)
 ·refine wpAny_pyNext_tuple_item st.1 st.2 (x:=items[i]) (by simp[hi]) λh' hit' hs'=>?_;exact hQ _ h' s.toks (by simp[hi]) ⟨hit',st.2.extBut hs'.extBut hne⟩ hs'.extBut
 ·obtain⟨o,ho,hc,_⟩:=st.1; exact⟨o,ho,mj (by decide) hc⟩
theorem u9 (I:aj)(x:Str)(t:Tok):
  tF prog w A I ([I]++hdL A.handled) [I] x.cps.size (SignAt x) (λi h=>h.IsStrIter I "str_ascii_iterator" x t i/\HdOk A.handled h):=by
 refine oK (.head _) (λU U U st hk=>let ⟨o,ho,r⟩:=st; ⟨o,hk I (by simp) o ho,r⟩) (λi s Q E hi st hQ=>?_) (λs Q E st H hQ=>me H st (by simp) hQ)
  (λU U U U st hQ=>wpAny_pyIter_striter_ascii st hQ) (λi h st=>?_)
 ·refine wpAny_pyNext_ascii_item st (c:=x.cps[i]) (by simp[hi]) λh' hit' hs'=>?_;exact hQ _ h' (s.toks+1) ⟨_,_,by simp[hi],rfl⟩ hit' hs'.extBut
 ·obtain⟨o,ho,hc,_⟩:=st; exact⟨o,ho,mj (by decide) hc⟩
theorem sm (I:aj)(a c:Int)(n:Nat):
  tF prog w A I ([I]++hdL A.handled) [I] n (λi v=>∃ t,v=.int (a+i*c) t) (λi h=>IsRangeIter h I (a+(i:Nat)*c) ((n:Int) - (i:Nat)) c/\HdOk A.handled h):=by
 refine oK (.head _) (λU U U st hk=>hk I (by simp) _ st) (λi s Q E hi st hQ=>?_) (λs Q E st H hQ=>md H st (by lia) hQ)
  (λU U U U st hQ=>wpAny_pyIter_rangeiter st hQ) (λi h st=>?_)
 ·refine wpAny_pyNext_range_item st (Int.sub_pos_of_lt (n9.mpr hi)) λh' hit' hs'=>?_;refine hQ _ h' _ ⟨_,rfl⟩ ?_ hs'.extBut;have e1:a+((i+1:Nat):Int)*c=a+(i:Int)*c+c:=by push_cast; rw[OB,Oz,mK]
  have e2:(n:Int) - ((i+1:Nat):Int)=(n:Int) - (i:Int) - 1:=(N7 (n:Int) i 1).symm;rw[e1,e2]; exact hit'
 ·exact⟨_,st,mj (by decide) rfl⟩
theorem va (I l:aj)(hne:l≠I)(items:Array af):
  tF prog w A I ([I,l]++hdL A.handled) [I] items.size (λi v=>items[items.size - 1 - i]?=PD v) (λi h=>(i<=items.size/\h.IsRevIter I l ((items.size:Int) - 1 - (i:Int))/\h.IsList l items)/\HdOk A.handled h):=by
 refine oK (.head _) (λU U U x hk=>⟨x.1,x.2.1.at λo e=>hk I (by simp) o e,x.2.2.at λo e=>hk l (by simp) o e⟩) (λi s Q E hi x hQ=>?_) (λs Q E x H hQ=>?_)
  (λU U U U x hQ=>nc x.2.1 hQ) (λi h x=>?_)
 ·have e:(items.size:Int) - 1 - (i:Int)=((items.size - 1 - i:Nat):Int):=OZ hi;have hit:=x.2.1;rw[e] at hit;have hx:items[items.size - 1 - i]?=PD (items[items.size - 1 - i]'(revB hi)):=Array.getElem?_eq_getElem (revB hi);refine wpAny_pyNext_rev_item hit x.2.2 hx λh' hit' hs'=>?_;have e2:((items.size - 1 - i:Nat):Int) - 1=(items.size:Int) - 1 - ((i+1:Nat):Int):=(congrArg (· - 1) e.symm).trans (N7 ((items.size:Int) - 1) i 1);rw[e2] at hit';exact hQ _ h' s.toks hx ⟨hi,hit',x.2.2.at λo eo=>(hs'.2 l hne).trans eo⟩ hs'.extBut
 ·have e:(items.size:Int) - 1 - (items.size:Int)=-1:=by rw[N7,N1,<- N7,wC]; rfl
  have hit:=x.2.1;rw[e] at hit;exact nR (l:=l) H hit hQ
 ·obtain⟨o,ho,hc,_⟩:=x.2.1; exact⟨o,ho,mj (by decide) hc⟩
theorem iU (it l:aj)(hne:l≠it)(items:Array af):
  wF prog w A it ([it,l]++hdL A.handled) items.size (λi v=>items[i]?=PD v) (λi h=>(h.IsListIter it l i/\h.IsList l items)/\HdOk A.handled h) where
 live:=λU U st=>let ⟨o,ho,_⟩:=st.1.1; ⟨o,ho⟩
 frame:=λU U U st hk=>⟨⟨st.1.1.at λo e=>hk it (by simp) o e,st.1.2.at λo e=>hk l (by simp) o e⟩,st.2.keepL λb hb=>hk b (aN _ hb)⟩
 item:=λi s Q E hi st hQ=>by
  refine wpAny_nextOf_list_item st.1.1 st.1.2 (x:=items[i]) (by simp[hi]) λh' hit' hs'=>?_;obtain⟨o,ho,hc,_⟩:=st.1.1;exact hQ _ h' s.toks (by simp[hi]) ⟨⟨hit',st.1.2.extBut hs'.extBut hne⟩,st.2.extBut ho (mj (by decide) hc) hs'.extBut⟩ hs'
 done:=λs Q E st hE=>mS st.2 st.1.1 st.1.2 (by simp) hE
end
noncomputable def Cj (x y:UInt64):Bool:=bS x y == PD .lt
def fmax3 (x y z:UInt64):UInt64:=if Cj x y then(if Cj y z then z else y) else(if Cj x z then z else x)
def fmin3 (x y z:UInt64):UInt64:=if Cj y x then(if Cj z y then z else y) else(if Cj z x then z else x)
section
variable {prog:cj}{w:aB}{A:be}{E:af->ai->Prop}{s:ai}{Q:af->ai->Prop}
theorem Kt (a b c:α)(bt:Nat->Nat->Bool):#[a,b,c][argBest bt 2]?=PD (if bt 1 0 then(if bt 2 1 then c else b) else(if bt 2 0 then c else a)):=by
 show #[a,b,c][if bt 2 (if bt 1 0 then 1 else 0) then 2 else(if bt 1 0 then 1 else 0)]?=_;cases bt 1 0
 ·show #[a,b,c][if bt 2 0 then 2 else 0]?=PD (if bt 2 0 then c else a); cases bt 2 0<;>rfl
 ·show #[a,b,c][if bt 2 1 then 2 else 1]?=PD (if bt 2 1 then c else b); cases bt 2 1<;>rfl
theorem BX {s₂:ai}{I:aj}{St:Nat->aL->Prop}(W:tF prog w A.in1 I fp [I] 3 (λi v=>#[a,b,c][i]?=PD v) St)(s0:St 0 s₂.heap)(hfp:∀ b∈fp,b<s₂.heap.objs.size)(C:Iy prog w A.in1 op (λi v=>#[a,b,c][i]?=PD v) bt)
  (h:∀ h' tk,(∀ b o,b≠I->s₂.heap.get? b=PD o->h'.get? b=PD o)->Q (if bt 1 0 then(if bt 2 1 then c else b) else(if bt 2 0 then c else a)) { s₂ with heap:=h',toks:=tk }):
  ∃ I' fp wr n P St bt,bl I=.ref I'/\tF prog w A.in1 I' fp wr n P St/\St 0 s₂.heap/\(∀ b∈fp,b<s₂.heap.objs.size)/\0<n/\Iy prog w A.in1 op P bt/\∀ v h' tk,P (argBest bt (n - 1)) v->(∀ b o,b∉wr->s₂.heap.get? b=PD o->h'.get? b=PD o)->Q v { s₂ with heap:=h',toks:=tk }:=
 ⟨I,fp,[I],3,_,St,bt,rfl,W,s0,hfp,by decide,C,λv h' tk hP hk=>ac ((Kt a b c bt).symm.trans hP)▸h h' tk λb o hb e=>hk b o (λhm=>hb (ay.mp hm)) e⟩
theorem wM (hh:HdOk A.handled s.heap)(C:Iy prog w A.in1 op (λi v=>#[a,b,c][i]?=PD v) bt)
  (h:∀ h' tk,(∀ c o,s.heap.get? c=PD o->h'.get? c=PD o)->Q (if bt 1 0 then(if bt 2 1 then c else b) else(if bt 2 0 then c else a)) { s with heap:=h',toks:=tk }):
  wpAny (model prog w) A.in1 (pyIter (.ref s.heap.objs.size)) (λit s₂=>∃ I fp wr n P St bt,it=.ref I/\tF prog w A.in1 I fp wr n P St/\St 0 s₂.heap/\(∀ b∈fp,b<s₂.heap.objs.size)/\0<n/\Iy prog w A.in1 op P bt/\∀ v h' tk,P (argBest bt (n - 1)) v->(∀ b o,b∉wr->s₂.heap.get? b=PD o->h'.get? b=PD o)->Q v { s₂ with heap:=h',toks:=tk }) E
   { s with heap:=s.heap.push { cls:=.type "tuple",data:=.seq #[a,b,c] } }:=by
 have hT:(s.heap.push { cls:=.type "tuple",data:=.seq #[a,b,c] }).IsTuple s.heap.objs.size #[a,b,c]:=⟨_,aE _ rfl,rfl,0,rfl⟩;have hsz:(s.heap.push { cls:=.type "tuple",data:=.seq #[a,b,c] }).objs.size=s.heap.objs.size+1:=bW ..;have l1:s.heap.objs.size<s.heap.objs.size+1+1:=bF (cC _)
 refine qC hT (BX (lX (A:=A.in1) _ s.heap.objs.size (by rw[hsz]; exact aY (cC _)) #[a,b,c]) ⟨⟨⟨_,aE _ rfl,rfl,rfl⟩,hT.push _⟩,hh.keep λb o e=>ag _ (ag _ e)⟩ ?_ C
  λh' tk hk=>h h' tk λd o e=>hk d o (aY (by rw[hsz]; exact bF (aO e))) (ag _ (ag _ e)))
 refine λd hd=>(?_:d<((s.heap.push _).push _).objs.size);rw[bW,hsz];exact(bf.mp hd).elim (λhd=>(aQ.mp hd).elim (λe=>by rw[e,hsz]; exact cC _) λhd=>ay.mp hd▸l1) λhd=>(hh.at hd).elim λo e=>bF (bF (aO e))
theorem Jd (ha:iq a)(hb:iq b)(hc:iq c):∀ v∈#[a,b,c],iq v:=λv hv=>(aQ.mp (Array.mem_toList_iff.mpr hv)).elim (λe=>e▸ha) λhv=>(aQ.mp hv).elim (λe=>e▸hb) λhv=>ay.mp hv▸hc
theorem Av (hh:HdOk A.handled s.heap)(ha:iq a)(hb:iq b)(hc:iq c)
  (h:∀ h' tk,(∀ c o,s.heap.get? c=PD o->h'.get? c=PD o)->Q (if sj a b then(if sj b c then c else b) else(if sj a c then c else a)) { s with heap:=h',toks:=tk }):
  wpAny (model prog w) A (call (.builtin "max") [a,b,c]) Q E s:=call_max_three (wM hh (Flt.cmpOf_gt #[a,b,c] (Jd ha hb hc)) h)
theorem An (hh:HdOk A.handled s.heap)(ha:iq a)(hb:iq b)(hc:iq c)
  (h:∀ h' tk,(∀ c o,s.heap.get? c=PD o->h'.get? c=PD o)->Q (if sj b a then(if sj c b then c else b) else(if sj c a then c else a)) { s with heap:=h',toks:=tk }):
  wpAny (model prog w) A (call (.builtin "min") [a,b,c]) Q E s:=call_min_three (wM hh (Flt.cmpOf_lt #[a,b,c] (Jd ha hb hc)) h)
variable {h₀:aL}{L:aj}{m:Str->Option af}{news:List (aj×Obj)}
theorem ID {w':af}(e:(#[.int x t,.int y u,.int z v]:Array af)[i]?=PD w'):∃ t',w'=.int ([x,y,z].getD i 0) t':=by
 match i,e with
 | 0,e=>cases e; exact⟨_,rfl⟩
 | 1,e=>cases e; exact⟨_,rfl⟩
 | 2,e=>cases e; exact⟨_,rfl⟩
 | k+3,e=>simp at e
theorem xx (hh:HdOk A.handled s.heap)(hL:s.heap.IsList l #[a,b,c])(C:Iy prog w A.in1 op (λi v=>#[a,b,c][i]?=PD v) bt)
  (h:∀ h' tk,(∀ c o,s.heap.get? c=PD o->h'.get? c=PD o)->Q (if bt 1 0 then(if bt 2 1 then c else b) else(if bt 2 0 then c else a)) { s with heap:=h',toks:=tk }):
  wpAny (model prog w) A.in1 (pyIter (.ref l)) (λit s₂=>∃ I fp wr n P St bt,it=.ref I/\tF prog w A.in1 I fp wr n P St/\St 0 s₂.heap/\(∀ b∈fp,b<s₂.heap.objs.size)/\0<n/\Iy prog w A.in1 op P bt/\∀ v h' tk,P (argBest bt (n - 1)) v->(∀ b o,b∉wr->s₂.heap.get? b=PD o->h'.get? b=PD o)->Q v { s₂ with heap:=h',toks:=tk }) E s:=
 have hlt:l<s.heap.objs.size:=hL.elim λU z=>aO z.1
 gV hL (BX (j3 (A:=A.in1) _ l (aY hlt) #[a,b,c]) ⟨⟨⟨_,aE _ rfl,rfl,rfl⟩,hL.push _⟩,hh.keep λb o e=>ag _ e⟩
  (λd hd=>(by
   show d<(s.heap.push _).objs.size;rw[bW];exact(bf.mp hd).elim (λhd=>(aQ.mp hd).elim (λe=>e▸cC _) λhd=>ay.mp hd▸bF hlt) λhd=>(hh.at hd).elim λo e=>bF (aO e))) C
  λh' tk hk=>h h' tk λd o e=>hk d o (aY (aO e)) (ag _ e))
theorem Ak {R:af->Prop}(H:∀ v,R (.int (min x (min y z)) v)):R (if decide (y<x) then(if decide (z<y) then .int z v else .int y u) else(if decide (z<x) then .int z v else .int x t)):=by
 by_cases h1:y<x
 ·rw[if_pos (decide_eq_true h1)]
  by_cases h2:z<y
  ·rw[if_pos (decide_eq_true h2)]; have:=H v; rwa [eJ (c9 h2),eJ (c9 (kD h2 h1))] at this
  ·rw[if_neg (λh=>h2 (of_decide_eq_true h))]; have:=H u; rwa [kS (dQ.mp h2),eJ (c9 h1)] at this
 ·rw[if_neg (λh=>h1 (of_decide_eq_true h))]
  by_cases h2:z<x
  ·rw[if_pos (decide_eq_true h2)]; have:=H v; rwa [eJ (dj (c9 h2) (dQ.mp h1)),eJ (c9 h2)] at this
  ·rw[if_neg (λh=>h2 (of_decide_eq_true h))]; have:=H t; rwa [kS (nt.mpr ⟨dQ.mp h1,dQ.mp h2⟩)] at this
theorem vE (F:Fr h₀ L s.heap m)(N:gY h₀ L s.heap news)(hl:s.heap.get? l=PD { cls:=.type "list",data:=.seq #[.int x t,.int y u,.int z v] n })
  (h:∀ h' tk v,Fr h₀ L h' m->gY h₀ L h' news->Q (.int (min x (min y z)) v) { s with heap:=h',toks:=tk })
  (hh:HdOk A.handled s.heap):wpAny (model prog w) A (call (.builtin "min") [.ref l]) Q E s:=
 call_min_walk (xx hh ⟨_,hl,rfl,n,rfl⟩ (CmpOf.ints_lt (λi=>[x,y,z].getD i 0) (λi v e=>ID e)) λh' tk k=>Ak (R:=λv=>Q v { s with heap:=h',toks:=tk }) λv=>h h' tk v (F.grownK k) (N.grown k))
end
noncomputable abbrev GD (hv:Option af)(dp un:Nat)(gd:Option (List MZ))(cn:Str)(cs:dC)(L a:aj)(ccd:af)(cl:List (Str×aj))(outer:List Env):be:={ handled:=hv,depth:=dp,frames:=PD (envX cn cs L a ccd cl :: outer),guards:=gd,units:=un }
section
variable {prog:cj}{w:aB}{A:be}{E:af->ai->Prop}{s:ai}{a b x:UInt64}{n k:Int}{t u:Tok}{Q:af->ai->Prop}
theorem Dm (h0:gt b=PG->False)(h1:¬ gt b=PG->Q (.float (bD a b).2 s.toks) { s with toks:=s.toks+1 }):wpAny (model prog w) A (binaryOp .Mod (.float a t) (.float b u)) Q E s:=
 AutoFloatOps.mod_1 h0 (h1 h0)
theorem D9 (h0:gt b=PG->False)(h1:¬ gt b=PG->Q (.float (Float64.div a b) s.toks) { s with toks:=s.toks+1 }):wpAny (model prog w) A (binaryOp .Div (.float a t) (.float b u)) Q E s:=
 AutoFloatOps.truediv_1 h0 (h1 h0)
theorem D8 (h0:k=0->False)(h1:k≠0->bC (gr (decide (n<0) != decide (k<0)) n.natAbs k.natAbs)=PG->False)
  (h2:k≠0->¬ bC (gr (decide (n<0) != decide (k<0)) n.natAbs k.natAbs)=PG->Q (.float (gr (decide (n<0) != decide (k<0)) n.natAbs k.natAbs) s.toks) { s with toks:=s.toks+1 }):
  wpAny (model prog w) A (binaryOp .Div (.int n t) (.int k u)) Q E s:=
 AutoIntOps.truediv_2 (by simpa using (show k≠0 from h0)) (h1 h0) (h2 h0 (h1 h0))
theorem vy {n:Int}(h0:2 ^ 1024 - 2 ^ 970<=n.natAbs->False):¬ bC (cZ n)=PG:=λhb=>h0 (Float64.ofInt_isInf_iff.1 hb)
theorem Dj (h0:2 ^ 1024 - 2 ^ 970<=n.natAbs->False)(h1:n.natAbs<2 ^ 1024 - 2 ^ 970->Q (.float (gS (cZ n) a) s.toks) { s with toks:=s.toks+1 }):wpAny (model prog w) A (binaryOp .Mult (.int n u) (.float a t)) Q E s:=
 AutoFloatOps.mul_if_1 (vy h0) (h1 (qM h0))
theorem Et (h0:2 ^ 1024 - 2 ^ 970<=n.natAbs->False)(h1:n.natAbs<2 ^ 1024 - 2 ^ 970->Q (.float (kE a (cZ n)) s.toks) { s with toks:=s.toks+1 }):wpAny (model prog w) A (binaryOp .Add (.float a t) (.int n u)) Q E s:=
 AutoFloatOps.add_fi_1 (vy h0) (h1 (qM h0))
theorem CC (h0:2 ^ 1024 - 2 ^ 970<=n.natAbs->False)(h1:n.natAbs<2 ^ 1024 - 2 ^ 970->Q (.float (eB a (cZ n)) s.toks) { s with toks:=s.toks+1 }):wpAny (model prog w) A (binaryOp .Sub (.float a t) (.int n u)) Q E s:=
 AutoFloatOps.sub_fi_1 (vy h0) (h1 (qM h0))
theorem nX (h0:cI x=PG->False)(h1:bC x=PG->False)(h2:nu x=PG->Q (.int (ce bH x) s.toks) { s with toks:=s.toks+1 }):wpAny (model prog w) A (call (.type "int") [.float x t]) Q E s:=by
 rcases Flt.three x with ⟨hd,c⟩ | ⟨_,hd,c⟩ | ⟨sg,m,e,hd,c⟩
 ·exact(h0 c).elim
 ·exact(h1 c).elim
 ·have h:=h2 c;rw[Flt.toInt_fin hd] at h;exact call_int_float hd h
end
section
variable {prog:cj}{w:aB}{A:be}{E:af->ai->Prop}{s:ai}{env:Env}{h₀:aL}{L l t:aj}{m:Str->Option af}{news:List (aj×Obj)}
theorem so {items:Array af}{Q:List af->ai->Prop}(F:Fr h₀ L s.heap m)(N:gY h₀ L s.heap news)(hl:s.heap.IsList l items)(hn:n=items.size)
  (h:∀ h',Fr h₀ L h' m->gY h₀ L h' news->Q items.toList { s with heap:=h' }) (H:HdOk A.handled s.heap):wpAny (model prog w) A (unpackItems (.ref l) n PF) Q E s:=by
 subst hn;have hQ:∀ h',cW s.heap.objs.size s.heap h'->Q items.toList { s with heap:=h' }:=λh' he=>h h' (F.extBut he (aI _)) (N.extBut he (aI _));have hlt:l≠s.heap.objs.size:=by obtain⟨o,ho,_⟩:=hl; exact aY (aO ho)
 unfold unpackItems;refine ab ?_;unfold notIterableAtAll;refine ab (uS hl.typeIs slot_list_iter.lookup ?_);refine aD ?_;simp only[eV,if_false];refine ab (bI (gV hl ?_));refine ab (bI (kun_draw hlt items.size 0 _ _ ⟨_,aE _ rfl,rfl,rfl⟩ (hl.push _) (by lia) λh₁ hit₁ hs₁=>?_))
 have hall:List.take items.size (List.drop 0 items.toList)=items.toList:=by
  rw[si]; exact cz (by simp)
 rw[hall];rw[if_neg (by simp)];have hl₁:h₁.IsList l items:=(hl.push _).extBut hs₁.extBut hlt;have H₁:HdOk A.handled h₁:=(H.keep λb o e=>ag _ e).extBut (aE _ rfl) (mj (by decide) rfl) hs₁.extBut;refine ab (bI (jh (A:=A) H₁ hit₁ hl₁ (by simp) λh₂ he₂=>?_));simp only[Option.isSome_none,eV,if_false];exact aD (hQ h₂ λb o hb e=>he₂ b o hb (hs₁.extBut b o hb (ag _ e)))
theorem qT {items:Array af}{Q:List af->ai->Prop}(H:HdOk A.handled s.heap)(ht:s.heap.IsTuple t items)(hQ:∀ h',cW s.heap.objs.size s.heap h'->Q items.toList { s with heap:=h' }):
  wpAny (model prog w) A (unpackItems (.ref t) items.size PF) Q E s:=by
 have hlt:t≠s.heap.objs.size:=by obtain⟨o,ho,_⟩:=ht; exact aY (aO ho)
 unfold unpackItems;refine ab ?_;unfold notIterableAtAll;refine ab (uS ht.typeIs F.slot_tuple_iter.lookup ?_);refine aD ?_;simp only[eV,if_false];refine ab (bI (qC ht ?_));refine ab (bI (wpAny_draw_tuple hlt items.size 0 _ _ ⟨_,aE _ rfl,rfl,rfl⟩ (ht.push _) (by lia) λh₁ hit₁ hs₁=>?_))
 have hall:List.take items.size (List.drop 0 items.toList)=items.toList:=by
  rw[si]; exact cz (by simp)
 rw[hall];rw[if_neg (by simp)];have ht₁:h₁.IsTuple t items:=(ht.push _).extBut hs₁.extBut hlt;have H₁:HdOk A.handled h₁:=(H.keep λb o e=>ag _ e).extBut (aE _ rfl) (mj (by decide) rfl) hs₁.extBut;refine ab (bI (iR (A:=A) H₁ hit₁ ht₁ (by simp) λh₂ he₂=>?_));simp only[Option.isSome_none,eV,if_false];exact aD (hQ h₂ λb o hb e=>he₂ b o hb (hs₁.extBut b o hb (ag _ e)))
theorem lc {items:Array af}{Q:List af->ai->Prop}(F:Fr h₀ L s.heap m)(N:gY h₀ L s.heap news)(ht:MW s.heap t items)(hn:n=items.size)
  (h:∀ h',Fr h₀ L h' m->gY h₀ L h' news->Q items.toList { s with heap:=h' }) (H:HdOk A.handled s.heap):wpAny (model prog w) A (unpackItems (.ref t) n PF) Q E s:=by
 subst hn;exact qT H ht λh' he=>h h' (F.extBut he (aI _)) (N.extBut he (aI _))
theorem tq {env:Env}{k:Nat}{items:Array af}{Q:Unit->ai->Prop}(F:Fr h₀ L s.heap m)(N:gY h₀ L s.heap news)(hl:s.heap.IsList l items)(hn:(assignEach elts env).length=items.size)
  (hstar:(assignEach elts env).findIdx? (·.1)=PF) (h:∀ h',Fr h₀ L h' m->gY h₀ L h' news->wpAny (model prog w) A (assignInOrder ((assignEach elts env).map (·.2)) items.toList) Q E { s with heap:=h' }) (H:HdOk A.handled s.heap):
  wpAny (model prog w) A (assign (.Tuple elts k pos) env (.ref l)) Q E s:=by
 rw[assign_Tuple];refine ab (da ?_);unfold unpack;rw[hn,hstar];exact ab (bI (so F N hl rfl h H))
theorem i8 {env:Env}{k:Nat}{items:Array af}{Q:Unit->ai->Prop}(F:Fr h₀ L s.heap m)(N:gY h₀ L s.heap news)(ht:MW s.heap t items)(hn:(assignEach elts env).length=items.size)
  (hstar:(assignEach elts env).findIdx? (·.1)=PF) (h:∀ h',Fr h₀ L h' m->gY h₀ L h' news->wpAny (model prog w) A (assignInOrder ((assignEach elts env).map (·.2)) items.toList) Q E { s with heap:=h' }) (H:HdOk A.handled s.heap):
  wpAny (model prog w) A (assign (.Tuple elts k pos) env (.ref t)) Q E s:=by
 rw[assign_Tuple];refine ab (da ?_);unfold unpack;rw[hn,hstar];exact ab (bI (lc F N ht rfl h H))
end
end Mine
end
section
open PySem PySem.W PySem.Calls PySem.Spec PyProof.Rows LCg
namespace Mine
section
variable {prog:cj}{w:aB}{A:be}{E:af->ai->Prop}{s:ai}{h₀:aL}{L:aj}{m:Str->Option af}{env:Env}
noncomputable abbrev sw (env:Env)(ifs:List aw):Sem Bool:=forIn ifs PG λc r=>if r=PG then do let ok <- isTrue c env (eval c env); pure (fR ok) else pure (fR r)
end
end Mine
end
section
open PySem PySem.W PySem.Calls PySem.Spec PyProof.Rows
namespace Mine
variable {lo hi:Int}
def jB (t:aS):List aS:=(Fa t).body
def stArgs (t:aS):ze:=(Fa t).params
def stScope (t:aS):dC:=(Fa t).scope
def GK:aS:=Jz (jB (ib 6)) 1
def GL:aS:=Jz (jB (ib 7)) 0
section
variable {prog:cj}{w:aB}{A₀ A:be}{s:ai}{base h₀:aL}{outer:List Env}{L:aj}{m:Str->Option af}{env:Env}{ts:List (aj×Obj)}{K:wE}
 {p:cj} {loose:List Str} {mean:j0->Option af} {mg mb:Str->Option af}
 {R:lK->ai->Prop} {name qual:Str} {params:ze} {body:List aS} {scope:dC} {cl:List (Str×aj)} {doc pm ctv:af} {c' f:aj} {args:Args} {binds:List (Str×af)}
theorem wj (B:ry A₀ base outer h₀)(F:Fr h₀ L s.heap m)(X₀:K.In h₀)(N:gY h₀ L s.heap ts)(T:Top p loose mean mg mb h₀)(hA:A.frames=PD (env :: outer))(hf:env.frame=PD L)(hke:env.scope.kind=.function)
  (ho:s.heap.get? f=PD (fnMade name qual params body scope cl doc pm c' ctv)) (hcd:s.heap.CodeRec (.ref c') qual) (hroom:A.depth<recursionLimit)
  (hbind:Iz s (fnX name qual params body scope cl .none .none doc pm PF (.ref c') ctv) args binds) (hloc:∀ y∈binds,scope.names.lookup y.1=PD .local)
  (h:∀ L' h₁,Fr (hideAll s.heap (ts.map (·.1))) L' h₁ (λy=>binds.reverse.lookup y)->gY (hideAll s.heap (ts.map (·.1))) L' h₁ ts->ry A base (env :: outer) (hideAll s.heap (ts.map (·.1)))->K.In (hideAll s.heap (ts.map (·.1)))->Top p loose mean mg mb (hideAll s.heap (ts.map (·.1)))->(∀ p∈ts,p.1<L')->
   wpAny (model prog w) (A.deeper (envX qual scope L' f (.ref c') cl)) (execs body (envX qual scope L' f (.ref c') cl))
    (λfl s'=>Ce h₀ L m (hideAll s.heap (ts.map (·.1))) R (match fl with | .ret v=>v | _=>.none) s')
    (λe s'=>wpAny (model prog w) (A.deeper (envX qual scope L' f (.ref c') cl)) (leaving (envX qual scope L' f (.ref c') cl) e) (λU s''=>R (.error e) s'') (λe' s''=>R (.error e') s'') s')
    { s with heap:=h₁,toks:=s.toks+binds.length })
  (hco:scope.isCoroutine=PH) (hgen:scope.isGenerator=PH) (hk:scope.kind=.function)
  (hcell:∀ x∈scope.names,x.2≠.cell):codeAny (model prog w) A (.call (.ref f) args) R s:=by
 obtain⟨_,BG,st,lv⟩:=groundX (R:=R) B F N hA hf hke;refine codeAny_call_def (fd:=fnX name qual params body scope cl .none .none doc pm PF (.ref c') ctv) (body:=body) (binds:=binds) hroom ho rfl (T.nolimit.keeps F.keep) hcd rfl hbind hcell hloc (λh₁ hns hk₁=>?_) hco hgen hk;refine aU (h s.heap.objs.size h₁ ⟨hns,λb o e=>hk₁ b o (qH _ e),bq (hideAll_size _ _)⟩ (λp hp=>?_) BG (X₀.keeps st) (T.keeps st) (λp hp=>aO (N p hp).1)) (λfl s' hl=>lv _ _ hl) (λU U y=>y);exact⟨hk₁ _ _ (N p hp).1,aY (aO (N p hp).1),hideAll_none _ (List.mem_map_of_mem hp)⟩
end
noncomputable def spl (n:Int):Nat->Int->Int->Int->List Int->List Int
 | 0,_,_,_,ns=>ns
 | k+1,x,lo,hi,ns=>if lo+1=hi then ns.set lo.toNat x else
  let mid:=(lo+hi).fdiv 2;let up:=x.fdiv (2 ^ ((mid - lo)*n).toNat);let low:=x - up*2 ^ ((mid - lo)*n).toNat
  spl n k up mid hi (spl n k low lo mid ns)
theorem Ai (X k:Nat):X &&& (X / 2 ^ k*2 ^ k)=X / 2 ^ k*2 ^ k:=by
 rw[<- Nat.shiftRight_eq_div_pow,<- Nat.shiftLeft_eq];apply Nat.eq_of_testBit_eq;intro i;rw[Nat.testBit_and,Nat.testBit_shiftLeft,Nat.testBit_shiftRight]
 by_cases h:k<=i
 ·rw[Nat.add_sub_cancel' h]; simp[h]
 ·simp[h]
theorem Cp {x:Int}(hx:0<=x)(k:Nat):qO x (x.fdiv (2 ^ k)*2 ^ k)=x - x.fdiv (2 ^ k)*2 ^ k:=by
 obtain⟨X,rfl⟩:=jY hx;have h2:((2:Int) ^ k)=((2 ^ k:Nat):Int):=by simp
 have e:(X:Int).fdiv (2 ^ k)*2 ^ k=((X / 2 ^ k*2 ^ k:Nat):Int):=by
  rw[h2,bK _ (dR _)];simp
 rw[e,bitXor_and]
 have hb:qP (X:Int) ((X / 2 ^ k*2 ^ k:Nat):Int)=((X / 2 ^ k*2 ^ k:Nat):Int):=by
  unfold qP;rw[decide_eq_true (dR X),decide_eq_true (dR (X / 2 ^ k*2 ^ k))];simp only[fF];rw[Ai]
 rw[hb,Int.two_mul,<- N7,NX]
theorem Bc {x:Int}(hx:0<=x)(k:Nat):0<=x.fdiv (2 ^ k)/\x.fdiv (2 ^ k)<=x/\x.fdiv (2 ^ k)*2 ^ k<=x/\0<=x.fdiv (2 ^ k)*2 ^ k:=by
 obtain⟨X,rfl⟩:=jY hx;have h2:((2:Int) ^ k)=((2 ^ k:Nat):Int):=by simp
 rw[h2,bK _ (dR _),<- Int.natCast_ediv,<- fv];have a:=Nat.div_le_self X (2 ^ k);have b:=Nat.div_mul_le_self X (2 ^ k);exact⟨dR _,dJ.mpr a,dJ.mpr b,dR _⟩
theorem sy (n:Int)(k:Nat):∀ (x lo hi:Int) (ns:List Int),(spl n k x lo hi ns).length=ns.length:=by
 induction k with
 | zero=>exact λU U U U=>rfl
 | succ k ih=>exact λx lo hi ns=>(NP (lo+1=hi)).elim (λh=>(congrArg lh (if_pos h:spl n (k+1) x lo hi ns=_)).trans List.length_set) λh=>(congrArg lh (if_neg h:spl n (k+1) x lo hi ns=_)).trans ((ih _ _ _ _).trans (ih _ _ _ _))
theorem pF (h0:0<=lo)(h:lo<hi)(hne:lo+1≠hi):lo<(lo+hi).fdiv (2 ^ bw 1)/\(lo+hi).fdiv (2 ^ bw 1)<hi:=by
 have:((2:Int) ^ bw 1)=2:=by decide
 rw[this,bK _ (by decide)];omega
theorem OY {n m:Int}(hn:n=2\/n=4)(h0:0<=lo)(h3:hi<=3)(h:lo<m/\m<hi):0<=(m - lo)*n/\(m - lo)*n<=8:=
 ⟨Od (NV (c9 h.1)) (c9 (OO hn).1),Int.mul_le_mul (c:=2) (d:=4) (dj (NY m h0) (de (NM h.2 h3))) (OO hn).2 (c9 (OO hn).1) (by decide)⟩
theorem EC {n:Int}(hn:n=2\/n=4)(h0:0<=lo)(h:lo<hi)(h3:hi<=3)(hne:lo+1≠hi):0<=((lo+hi).fdiv (2 ^ bw 1) - lo)*n/\((lo+hi).fdiv (2 ^ bw 1) - lo)*n<=1000000:=by
 exact⟨(OY hn h0 h3 (pF h0 h hne)).1,dj (OY hn h0 h3 (pF h0 h hne)).2 (by decide)⟩
noncomputable abbrev tabOne (line col:Nat)(c':aj):Array af:=#[]++#[rawInt line,rawInt col,.ref c']
noncomputable abbrev EH:Str:=aa "_int2digits.<locals>.inner"
noncomputable abbrev EG:Str:=aa "_digits2int.<locals>.inner"
noncomputable abbrev dg (x n:Int):Nat:=(((az x:Int)+n - 1).fdiv n).toNat
noncomputable abbrev zeros (d:Nat):List Int:=(bG d [0]).flatten
def digs (n x:Int):List Int:=if x=0 then zeros (dg x n) else spl n 3 x 0 (dg x n) (zeros (dg x n))
end Mine
end
section
open PySem PySem.W PySem.Calls PySem.Spec PyProof.Rows Mine
namespace Nw
variable {α:Type}{k line col j tk n kk:Nat}{z:Int}{o:Obj}{q x y qual:Str}{pos p ap gp sp tp:Pos}{P:Prop}{h h' h₀:aL}{D a L:aj}{tb b:Bool}{e l t i target:aw}{u v dV doc pm cdv ct oc:af}{M:nk}{w:aB}{sc scope:dC}{s:ai}{op:dM}{xs:List Str}{gs K:List Nat}{fd:iQ}{as cs as' as₀ ws:List aj}{C:List Prop}{rs es ts:List aw}{params:ze}{body:List aS}{vs first:List af}{ops:List iu}{an od:Option aj}{σ:Nat->Option Nat}{cl:List (Str×aj)}{cells:List (aj×Obj)}{m m' cm:Str->Option af}{binds:List (Str×af)}{E Q:af->ai->Prop}{kd:Str->Option l7}{osl:Array (Option af)}
section
theorem ak {α β:Type _}{o:Option α}{f:α->Option β}{q:β}(e:o.bind f=PD q)(h:∀ a,o=PD a->f a=PD q->P):P:=let ⟨a,h1,h2⟩:=Option.bind_eq_some_iff.mp e; h a h1 h2
theorem aZ {α β:Type _}{o:Option α}{f:α->β}{q:β}(e:o.map f=PD q)(h:∀ a,o=PD a->q=f a->P):P:=let ⟨a,h1,h2⟩:=bh.mp e; h a h1 h2.symm
theorem iteE {β:Type _}{c:Prop}[Decidable c]{t:Option β}{q:β}(e:(if c then t else PF)=PD q)(h:c->t=PD q->P):P:=by
 by_cases hc:c
 ·rw[if_pos hc] at e; exact h hc e
 ·rw[if_neg hc] at e; cases e
theorem orE {α:Type _}{a b:Option α}{q:α}(e:a.or b=PD q)(h:a=PD q->P)(h':b=PD q->P):P:=(cH.mp e).elim h λz=>h' z.2
theorem av {α:Type _}{q:α}(e:PF=PD q):P:=nomatch e
noncomputable abbrev MP (w:aB):nk:=model aH.row.prog w
noncomputable abbrev sh (s₀:ai)(h:aL)(k:Nat):ai:={ s₀ with heap:=h,toks:=k }
inductive PV | i (z:Int) | f (x:UInt64) | s (x:Str) | v (v:af) | r (k:Nat)
def PV.is (as:List aj):PV->af->Prop
 | .i z,u=>∃ t,u=.int z t
 | .f x,u=>∃ t,u=.float x t
 | .s x,u=>∃ t,u=.str x t
 | .v w,u=>u=w
 | .r k,u=>∃ a,as[k]?=PD a/\u=.ref a
theorem f4 {as bs:List α}{a:α}(e:as[k]?=PD a):(as++bs)[k]?=PD a:=by
 rw[dW (fX.mp e).1]; exact e
theorem PV.is.up {bs:List aj}{p:PV}(h:p.is as u):p.is (as++bs) u:=by
 cases p with
 | r k=>obtain⟨a,e,h⟩:=h; exact⟨a,f4 e,h⟩
 | _=>exact h
noncomputable def PV.int?:PV->Option Int | .i z=>PD z | .f _=>PF | .s _=>PF | .v _=>PF | .r _=>PF
noncomputable def PV.flt?:PV->Option UInt64 | .i _=>PF | .f x=>PD x | .s _=>PF | .v _=>PF | .r _=>PF
noncomputable def PV.str?:PV->Option Str | .i _=>PF | .f _=>PF | .s x=>PD x | .v _=>PF | .r _=>PF
noncomputable def PV.val?:PV->Option af | .i _=>PF | .f _=>PF | .s _=>PF | .v w=>PD w | .r _=>PF
noncomputable def PV.ref?:PV->Option Nat | .i _=>PF | .f _=>PF | .s _=>PF | .v _=>PF | .r k=>PD k
theorem PV.int_is {p:PV}(h:p.int?=PD z):p=.i z:=by cases p<;>cases h<;>rfl
theorem PV.flt_is {p:PV}{z:UInt64}(h:p.flt?=PD z):p=.f z:=by cases p<;>cases h<;>rfl
theorem PV.str_is {p:PV}{z:Str}(h:p.str?=PD z):p=.s z:=by cases p<;>cases h<;>rfl
theorem PV.val_is {p:PV}{z:af}(h:p.val?=PD z):p=.v z:=by cases p<;>cases h<;>rfl
theorem PV.ref_is {p:PV}{z:Nat}(h:p.ref?=PD z):p=.r z:=by cases p<;>cases h<;>rfl
def IsAll (as:List aj):List PV->List af->Prop
 | [],vs=>vs=[]
 | p :: ps,vs=>∃ v r,vs=v :: r/\p.is as v/\IsAll as ps r
theorem IsAll.ind {P:List PV->List af->Prop}(h0:P [] [])(h1:∀ {p:PV} {v:af} {ps:List PV} {vs:List af},p.is as v->IsAll as ps vs->P ps vs->P (p :: ps) (v :: vs)){ps:List PV}:∀ {vs:List af},IsAll as ps vs->P ps vs:=by
 induction ps with
 | nil=>exact λ{U} h=>h▸h0
 | cons p ps ih=>exact λ{U} h=>h.elim λv z=>z.elim λr z=>z.1▸h1 z.2.1 z.2.2 (ih z.2.2)
theorem IsAll.up {as bs:List aj}{ps:List PV}{vs:List af}(h:IsAll as ps vs):IsAll (as++bs) ps vs:=h.ind rfl λh U ih=>⟨_,_,rfl,h.up,ih⟩
theorem IsAll.len {ps:List PV}(h:IsAll as ps vs):vs.length=ps.length:=h.ind (P:=λps vs=>vs.length=ps.length) rfl λU U ih=>congrArg fq ih
theorem IsAll.at {ps:List PV}{p:PV}(h:IsAll as ps vs):ps[k]?=PD p->∃ v,vs[k]?=PD v/\p.is as v:=
 h.ind (P:=λps vs=>∀ k:Nat,ps[k]?=PD p->∃ v,vs[k]?=PD v/\p.is as v) (λU e=>nomatch e) (λh U ih k=>k.casesOn (λe=>⟨_,rfl,ac e▸h⟩) ih) k
def PV.isO (as:List aj):Option PV->Option af->Prop
 | none,u=>u=PF
 | some p,u=>∃ v,u=PD v/\p.is as v
inductive SO | L (xs:List PV) | T (xs:List PV) | C (p:Option PV) | P (q:Obj->Prop) | Z (o:Obj)(x:SO) | G (x:SO) | N
def IsRec (o:Obj):Prop:=∃ vs s t,o.data=.fields vs/\vs[1]?=PD (.str s t)
def SO.is (as:List aj):SO->Obj->Prop
 | .L xs,o=>∃ vs n,o={ cls:=.type "list",data:=.seq vs.toArray n }/\IsAll as xs vs
 | .T xs,o=>∃ vs,o={ cls:=.type "tuple",data:=.seq vs.toArray }/\IsAll as xs vs
 | .C p,o=>∃ u,o.data=.cell u/\PV.isO as p u
 | .P q,o=>q o/\¬ IsRec o
 | .Z o' x,o=>o=o'/\x.is as o/\¬ IsRec o
 | .G x,o=>x.is as o
 | .N,_=>True
theorem SO.is.up {as bs:List aj}{x:SO}{o:Obj}(h:x.is as o):x.is (as++bs) o:=by
 induction x with
 | L xs=>obtain⟨vs,n,e,h⟩:=h; exact⟨vs,n,e,h.up⟩
 | T xs=>obtain⟨vs,e,h⟩:=h; exact⟨vs,e,h.up⟩
 | C p=>
  obtain⟨u,e,h⟩:=h;cases p with
  | none=>exact⟨u,e,h⟩
  | some p=>obtain⟨v,e',h⟩:=h; exact⟨u,e,v,e',h.up⟩
 | P _=>exact h
 | Z _ _ ih=>exact⟨h.1,ih h.2.1,h.2.2⟩
 | G _ ih=>exact ih h
 | N=>trivial
def SO.own:SO->Prop | .L _=>True | .T _=>True | .C _=>True | .P _=>True | .Z _ _=>True | .G _=>False | .N=>False
def SO.live:SO->Prop | .L _=>True | .T _=>True | .C _=>True | .P _=>True | .Z _ _=>True | .G _=>True | .N=>False
theorem SO.own.live {x:SO}(h:x.own):x.live:=by cases x<;>first | trivial | exact h.elim
theorem SO.noRec {x:SO}(hw:x.own)(h:x.is as o):¬ IsRec o:=by
 have no:∀ {d:Data},o.data=d->(∀ vs,d≠.fields vs)->¬ IsRec o:=λe n ⟨vs,_,_,e',_⟩=>n vs (e.symm.trans e');cases x with
 | L xs=>obtain⟨vs,n,rfl,_⟩:=h; exact no rfl λU e=>nomatch e
 | T xs=>obtain⟨vs,rfl,_⟩:=h; exact no rfl λU e=>nomatch e
 | C p=>obtain⟨u,e,_⟩:=h; exact no e λU e=>nomatch e
 | P _=>exact h.2
 | Z _ _=>exact h.2.2
 | G _=>exact hw.elim
 | N=>exact hw.elim
noncomputable def SO.core:SO->SO | .L xs=>.L xs | .T xs=>.T xs | .C p=>.C p | .P q=>.P q | .Z _ x=>x | .G x=>x | .N=>.N
theorem SO.core_is {x:SO}(h:x.is as o):x.core.is as o:=by cases x<;>first | exact h | exact h.2.1
noncomputable def SO.lst?:SO->Option (List PV) | .L xs=>PD xs | .T _=>PF | .C _=>PF | .P _=>PF | .Z _ _=>PF | .G _=>PF | .N=>PF
noncomputable def SO.tup?:SO->Option (List PV) | .L _=>PF | .T xs=>PD xs | .C _=>PF | .P _=>PF | .Z _ _=>PF | .G _=>PF | .N=>PF
theorem SO.lst_is {x:SO}{xs:List PV}(h:x.lst?=PD xs):x=.L xs:=by cases x<;>cases h<;>rfl
theorem SO.tup_is {x:SO}{xs:List PV}(h:x.tup?=PD xs):x=.T xs:=by cases x<;>cases h<;>rfl
def Al:List Prop->Prop
 | []=>True
 | p :: r=>p/\Al r
theorem Al.left {a b:List Prop}(h:Al (a++b)):Al a:=by
 induction a with
 | nil=>trivial
 | cons p r ih=>exact⟨h.1,ih h.2⟩
theorem Al.right {a b:List Prop}(h:Al (a++b)):Al b:=by
 induction a with
 | nil=>exact h
 | cons p r ih=>exact ih h.2
abbrev Vm:=List (Str×PV)
structure Fs where
 sc:dC
 CM:List (Str×Nat)
structure Cx where
 w:aB
 hv:Option af
 dp:Nat
 un:Nat
 k:Nat
 gd:Option (List MZ)
 q:Str
 fa:aj
 cd:af
 cl:List (Str×aj)
 outer:List Env
 A₀:be
 base:aL
 h₀:aL
 L:aj
 p:cj
 loose:List Str
 mean:j0->Option af
 mg:Str->Option af
 mb:Str->Option af
 s₀:ai
 gs:ai->Prop
 E:af->ai->Prop
 R:rx->ai->Prop
 P:PV->List SO->Prop
 N:Vm->List SO->Prop
 B:Vm->List SO->Prop
 tb:Bool
 pre:List (Nat×aj)
 np:List Nat
 pn:List (aj×Obj)
abbrev Cx.A (c:Cx)(f:Fs):be:=GD c.hv c.dp c.un c.gd c.q f.sc c.L c.fa c.cd c.cl c.outer
noncomputable abbrev Cx.env (c:Cx)(f:Fs):Env:=envX c.q f.sc c.L c.fa c.cd c.cl
def Mem (as:List aj)(V:Vm)(m:Str->Option af):Prop:=∀ x p,V.lookup x=PD p->∃ v,m x=PD v/\p.is as v
def Apart (as:List aj)(Os:List SO)(a:aj):Prop:=∀ (k:Nat) (x:SO),as[k]?=PD a->Os[k]?=PD x->x.own->False
def TabAt (L:aj)(h₀:aL)(as:List aj)(Os:List SO)(h:aL)(P:aj)(line col:Nat)(q:Str):Prop:=
 ∃ o,h.get? P=PD o/\P≠L/\h₀.get? P=PF/\Apart as Os P/\(o=tabObj #[]\/∃ a,o=tabObj (tabOne line col a)/\h.CodeRec (.ref a) q)
def TabNow (h:aL)(P:aj)(line col:Nat)(q:Str):Prop:=∃ o,h.get? P=PD o/\(o=tabObj #[]\/∃ a,o=tabObj (tabOne line col a)/\h.CodeRec (.ref a) q)
def OAt (c:Cx)(as:List aj)(h:aL)(a:aj)(x:SO):Prop:=x.live->∃ o,x.is as o/\h.get? a=PD o/\(x.own->a≠c.L/\c.h₀.get? a=PF)/\(¬ x.own->c.h₀.get? a=PD o)
def Pf (pre:List (Nat×aj))(as:List aj):Prop:=∀ q∈pre,as[q.1]?=PD q.2
theorem Pf.up {pre:List (Nat×aj)}{bs:List aj}(h:Pf pre as):Pf pre (as++bs):=λq hq=>f4 (h q hq)
structure Inv (f:Fs)(c:Cx)(V:Vm)(m:Str->Option af)(as:List aj)(Os:List SO)(h:aL):Prop where
 F:Fr c.h₀ c.L h m
 M:Mem as V m
 C:∀ (x:Str) (i:Nat),f.CM.lookup x=PD i->∃ a,c.cl.lookup x=PD a/\as[i]?=PD a
 len:as.length=Os.length
 ob:∀ (k:Nat) (a:aj) (x:SO),as[k]?=PD a->Os[k]?=PD x->OAt c as h a x
 nd:∀ (j k:Nat) (a:aj) (x y:SO),as[j]?=PD a->as[k]?=PD a->Os[j]?=PD x->Os[k]?=PD y->x.own->y.own->j=k
 t1:c.tb=PG->TabAt c.L c.h₀ as Os h 54 36 4 EH
 t2:c.tb=PG->TabAt c.L c.h₀ as Os h 61 51 4 EG
 pf:Pf c.pre as
 pn:∀ q∈c.pn,h.get? q.1=PD q.2/\q.1≠c.L/\Apart as Os q.1/\(c.tb=PG->q.1≠54/\q.1≠61)
noncomputable abbrev Cx.at (c:Cx)(s:ai):Cx:={ c with s₀:=s }
def HdC (c:Cx):Prop:=∀ v,c.hv=PD v->∃ a o vs,v=.ref a/\(c.h₀.get? a=PD o\/(a,o)∈c.pn)/\o.cls=.type "ZeroDivisionError"/\o.data=.fields vs/\vs[2]?=PD .none
theorem HdC.mono {c c':Cx}(H:HdC c)(e:c'.hv=c.hv)(e':c'.h₀=c.h₀)(p:∀ q∈c.pn,q∈c'.pn):HdC c':=λv q=>(H v (e▸q)).elim λa z=>z.elim λo z=>z.elim λvs z=>⟨a,o,vs,z.1,z.2.1.imp (λz=>e'▸z) (p _),z.2.2⟩
structure Cx.Ok (c:Cx)(f:Fs):Prop where
 kd:f.sc.kind=.function
 b:ry c.A₀ c.base c.outer c.h₀
 x:(hd.heap_39 c.w.params).In c.h₀
 t:Top c.p c.loose c.mean c.mg c.mb c.h₀
 h:HdC c
 hp:c.pre.map (·.1)=c.np
 rd:c.dp+c.k<recursionLimit
 ru:c.un+20*c.k+2<cLine
 pe:PassesOwn (MP c.w) (c.A f) (c.env f) c.E
 g0:c.gs c.s₀
 ret:∀ s V m as Os h v p tk,c.gs s->Inv f (c.at s) V m as Os h->p.is as v->c.P p Os->c.R (.ret v) (sh s h tk)
 nxt:∀ s V m as Os h tk,c.gs s->Inv f (c.at s) V m as Os h->c.N V Os->c.R .next (sh s h tk)/\c.R .cont (sh s h tk)
 brk:∀ s V m as Os h tk,c.gs s->Inv f (c.at s) V m as Os h->c.B V Os->c.R .brk (sh s h tk)
structure Cx.Sub (c c':Cx):Prop where
 w:c'.w=c.w
 k:c'.k=c.k
 tb:c'.tb=c.tb
 h₀:c'.h₀=c.h₀
 cl:c'.cl=c.cl
 pn:∀ q∈c.pn,q∈c'.pn
 pre:∀ q∈c.pre,q∈c'.pre
theorem Cx.Sub.trans {a b c:Cx}(x:a.Sub b)(y:b.Sub c):a.Sub c:=⟨y.w.trans x.w,y.k.trans x.k,y.tb.trans x.tb,y.h₀.trans x.h₀,y.cl.trans x.cl,λq h=>y.pn q (x.pn q h),λq h=>y.pre q (x.pre q h)⟩
theorem Cx.Ok.at {c:Cx}{f:Fs}(O:c.Ok f)(g:c.gs s):(c.at s).Ok f:=⟨O.kd,O.b,O.x,O.t,O.h,O.hp,O.rd,O.ru,O.pe,g,O.ret,O.nxt,O.brk⟩
theorem Cx.at_sub (c:Cx)(s:ai):c.Sub (c.at s):=⟨rfl,rfl,rfl,rfl,rfl,λU h=>h,λU h=>h⟩
theorem Cx.Ok.u2 {c:Cx}{f:Fs}(O:c.Ok f):c.un+2<cLine:=cS (cX (a8 _ _) 2) O.ru
theorem Cx.Ok.lim {c:Cx}{f:Fs}(O:c.Ok f):c.dp<recursionLimit:=cS (a8 _ _) O.rd
theorem Mem.up {as bs:List aj}{V:Vm}{m:Str->Option af}(M:Mem as V m):Mem (as++bs) V m:=λx p e=>let ⟨v,h1,h2⟩:=M x p e; ⟨v,h1,h2.up⟩
theorem lt_of_get {as:List α}{a:α}(h:as[k]?=PD a):k<as.length:=(fX.mp h).1
theorem jI {as bs:List α}{b:α}(h:(as++bs)[k]?=PD b):(k<as.length/\as[k]?=PD b)\/(as.length<=k/\bs[k - as.length]?=PD b):=by
 by_cases hk:k<as.length
 ·rw[dW hk] at h; exact .inl ⟨hk,h⟩
 ·have hk:=hH hk;rw[aM hk] at h; exact .inr ⟨hk,h⟩
structure NewAll (h h':aL)(cs bs:List aj)(ys:List SO):Prop where
 len:bs.length=ys.length
 nd:bs.Nodup
 ob:∀ (j:Nat) (D:aj) (y:SO),bs[j]?=PD D->ys[j]?=PD y->h.get? D=PF/\(∃ o,h'.get? D=PD o/\y.is cs o)/\y.own
theorem NewAll.nil {h h':aL}{cs:List aj}:NewAll h h' cs [] []:=⟨rfl,.nil,λj U U e=>by cases j<;>cases e⟩
theorem NewAll.cons {bs:List aj}{ys:List SO}{y:SO}(h1:h.get? D=PF)(h2:h'.get? D=PD o)(h3:y.is cs o)(h4:y.own)(h5:D∉bs)(N:NewAll h h' cs bs ys):NewAll h h' cs (D :: bs) (y :: ys):=
 ⟨congrArg fq N.len,ky.mpr ⟨h5,N.nd⟩,λj D' y' e1 e2=>by
  cases j with
  | zero=>cases e1; cases e2; exact⟨h1,⟨o,h2,h3⟩,h4⟩
  | succ j=>exact N.ob j D' y' e1 e2⟩
def KpB (a:aj)(h h':aL):Prop:=∀ b o,b≠a->h.get? b=PD o->h'.get? b=PD o
theorem KpB.of (hs:dI a h h'):KpB a h h':=λb U hb e=>(hs.2 b hb).trans e
def Kp (c:Cx)(h h':aL):Prop:=∀ b o,b≠c.L->(c.tb=PG->b≠54/\b≠61)->h.get? b=PD o->h'.get? b=PD o
theorem Kp.trans {c:Cx}{h'':aL}(a:Kp c h h')(b:Kp c h' h''):Kp c h h'':=λx o n t e=>b x o n t (a x o n t e)
theorem Kp.refl {c:Cx}:Kp c h h:=λU U U U e=>e
section
variable {f:Fs}{c:Cx}{V:Vm}{m:Str->Option af}{as:List aj}{Os:List SO}{h h':aL}
theorem wl (kr:∀ b o,h.get? b=PD o->IsRec o->h'.get? b=PD o)(r:h.CodeRec v q):h'.CodeRec v q:=r.imp λU r=>r.imp λU r=>r.imp λvs r=>r.imp λt r=>⟨r.1,kr _ _ r.2.1 ⟨vs,_,t,r.2.2⟩,r.2.2⟩
theorem TabAt.mv {Os':List SO}{P:aj}(T:TabAt L h₀ as Os h P line col q)(k:∀ o,h.get? P=PD o->P≠L->Apart as Os P->h'.get? P=PD o)(kr:∀ b o,h.get? b=PD o->IsRec o->h'.get? b=PD o)(ap:∀ o,h.get? P=PD o->Apart as Os P->Apart as' Os' P):TabAt L h₀ as' Os' h' P line col q:=
 T.elim λo z=>⟨o,k o z.1 z.2.1 z.2.2.2.1,z.2.1,z.2.2.1,ap o z.1 z.2.2.2.1,z.2.2.2.2.imp id λw=>w.imp λU w=>⟨w.1,wl kr w.2⟩⟩
theorem TabAt.move {Os':List SO}{P:aj}(T:TabAt L h₀ as Os h P line col q)(rc:∀ b o,h.get? b=PD o->IsRec o->b≠L/\Apart as Os b)(kp:∀ b o,b≠L->Apart as Os b->h.get? b=PD o->h'.get? b=PD o)
  (ap:∀ b o,h.get? b=PD o->Apart as Os b->Apart as' Os' b):TabAt L h₀ as' Os' h' P line col q:=T.mv (λo e n A=>kp _ o n A e) (λb o e r=>kp b o (rc b o e r).1 (rc b o e r).2 e) (ap _)
theorem Inv.isRec (i:Inv f c V m as Os h)(b:aj)(o:Obj)(e:h.get? b=PD o)(r:IsRec o):b≠c.L/\Apart as Os b:=
 ⟨λq=>i.F.ns.elim λoL u=>u.elim λU u=>u.elim λU u=>r.elim λvs r=>r.elim λU r=>r.elim λU r=>(nomatch u.2.1.symm.trans ((congrArg Obj.data (ac (u.1.symm.trans (q▸e)))).trans r.1)),
  λk x e1 e2 hw=>(i.ob _ _ _ e1 e2 hw.live).elim λo' z=>x.noRec hw z.1 (ac (e.symm.trans z.2.1)▸r)⟩
theorem OAt.up {bs:List aj}{a:aj}{x:SO}(H:OAt c as h a x)(k:(x.own->a≠c.L)->∀ o,h.get? a=PD o->h'.get? a=PD o):OAt c (as++bs) h' a x:=
 λlv=>(H lv).elim λo z=>⟨o,z.1.up,k (λw=>(z.2.2.1 w).1) _ z.2.1,z.2.2⟩
theorem rh {as bs:List aj}{Os ys:List SO}(hl:as.length=Os.length){y:SO}(e1:(as++bs)[j]?=PD a)(e2:(Os++ys)[j]?=PD y):(as[j]?=PD a/\Os[j]?=PD y)\/(as.length<=j/\bs[j - as.length]?=PD a/\ys[j - as.length]?=PD y):=
 (jI e1).elim (λz1=>(jI e2).elim (λz2=>.inl ⟨z1.2,z2.2⟩) λz2=>absurd z1.1 (cP.mpr (hl▸z2.1))) λz1=>(jI e2).elim (λz2=>absurd (hl▸z2.1) (cP.mpr z1.1)) λz2=>.inr ⟨z1.1,z1.2,hl▸z2.2⟩
theorem jE {α:Type _}{a b:α}:∀ {k:Nat},[a][k]?=PD b->k=0/\a=b:=λ{k}=>k.casesOn (λe=>⟨rfl,ac e⟩) λU e=>nomatch e
theorem Inv.madeT {bs:List aj}{ys:List SO}(i:Inv f c V m as Os h)(F':Fr c.h₀ c.L h' m)(htb:tb=PG->c.tb=PG)(k:∀ b o,b≠c.L->(tb=PG->b≠54/\b≠61)->h.get? b=PD o->h'.get? b=PD o)(N:NewAll h h' (as++bs) bs ys)
  (n1:tb=PG->TabNow h' 54 36 4 EH) (n2:tb=PG->TabNow h' 61 51 4 EG):Inv f c V m (as++bs) (Os++ys) h':=
 have ap:∀ b o,h.get? b=PD o->Apart as Os b->Apart (as++bs) (Os++ys) b:=λb o e A j x e1 e2 hx=>(rh i.len e1 e2).elim (λq=>A j x q.1 q.2 hx) λq=>nomatch (N.ob _ _ _ q.2.1 q.2.2).1.symm.trans e;have no:∀ {j j':Nat} {a:aj} {y y':SO},as[j]?=PD a->Os[j]?=PD y->y.own->bs[j']?=PD a->ys[j']?=PD y'->False:=λq1 q2 hw e1 e2=>(i.ob _ _ _ q1 q2 hw.live).elim λo z=>nomatch (N.ob _ _ _ e1 e2).1.symm.trans z.2.1
 have tabs:∀ {P:aj} {line col:Nat} {q:Str},TabAt c.L c.h₀ as Os h P line col q->(tb=PG->TabNow h' P line col q)->TabAt c.L c.h₀ (as++bs) (Os++ys) h' P line col q:=λ{P line col q} T n=>(cJ (tb=PG)).elim
  (λt=>T.elim λo z=>(n t).elim λo' g=>⟨o',g.1,z.2.1,z.2.2.1,ap _ _ z.1 z.2.2.2.1,g.2⟩) λt=>T.move i.isRec (λb o hb U e=>k b o hb (λz=>absurd z t) e) ap
 have ob:∀ (j:Nat) (a:aj) (y:SO),as[j]?=PD a->Os[j]?=PD y->OAt c (as++bs) h' a y:=λj a y q1 q2 lv=>(i.ob _ _ _ q1 q2 lv).elim λo g=>⟨o,g.1.up,(cJ y.own).elim
  (λhw=>k _ _ (g.2.2.1 hw).1 (λz=>⟨λq=>(i.t1 (htb z)).elim λU u=>u.2.2.2.1 _ _ (q▸q1) q2 hw,λq=>(i.t2 (htb z)).elim λU u=>u.2.2.2.1 _ _ (q▸q1) q2 hw⟩) g.2.1) λhw=>F'.keep _ _ (g.2.2.2 hw),g.2.2⟩
 ⟨F',i.M.up,λy j e=>(i.C y j e).imp λa z=>⟨z.1,f4 z.2⟩,by rw[aJ,aJ,i.len,N.len],
  λj a y ea ey=>(rh i.len ea ey).elim (λq=>ob j a y q.1 q.2) λq U=>have g:=N.ob _ _ _ q.2.1 q.2.2; g.2.1.elim λo g2=>⟨o,g2.2,g2.1,λU=>⟨λe=>i.F.ns.elim λoL u=>u.elim λU u=>u.elim λU u=>(nomatch (e▸g.1:h.get? c.L=PF).symm.trans u.1),cU.mpr λo e=>(nomatch g.1.symm.trans (i.F.keep _ _ e))⟩,λq=>absurd g.2.2 q⟩,
  λj j' a y y' e1 e2 e3 e4 o1 o2=>(rh i.len e1 e3).elim (λq=>(rh i.len e2 e4).elim (λq'=>i.nd _ _ _ _ _ q.1 q'.1 q.2 q'.2 o1 o2) λq'=>(no q.1 q.2 o1 q'.2.1 q'.2.2).elim)
   λq=>(rh i.len e2 e4).elim (λq'=>(no q'.1 q'.2 o2 q.2.1 q.2.2).elim) λq'=>(cO q.1).symm.trans ((congrArg (·+as.length) ((gG (lt_of_get q.2.1) N.nd).mp (q.2.1.trans q'.2.1.symm))).trans (cO q'.1)),
  λt=>tabs (i.t1 t) n1,λt=>tabs (i.t2 t) n2,i.pf.up,λq hq=>have z:=i.pn q hq; ⟨k _ _ z.2.1 (λt=>z.2.2.2 (htb t)) z.1,z.2.1,ap _ _ z.1 z.2.2.1,z.2.2.2⟩⟩
theorem Inv.made {bs:List aj}{ys:List SO}(i:Inv f c V m as Os h)(F':Fr c.h₀ c.L h' m)(k:∀ b o,b≠c.L->h.get? b=PD o->h'.get? b=PD o)(N:NewAll h h' (as++bs) bs ys):Inv f c V m (as++bs) (Os++ys) h':=
 i.madeT (tb:=PH) F' (λz=>nomatch z) (λb o hb U e=>k b o hb e) N (λz=>nomatch z) (λz=>nomatch z)
theorem Inv.stay (i:Inv f c V m as Os h)(b:aj)(o:Obj)(e:c.h₀.get? b=PD o\/(b,o)∈c.pn):h.get? b=PD o:=e.elim (i.F.keep b o) λq=>(i.pn _ q).1
theorem HdC.at (H:HdC c)(i:Inv f c V m as Os h):HdOk c.hv h:=λv e=>let ⟨a,o,vs,h1,h2,h3⟩:=H v e; ⟨a,o,vs,h1,i.stay a o h2,h3⟩
theorem Inv.keep (i:Inv f c V m as Os h)(F':Fr c.h₀ c.L h' m)(k:∀ b o,b≠c.L->h.get? b=PD o->h'.get? b=PD o):Inv f c V m as Os h':=by
 have:=i.made (bs:=[]) (ys:=[]) F' k NewAll.nil;rwa [ao,ao] at this
theorem Inv.frX (i:Inv f c V m as Os h)(X:aj->Prop)(hX:∀ b,X b->b≠c.L/\c.h₀.get? b=PF)(kp:∀ b o,¬ X b->h.get? b=PD o->h'.get? b=PD o):Fr c.h₀ c.L h' m:=
 ⟨i.F.ns.at' λo e=>kp _ o (λx=>(hX _ x).1 rfl) e,λb o e=>kp b o (λx=>by rw[(hX _ x).2] at e; cases e) (i.F.keep b o e),i.F.above⟩
theorem Inv.keepX (i:Inv f c V m as Os h)(X:aj->Prop)(hX:∀ b,X b->Apart as Os b/\(c.tb=PG->b≠54/\b≠61)/\(∀ q∈c.pn,q.1≠b)/\(c.tb=PG->∀ o,h.get? b=PD o->¬ IsRec o))(F':Fr c.h₀ c.L h' m)(kp:∀ b o,¬ X b->b≠c.L->h.get? b=PD o->h'.get? b=PD o):Inv f c V m as Os h':=
 have tabs:c.tb=PG->∀ {P:aj} {line col:Nat} {q:Str},¬ X P->TabAt c.L c.h₀ as Os h P line col q->TabAt c.L c.h₀ as Os h' P line col q:=λht {P line col q} hP T=>T.mv (λo e n U=>kp _ _ hP n e) (λb o e r=>kp _ _ (λx=>(hX _ x).2.2.2 ht _ e r) (i.isRec _ _ e r).1 e) λU U A=>A
 ⟨F',i.M,i.C,i.len,λk a x e1 e2 lv=>(i.ob k a x e1 e2 lv).elim λo z=>⟨o,z.1,(cJ x.own).elim (λhw=>kp _ _ (λq=>(hX _ q).1 k x e1 e2 hw) (z.2.2.1 hw).1 z.2.1) λhw=>F'.keep _ _ (z.2.2.2 hw),z.2.2⟩,i.nd,
  λht=>tabs ht (λx=>((hX _ x).2.1 ht).1 rfl) (i.t1 ht),λht=>tabs ht (λx=>((hX _ x).2.1 ht).2 rfl) (i.t2 ht),i.pf,λq hq=>have z:=i.pn q hq; ⟨kp _ _ (λx=>(hX _ x).2.2.1 q hq rfl) z.2.1 z.1,z.2⟩⟩
theorem OAt.same {b:aj}{x:SO}(H:OAt c as h a x)(hs:KpB b h h')(hb:c.h₀.get? b=PF)(ne:x.own->a≠b):OAt c as h' a x:=by
 intro lv;obtain⟨o,h1,h2,h3,h4⟩:=H lv;refine⟨o,h1,?_,h3,h4⟩
 by_cases hw:x.own
 ·exact hs a o (ne hw) h2
 ·exact hs a o (λq=>by have:=h4 hw; rw[q,hb] at this; cases this) h2
theorem Inv.L0 (i:Inv f c V m as Os h):c.h₀.get? c.L=PF:=d8 i.F.above
noncomputable def put:Vm->Str->PV->Vm
 | [],x,p=>[(x,p)]
 | q :: r,x,p=>if q.1=x then(x,p) :: r else q :: put r x p
theorem OH {p:PV}{r:Vm}(h:x=y):((x,p) :: r).lookup y=PD p:=h▸List.lookup_cons_self
theorem Ow {q:Str×PV}{r:Vm}(h:y≠q.1):(q :: r).lookup y=r.lookup y:=by rw[bv,beq_false_of_ne h]
theorem ON (x:Str)(p:PV)(V:Vm):(put V x p).lookup x=PD p:=by
 induction V with
 | nil=>exact OH rfl
 | cons q r ih=>exact(NP (q.1=x)).elim (λh=>(congrArg (Oc x) (if_pos h:put (q :: r) x p=_)).trans (OH rfl)) λh=>(congrArg (Oc x) (if_neg h:put (q :: r) x p=_)).trans ((Ow λe=>h e.symm).trans ih)
theorem OM (p:PV)(hy:y≠x)(V:Vm):(put V x p).lookup y=V.lookup y:=by
 induction V with
 | nil=>exact Ow hy
 | cons q r ih=>exact(NP (q.1=x)).elim (λh=>(congrArg (Oc y) (if_pos h:put (q :: r) x p=_)).trans ((Ow hy).trans (Ow (h▸hy)).symm)) λh=>(congrArg (Oc y) (if_neg h:put (q :: r) x p=_)).trans (by rw[bv,bv,ih])
theorem uj (V:Vm)(x:Str)(p:PV)(y:Str):(put V x p).lookup y=if y=x then PD p else V.lookup y:=
 (NP (y=x)).elim (λh=>by rw[if_pos h,h,ON]) λh=>(OM p h V).trans (if_neg h).symm
theorem sO (M:Mem as V m){p:PV}(hp:p.is as v):Mem as (put V x p) (λy=>if y=x then PD v else m y):=by
 intro y q e;rw[uj] at e
 by_cases h:y=x
 ·rw[if_pos h] at e; cases e;exact⟨v,if_pos h,hp⟩
 ·rw[if_neg h] at e;obtain⟨u,h1,h2⟩:=M _ _ e;exact⟨u,(if_neg h).trans h1,h2⟩
theorem Inv.name (i:Inv f c V m as Os h){p:PV}(hp:p.is as v)(hn:h'.Ns c.L (λy=>if y=x then PD v else m y))(hs:dI c.L h h'):
  Inv f c (put V x p) (λy=>if y=x then PD v else m y) as Os h':=
 have kp:∀ b o,b≠c.L->Apart as Os b->h.get? b=PD o->h'.get? b=PD o:=λb o hb U e=>(hs.2 b hb).trans e
 ⟨i.F.set hn hs,sO i.M hp,i.C,i.len,λk a y e1 e2=>by
  have H:=i.ob k a y e1 e2;exact H.same (KpB.of hs) i.L0 λhw=>let ⟨_,_,_,h3,_⟩:=H hw.live; (h3 hw).1,i.nd,λt=>(i.t1 t).move i.isRec kp λU U U a=>a,λt=>(i.t2 t).move i.isRec kp λU U U a=>a,i.pf,λq hq=>let ⟨h1,h2,h3⟩:=i.pn q hq; ⟨(hs.2 _ h2).trans h1,h2,h3⟩⟩
theorem Inv.objK (i:Inv f c V m as Os h){x y:SO}(ea:as[k]?=PD a)(ex:Os[k]?=PD x)(hw:x.own)(hy:y.own)
  (hs:KpB a h h') (ho:h'.get? a=PD o) (hi:y.is as o):Inv f c V m as (Os.set k y) h':=
 have H:a≠c.L/\c.h₀.get? a=PF:=(i.ob _ _ _ ea ex hw.live).elim λU z=>z.2.2.1 hw;have F':Fr c.h₀ c.L h' m:=⟨i.F.ns.at' λo e=>hs _ o H.1.symm e,λb o' e=>hs b o' (λq=>nomatch (q▸H.2:c.h₀.get? b=PF).symm.trans e) (i.F.keep b o' e),i.F.above⟩;have key:∀ {j:Nat} {z:SO},(Os.set k y)[j]?=PD z->z.own->∃ z',Os[j]?=PD z'/\z'.own:=λ{j z} e hz=>(cJ (k=j)).elim (λhj=>⟨x,hj▸ex,hw⟩) λhj=>⟨z,(li hj).symm.trans e,hz⟩;have kp:∀ b o,b≠c.L->Apart as Os b->h.get? b=PD o->h'.get? b=PD o:=λb o U A e=>hs b o (λq=>A k x (q▸ea) ex hw) e;have ap:∀ b o,h.get? b=PD o->Apart as Os b->Apart as (Os.set k y) b:=λb o U A j z e1 e2 hz=>(key e2 hz).elim λz' g=>A j z' e1 g.1 g.2
 ⟨F',i.M,i.C,List.length_set.symm▸i.len,λj b z e1 e2=>(cJ (k=j)).elim
   (λhj=>have eb:=ac (ea.symm.trans (hj.symm▸e1:as[k]?=PD b)); have ez:=ac ((List.getElem?_set_self (lt_of_get ex)).symm.trans (hj.symm▸e2:(Os.set k y)[k]?=PD z)); eb▸ez▸λU=>⟨o,hi,ho,λU=>H,λq=>absurd hy q⟩)
   λhj=>(i.ob j b z e1 ((li hj).symm.trans e2)).same hs H.2 λhz q=>hj (i.nd _ _ _ _ _ ea (q▸e1) ex ((li hj).symm.trans e2) hw hz),
  λj j' b z z' e1 e2 e3 e4 o1 o2=>(key e3 o1).elim λU g=>(key e4 o2).elim λU g'=>i.nd _ _ _ _ _ e1 e2 g.1 g'.1 g.2 g'.2,λt=>(i.t1 t).move i.isRec kp ap,λt=>(i.t2 t).move i.isRec kp ap,i.pf,λq hq=>have z:=i.pn q hq; ⟨kp _ _ z.2.1 z.2.2.1 z.1,z.2.1,ap _ _ z.1 z.2.2.1,z.2.2.2⟩⟩
theorem Inv.obj (i:Inv f c V m as Os h){x y:SO}(ea:as[k]?=PD a)(ex:Os[k]?=PD x)(hw:x.own)(hy:y.own)
  (hs:dI a h h') (ho:h'.get? a=PD o) (hi:y.is as o):Inv f c V m as (Os.set k y) h':=i.objK ea ex hw hy (KpB.of hs) ho hi
structure Off (c:Cx)(as:List aj)(Os:List SO)(b:aj):Prop where
 L:b≠c.L
 g:c.h₀.get? b=PF
 a:Apart as Os b
 t:c.tb=PG->b≠54/\b≠61
 p:∀ q∈c.pn,q.1≠b
theorem Inv.add (i:Inv f c V m as Os h){x:SO}(oD:Off c as Os D)(hx:x.is (as++[D]) o)(ho:h.get? D=PD o)(hw:x.own):Inv f c V m (as++[D]) (Os++[x]) h:=
 have ap:∀ b,b≠D->Apart as Os b->Apart (as++[D]) (Os++[x]) b:=λb hb A j y e1 e2 hy=>(rh i.len e1 e2).elim (λq=>A j y q.1 q.2 hy) λq=>hb (jE q.2.1).2.symm;have z0:∀ {j:Nat},as.length<=j->j - as.length=0->j=as.length:=λh e=>f7 (Nat.sub_eq_zero_iff_le.mp e) h
 ⟨i.F,i.M.up,λy j e=>(i.C y j e).imp λa z=>⟨z.1,f4 z.2⟩,by rw[aJ,aJ,i.len]; rfl,
  λj a y e1 e2=>(rh i.len e1 e2).elim (λq=>(i.ob _ _ _ q.1 q.2).up λU U e=>e) λq=>(jE q.2.1).2▸(jE q.2.2).2▸λU=>⟨o,hx,ho,λU=>⟨oD.L,oD.g⟩,λq=>absurd hw q⟩,
  λj j' a y y' e1 e2 e3 e4 o1 o2=>(rh i.len e1 e3).elim (λq=>(rh i.len e2 e4).elim (λq'=>i.nd _ _ _ _ _ q.1 q'.1 q.2 q'.2 o1 o2) λq'=>(oD.a _ _ ((jE q'.2.1).2▸q.1) q.2 o1).elim)
   λq=>(rh i.len e2 e4).elim (λq'=>(oD.a _ _ ((jE q.2.1).2▸q'.1) q'.2 o2).elim) λq'=>(z0 q.1 (jE q.2.1).1).trans (z0 q'.1 (jE q'.2.1).1).symm,
  λht=>(i.t1 ht).imp λo z=>⟨z.1,z.2.1,z.2.2.1,ap _ (oD.t ht).1.symm z.2.2.2.1,z.2.2.2.2⟩,λht=>(i.t2 ht).imp λo z=>⟨z.1,z.2.1,z.2.2.1,ap _ (oD.t ht).2.symm z.2.2.2.1,z.2.2.2.2⟩,i.pf.up,λq hq=>have z:=i.pn q hq; ⟨z.1,z.2.1,ap _ (oD.p q hq) z.2.2.1,z.2.2.2⟩⟩
theorem Inv.get (i:Inv f c V m as Os h){x:SO}(e:Os[k]?=PD x)(lv:x.live)(hu:(PV.r k).is as u):∃ a o,u=.ref a/\h.get? a=PD o/\x.core.is as o:=by
 refine bU λG1 hG1=>?_;obtain⟨a,ea,rfl⟩:=hu;obtain⟨o,h1,h2,_⟩:=i.ob _ _ _ ea e lv;refine hG1 ?_;exact⟨a,o,rfl,h2,x.core_is h1⟩
end
abbrev IV:=List aj->List SO->aL->Prop
def IOk (f:Fs)(c:Cx)(I:IV):Prop:=∀ as Os h,I as Os h->∃ V m,Inv f c V m as Os h/\∀ bs ys h',Inv f c V m (as++bs) (Os++ys) h'->Kp c h h'->I (as++bs) (Os++ys) h'
theorem IOk.inv {f:Fs}{c:Cx}{V:Vm}:IOk f c (Inv f c V m):=λU U U i=>⟨V,m,i,λU U U i' U=>i'⟩
theorem gf (h₀ h:aL)(L:aj):∃ N:List (aj×Obj),gY h₀ L h N/\∀ b o,h.get? b=PD o->b≠L->h₀.get? b=PF->(b,o)∈N:=by
 refine⟨(bz h.objs.size).filterMap λb=>(h.get? b).bind λo=>if b=L\/(h₀.get? b).isSome=PG then PF else PD (b,o),λq hq=>?_,λb o e hb h0=>?_⟩
 ·obtain⟨b,_,e⟩:=dP.mp hq;refine ak e λo ho e=>?_
  by_cases hn:b=L\/(h₀.get? b).isSome=PG
  ·rw[if_pos hn] at e; cases e
  ·rw[if_neg hn] at e; cases e;refine⟨ho,λr=>hn (.inl r),?_⟩;cases e0:h₀.get? b with
   | none=>rfl
   | some o'=>exact absurd (.inr (by rw[e0]; rfl)) hn
 ·refine dP.mpr ⟨b,dm.mpr (aO e),?_⟩;rw[e];exact if_neg λq=>q.elim hb λr=>by rw[h0] at r; cases r
theorem lf {N:List (aj×Obj)}(hN:∀ b o,h.get? b=PD o->b≠L->h₀.get? b=PF->(b,o)∈N)(F:Fr h₀ L h m)(F':Fr h₀ L h' m')(N':gY h₀ L h' N):∀ b o,b≠L->h.get? b=PD o->h'.get? b=PD o:=λb o hb e=>by
 cases e0:h₀.get? b with
 | none=>exact(N' _ (hN b o e hb e0)).1
 | some o'=>
  have:=F.keep _ _ e0;rw[e] at this; cases this;exact F'.keep _ _ e0
end
section
abbrev PR:=PV×List Prop
noncomputable def mR {δ ε:Type}{γ:Type _}(g1:PV->Option δ)(g2:PV->Option ε)(f:δ->ε->γ)(a:PV)(b:PV):Option γ:=(g1 a).bind λx=>(g2 b).map λy=>f x y
theorem fz {δ ε:Type}{γ:Type _}{g1:PV->Option δ}{g2:PV->Option ε}{f:δ->ε->γ}{a b:PV}{q:γ}(h:mR g1 g2 f a b=PD q):∃ x y,g1 a=PD x/\g2 b=PD y/\f x y=q:=by
 refine bU λG1 hG1=>?_;refine ak h λx h1 h=>?_;obtain⟨y,h2,h⟩:=bh.mp h;refine hG1 ?_;exact⟨x,y,h1,h2,h⟩
abbrev Gv (as:List aj)(x:Sem af)(p:PV):Prop:=∀ {w:aB} {A:be} {E Q:af->ai->Prop} {s₀:ai} {h:aL} {k:Nat},(∀ v k',p.is as v->Q v (sh s₀ h k'))->wpAny (MP w) A x Q E (sh s₀ h k)
structure BinR where
 op:dM
 f:PV->PV->Option PR
 ok:∀ {a b:PV} {q:PR},f a b=PD q->Al q.2->∀ {as:List aj} {u v:af},a.is as u->b.is as v->Gv as (binaryOp op u v) q.1
def BinR.ii (op:dM)(g:Int->Int->PR)(ok:∀ x y,Al (g x y).2->∀ {as:List aj} {t t':Tok},Gv as (binaryOp op (.int x t) (.int y t')) (g x y).1):BinR:=
 ⟨op,mR PV.int? PV.int? g,λe hC U U U hu hv=>by
  obtain⟨x,y,h1,h2,rfl⟩:=fz e;rw[PV.int_is h1] at hu; rw[PV.int_is h2] at hv;obtain⟨t,rfl⟩:=hu; obtain⟨t',rfl⟩:=hv;exact ok x y hC⟩
def BinR.ff (op:dM)(g:UInt64->UInt64->PR)(ok:∀ x y,Al (g x y).2->∀ {as:List aj} {t t':Tok},Gv as (binaryOp op (.float x t) (.float y t')) (g x y).1):BinR:=
 ⟨op,mR PV.flt? PV.flt? g,λe hC U U U hu hv=>by
  obtain⟨x,y,h1,h2,rfl⟩:=fz e;rw[PV.flt_is h1] at hu; rw[PV.flt_is h2] at hv;obtain⟨t,rfl⟩:=hu; obtain⟨t',rfl⟩:=hv;exact ok x y hC⟩
def BinR.fi (op:dM)(g:UInt64->Int->PR)(ok:∀ x y,Al (g x y).2->∀ {as:List aj} {t t':Tok},Gv as (binaryOp op (.float x t) (.int y t')) (g x y).1):BinR:=
 ⟨op,mR PV.flt? PV.int? g,λe hC U U U hu hv=>by
  obtain⟨x,y,h1,h2,rfl⟩:=fz e;rw[PV.flt_is h1] at hu; rw[PV.int_is h2] at hv;obtain⟨t,rfl⟩:=hu; obtain⟨t',rfl⟩:=hv;exact ok x y hC⟩
def H0:List BinR:=[
 .ii .Add (λa b=>(.i (a+b),[])) λU U U U U U U U U U U U U hq=>add_int (hq _ _ ⟨_,rfl⟩),
 .ii .Sub (λa b=>(.i (a - b),[])) λU U U U U U U U U U U U U hq=>sub_int (hq _ _ ⟨_,rfl⟩),
 .ii .Mult (λa b=>(.i (a*b),[IntMulOk a b])) λU U hC U U U U U U U U U U hq=>PyProof.Rows.mul_int (hq _ _ ⟨_,rfl⟩) hC.1,
 .ii .FloorDiv (λa b=>(.i (a.fdiv b),[b≠0,aC a b=PH])) λU U hC U U U U U U U U U U hq=>floordiv_int hC.1 (hq _ _ ⟨_,rfl⟩) (.inl hC.2.1),
 .ii .Mod (λa b=>(.i (a.fmod b),[b≠0])) λU U hC U U U U U U U U U U hq=>mod_int hC.1 (hq _ _ ⟨_,rfl⟩),
 .ii .Div (λa b=>(.f (gr (decide (a<0) != decide (b<0)) a.natAbs b.natAbs),[b≠0,bC (gr (decide (a<0) != decide (b<0)) a.natAbs b.natAbs)=PH])) λU U hC U U U U U U U U U U hq=>D8 (λq=>hC.1 q) (λU q=>by rw[hC.2.1] at q; cases q) (λU U=>hq _ _ ⟨_,rfl⟩),
 .ii .LShift (λa b=>(.i (a*2 ^ b.toNat),[0<=b,b<=1000000,a.natAbs<2 ^ 64])) λU U hC U U U U U U U U U U hq=>lshift_int_small hC.1 hC.2.1 hC.2.2.1 (hq _ _ ⟨_,rfl⟩),
 .ii .RShift (λa b=>(.i (a.fdiv (2 ^ b.toNat)),[0<=b])) λU U hC U U U U U U U U U U hq=>rshift_int hC.1 (hq _ _ ⟨_,rfl⟩),
 .ii .BitXor (λa b=>(.i (qO a b),[])) λU U U U U U U U U U U U U hq=>PyProof.Rows.xor_int (hq _ _ ⟨_,rfl⟩),
 .ii .BitAnd (λa b=>(.i (qP a b),[])) λU U U U U U U U U U U U U hq=>PyProof.Rows.and_int (hq _ _ ⟨_,rfl⟩),
 .ii .Pow (λa b=>(.i (a ^ b.toNat),[0<=b,(az a:Int)*b<=2 ^ 27])) λU U hC U U U U U U U U U U hq=>PyProof.Rows.pow_int hC.1 hC.2.1 (hq _ _ ⟨_,rfl⟩),
 .ff .Add (λa b=>(.f (kE a b),[])) λU U U U U U U U U U U U U hq=>AutoFloatOps.add_0 (hq _ _ ⟨_,rfl⟩),
 .ff .Sub (λa b=>(.f (eB a b),[])) λU U U U U U U U U U U U U hq=>AutoFloatOps.sub_0 (hq _ _ ⟨_,rfl⟩),
 .ff .Mult (λa b=>(.f (gS a b),[])) λU U U U U U U U U U U U U hq=>AutoFloatOps.mul_0 (hq _ _ ⟨_,rfl⟩),
 .ff .Div (λa b=>(.f (Float64.div a b),[gt b=PH])) λU U hC U U U U U U U U U U hq=>D9 (λq=>by rw[hC.1] at q; cases q) (λU=>hq _ _ ⟨_,rfl⟩),
 .ff .Mod (λa b=>(.f (bD a b).2,[gt b=PH])) λU U hC U U U U U U U U U U hq=>Dm (λq=>by rw[hC.1] at q; cases q) (λU=>hq _ _ ⟨_,rfl⟩),
 .fi .Add (λa n=>(.f (kE a (cZ n)),[¬ 2 ^ 1024 - 2 ^ 970<=n.natAbs])) λU U hC U U U U U U U U U U hq=>Et (λq=>absurd q hC.1) (λU=>hq _ _ ⟨_,rfl⟩),
 .fi .Sub (λa n=>(.f (eB a (cZ n)),[¬ 2 ^ 1024 - 2 ^ 970<=n.natAbs])) λU U hC U U U U U U U U U U hq=>CC (λq=>absurd q hC.1) (λU=>hq _ _ ⟨_,rfl⟩),
 ⟨.Mult,mR PV.int? PV.flt? λn a=>(.f (gS (cZ n) a),[¬ 2 ^ 1024 - 2 ^ 970<=n.natAbs]),λe hC U U U hu hv U U U U U U U hq=>by
  obtain⟨x,y,h1,h2,rfl⟩:=fz e;rw[PV.int_is h1] at hu; rw[PV.flt_is h2] at hv;obtain⟨t,rfl⟩:=hu; obtain⟨t',rfl⟩:=hv;exact Dj (λq=>absurd q hC.1) (λU=>hq _ _ ⟨_,rfl⟩)⟩,
 ⟨.Add,mR PV.str? PV.str? λa b=>(.s (a++b),[a.length+b.length<=sizeLine]),λe hC U U U hu hv U U U U U U U hq=>by
  obtain⟨x,y,h1,h2,rfl⟩:=fz e;rw[PV.str_is h1] at hu; rw[PV.str_is h2] at hv;obtain⟨t,rfl⟩:=hu; obtain⟨t',rfl⟩:=hv;exact PyProof.Rows.add_str (λU U=>hq _ _ ⟨_,rfl⟩) hC.1⟩,
 ⟨.Mult,mR PV.str? PV.int? λa n=>(.s (ww a n),[MT a n]),λe hC U U U hu hv U U U U U U U hq=>by
  obtain⟨x,y,h1,h2,rfl⟩:=fz e;rw[PV.str_is h1] at hu; rw[PV.int_is h2] at hv;obtain⟨t,rfl⟩:=hu; obtain⟨t',rfl⟩:=hv;exact SB.mul hC.1 (λU U=>hq _ _ ⟨_,rfl⟩)⟩]
def I5 (op:dM)(a b:PV):Option PR:=H0.findSome? λr=>if r.op=op then r.f a b else PF
theorem Db {a b:PV}{q:PR}(e:I5 op a b=PD q)(hC:Al q.2)(hu:a.is as u)(hv:b.is as v):Gv as (binaryOp op u v) q.1:=by
 obtain⟨r,_,h⟩:=br e
 by_cases ho:r.op=op
 ·rw[if_pos ho] at h;subst ho;exact r.ok h hC hu hv
 ·rw[if_neg ho] at h; cases h
structure CmpR where
 op:iu
 f:List SO->PV->PV->Option Bool
 ok:∀ {Os:List SO} {a b:PV} {q:Bool},f Os a b=PD q->∀ {fs:Fs} {c:Cx} {V:Vm} {m:Str->Option af} {as:List aj} {h:aL},Inv fs c V m as Os h->HdC c->c.un+2<cLine->∀ {u v:af},a.is as u->b.is as v->
  ∀ {E Q:af->ai->Prop} {k:Nat},(∀ k',Q (.bool q) (sh c.s₀ h k'))->wpAny (MP c.w) (c.A fs) (compareOp op u v) Q E (sh c.s₀ h k)
def CmpR.ii (op:iu)(g:Int->Int->Bool)(ok:∀ x y {t t':Tok} {w:aB} {A:be} {E Q:af->ai->Prop} {s:ai},Q (.bool (g x y)) s->wpAny (MP w) A (compareOp op (.int x t) (.int y t')) Q E s):CmpR:=
 ⟨op,λU=>mR PV.int? PV.int? g,λe U U U U U U U U U U U hu hv U U U hq=>by
  obtain⟨x,y,h1,h2,rfl⟩:=fz e;rw[PV.int_is h1] at hu; rw[PV.int_is h2] at hv;obtain⟨t,rfl⟩:=hu; obtain⟨t',rfl⟩:=hv;exact ok x y (hq _)⟩
def CmpR.ff (op:iu)(g:UInt64->UInt64->Bool)(ok:∀ x y {t t':Tok} {w:aB} {A:be} {E Q:af->ai->Prop} {s:ai},Q (.bool (g x y)) s->wpAny (MP w) A (compareOp op (.float x t) (.float y t')) Q E s):CmpR:=
 ⟨op,λU=>mR PV.flt? PV.flt? g,λe U U U U U U U U U U U hu hv U U U hq=>by
  obtain⟨x,y,h1,h2,rfl⟩:=fz e;rw[PV.flt_is h1] at hu; rw[PV.flt_is h2] at hv;obtain⟨t,rfl⟩:=hu; obtain⟨t',rfl⟩:=hv;exact ok x y (hq _)⟩
def CmpR.ss (op:iu)(g:Str->Str->Bool)(ok:∀ x y {t t':Tok} {w:aB} {A:be} {E Q:af->ai->Prop} {s:ai},Q (.bool (g x y)) s->wpAny (MP w) A (compareOp op (.str x t) (.str y t')) Q E s):CmpR:=
 ⟨op,λU=>mR PV.str? PV.str? g,λe U U U U U U U U U U U hu hv U U U hq=>by
  obtain⟨x,y,h1,h2,rfl⟩:=fz e;rw[PV.str_is h1] at hu; rw[PV.str_is h2] at hv;obtain⟨t,rfl⟩:=hu; obtain⟨t',rfl⟩:=hv;exact ok x y (hq _)⟩
noncomputable def PV.isN:PV->Option Bool | .i _=>PD PH | .f _=>PD PH | .s _=>PD PH | .v w=>PD (w == .none) | .r _=>PD PH
theorem AL {a b:PV}{q:Bool}(e:(b.val?.bind λv=>if v=.none then a.isN else PF)=PD q)(hu:a.is as u)(hv:b.is as v):q=(u == .none)/\v=.none:=by
 refine ak e λw e1 e=>?_;rw[PV.val_is e1] at hv;have hv:v=w:=hv;subst hv
 by_cases h:v=.none
 ·rw[if_pos h] at e;refine⟨?_,h⟩;cases a with
  | i z=>obtain⟨t,rfl⟩:=hu; cases e; rfl
  | f z=>obtain⟨t,rfl⟩:=hu; cases e; rfl
  | s z=>obtain⟨t,rfl⟩:=hu; cases e; rfl
  | v w=>have hu:u=w:=hu; subst hu; cases e; rfl
  | r k=>obtain⟨t,_,rfl⟩:=hu; cases e; rfl
 ·rw[if_neg h] at e; cases e
noncomputable def SO.ownB:SO->Bool | .L _=>PG | .T _=>PG | .C _=>PG | .P _=>PG | .Z _ _=>PG | .G _=>PH | .N=>PH
theorem SO.ownB_is {x:SO}(h:x.ownB=PG):x.own:=by cases x<;>first | trivial | cases h
noncomputable def PV.ty?:PV->Option String | .i _=>PF | .f _=>PF | .s _=>PF | .v w=>(match w with | .type n=>PD n | .float _ _=>PF | .none=>PF | .ellipsis=>PF | .notImplemented=>PF | .bool _=>PF | .int _ _=>PF | .str _ _=>PF | .bytes _ _=>PF | .builtin _=>PF | .ref _=>PF) | .r _=>PF
theorem PV.ty_is {p:PV}{n:String}(h:p.ty?=PD n)(hu:p.is as u):u=.type n:=by
 cases p with
 | v w=>cases w<;>cases h; exact hu
 | _=>cases h
def Mg (p q:PV):Option Bool:=(mR PV.int? PV.int? (λx y=>x == y) p q).or (mR PV.str? PV.str? (λx y=>x == y) p q)
noncomputable def r2 (g:PV->PV->Option Bool):List PV->List PV->Option Bool
 | [],[]=>PD PG
 | [],_ :: _=>PF
 | _ :: _,[]=>PF
 | p :: r,q :: s=>(g p q).bind λb=>(r2 g r s).map λt=>b&&t
def Mj (g:PV->PV->Option Bool)(Os:List SO)(j k:Nat):Option Bool:=(Os[j]?).bind λx=>(Os[k]?).bind λy=>if j≠k/\(x.ownB||y.ownB)=PG then
 (x.core.lst?.bind λl=>y.core.lst?.bind λl'=>if l.length=l'.length then r2 g l l' else PD PH).or (x.core.tup?.bind λl=>y.core.tup?.bind λl'=>if l.length=l'.length then r2 g l l' else PF) else PF
def Mi (Os:List SO):Nat->PV->PV->Option Bool
 | 0,p,q=>Mg p q
 | n+1,p,q=>(Mg p q).or (p.ref?.bind λj=>q.ref?.bind λk=>Mj (Mi Os n) Os j k)
def Mh (Os:List SO)(p q:PV):Option Bool:=p.ref?.bind λj=>q.ref?.bind λk=>Mj (Mi Os 1) Os j k
section
open SeqAt
theorem Bq {p q:PV}(e:Mg p q=PD b)(hu:p.is as u)(hv:q.is as v)(A:be)(s:ai):EqAt A s u v b:=by
 rcases cH.mp e with e | ⟨_,e⟩
 ·obtain⟨x,y,h1,h2,rfl⟩:=fz e;rw[PV.int_is h1] at hu; rw[PV.int_is h2] at hv;obtain⟨t,rfl⟩:=hu; obtain⟨t',rfl⟩:=hv;exact EqAt.int_int _ _ _ _
 ·obtain⟨x,y,h1,h2,rfl⟩:=fz e;rw[PV.str_is h1] at hu; rw[PV.str_is h2] at hv;obtain⟨t,rfl⟩:=hu; obtain⟨t',rfl⟩:=hv;exact EqAt.str_str _ _ _ _
theorem mN:∀ (bs:List Bool),(bz bs.length).all (λj=>bs.getD j PG)=bs.all id
 | []=>rfl
 | b :: r=>by
  rw[cV,List.range_succ_eq_map,fu,List.all_map,fu];exact congrArg (b&&·) (mN r)
theorem uE {g:PV->PV->Option Bool}{A:be}(hg:∀ p q b,g p q=PD b->∀ u v,p.is as u->q.is as v->EqAt A s u v b){l:List PV}:∀ {l':List PV} {b:Bool} {vs us:List af},r2 g l l'=PD b->IsAll as l vs->IsAll as l' us->∃ bs:List Bool,bs.length=l.length/\b=bs.all id/\∀ (j:Nat) (v u:af),vs[j]?=PD v->us[j]?=PD u->EqAt A s v u (bs.getD j PG):=by
 induction l with
 | nil=>exact λ{l'}=>l'.casesOn (λe h1 h2=>⟨[],rfl,(ac e).symm,λj v u e=>nomatch (h1▸e:([]:List af)[j]?=PD v)⟩) λU U e=>nomatch e
 | cons p r ih=>exact λ{l'}=>l'.casesOn (λe=>nomatch e) λq t e h1 h2=>ak e λb e3 e=>aZ e λd e4 eq=>h1.elim λv h1=>h1.elim λvs h1=>h2.elim λu h2=>h2.elim λus h2=>(ih e4 h1.2.2 h2.2.2).elim λbs z=>
   ⟨b :: bs,congrArg fq z.1,eq.trans (z.2.1▸rfl),λj=>h1.1▸h2.1▸j.casesOn (λv' u' ev eu=>ac ev▸ac eu▸hg p q b e3 _ _ h1.2.1 h2.2.1) z.2.2⟩
theorem SO.lst_live {x:SO}{xs:List PV}(h:x.core.lst?=PD xs):x.live:=by cases x<;>first | trivial | cases h
theorem SO.tup_live {x:SO}{xs:List PV}(h:x.core.tup?=PD xs):x.live:=by cases x<;>first | trivial | cases h
theorem SO.core_o {x:SO}(h:x.is as o):x.core.is as o:=by cases x<;>first | exact h | exact h.2.1
theorem SO.lst_o {x:SO}{xs:List PV}(h:x.core.lst?=PD xs)(p:x.is as o):∃ vs n,o={ cls:=.type "list",data:=.seq vs.toArray n }/\IsAll as xs vs:=(SO.lst_is h▸SO.core_o p:(SO.L xs).is as o)
theorem SO.tup_o {x:SO}{xs:List PV}(h:x.core.tup?=PD xs)(p:x.is as o):∃ vs,o={ cls:=.type "tuple",data:=.seq vs.toArray }/\IsAll as xs vs:=(SO.tup_is h▸SO.core_o p:(SO.T xs).is as o)
theorem Inv.ne {f:Fs}{c:Cx}{V:Vm}{Os:List SO}(i:Inv f c V m as Os h){x y:SO}(ea:as[j]?=PD a)(ed:as[k]?=PD a)(e1:Os[j]?=PD x)(e2:Os[k]?=PD y)(lx:x.live)(ly:y.live)(hc:j≠k):(x.own\/y.own)->False:=
 have one:∀ {j k:Nat} {x y:SO},as[j]?=PD a->as[k]?=PD a->Os[j]?=PD x->Os[k]?=PD y->x.live->y.live->j≠k->x.own->False:=λea ed e1 e2 lx ly hc w=>(cJ _).elim (λw2=>hc (i.nd _ _ _ _ _ ea ed e1 e2 w w2)) λw2=>(i.ob _ _ _ ea e1 lx).elim λo p=>(i.ob _ _ _ ed e2 ly).elim λo' q=>nomatch (q.2.2.2 w2).symm.trans (p.2.2.1 w).2
 λt=>t.elim (one ea ed e1 e2 lx ly hc) (one ed ea e2 e1 ly lx hc.symm)
section
variable {g:PV->PV->Option Bool}{as:List aj}{A:be}{s:ai}{l l':List PV}{b:Bool}{vs us:List af}{a d:aj}(hg:∀ p q b,g p q=PD b->∀ u v,p.is as u->q.is as v->EqAt A.in1 s u v b)(hA:A.units<cLine)(hv:IsAll as l vs)(hv':IsAll as l' us)
include hg hA hv hv'
theorem D4 (L1:s.heap.IsList a vs.toArray)(L2:s.heap.IsList d us.toArray)(e:(if l.length=l'.length then r2 g l l' else PD PH)=PD b):RcAt A s (.ref a) (.ref d) b/\RcNeAt A s (.ref a) (.ref d) (!b):=by
 have z1:vs.toArray.size=l.length:=aK.trans hv.len;have z2:us.toArray.size=l'.length:=aK.trans hv'.len
 by_cases hl:l.length=l'.length
 ·rw[if_pos hl] at e;refine(uE hg e hv hv').elim λbs k=>?_;have he:∀ t (q1:t<vs.toArray.size) (q2:t<us.toArray.size),EqAt A.in1 s vs.toArray[t] us.toArray[t] (bs.getD t PG):=λt q1 q2=>k.2.2 t _ _ (aF q1) (aF q2);have hs:=z1.trans (hl.trans z2.symm);have hb:b=(bz vs.toArray.size).all λj=>bs.getD j PG:=by rw[z1,<- k.1,mN]; exact k.2.1
  rw[hb]; exact⟨RcAt.lists L1 L2 hs hA he,RcNeAt.lists L1 L2 hs hA he⟩
 ·rw[if_neg hl] at e;have hs:(vs.toArray.size != us.toArray.size)=PG:=bne_iff_ne.mpr λq=>hl (z1.symm.trans (q.trans z2));exact ac e▸⟨RcAt.lists_lengths L1 L2 hs hA,RcNeAt.lists_lengths L1 L2 hs hA⟩
theorem D3 (L1:s.heap.IsTuple a vs.toArray)(L2:s.heap.IsTuple d us.toArray)(hl:l.length=l'.length)(e:r2 g l l'=PD b):RcAt A s (.ref a) (.ref d) b/\RcNeAt A s (.ref a) (.ref d) (!b):=by
 have z1:vs.toArray.size=l.length:=aK.trans hv.len;have hs:vs.toArray.size=us.toArray.size:=z1.trans (hl.trans (aK.trans hv'.len).symm);refine(uE hg e hv hv').elim λbs k=>?_;have he:∀ t (q1:t<vs.toArray.size) (q2:t<us.toArray.size),EqAt A.in1 s vs.toArray[t] us.toArray[t] (bs.getD t PG):=λt q1 q2=>k.2.2 t _ _ (aF q1) (aF q2);have hb:b=((bz (min vs.toArray.size us.toArray.size)).all (λj=>bs.getD j PG)&&vs.toArray.size == us.toArray.size):=by rw[<- hs,Nat.min_self,z1,<- k.1,mN,beq_self_eq_true,mH]; exact k.2.1
 rw[hb]; exact⟨RcAt.tuples L1 L2 hA he,RcNeAt.tuples L1 L2 hA he⟩
end
theorem Bt {g:PV->PV->Option Bool}{Os:List SO}(e:Mj g Os j k=PD b){f:Fs}{c:Cx}{V:Vm}(i:Inv f c V m as Os h){A:be}(hA:A.units<cLine)
  (hg:∀ p q b,g p q=PD b->∀ u v,p.is as u->q.is as v->EqAt A.in1 (sh c.s₀ h tk) u v b)  (hu:(PV.r j).is as u) (hv:(PV.r k).is as v):∃ a d,u=.ref a/\v=.ref d/\a≠d/\RcAt A (sh c.s₀ h tk) u v b/\RcNeAt A (sh c.s₀ h tk) u v (!b):=
 bU λG hG=>ak e λx e1 e=>ak e λy e2 e=>iteE e λhc e=>hu.elim λa ea=>hv.elim λd ed=>
  have K:x.live->y.live->(∀ o o',h.get? a=PD o->h.get? d=PD o'->x.is as o->y.is as o'->RcAt A (sh c.s₀ h tk) (.ref a) (.ref d) b/\RcNeAt A (sh c.s₀ h tk) (.ref a) (.ref d) (!b))->G:=λlx ly k=>(i.ob _ _ _ ea.1 e1 lx).elim λo p=>(i.ob _ _ _ ed.1 e2 ly).elim λo' q=>
   hG ⟨a,d,ea.2,ed.2,λw=>i.ne ea.1 (w▸ed.1) e1 e2 lx ly hc.1 ((Oe.mp hc.2).imp SO.ownB_is SO.ownB_is),ea.2▸ed.2▸k o o' p.2.1 q.2.1 p.1 q.1⟩
  orE e (λe=>ak e λl e3 e=>ak e λl' e4 e=>K (SO.lst_live e3) (SO.lst_live e4) λo o' g1 g2 p q=>(SO.lst_o e3 p).elim λvs p=>p.elim λn p=>(SO.lst_o e4 q).elim λus q=>q.elim λn' q=>
    D4 hg hA p.2 q.2 ⟨_,g1,congrArg (·.cls) p.1,n,congrArg (·.data) p.1⟩ ⟨_,g2,congrArg (·.cls) q.1,n',congrArg (·.data) q.1⟩ e)
   λe=>ak e λl e3 e=>ak e λl' e4 e=>iteE e λhl e=>K (SO.tup_live e3) (SO.tup_live e4) λo o' g1 g2 p q=>(SO.tup_o e3 p).elim λvs p=>(SO.tup_o e4 q).elim λus q=>
    D3 hg hA p.2 q.2 ⟨_,g1,congrArg (·.cls) p.1,_,congrArg (·.data) p.1⟩ ⟨_,g2,congrArg (·.cls) q.1,_,congrArg (·.data) q.1⟩ hl e
theorem Hm {Os:List SO}{f:Fs}{c:Cx}{V:Vm}(i:Inv f c V m as Os h){A:be}(hA:A.units<cLine){p q:PV}(e:Mi Os 1 p q=PD b)(hu:p.is as u)(hv:q.is as v):EqAt A (sh c.s₀ h tk) u v b:=by
 rcases cH.mp e with e | ⟨_,e⟩
 ·exact Bq e hu hv _ _
 ·refine ak e λj e1 e=>?_;refine ak e λk e2 e=>?_;rw[PV.ref_is e1] at hu; rw[PV.ref_is e2] at hv;obtain⟨a,d,rfl,rfl,hne,h1,_⟩:=Bt e i (tk:=tk) hA (λp q b e u v hu hv=>Bq e hu hv _ _) hu hv;exact EqAt.of_refs hne h1
theorem Br {Os:List SO}{p q:PV}(e:Mh Os p q=PD b){f:Fs}{c:Cx}{V:Vm}(i:Inv f c V m as Os h)(hU:c.un+2<cLine)(hu:p.is as u)(hv:q.is as v):RcAt (c.A f) (sh c.s₀ h tk) u v b/\RcNeAt (c.A f) (sh c.s₀ h tk) u v (!b):=by
 refine ak e λj e1 e=>?_;refine ak e λk e2 e=>?_;rw[PV.ref_is e1] at hu; rw[PV.ref_is e2] at hv;obtain⟨a,d,rfl,rfl,hne,h1⟩:=Bt e i (A:=c.A f) (tk:=tk) (show c.un<cLine from cS (a8 _ 2) hU) (λp q b e u v hu hv=>Hm i (show c.un+1<cLine from cS (qR _) hU) e hu hv) hu hv;exact h1
end
def HC:List CmpR:=[
 .ii .Eq (λa b=>a == b) λU U U U U U U U U hq=>PyProof.Rows.eq_int hq,
 .ii .NotEq (λa b=>a != b) λU U U U U U U U U hq=>PyProof.Rows.ne_int hq,
 .ii .Lt (λa b=>decide (a<b)) λU U U U U U U U U hq=>PyProof.Rows.lt_int hq,
 .ii .LtE (λa b=>decide (a<=b)) λU U U U U U U U U hq=>PyProof.Rows.le_int hq,
 .ii .GtE (λa b=>decide (b<=a)) λU U U U U U U U U hq=>PyProof.Rows.ge_int hq,
 .ii .Gt (λa b=>decide (b<a)) λU U U U U U U U U hq=>PyProof.Rows.gt_int hq,
 .ff .Eq (λa b=>bS a b == PD tG) λU U U U U U U U U hq=>AutoFloatOps.eq_0 hq,
 .ff .Lt (λa b=>bS a b == PD c7) λU U U U U U U U U hq=>AutoFloatOps.lt_0 hq,
 .ff .LtE (λa b=>bS a b == PD c7||bS a b == PD tG) λU U U U U U U U U hq=>AutoFloatOps.le_0 hq,
 .ss .Eq (λa b=>a == b) λU U U U U U U U U hq=>PyProof.Rows.eq_str hq,
 .ss .NotEq (λa b=>a != b) λU U U U U U U U U hq=>PyProof.Rows.ne_str hq,
 .ss .In (λa b=>!(aT b a 0 b.length 1).isEmpty) λU U U U U U U U U hq=>PyProof.Rows.in_str hq,
 .ss .NotIn (λa b=>!!(aT b a 0 b.length 1).isEmpty) λU U U U U U U U U hq=>PyProof.Rows.notIn_str hq,
 ⟨.Is,λU a b=>b.val?.bind λv=>if v=.none then a.isN else PF,λe U U U U U U U U U U U hu hv U U U hq=>by
  obtain⟨e1,e2⟩:=AL e hu hv;subst e1; subst e2; exact is_none_gen (hq _)⟩,
 ⟨.IsNot,λU a b=>(b.val?.bind λv=>if v=.none then a.isN else PF).map (!·),λe U U U U U U U U U U U hu hv U U U hq=>by
  refine aZ e λz e0 eq9=>?_;subst eq9;obtain⟨e1,e2⟩:=AL e0 hu hv;subst e1; subst e2; exact isnot_none_gen (hq _)⟩,
 ⟨.Is,λU=>mR PV.ty? PV.ty? (λx y=>dL x == dL y),λe U U U U U U U U U U U hu hv U U U hq=>by
  refine bU λG1 hG1=>?_;obtain⟨x,y,h1,h2,rfl⟩:=fz e;refine hG1 ?_;rw[PV.ty_is h1 hu,PV.ty_is h2 hv];exact wpAny_is_plain rfl (hq _)⟩,
 ⟨.IsNot,λU=>mR PV.ty? PV.ty? (λx y=>!(dL x == dL y)),λe U U U U U U U U U U U hu hv U U U hq=>by
  refine bU λG2 hG2=>?_;obtain⟨x,y,h1,h2,rfl⟩:=fz e;refine hG2 ?_;rw[PV.ty_is h1 hu,PV.ty_is h2 hv];exact wpAny_isNot_plain rfl (hq _)⟩,
 ⟨.Eq,λOs a b=>Mh Os a b,λe U U U U U U i H hu2 U U hu hv U U U hq=>PySem.EqBoolInt.of_rc (Br e i hu2 hu hv).1 (hq _)⟩,
 ⟨.NotEq,λOs a b=>(Mh Os a b).map (!·),λe U U U U U U i H hu2 U U hu hv U U U hq=>by
  refine bU λG3 hG3=>?_;refine aZ e λz e0 eq9=>?_;subst eq9;refine hG3 ?_;exact PySem.EqBoolInt.of_rcne (Br e0 i hu2 hu hv).2 (hq _)⟩]
def Da (op:iu)(Os:List SO)(a b:PV):Option Bool:=HC.findSome? λr=>if r.op=op then r.f Os a b else PF
theorem xj {op:iu}{Os:List SO}{a b:PV}{q:Bool}(e:Da op Os a b=PD q){fs:Fs}{c:Cx}{V:Vm}(i:Inv fs c V m as Os h)(H:HdC c)(hU:c.un+2<cLine)(hu:a.is as u)(hv:b.is as v)
    (hq:∀ k',Q (.bool q) (sh c.s₀ h k')):wpAny (MP c.w) (c.A fs) (compareOp op u v) Q E (sh c.s₀ h k):=by
 obtain⟨r,_,h⟩:=br e
 by_cases ho:r.op=op
 ·rw[if_pos ho] at h;subst ho;exact r.ok h i H hU hu hv hq
 ·rw[if_neg ho] at h; cases h
def Lk (op:lJ)(a:PV):Option PV:=if op=.USub then a.int?.map λz=>.i (-z) else if op=.Invert then a.int?.map λz=>.i (bO z) else PF
theorem FZ {op:lJ}{a p:PV}(e:Lk op a=PD p)(hu:a.is as u):Gv as (unaryOp op u) p:=by
 intro w A E Q s₀ h k hq;unfold Lk at e
 by_cases h1:op=.USub
 ·rw[if_pos h1] at e;refine aZ e λz e1 eq9=>?_;subst eq9;rw[PV.int_is e1] at hu; obtain⟨t,rfl⟩:=hu; subst h1;exact PyProof.Rows.neg_int (hq _ _ ⟨_,rfl⟩)
 ·rw[if_neg h1] at e
  by_cases h2:op=.Invert
  ·rw[if_pos h2] at e;refine aZ e λz e1 eq9=>?_;subst eq9;rw[PV.int_is e1] at hu; obtain⟨t,rfl⟩:=hu; subst h2;exact PyProof.Rows.invert_int (hq _ _ ⟨_,rfl⟩)
  ·rw[if_neg h2] at e; cases e
noncomputable def I4:zd->Option PV
 | .none=>PD (.v .none) | .bool b=>PD (.v (.bool b)) | .int i=>PD (.i i) | .float x=>PD (.f x) | .complex _ _=>PF | .str x=>PD (.s x) | .bytes _=>PF | .ellipsis=>PF
theorem C9 {c:zd}{p:PV}(e:I4 c=PD p){env:Env}:Gv as (eval (.Constant c n pos) env) p:=by
 intro w A E Q s₀ h k hq
 cases c<;>cases e<;>first
   | exact qF (hq _ _ ⟨_,rfl⟩)
   | exact wpAny_Constant_float (hq _ _ ⟨_,rfl⟩)
   | exact jN (hq _ _ ⟨_,rfl⟩)
   | exact gg (hq _ _ rfl)
   | exact wpAny_Constant_none (hq _ _ rfl)
def F5 (b:Bool)(p q:PV):Option PV:=
 ((mR PV.int? PV.int? (λx y=>PV.i (if b then x else y)) p q).or (mR PV.flt? PV.flt? (λx y=>PV.f (if b then x else y)) p q)).or (mR PV.str? PV.str? (λx y=>PV.s (if b then x else y)) p q)
theorem xf {p q r:PV}(e:F5 b p q=PD r)(hb:b=PG->p.is as v)(hb':b=PH->q.is as v):r.is as v:=by
 unfold F5 at e;rcases cH.mp e with e | ⟨_,e⟩
 ·rcases cH.mp e with e | ⟨_,e⟩
  all_goals
   obtain⟨x,y,h1,h2,rfl⟩:=fz e
   first
    | (rw[PV.int_is h1] at hb; rw[PV.int_is h2] at hb')
    | (rw[PV.flt_is h1] at hb; rw[PV.flt_is h2] at hb')
   cases b
   ·exact hb' rfl
   ·exact hb rfl
 ·obtain⟨x,y,h1,h2,rfl⟩:=fz e;rw[PV.str_is h1] at hb; rw[PV.str_is h2] at hb';cases b
  ·exact hb' rfl
  ·exact hb rfl
end
section
abbrev nb:=PV×List SO×List Prop
abbrev PE:=Option nb
abbrev EV:=List SO->aw->PE
abbrev lg (f:Fs)(c:Cx)(V:Vm)(m:Str->Option af)(as:List aj)(Os:List SO)(h:aL)(q:nb)(Q:af->ai->Prop):Prop:=
 ∀ x bs h' k',q.1.is (as++bs) x->Inv f c V m (as++bs) (Os++q.2.1) h'->Kp c h h'->Q x (sh c.s₀ h' k')
structure SubR where
 wd:aB->Prop
 f:List SO->PV->PV->PE
 ok:∀ {Os:List SO} {a b:PV} {q:nb},f Os a b=PD q->Al q.2.2->∀ {fs:Fs} {c:Cx} {V:Vm} {m:Str->Option af} {as:List aj} {h:aL},wd c.w->Inv fs c V m as Os h->HdC c->∀ {u v:af},a.is as u->b.is as v->
  ∀ {E Q:af->ai->Prop} {k:Nat},lg fs c V m as Os h q Q->ItemOn (MP c.w) (c.A fs) E u v Q (sh c.s₀ h k)
noncomputable abbrev sliceO (l r z:af):Obj:={ cls:=.type "slice",data:=.fields #[l,r,z] }
structure SlR where
 f:List SO->PV->Option Int->Option Int->Option Int->PE
 ok:∀ {Os:List SO} {a:PV} {x y z:Option Int} {q:nb},f Os a x y z=PD q->Al q.2.2->∀ {fs:Fs} {c:Cx} {V:Vm} {m:Str->Option af} {as:List aj} {h:aL},Inv fs c V m as Os h->HdC c->∀ {u l r t:af},a.is as u->MX l x->MX r y->MX t z->
  ∀ {E Q:af->ai->Prop} {k:Nat},lg fs c V m as Os h q Q->ItemOn (MP c.w) (c.A fs) E u (.ref h.objs.size) Q (sh c.s₀ (h.push (sliceO l r t)) k)
structure MetR where
 name:Str
 id:String
 rc:List SO->PV->Bool
 ok:∀ {Os:List SO} {a:PV},rc Os a=PG->∀ {fs:Fs} {c:Cx} {V:Vm} {m:Str->Option af} {as:List aj} {h:aL},Inv fs c V m as Os h->∀ {u:af},a.is as u->∀ {pl:Sem Bool} {E:af->ai->Prop} {Q:af×List af->ai->Prop} {k:Nat},Q (.builtin id,[u]) (sh c.s₀ h k)->wpAny (MP c.w) (c.A fs) (getMethod u name pl) Q E (sh c.s₀ h k)
structure CallR where
 key:af
 f:List SO->List PV->PE
def gU (c:Cx)(f:af):Prop:=(∃ id,f=.builtin id)\/(∃ T,f=.type T)\/∃ a o fd,f=.ref a/\o.data=.func fd/\(c.h₀.get? a=PD o\/(a,o)∈c.pn)
def b8 (fs:Fs)(c:Cx)(r:CallR):Prop:=gU c r.key/\∀ {Os:List SO} {ps:List PV} {q:nb},r.f Os ps=PD q->Al q.2.2->∀ {V:Vm} {m:Str->Option af} {as:List aj} {h:aL} {vs:List af},Inv fs c V m as Os h->IsAll as ps vs->
 ∀ {E Q:af->ai->Prop} {k:Nat},lg fs c V m as Os h q Q->wpAny (MP c.w) (c.A fs) (call r.key vs) Q E (sh c.s₀ h k)
structure Tab where
 sub:List SubR
 sl:List SlR
 met:List MetR
 ct:List CallR
def CtOk (fs:Fs)(c:Cx)(T:Tab):Prop:=(∀ r∈T.ct,b8 fs c r)/\∀ r∈T.sub,r.wd c.w
inductive Vw
 | con (c:zd) | nam (x:Str) | bin (l:aw) (op:dM) (r:aw) | un (op:lJ) (x:aw) | ift (t x y:aw) | cll (g:aw) (as:List aw) (kw:List jq) (p:Pos) | tup (es:List aw) | lst (es:List aw)
 | sub (v s:aw) | att (o:aw) (x:Str) (p:Pos) | sli (a b c:Option aw) | cmp (l:aw) (ops:List iu) (rs:List aw) | boo (op:wH) (vs:List aw) | cmh (e:aw) (gs:List cD) (sc:dC) | oth
noncomputable def vw:aw->Vw
 | .BoolOp op vs _=>.boo op vs | .NamedExpr ..=>.oth | .BinOp l op r _=>.bin l op r | .UnaryOp op x _=>.un op x | .Lambda ..=>.oth | .IfExp t x y _=>.ift t x y | .Dict ..=>.oth | .Set ..=>.oth
 | .ListComp e g s _=>.cmh e g s | .SetComp ..=>.oth | .DictComp ..=>.oth | .GeneratorExp ..=>.oth | .Await ..=>.oth | .Yield ..=>.oth | .YieldFrom ..=>.oth | .Compare l o r _=>.cmp l o r | .Call g as kw p=>.cll g as kw p
 | .FormattedValue ..=>.oth | .JoinedStr ..=>.oth | .Constant c _ _=>.con c | .Attribute o x p=>.att o x p | .Subscript v s _=>.sub v s | .Starred ..=>.oth | .Name x _=>.nam x | .List es _=>.lst es | .Tuple es _ _=>.tup es | .Slice a b c _=>.sli a b c
def Vw.is:Vw->aw->Prop
 | .con c,e=>∃ k p,e=.Constant c k p
 | .nam x,e=>∃ p,e=.Name x p
 | .bin l op r,e=>∃ p,e=.BinOp l op r p
 | .un op x,e=>∃ p,e=.UnaryOp op x p
 | .ift t x y,e=>∃ p,e=.IfExp t x y p
 | .cll g as kw p,e=>e=.Call g as kw p
 | .tup es,e=>∃ k p,e=.Tuple es k p
 | .lst es,e=>∃ p,e=.List es p
 | .sub v s,e=>∃ p,e=.Subscript v s p
 | .att o x p,e=>e=.Attribute o x p
 | .sli a b c,e=>∃ p,e=.Slice a b c p
 | .cmp l o r,e=>∃ p,e=.Compare l o r p
 | .boo op vs,e=>∃ p,e=.BoolOp op vs p
 | .cmh x g s,e=>∃ p,e=.ListComp x g s p
 | .oth,_=>True
theorem vw_is (e:aw):(vw e).is e:=by cases e<;>first | exact⟨_,rfl⟩ | exact⟨_,_,rfl⟩ | exact rfl | exact PI
noncomputable def Vw.con? (v:Vw):Option (zd):=v.casesOn PD (λU=>PF) (λU U U=>PF) (λU U=>PF) (λU U U=>PF) (λU U U U=>PF) (λU=>PF) (λU=>PF) (λU U=>PF) (λU U U=>PF) (λU U U=>PF) (λU U U=>PF) (λU U=>PF) (λU U U=>PF) PF
theorem Vw.con_is {v:Vw}{q:zd}:v.con?=PD q->v=.con q:=v.casesOn (λU h=>congrArg (λq:zd=>Vw.con q) (ac h)) (λU=>av) (λU U U=>av) (λU U=>av) (λU U U=>av) (λU U U U=>av) (λU=>av) (λU=>av) (λU U=>av) (λU U U=>av) (λU U U=>av) (λU U U=>av) (λU U=>av) (λU U U=>av) av
theorem con_is {e:aw}{q:zd}(h:(vw e).con?=PD q):∃ k p,e=.Constant q k p:=(Vw.con_is h▸vw_is e:(Vw.con q).is e)
noncomputable def Vw.nam? (v:Vw):Option (Str):=v.casesOn (λU=>PF) PD (λU U U=>PF) (λU U=>PF) (λU U U=>PF) (λU U U U=>PF) (λU=>PF) (λU=>PF) (λU U=>PF) (λU U U=>PF) (λU U U=>PF) (λU U U=>PF) (λU U=>PF) (λU U U=>PF) PF
theorem Vw.nam_is {v:Vw}:v.nam?=PD q->v=.nam q:=v.casesOn (λU=>av) (λU h=>congrArg (λq:Str=>Vw.nam q) (ac h)) (λU U U=>av) (λU U=>av) (λU U U=>av) (λU U U U=>av) (λU=>av) (λU=>av) (λU U=>av) (λU U U=>av) (λU U U=>av) (λU U U=>av) (λU U=>av) (λU U U=>av) av
theorem vD (h:(vw e).nam?=PD q):∃ p,e=.Name q p:=(Vw.nam_is h▸vw_is e:(Vw.nam q).is e)
noncomputable def Vw.bin? (v:Vw):Option (aw×dM×aw):=v.casesOn (λU=>PF) (λU=>PF) (λa b c=>PD (a,b,c)) (λU U=>PF) (λU U U=>PF) (λU U U U=>PF) (λU=>PF) (λU=>PF) (λU U=>PF) (λU U U=>PF) (λU U U=>PF) (λU U U=>PF) (λU U=>PF) (λU U U=>PF) PF
theorem Vw.bin_is {v:Vw}{q:aw×dM×aw}:v.bin?=PD q->v=.bin q.1 q.2.1 q.2.2:=v.casesOn (λU=>av) (λU=>av) (λU U U h=>congrArg (λq:aw×dM×aw=>Vw.bin q.1 q.2.1 q.2.2) (ac h)) (λU U=>av) (λU U U=>av) (λU U U U=>av) (λU=>av) (λU=>av) (λU U=>av) (λU U U=>av) (λU U U=>av) (λU U U=>av) (λU U=>av) (λU U U=>av) av
theorem bin_is {e:aw}{q:aw×dM×aw}(h:(vw e).bin?=PD q):∃ p,e=.BinOp q.1 q.2.1 q.2.2 p:=(Vw.bin_is h▸vw_is e:(Vw.bin q.1 q.2.1 q.2.2).is e)
noncomputable def Vw.un? (v:Vw):Option (lJ×aw):=v.casesOn (λU=>PF) (λU=>PF) (λU U U=>PF) (λa b=>PD (a,b)) (λU U U=>PF) (λU U U U=>PF) (λU=>PF) (λU=>PF) (λU U=>PF) (λU U U=>PF) (λU U U=>PF) (λU U U=>PF) (λU U=>PF) (λU U U=>PF) PF
theorem Vw.un_is {v:Vw}{q:lJ×aw}:v.un?=PD q->v=.un q.1 q.2:=v.casesOn (λU=>av) (λU=>av) (λU U U=>av) (λU U h=>congrArg (λq:lJ×aw=>Vw.un q.1 q.2) (ac h)) (λU U U=>av) (λU U U U=>av) (λU=>av) (λU=>av) (λU U=>av) (λU U U=>av) (λU U U=>av) (λU U U=>av) (λU U=>av) (λU U U=>av) av
theorem un_is {e:aw}{q:lJ×aw}(h:(vw e).un?=PD q):∃ p,e=.UnaryOp q.1 q.2 p:=(Vw.un_is h▸vw_is e:(Vw.un q.1 q.2).is e)
noncomputable def Vw.ift? (v:Vw):Option (aw×aw×aw):=v.casesOn (λU=>PF) (λU=>PF) (λU U U=>PF) (λU U=>PF) (λa b c=>PD (a,b,c)) (λU U U U=>PF) (λU=>PF) (λU=>PF) (λU U=>PF) (λU U U=>PF) (λU U U=>PF) (λU U U=>PF) (λU U=>PF) (λU U U=>PF) PF
theorem Vw.ift_is {v:Vw}{q:aw×aw×aw}:v.ift?=PD q->v=.ift q.1 q.2.1 q.2.2:=v.casesOn (λU=>av) (λU=>av) (λU U U=>av) (λU U=>av) (λU U U h=>congrArg (λq:aw×aw×aw=>Vw.ift q.1 q.2.1 q.2.2) (ac h)) (λU U U U=>av) (λU=>av) (λU=>av) (λU U=>av) (λU U U=>av) (λU U U=>av) (λU U U=>av) (λU U=>av) (λU U U=>av) av
theorem GN {q:aw×aw×aw}(h:(vw e).ift?=PD q):∃ p,e=.IfExp q.1 q.2.1 q.2.2 p:=(Vw.ift_is h▸vw_is e:(Vw.ift q.1 q.2.1 q.2.2).is e)
noncomputable def Vw.cll? (v:Vw):Option (aw×List aw×List jq×Pos):=v.casesOn (λU=>PF) (λU=>PF) (λU U U=>PF) (λU U=>PF) (λU U U=>PF) (λa b c d=>PD (a,b,c,d)) (λU=>PF) (λU=>PF) (λU U=>PF) (λU U U=>PF) (λU U U=>PF) (λU U U=>PF) (λU U=>PF) (λU U U=>PF) PF
theorem Vw.cll_is {v:Vw}{q:aw×List aw×List jq×Pos}:v.cll?=PD q->v=.cll q.1 q.2.1 q.2.2.1 q.2.2.2:=v.casesOn (λU=>av) (λU=>av) (λU U U=>av) (λU U=>av) (λU U U=>av) (λU U U U h=>congrArg (λq:aw×List aw×List jq×Pos=>Vw.cll q.1 q.2.1 q.2.2.1 q.2.2.2) (ac h)) (λU=>av) (λU=>av) (λU U=>av) (λU U U=>av) (λU U U=>av) (λU U U=>av) (λU U=>av) (λU U U=>av) av
theorem cll_is {e:aw}{q:aw×List aw×List jq×Pos}(h:(vw e).cll?=PD q):e=.Call q.1 q.2.1 q.2.2.1 q.2.2.2:=(Vw.cll_is h▸vw_is e:(Vw.cll q.1 q.2.1 q.2.2.1 q.2.2.2).is e)
noncomputable def Vw.lst? (v:Vw):Option (List aw):=v.casesOn (λU=>PF) (λU=>PF) (λU U U=>PF) (λU U=>PF) (λU U U=>PF) (λU U U U=>PF) (λU=>PF) PD (λU U=>PF) (λU U U=>PF) (λU U U=>PF) (λU U U=>PF) (λU U=>PF) (λU U U=>PF) PF
theorem Vw.lst_is {v:Vw}{q:List aw}:v.lst?=PD q->v=.lst q:=v.casesOn (λU=>av) (λU=>av) (λU U U=>av) (λU U=>av) (λU U U=>av) (λU U U U=>av) (λU=>av) (λU h=>congrArg (λq:List aw=>Vw.lst q) (ac h)) (λU U=>av) (λU U U=>av) (λU U U=>av) (λU U U=>av) (λU U=>av) (λU U U=>av) av
theorem lst_is {e:aw}{q:List aw}(h:(vw e).lst?=PD q):∃ p,e=.List q p:=(Vw.lst_is h▸vw_is e:(Vw.lst q).is e)
noncomputable def Vw.sub? (v:Vw):Option (aw×aw):=v.casesOn (λU=>PF) (λU=>PF) (λU U U=>PF) (λU U=>PF) (λU U U=>PF) (λU U U U=>PF) (λU=>PF) (λU=>PF) (λa b=>PD (a,b)) (λU U U=>PF) (λU U U=>PF) (λU U U=>PF) (λU U=>PF) (λU U U=>PF) PF
theorem Vw.sub_is {v:Vw}{q:aw×aw}:v.sub?=PD q->v=.sub q.1 q.2:=v.casesOn (λU=>av) (λU=>av) (λU U U=>av) (λU U=>av) (λU U U=>av) (λU U U U=>av) (λU=>av) (λU=>av) (λU U h=>congrArg (λq:aw×aw=>Vw.sub q.1 q.2) (ac h)) (λU U U=>av) (λU U U=>av) (λU U U=>av) (λU U=>av) (λU U U=>av) av
theorem FG {q:aw×aw}(h:(vw e).sub?=PD q):∃ p,e=.Subscript q.1 q.2 p:=(Vw.sub_is h▸vw_is e:(Vw.sub q.1 q.2).is e)
noncomputable def Vw.att? (v:Vw):Option (aw×Str×Pos):=v.casesOn (λU=>PF) (λU=>PF) (λU U U=>PF) (λU U=>PF) (λU U U=>PF) (λU U U U=>PF) (λU=>PF) (λU=>PF) (λU U=>PF) (λa b c=>PD (a,b,c)) (λU U U=>PF) (λU U U=>PF) (λU U=>PF) (λU U U=>PF) PF
theorem Vw.att_is {v:Vw}{q:aw×Str×Pos}:v.att?=PD q->v=.att q.1 q.2.1 q.2.2:=v.casesOn (λU=>av) (λU=>av) (λU U U=>av) (λU U=>av) (λU U U=>av) (λU U U U=>av) (λU=>av) (λU=>av) (λU U=>av) (λU U U h=>congrArg (λq:aw×Str×Pos=>Vw.att q.1 q.2.1 q.2.2) (ac h)) (λU U U=>av) (λU U U=>av) (λU U=>av) (λU U U=>av) av
theorem att_is {e:aw}{q:aw×Str×Pos}(h:(vw e).att?=PD q):e=.Attribute q.1 q.2.1 q.2.2:=(Vw.att_is h▸vw_is e:(Vw.att q.1 q.2.1 q.2.2).is e)
noncomputable def Vw.sli? (v:Vw):Option (Option aw×Option aw×Option aw):=v.casesOn (λU=>PF) (λU=>PF) (λU U U=>PF) (λU U=>PF) (λU U U=>PF) (λU U U U=>PF) (λU=>PF) (λU=>PF) (λU U=>PF) (λU U U=>PF) (λa b c=>PD (a,b,c)) (λU U U=>PF) (λU U=>PF) (λU U U=>PF) PF
theorem Vw.sli_is {v:Vw}{q:Option aw×Option aw×Option aw}:v.sli?=PD q->v=.sli q.1 q.2.1 q.2.2:=v.casesOn (λU=>av) (λU=>av) (λU U U=>av) (λU U=>av) (λU U U=>av) (λU U U U=>av) (λU=>av) (λU=>av) (λU U=>av) (λU U U=>av) (λU U U h=>congrArg (λq:Option aw×Option aw×Option aw=>Vw.sli q.1 q.2.1 q.2.2) (ac h)) (λU U U=>av) (λU U=>av) (λU U U=>av) av
theorem sli_is {e:aw}{q:Option aw×Option aw×Option aw}(h:(vw e).sli?=PD q):∃ p,e=.Slice q.1 q.2.1 q.2.2 p:=(Vw.sli_is h▸vw_is e:(Vw.sli q.1 q.2.1 q.2.2).is e)
noncomputable def Vw.cmp? (v:Vw):Option (aw×List iu×List aw):=v.casesOn (λU=>PF) (λU=>PF) (λU U U=>PF) (λU U=>PF) (λU U U=>PF) (λU U U U=>PF) (λU=>PF) (λU=>PF) (λU U=>PF) (λU U U=>PF) (λU U U=>PF) (λa b c=>PD (a,b,c)) (λU U=>PF) (λU U U=>PF) PF
theorem Vw.cmp_is {v:Vw}{q:aw×List iu×List aw}:v.cmp?=PD q->v=.cmp q.1 q.2.1 q.2.2:=v.casesOn (λU=>av) (λU=>av) (λU U U=>av) (λU U=>av) (λU U U=>av) (λU U U U=>av) (λU=>av) (λU=>av) (λU U=>av) (λU U U=>av) (λU U U=>av) (λU U U h=>congrArg (λq:aw×List iu×List aw=>Vw.cmp q.1 q.2.1 q.2.2) (ac h)) (λU U=>av) (λU U U=>av) av
theorem cmp_is {e:aw}{q:aw×List iu×List aw}(h:(vw e).cmp?=PD q):∃ p,e=.Compare q.1 q.2.1 q.2.2 p:=(Vw.cmp_is h▸vw_is e:(Vw.cmp q.1 q.2.1 q.2.2).is e)
noncomputable def Vw.boo? (v:Vw):Option (wH×List aw):=v.casesOn (λU=>PF) (λU=>PF) (λU U U=>PF) (λU U=>PF) (λU U U=>PF) (λU U U U=>PF) (λU=>PF) (λU=>PF) (λU U=>PF) (λU U U=>PF) (λU U U=>PF) (λU U U=>PF) (λa b=>PD (a,b)) (λU U U=>PF) PF
theorem Vw.boo_is {v:Vw}{q:wH×List aw}:v.boo?=PD q->v=.boo q.1 q.2:=v.casesOn (λU=>av) (λU=>av) (λU U U=>av) (λU U=>av) (λU U U=>av) (λU U U U=>av) (λU=>av) (λU=>av) (λU U=>av) (λU U U=>av) (λU U U=>av) (λU U U=>av) (λU U h=>congrArg (λq:wH×List aw=>Vw.boo q.1 q.2) (ac h)) (λU U U=>av) av
theorem boo_is {e:aw}{q:wH×List aw}(h:(vw e).boo?=PD q):∃ p,e=.BoolOp q.1 q.2 p:=(Vw.boo_is h▸vw_is e:(Vw.boo q.1 q.2).is e)
noncomputable def Vw.cmh? (v:Vw):Option (aw×List cD×dC):=v.casesOn (λU=>PF) (λU=>PF) (λU U U=>PF) (λU U=>PF) (λU U U=>PF) (λU U U U=>PF) (λU=>PF) (λU=>PF) (λU U=>PF) (λU U U=>PF) (λU U U=>PF) (λU U U=>PF) (λU U=>PF) (λa b c=>PD (a,b,c)) PF
theorem Vw.cmh_is {v:Vw}{q:aw×List cD×dC}:v.cmh?=PD q->v=.cmh q.1 q.2.1 q.2.2:=v.casesOn (λU=>av) (λU=>av) (λU U U=>av) (λU U=>av) (λU U U=>av) (λU U U U=>av) (λU=>av) (λU=>av) (λU U=>av) (λU U U=>av) (λU U U=>av) (λU U U=>av) (λU U=>av) (λU U U h=>congrArg (λq:aw×List cD×dC=>Vw.cmh q.1 q.2.1 q.2.2) (ac h)) av
theorem BJ {q:aw×List cD×dC}(h:(vw e).cmh?=PD q):∃ p,e=.ListComp q.1 q.2.1 q.2.2 p:=(Vw.cmh_is h▸vw_is e:(Vw.cmh q.1 q.2.1 q.2.2).is e)
def x8 (e:aw):Prop:=∀ (r:List aw) (env:Env),starEach (e :: r) env=(PH,eval e env) :: starEach r env
structure Su where
 f:Fs
 c:Cx
 env:Env
 I:IV
def Su.Tells (u:Su)(x:Sem af)(Os:List SO)(q:nb):Prop:=Al q.2.2->∀ (as:List aj) (h:aL) (k:Nat) (E Q:af->ai->Prop),u.I as Os h->(∀ v bs h' k',q.1.is (as++bs) v->u.I (as++bs) (Os++q.2.1) h'->Kp u.c h h'->Q v (sh u.c.s₀ h' k'))->wpAny (MP u.c.w) (u.c.A u.f) x Q E (sh u.c.s₀ h k)
def fj (u:Su)(ev:EV):Prop:=∀ Os e q,ev Os e=PD q->x8 e/\u.Tells (eval e u.env) Os q
def ri (u:Su)(ld:List SO->Str->Option PV):Prop:=∀ Os x p,ld Os x=PD p->∀ pos,u.Tells (eval (.Name x pos) u.env) Os (p,[],[])
abbrev AnsL:=List PV×List SO×List Prop
noncomputable def rZ (ev:EV):List SO->List aw->Option AnsL
 | _,[]=>PD ([],[],[])
 | Os,e :: r=>(ev Os e).bind λq=>(rZ ev (Os++q.2.1) r).map λt=>(q.1 :: t.1,q.2.1++t.2.1,q.2.2++t.2.2)
section
variable {u:Su}{ev:EV}
theorem I0 {I:IV}{Os:List SO}(i:I as Os h):I (as++[]) (Os++[]) h:=by rw[ao,ao]; exact i
theorem KR {p:PV}(h:p.is as v):p.is (as++[]) v:=by rw[ao]; exact h
theorem I2 {I:IV}{bs:List aj}{Os x y:List SO}(i:I (as++bs++cs) (Os++x++y) h):I (as++(bs++cs)) (Os++(x++y)) h:=by rw[<- au,<- au]; exact i
theorem xA {bs:List aj}{p:PV}(h:p.is (as++bs++cs) v):p.is (as++(bs++cs)) v:=by rw[<- au]; exact h
theorem Su.Tells.plain {x:Sem af}{Os:List SO}{p:PV}(h:Al C->∀ as,Gv as x p):u.Tells x Os (p,[],C):=λhC as U U U U hi hq=>h hC as λv U hv=>hq v [] _ _ (KR hv) (I0 hi) Kp.refl
theorem iB (H:fj u ev)(pos:Pos)(env:Env)(es:List aw):∀ (Os:List SO) {q:AnsL},rZ ev Os es=PD q->(backTo pos (starEach es env)).any (·.1)=PH:=by
 induction es with
 | nil=>exact λU {U} U=>rfl
 | cons e r ih=>exact λOs {U} he=>ak he λq e1 he=>aZ he λt e2 U=>by rw[(H _ _ _ e1).1]; exact(Bool.false_or _).trans (ih _ e2)
theorem lF (H:fj u ev)(pos:Pos)(es:List aw):∀ (Os:List SO) {q:AnsL},rZ ev Os es=PD q->Al q.2.2->∀ (as:List aj) (h:aL) (k:Nat) (E:af->ai->Prop) (Q:List af->ai->Prop),u.I as Os h->
  (∀ vs bs h' k',IsAll (as++bs) q.1 vs->u.I (as++bs) (Os++q.2.1) h'->Kp u.c h h'->Q vs (sh u.c.s₀ h' k'))->wpAny (MP u.c.w) (u.c.A u.f) (spliced (backTo pos (starEach es u.env))) Q E (sh u.c.s₀ h k):=by
 induction es with
 | nil=>exact λOs {q} he hc as h k U Q hi hq=>MS (hq _ [] h k ((congrArg (·.1) (ac he))▸rfl) ((congrArg (λz:AnsL=>Os++z.2.1) (ac he))▸I0 hi) Kp.refl)
 | cons e r ih=>
  intro Os qq he hc as h k E Q hi hq;refine ak he λq e1 he=>aZ he λt e2 eq=>?_;rw[eq] at hc hq
  exact zc ((H _ _ _ e1).2 hc.left _ _ _ _ _ hi λv bs h' k' hv hi' kp=>ih _ e2 hc.right _ _ _ _ _ hi' λvs bs' h'' k'' hvs hi'' kp'=>
     hq _ (bs++bs') _ _ ⟨v,vs,rfl,xA hv.up,by rw[<- au]; exact hvs⟩ (I2 hi'') (kp.trans kp')) ((H _ _ _ e1).1 _ _)
theorem ik {f:af}{c:Cx}{r:List aw}{A:be}{env:Env}(hf:gU c f)(he:x8 e)(hp:(backTo pos (starEach (e :: r) env)).any (·.1)=PH)
  (h:wpAny M A (spliced (backTo pos (starEach (e :: r) env))) (λvs s₁=>(∀ b o,c.h₀.get? b=PD o\/(b,o)∈c.pn->s₁.heap.get? b=PD o)/\wpAny M A (call f (first++vs)) Q E s₁) E s):wpAny M A (callWith pos f first (backTo pos (starEach (e :: r) env)) []) Q E s:=by
 rw[he] at h hp⊢;rcases hf with ⟨id,rfl⟩ | ⟨T,rfl⟩ | ⟨a,o,fd,rfl,hd,ho⟩
 ·exact callWith_builtin hp (nh (aU h (λU U x=>x.2) λU U x=>x))
 ·exact PyProof.Rows.callWith_type hp (nh (aU h (λU U x=>x.2) λU U x=>x))
 ·exact callWith_function (nh (aU h (λU U x=>⟨⟨x.1 _ _ ho,hd⟩,x.2⟩) λU U x=>x))
theorem i7 {id:String}{A:be}{env:Env}
  (h:wpAny M A (call (.builtin id) (first++[])) Q E s):wpAny M A (callWith pos (.builtin id) first (backTo pos (starEach [] env)) []) Q E s:=
 callWith_builtin rfl (PyProof.Rows.evalArgs_none h)
end
def Ff (ev:EV)(Os:List SO)(l:aw)(op:dM)(r:aw):PE:=
 (ev Os l).bind λa=>(ev (Os++a.2.1) r).bind λb=>(I5 op a.1 b.1).map λq=>(q.1,a.2.1++b.2.1,a.2.2++(b.2.2++q.2))
def JN (ev:EV)(Os:List SO)(op:lJ)(x:aw):PE:=(ev Os x).bind λa=>(Lk op a.1).map λp=>(p,a.2.1,a.2.2)
noncomputable def M6:af->Option Bool | .float _ _=>PF | .none=>PD PH | .ellipsis=>PF | .notImplemented=>PF | .bool b=>PD b | .int _ _=>PF | .str _ _=>PF | .bytes _ _=>PF | .type _=>PF | .builtin _=>PF | .ref _=>PF
def M8 (Os:List SO)(p:PV):Option (Bool×List Prop):=
 (((p.int?.map λz=>(z != 0,[])).or (p.val?.bind λv=>(M6 v).map λb=>(b,[]))).or
  (p.str?.map λx=>((x.length:Int) != 0,[(x.length:Int)<2 ^ 63]))).or
  (p.ref?.bind λk=>(Os[k]?).bind λx=>x.core.lst?.map λxs=>(!xs.isEmpty,[(xs.length:Int)<2 ^ 63]))
abbrev AnsB:=Bool×List SO×List Prop
noncomputable def one {α:Type _}(l:List α):Option α:=l.casesOn PF λa r=>r.casesOn (PD a) λU U=>PF
theorem one_is {α:Type _}{l:List α}{a:α}:one l=PD a->l=[a]:=l.casesOn av λU r=>r.casesOn (λh=>congrArg (λa=>[a]) (ac h)) λU U=>av
def xN (ev:EV)(Os:List SO)(l:aw)(ops:List iu)(rs:List aw):Option AnsB:=
 (one ops).bind λop=>(one rs).bind λr=>if behindInMarks op r=PH then(ev Os l).bind λa=>(ev (Os++a.2.1) r).bind λb=>(Da op (Os++(a.2.1++b.2.1)) a.1 b.1).map λq=>(q,a.2.1++b.2.1,a.2.2++b.2.2) else PF
def NE (ev:EV)(Os:List SO)(e:aw):Option AnsB:=(ev Os e).bind λa=>(M8 (Os++a.2.1) a.1).map λq=>(q.1,a.2.1,a.2.2++q.2)
def IC (e:aw):Bool:=(vw e).nam?.isSome||((vw e).bin?.isSome||((vw e).cll?.isSome||(vw e).sub?.isSome))
def FE (ev:EV)(Os:List SO)(e:aw):Option AnsB:=((vw e).cmp?.bind λq=>xN ev Os q.1 q.2.1 q.2.2).or (if IC e=PG then NE ev Os e else PF)
def yc (ev:EV)(Os:List SO)(e:aw):Option AnsB:=(vw e).un?.elim (FE ev Os e) λq=>if q.1=.Not then(FE ev Os q.2).map λq=>(!q.1,q.2) else PF
def FD (ev:EV)(op:wH):List SO->List aw->Option AnsB
 | _,[]=>PD (op == .And,[],[])
 | Os,e :: r=>(yc ev Os e).bind λa=>(FD ev op (Os++a.2.1) r).bind λb=>if b.2.1.isEmpty then PD (op.casesOn (a.1&&b.1) (a.1||b.1),a.2.1,a.2.2++b.2.2) else PF
def Cg (ev:EV)(Os:List SO)(e:aw):Option AnsB:=(vw e).boo?.elim (yc ev Os e) λq=>FD ev q.1 Os q.2
def JP (ev:EV)(Os:List SO)(t x y:aw):PE:=
 (Cg ev Os t).bind λa=>(ev (Os++a.2.1) x).bind λp=>(ev (Os++a.2.1) y).bind λq=>if p.2.1.isEmpty&&q.2.1.isEmpty then(F5 a.1 p.1 q.1).map λr=>(r,a.2.1,a.2.2++(p.2.2++q.2.2)) else PF
noncomputable def zW (ct:List CallR)(f:af)(Os:List SO)(ps:List PV):PE:=ct.findSome? λr=>if r.key=f then r.f Os ps else PF
def ud (o:aw):Bool:=(vw o).cll?.elim PG λq=>!q.2.1.isEmpty
def JS (T:Tab)(ld:List SO->Str->Option PV)(ev:EV)(Os:List SO)(x:Str)(as:List aw):PE:=((ld Os x).bind PV.val?).bind λf=>if as.isEmpty=PH then(rZ ev Os as).bind λa=>(zW T.ct f (Os++a.2.1) a.1).map λq=>(q.1,a.2.1++q.2.1,a.2.2++q.2.2) else PF
def Mc (T:Tab)(ev:EV)(Os:List SO)(x:Str)(as:List aw)(a:nb)(r:MetR):PE:=if r.name=x/\r.rc (Os++a.2.1) a.1=PG then(rZ ev (Os++a.2.1) as).bind λb=>(zW T.ct (.builtin r.id) (Os++(a.2.1++b.2.1)) (a.1 :: b.1)).map λq=>(q.1,a.2.1++b.2.1++q.2.1,a.2.2++(b.2.2++q.2.2)) else PF
def JT (T:Tab)(ev:EV)(Os:List SO)(o:aw)(x:Str)(ap:Pos)(as:List aw)(p:Pos):PE:=if(ud o&&ap.endLine == p.line&&decide (as.length<30))=PG then(ev Os o).bind λa=>T.met.findSome? (Mc T ev Os x as a) else PF
def Bn (T:Tab)(ld:List SO->Str->Option PV)(ev:EV)(Os:List SO)(g:aw)(as:List aw)(p:Pos):PE:=((vw g).nam?.bind λx=>JS T ld ev Os x as).or ((vw g).att?.bind λr=>JT T ev Os r.1 r.2.1 r.2.2 as p)
def Fc (ev:EV)(Os:List SO)(es:List aw):PE:=(rZ ev Os es).bind λa=>if a.1.length<=64 then PD (.r (Os++a.2.1).length,a.2.1++[.T a.1],a.2.2) else PF
def Fe (ev:EV)(Os:List SO)(es:List aw):PE:=(rZ ev Os es).bind λa=>if a.1.length<=64 then PD (.r (Os++a.2.1).length,a.2.1++[.L a.1],a.2.2) else PF
def DV (ev:EV)(Os:List SO):Option aw->Option (Option Int×List Prop)
 | none=>PD (PF,[])
 | some e=>(ev Os e).bind λa=>a.1.int?.bind λz=>if a.2.1.isEmpty then PD (PD z,a.2.2) else PF
def JO (T:Tab)(ev:EV)(Os:List SO)(a:PV)(s:Option aw×Option aw×Option aw):PE:=
 (DV ev Os s.1).bind λl=>(DV ev Os s.2.1).bind λr=>(DV ev Os s.2.2).bind λz=>(T.sl.findSome? λt=>t.f Os a l.1 r.1 z.1).map λq=>(q.1,q.2.1,l.2++(r.2++(z.2++q.2.2)))
noncomputable def JQ (T:Tab)(ev:EV)(Os:List SO)(a:PV)(s:aw):PE:=
 (ev Os s).bind λb=>(T.sub.findSome? λt=>t.f (Os++b.2.1) a b.1).map λq=>(q.1,b.2.1++q.2.1,b.2.2++q.2.2)
def Fd (T:Tab)(ev:EV)(Os:List SO)(v s:aw):PE:=(ev Os v).bind λa=>((vw s).sli?.elim (JQ T ev (Os++a.2.1) a.1 s) λq=>JO T ev (Os++a.2.1) a.1 q).map λq=>(q.1,a.2.1++q.2.1,a.2.2++q.2.2)
def JR (ev:EV)(Os:List SO)(l:aw)(ops:List iu)(rs:List aw):PE:=(xN ev Os l ops rs).map λq=>(.v (.bool q.1),q.2)
def step (T:Tab)(ld:List SO->Str->Option PV)(ext:EV->EV)(ev:EV)(Os:List SO)(e:aw):PE:=match vw e with
 | .con c=>(I4 c).map λp=>(p,[],[])
 | .nam x=>(ld Os x).map λp=>(p,[],[])
 | .bin l op r=>(Ff ev Os l op r).or (ext ev Os e)
 | .un op x=>JN ev Os op x
 | .ift t x y=>JP ev Os t x y
 | .cll g as kw p=>(if kw.isEmpty then Bn T ld ev Os g as p else PF).or (ext ev Os e)
 | .tup es=>Fc ev Os es
 | .lst es=>Fe ev Os es
 | .sub v s=>Fd T ev Os v s
 | .cmp l ops rs=>JR ev Os l ops rs
 | .att .. | .cmh ..=>ext ev Os e
 | .sli .. | .boo .. | .oth=>PF
def F8 (T:Tab)(ld:List SO->Str->Option PV)(ext:EV->EV):Nat->EV
 | 0,_,_=>PF
 | n+1,Os,e=>step T ld ext (F8 T ld ext n) Os e
end
section
variable {u:Su}{ev:EV}{T:Tab}{ld:List SO->Str->Option PV}{ext:EV->EV}{Os:List SO}
structure Su.Ok (u:Su):Prop where
 i:IOk u.f u.c u.I
 h:HdC u.c
 u:u.c.un+2<cLine
theorem Bp (H:fj u ev){r:aw}{q:nb}(e:Ff ev Os l op r=PD q):u.Tells (eval (.BinOp l op r p) u.env) Os q:=by
 refine bU λG1 hG1=>?_;refine ak e λa e1 e=>?_;refine ak e λb e2 e=>?_;refine aZ e λt e3 eq9=>?_;subst eq9;refine hG1 ?_;intro hc as h k E Q hi hq;exact Ex ((H _ _ _ e1).2 hc.left _ _ _ _ _ hi λx bs h1 k1 hu i1 kp=>(H _ _ _ e2).2 hc.right.left _ _ _ _ _ i1 λy bs' h2 k2 hv i2 kp'=>Db e3 hc.right.right hu.up hv λv k' hv'=>hq v (bs++bs') _ _ (xA hv') (I2 i2) (kp.trans kp'))
theorem DU (H:fj u ev){x:aw}{op:lJ}{q:nb}(e:JN ev Os op x=PD q):u.Tells (eval (.UnaryOp op x p) u.env) Os q:=by
 refine ak e λa e1 e=>?_;refine aZ e λt e3 eq9=>?_;subst eq9;intro hc as h k E Q hi hq;exact wpAny_UnaryOp ((H _ _ _ e1).2 hc _ _ _ _ _ hi λx bs h1 k1 hu i1 kp=>FZ e3 hu λv k' hv=>hq v bs _ _ hv i1 kp)
theorem Dq:(!vs.toArray.isEmpty)=!vs.isEmpty:=by cases vs<;>rfl
theorem uo {ps:List PV}(h:IsAll as ps vs):vs.isEmpty=ps.isEmpty:=by
 have:=h.len;cases vs<;>cases ps<;>first | rfl | cases this
theorem Fx {A:be}{Q:Bool->ai->Prop}:M6 v=PD b->Q b s->wpAny (MP w) A (truthy v) Q E s:=
 v.casesOn (λh hq=>truthy_none (ac h▸hq)) (λh U=>av h) (λh U=>av h) (λU h hq=>cK (ac h▸hq)) (λU U h U=>av h) (λU U h U=>av h) (λU U h U=>av h) (λU U h U=>av h) (λU h U=>av h) (λU h U=>av h) (λU h U=>av h)
theorem FF (O:u.Ok){p:PV}{q:Bool×List Prop}(e:M8 Os p=PD q)(hC:Al q.2){Q:Bool->ai->Prop}(hi:u.I as Os h)(hv:p.is as v)
  (hq:∀ k',Q q.1 (sh u.c.s₀ h k')):wpAny (MP u.c.w) (u.c.A u.f) (truthy v) Q E (sh u.c.s₀ h k):=
 orE e (λe=>orE e (λe=>orE e (λe=>aZ e λz e1 eq=>by
    rw[PV.int_is e1] at hv;rw[eq] at hq;exact hv.elim λt ht=>by rw[ht]; exact truthy_int (hq _))
   λe=>ak e λz e1 e2=>aZ e2 λb e3 eq=>by
    rw[PV.val_is e1] at hv;rw[eq] at hq;rw[show v=z from hv];exact Fx e3 (hq _))
  λe=>aZ e λz e1 eq=>by
   rw[PV.str_is e1] at hv;rw[eq] at hq hC;exact hv.elim λt ht=>by rw[ht]; exact P.truthy_str (nq.mpr hC.1) (hq _))
 λe=>ak e λz e1 e=>ak e λx e2 e=>aZ e λxs e3 eq=>by
  rw[PV.ref_is e1] at hv;rw[eq] at hq hC;obtain⟨V,m,i,_⟩:=O.i _ _ _ hi;obtain⟨a,o,ea,ho,hc⟩:=i.get e2 (SO.lst_live e3) hv;rw[SO.lst_is e3] at hc;obtain⟨vs,n,eo,hvs⟩:=hc;rw[<- uo hvs,<- Dq] at hq;rw[ea];exact wpAny_truthy_list ⟨_,ho,by rw[eo],n,by rw[eo]⟩ (by rw[aK,hvs.len]; exact hC.1) (hq _)
def qw (u:Su)(e:aw)(Os:List SO)(q:AnsB):Prop:=Al q.2.2->∀ (as:List aj) (h:aL) (k:Nat) (E:af->ai->Prop) (Q:Bool->ai->Prop),u.I as Os h->(∀ bs h' k',u.I (as++bs) (Os++q.2.1) h'->Kp u.c h h'->Q q.1 (sh u.c.s₀ h' k'))->wpAny (MP u.c.w) (u.c.A u.f) (isTrue e u.env (eval e u.env)) Q E (sh u.c.s₀ h k)
theorem Hl (O:u.Ok)(H:fj u ev){q:AnsB}(he:NE ev Os e=PD q)(hr:∀ whole,isTrue e u.env whole=(do let v <- whole; standAt e.pos; holding [v] (truthy v))):qw u e Os q:=by
 refine ak he λa e1 e=>?_;refine aZ e λt e2 eq9=>?_;subst eq9;intro hc as h k E Q hi hq;exact wpAny_isTrue_value ((H _ _ _ e1).2 hc.left _ _ _ _ _ hi λx bs h1 k1 hu i1 kp=>FF O e2 hc.right i1 hu λk'=>hq bs _ _ i1 kp) (hr _)
theorem uL (O:u.Ok)(H:fj u ev){q:AnsB}(he:xN ev Os l ops rs=PD q):∃ op r,ops=[op]/\rs=[r]/\behindInMarks op r=PH/\(Al q.2.2->∀ (as:List aj) (h:aL) (k:Nat) (E Q:af->ai->Prop),u.I as Os h->(∀ bs h' k',u.I (as++bs) (Os++q.2.1) h'->Kp u.c h h'->Q (.bool q.1) (sh u.c.s₀ h' k'))->
  wpAny (MP u.c.w) (u.c.A u.f) (eval l u.env) (λa s₁=>wpAny (MP u.c.w) (u.c.A u.f) (eval r u.env) (λb s₂=>wpAny (MP u.c.w) (u.c.A u.f) (compareOp op a b) Q E s₂) E s₁) E (sh u.c.s₀ h k)):=
 bU λG hG=>ak he λop e1 e=>ak e λr e2 e=>iteE e λhb e=>ak e λa e3 e=>ak e λb e4 e=>aZ e λt e5 eq=>hG ⟨op,r,one_is e1,one_is e2,hb,λhc as h k E Q hi hq=>
  have e0:q.1=t:=congrArg nJ eq; have e9:q.2.1=a.2.1++b.2.1:=congrArg (λz:AnsB=>z.2.1) eq; have e8:q.2.2=a.2.2++b.2.2:=congrArg (λz:AnsB=>z.2.2) eq; have hc:Al (a.2.2++b.2.2):=e8▸hc
  (H _ _ _ e3).2 hc.left _ _ _ _ _ hi λx bs h1 k1 hu i1 kp=>(H _ _ _ e4).2 hc.right _ _ _ _ _ i1 λy bs' h2 k2 hv i2 kp'=>have i2:=I2 i2
   (O.i _ _ _ i2).elim λV z=>z.elim λm z=>xj e5 z.1 O.h O.u (xA hu.up) (xA hv) λk'=>e0▸hq (bs++bs') _ _ (e9.symm▸i2) (kp.trans kp')⟩
theorem Bm (O:u.Ok)(H:fj u ev){q:AnsB}(he:xN ev Os l ops rs=PD q):qw u (.Compare l ops rs p) Os q:=by
 obtain⟨op,r,rfl,rfl,hb,hh⟩:=uL O H he;exact λhc as h k E Q hi hq=>fM (hh hc as h k E _ hi λbs h' k' i' kp=>cK (hq bs _ _ i' kp)) hb
theorem DX (O:u.Ok)(H:fj u ev){q:nb}(he:JR ev Os l ops rs=PD q):u.Tells (eval (.Compare l ops rs p) u.env) Os q:=by
 refine aZ he λt e1 eq9=>?_;subst eq9;obtain⟨op,r,rfl,rfl,hb,hh⟩:=uL O H e1;exact λhc as h k E Q hi hq=>wpAny_Compare1 (hh hc as h k E _ hi λbs h' k' i' kp=>hq _ bs _ _ rfl i' kp) hb
theorem Bw {α β:Type _}{o:Option α}{d:Option β}{f:α->Option β}{q:β}(e:o.elim d f=PD q)(h0:o=PF->d=PD q->P)(h1:∀ a,o=PD a->f a=PD q->P):P:=by
 cases o with
 | none=>exact h0 rfl e
 | some a=>exact h1 a rfl e
theorem Cs (h:IC e=PG){env:Env}(whole:Sem af):isTrue e env whole=(do let v <- whole; standAt e.pos; holding [v] (truthy v)):=by
 cases e<;>first | rfl | cases h
theorem wK (O:u.Ok)(H:fj u ev){q:AnsB}(he:FE ev Os e=PD q):qw u e Os q:=
 orE he (λhz=>ak hz λr e1 hz=>(cmp_is e1).elim λp e2=>by rw[e2]; exact Bm O H hz) λhz=>iteE hz λhb hz=>Hl O H hz (Cs hb)
theorem lY (O:u.Ok)(H:fj u ev){q:AnsB}(he:yc ev Os e=PD q):qw u e Os q:=
 Bw he (λU hz=>wK O H hz) λr e1 hz=>iteE hz λho hz=>aZ hz λt e2 eq=>(un_is e1).elim λp e3=>by
  rw[e3,ho,eq];exact λhc as h k E Q hi hq=>wpAny_isTrue_Not (wK O H e2 hc as h k E _ hi hq)
theorem Cu (O:u.Ok)(H:fj u ev){op:wH}(es:List aw):∀ (Os:List SO) {q:AnsB},FD ev op Os es=PD q->Al q.2.2->∀ (as:List aj) (h:aL) (k:Nat) (E:af->ai->Prop) (Q:Bool->ai->Prop),u.I as Os h->(∀ bs h' k',u.I (as++bs) (Os++q.2.1) h'->Kp u.c h h'->Q q.1 (sh u.c.s₀ h' k'))->wpAny (MP u.c.w) (u.c.A u.f) (allTrue op es u.env) Q E (sh u.c.s₀ h k):=by
 induction es with
 | nil=>
  intro Os q he U as h k E Q hi hq;have e:=ac he;have q0:Q (op == .And) (sh u.c.s₀ h k):=(congrArg (·.1) e:(op == .And)=q.1)▸hq [] h k (e▸I0 hi) Kp.refl;cases op
  ·exact wpAny_allTrue_And_nil q0
  ·exact ng q0
 | cons e r ih=>
  intro Os q he hc as h k E Q hi hq;refine ak he λa e1 he=>ak he λb e2 he=>iteE he λhb he=>?_;have e:=ac he;have hb:b.2.1=[]:=aX.mp hb;rw[<- e] at hc hq
  have nx:∀ {bs h1},u.I (as++bs) (Os++a.2.1) h1->∀ {k1} {Q':Bool->ai->Prop},Kp u.c h h1->(∀ bs h' k',u.I (as++bs) (Os++a.2.1) h'->Kp u.c h h'->Q' b.1 (sh u.c.s₀ h' k'))->wpAny (MP u.c.w) (u.c.A u.f) (allTrue op r u.env) Q' E (sh u.c.s₀ h1 k1):=λ{bs h1} i1 {k1 Q'} kp hq'=>
   ih _ e2 hc.right _ _ _ _ _ i1 λbs' h2 k2 i2 kp'=>hq' (bs++bs') _ _ (by rw[hb,ao] at i2; rw[<- au]; exact i2) (kp.trans kp')
  cases op with
  | And=>
   refine wpAny_allTrue_And_cons (lY O H e1 hc.left _ _ _ _ _ hi λbs h1 k1 i1 kp=>?_);generalize a.1=c at*;cases c with
   | true=>exact nx i1 kp hq
   | false=>exact hq bs _ _ i1 kp
  | Or=>
   refine oW (lY O H e1 hc.left _ _ _ _ _ hi λbs h1 k1 i1 kp=>?_);generalize a.1=c at*;cases c with
   | true=>exact hq bs _ _ i1 kp
   | false=>exact nx i1 kp hq
theorem oR (O:u.Ok)(H:fj u ev){q:AnsB}(he:Cg ev Os e=PD q):qw u e Os q:=
 Bw he (λU hz=>lY O H hz) λr e1 hz=>(boo_is e1).elim λp e2=>by
  rw[e2];exact λhc as h k E Q hi hq=>nZ (Cu O H _ _ hz hc as h k E Q hi hq)
theorem DW (O:u.Ok)(H:fj u ev){x y:aw}{q:nb}(he:JP ev Os t x y=PD q):u.Tells (eval (.IfExp t x y p) u.env) Os q:=by
 refine ak he λa e1 e=>?_;refine ak e λb e2 e=>?_;refine ak e λc e3 e=>?_;cases hb:b.2.1 with
 | cons _ _=>rw[hb] at e; cases e
 | nil=>
  cases hd:c.2.1 with
  | cons _ _=>rw[hb,hd] at e; cases e
  | nil=>
   rw[hb,hd] at e;refine aZ e λr e4 eq9=>?_;subst eq9;intro hc as h k E Q hi hq;refine IfExp_ (oR O H e1 hc.left _ _ _ _ _ hi λbs h1 k1 i1 kp=>?_);generalize hg:a.1=g at*
   have fin:∀ {z:PV},(∀ {as:List aj} {v:af},z.is as v->r.is as v)->∀ (v:af) (bs':List aj) (h2:aL) (k2:Nat),z.is (as++bs++bs') v->u.I (as++bs++bs') (Os++a.2.1++[]) h2->Kp u.c h1 h2->Q v (sh u.c.s₀ h2 k2):=λhz v bs' h2 k2 hv i2 kp'=>
    hq v (bs++bs') _ _ (xA (hz hv)) (by rw[ao] at i2; rw[<- au]; exact i2) (kp.trans kp')
   cases g with
   | true=>exact(H _ _ _ e2).2 hc.right.left _ _ _ _ _ i1 (by rw[hb]; exact fin λhv=>xf e4 (λU=>hv) λq=>nomatch q)
   | false=>exact(H _ _ _ e3).2 hc.right.right _ _ _ _ _ i1 (by rw[hd]; exact fin λhv=>xf e4 (λq=>nomatch q) λU=>hv)
theorem pD (O:u.Ok)(G:CtOk u.f u.c T){g:af}{ps:List PV}{q:nb}(e:zW T.ct g Os ps=PD q):gU u.c g/\(Al q.2.2->∀ {as:List aj} {h:aL} {k:Nat} {E Q:af->ai->Prop} {vs:List af},u.I as Os h->IsAll as ps vs->(∀ v bs h' k',q.1.is (as++bs) v->u.I (as++bs) (Os++q.2.1) h'->Kp u.c h h'->Q v (sh u.c.s₀ h' k'))->wpAny (MP u.c.w) (u.c.A u.f) (call g vs) Q E (sh u.c.s₀ h k)):=by
 obtain⟨r,hm,e'⟩:=br e
 by_cases ho:r.key=g
 ·rw[if_pos ho] at e';subst ho;refine⟨(G.1 r hm).1,λhc as h k E Q vs hi hvs hq=>?_⟩;obtain⟨V,m,i,cl⟩:=O.i _ _ _ hi;exact(G.1 r hm).2 e' hc i hvs λx bs h' k' hx hi' kp=>hq x bs h' k' hx (cl _ _ _ hi' kp) kp
 ·rw[if_neg ho] at e'; cases e'
theorem rR (O:u.Ok)(hi:u.I as Os h):∀ b o,u.c.h₀.get? b=PD o\/(b,o)∈u.c.pn->h.get? b=PD o:=by
 refine bU λG1 hG1=>?_;obtain⟨V,m,i,_⟩:=O.i _ _ _ hi;refine hG1 ?_;exact i.stay
set_option tactic.hygienic true in
theorem tw {o:aw}(h:ud o=PG){env:Env}{w:Sem af}:attributeBase o x env w=w:=by
 cases o<;>first
  | rfl
  | (rename_i g as kw p; cases as with
    | nil=>cases h
    | cons a r=>cases g<;>rfl)
theorem iC {o:aw}{as:List aw}{env:Env}{A:be}(hs:ud o=PG)(hl:(ap.endLine == p.line)=PG)(hn:as.length<30)(hp:(backTo p (starEach as env)).any (·.1)=PH)
  (h:∀ pl,wpAny M A (eval o env) (λov s₁=>wpAny M A (getMethod ov x pl) (λfx s₂=>wpAny M A (callWith p fx.1 fx.2 (backTo p (starEach as env)) []) Q E s₂) E s₁) E s):wpAny M A (eval (.Call (.Attribute o x ap) as [] p) env) Q E s:=by
 have few:methodCallForm (as.length+([]:List jq).length) (backTo p (starEach as env)) (backToKw p (keywordEach [] env))=PG:=by
  have all:∀ (l:List (Bool×Sem af)),l.any (·.1)=PH->l.all (!·.1)=PG:=λl=>by
   induction l with
   | nil=>intro U; rfl
   | cons a r ih=>intro h; rw[tH,ll] at h; rw[fu,h.1,ih h.2]; rfl
  have h1:=all _ hp;refine(?_:(_&&_&&decide (_<30))=PG);rw[h1,f6,aq];exact⟨rfl,decide_eq_true hn⟩
 rw[arm_eval_Call,tw hs];refine ab (aU (h (do return (<- importBound o env).getD PG)) (λov s₁ h₁=>ab (da ?_)) λU U x=>x);unfold methodCall;rw[few];refine ab (bI (aU h₁ (λfx s₂ h₂=>?_) λU U x=>x));refine ab ?_;unfold methodCallPos;rw[hl];exact aD h₂
theorem ks (D:ri u ld)(H:fj u ev){as:List aw}{f:af}{t:AnsL}(e0:ld Os x=PD (.v f))(hz:as.isEmpty=PH)(cl:gU u.c f)(e2:rZ ev Os as=PD t)(hc:Al t.2.2)(G0:∀ ads Os h,u.I ads Os h->∀ b o,u.c.h₀.get? b=PD o\/(b,o)∈u.c.pn->h.get? b=PD o){ads:List aj}(hi:u.I ads Os h)
  (K:∀ vs bs h' k',IsAll (ads++bs) t.1 vs->u.I (ads++bs) (Os++t.2.1) h'->Kp u.c h h'->wpAny (MP u.c.w) (u.c.A u.f) (call f vs) Q E (sh u.c.s₀ h' k')):wpAny (MP u.c.w) (u.c.A u.f) (eval (.Call (.Name x gp) as [] p) u.env) Q E (sh u.c.s₀ h k):=by
 refine Call_ (D _ _ _ e0 gp PI _ _ _ _ _ hi λv bs h1 k1 hv i1 kp=>?_);rw[show v=f from hv];cases as with
 | nil=>cases hz
 | cons a r=>exact ak e2 λq1 e4 U=>ik cl (H _ _ _ e4).1 (iB H _ _ _ _ e2) (lF H p _ _ e2 hc _ _ _ _ _ (by rw[ao] at i1; exact i1) λvs bs' h2 k2 hvs i2 kp'=>⟨G0 _ _ _ i2,K vs (bs++bs') h2 k2 (by rw[<- au]; exact hvs) (by rw[<- au]; exact i2) (kp.trans kp')⟩)
theorem DY (O:u.Ok)(G:CtOk u.f u.c T)(D:ri u ld)(H:fj u ev){as:List aw}{q:nb}(he:JS T ld ev Os x as=PD q):u.Tells (eval (.Call (.Name x gp) as [] p) u.env) Os q:=
 ak he λf e1 he=>iteE he λhz he=>ak he λt e2 he=>aZ he λy e3 eq=>ak e1 λpf e0 e1=>by
  rw[eq];rw[PV.val_is e1] at e0;exact λhc ads h k E Q hi hq=>ks D H e0 hz (pD O G e3).1 e2 hc.left (λU U U=>rR O) hi λvs bs h2 k2 hvs i2 kp=>(pD O G e3).2 hc.right i2 hvs λx bs2 h3 k3 hx i3 kp2=>hq x (bs++bs2) _ _ (xA hx) (I2 i3) (kp.trans kp2)
theorem DZ (O:u.Ok)(G:CtOk u.f u.c T)(H:fj u ev){o:aw}{as:List aw}{q:nb}(he:JT T ev Os o x ap as p=PD q):u.Tells (eval (.Call (.Attribute o x ap) as [] p) u.env) Os q:=
 iteE he λhcd he=>ak he λa e1 he=>by
  rw[aq,aq] at hcd;obtain⟨r,hm,he⟩:=br he;refine iteE he λho he=>ak he λt e2 he=>aZ he λy e3 eq=>?_;rw[eq,<- ho.1];clear eq he;intro hc ads h k E Q hi hq;obtain⟨cl,K⟩:=pD O G e3;refine iC hcd.1.1 hcd.1.2 (of_decide_eq_true hcd.2) (iB H _ _ _ _ e2) λpl=>((H _ _ _ e1).2 hc.left _ _ _ _ _ hi λv bs h1 k1 hv i1 kp=>?_);refine(O.i _ _ _ i1).elim λV hV=>hV.elim λm hm=>r.ok ho.2 hm.1 hv ?_
  have fin:∀ vs bs' h2 k2,IsAll (ads++bs++bs') t.1 vs->u.I (ads++bs++bs') (Os++a.2.1++t.2.1) h2->Kp u.c h1 h2->wpAny (MP u.c.w) (u.c.A u.f) (call (.builtin r.id) ([v]++vs)) Q E (sh u.c.s₀ h2 k2):=λvs bs' h2 k2 hvs i2 kp'=>
   K hc.right.right (by rw[<- au]; exact i2) ⟨v,vs,rfl,hv.up,hvs⟩ λx bs2 h3 k3 hx i3 kp2=>hq x (bs++bs'++bs2) _ _ (by rw[<- au,<- au]; exact hx) (by rw[<- au,<- au]; refine(?_:u.I _ (Os++(a.2.1++t.2.1++y.2.1)) _); rw[<- au]; exact i3) ((kp.trans kp').trans kp2)
  cases as with
  | nil=>cases e2; exact i7 (fin [] [] h1 k1 rfl (I0 i1) Kp.refl)
  | cons b l=>
   refine ak e2 λq1 e4 e5=>?_;exact ik cl (H _ _ _ e4).1 (iB H _ _ _ _ e2) (lF H p _ _ e2 hc.right.left _ _ _ _ _ i1 λvs bs' h2 k2 hvs i2 kp'=>⟨rR O i2,fin vs bs' h2 k2 hvs i2 kp'⟩)
theorem yK (O:u.Ok)(G:CtOk u.f u.c T)(D:ri u ld)(H:fj u ev){g:aw}{as:List aw}{q:nb}(he:Bn T ld ev Os g as p=PD q):u.Tells (eval (.Call g as [] p) u.env) Os q:=
 orE he (λhz=>ak hz λx e1 hz=>(vD e1).elim λgp e2=>by rw[e2]; exact DY O G D H hz) λhz=>ak hz λr e1 hz=>by rw[att_is e1]; exact DZ O G H hz
theorem xr (O:u.Ok)(hi:u.I as Os h){y:SO}(hy:y.is (as++[h.objs.size]) o)(hw:y.own)(hf:o.isFreed=PH):(PV.r Os.length).is (as++[h.objs.size]) (.ref h.objs.size)/\u.I (as++[h.objs.size]) (Os++[y]) (h.push o)/\Kp u.c h (h.push o):=by
 refine bU λG1 hG1=>?_;obtain⟨V,m,i,cl⟩:=O.i _ _ _ hi
 have n0:h.get? h.objs.size=PF:=by
  cases e:h.get? h.objs.size with
  | none=>rfl
  | some o=>exact absurd (aO e) (bY _)
 have kp:∀ b o',h.get? b=PD o'->(h.push o).get? b=PD o':=λb o' e=>ag _ e;have k2:Kp u.c h (h.push o):=λb o' U U e=>kp b o' e;refine hG1 ?_;exact⟨⟨_,by rw[<- i.len,aM (aI _),b9]; rfl,rfl⟩,cl _ _ _ (i.made (i.F.keeps kp) (λb o' U e=>kp b o' e) (NewAll.cons n0 (aE _ hf) hy hw (di) NewAll.nil)) k2,k2⟩
theorem Bh (O:u.Ok)(H:fj u ev){q:nb}(he:Fc ev Os es=PD q):u.Tells (eval (.Tuple es kk p) u.env) Os q:=by
 refine ak he λa e1 he=>?_
 by_cases hl:a.1.length<=64
 ·rw[if_pos hl] at he; cases he;intro hc as h k E Q hi hq;refine Tuple_ (lF H _ _ _ e1 hc _ _ _ _ _ hi λvs bs h2 k2 hvs i2 kp=>?_);obtain⟨g1,g2,g3⟩:=xr O i2 (y:=.T a.1) (o:={ cls:=.type "tuple",data:=.seq vs.toArray }) ⟨vs,rfl,hvs.up⟩ PI rfl;exact bL (hq _ (bs++[_]) _ _ (xA g1) (I2 g2) (kp.trans g3)) (by show vs.toArray.size<=sizeLine; rw[aK,hvs.len]; exact ar hl (of_decide_eq_true rfl))
 ·rw[if_neg hl] at he; cases he
theorem Bk (O:u.Ok)(H:fj u ev){q:nb}(he:Fe ev Os es=PD q):u.Tells (eval (.List es p) u.env) Os q:=by
 refine ak he λa e1 he=>?_
 by_cases hl:a.1.length<=64
 ·rw[if_pos hl] at he; cases he;intro hc as h k E Q hi hq;refine List_ (lF H _ _ _ e1 hc _ _ _ _ _ hi λvs bs h2 k2 hvs i2 kp=>?_);obtain⟨g1,g2,g3⟩:=xr O i2 (y:=.L a.1) (o:={ cls:=.type "list",data:=.seq vs.toArray }) ⟨vs,_,rfl,hvs.up⟩ PI rfl;exact bL (hq _ (bs++[_]) _ _ (xA g1) (I2 g2) (kp.trans g3)) (by show vs.toArray.size<=sizeLine; rw[aK,hvs.len]; exact ar hl (of_decide_eq_true rfl))
 ·rw[if_neg hl] at he; cases he
theorem CB {sl:aw}{o i:af}:∃ ops,subscripted sl PH o i=operate ops (getItem o i):=by
 cases sl with
 | Slice l u s p=>cases s<;>exact⟨_,rfl⟩
 | _=>exact⟨_,rfl⟩
theorem wO {value slice:aw}{o i:af}{c:Cx}{f:Fs}(h:ItemOn (MP c.w) (c.A f) E o i Q s):wpAny (MP c.w) (c.A f) (subscriptTail value slice o i) Q E s:=by
 refine bU λG1 hG1=>?_;obtain⟨T,id,hl,hT,hg⟩:=h;obtain⟨ops,hs⟩:=CB (sl:=slice) (o:=o) (i:=i);refine hG1 ?_;exact tail_any hT hl hg hs
theorem te (H:fj u ev){x:Option aw}{z:Option Int}(he:DV ev Os x=PD (z,C))(hC:Al C)(hi:u.I as Os h)(hq:∀ v bs h' k',MX v z->u.I (as++bs) (Os++[]) h'->Kp u.c h h'->Q v (sh u.c.s₀ h' k')):
  wpAny (MP u.c.w) (u.c.A u.f) (evalPart x u.env) Q E (sh u.c.s₀ h k):=by
 cases x with
 | none=>cases he; exact aD (hq _ [] _ _ .none (I0 hi) Kp.refl)
 | some e=>
  refine bU λG1 hG1=>?_;refine ak he λa e1 he=>?_;refine ak he λt e2 he=>?_;refine hG1 ?_;cases hb:a.2.1 with
  | cons _ _=>rw[hb] at he; cases he
  | nil=>
   rw[hb] at he; cases he;refine(H _ _ _ e1).2 hC _ _ _ _ _ hi λv bs h1 k1 hv i1 kp=>?_;rw[PV.int_is e2] at hv;obtain⟨tk,rfl⟩:=hv;exact hq _ bs _ _ (.int _ _) (hb▸i1) kp
theorem Bi (O:u.Ok)(G:CtOk u.f u.c T)(H:fj u ev){v s:aw}{q:nb}(he:Fd T ev Os v s=PD q):u.Tells (eval (.Subscript v s p) u.env) Os q:=by
 refine bU λG1 hG1=>?_;refine ak he λa e1 h1=>?_;refine aZ h1 λy e0 eq9=>?_;subst eq9;clear he h1;refine hG1 ?_;intro hc as h k E Q hi hq;refine Subscript_ ((H _ _ _ e1).2 hc.left _ _ _ _ _ hi λx bs h1 k1 hx i1 kp1=>?_);have hq':∀ v bs' h' k',y.1.is (as++bs++bs') v->u.I (as++bs++bs') (Os++a.2.1++y.2.1) h'->Kp u.c h1 h'->Q v (sh u.c.s₀ h' k'):=λv bs' h' k' hv hi' kp=>hq v (bs++bs') _ _ (xA hv) (I2 hi') (kp1.trans kp);have hc:=hc.right;clear hq;generalize Os++a.2.1=Os1 at*;generalize as++bs=as1 at*;refine Bw e0 (λU e0=>?_) λz hs e0=>?_
 rotate_left
 ·refine bU λG2 hG2=>?_;obtain⟨sp,rfl⟩:=sli_is hs;refine ak e0 λl e2 e0=>?_;refine ak e0 λr e3 e0=>?_;refine ak e0 λz e4 e0=>?_;refine aZ e0 λy e5 eq9=>?_;subst eq9;obtain⟨R,hm,e5⟩:=br e5;refine hG2 ?_;refine wpAny_Slice (te H e2 hc.left i1 λlv bs2 h2 k2 hl i2 kp2=>te H e3 hc.right.left (by rw[ao] at i2; exact i2) λrv bs3 h3 k3 hr i3 kp3=>te H e4 hc.right.right.left (by rw[ao] at i3; exact i3) λzv bs4 h4 k4 hz i4 kp4=>wO ?_);rw[ao] at i4;refine bU λG3 hG3=>?_;obtain⟨V,m,i,cl⟩:=O.i _ _ _ i4;refine hG3 ?_
  exact R.ok e5 hc.right.right.right i O.h hx.up.up.up hl hr hz λxv bs' h' k' hx' hi' kp'=>hq' xv (bs2++(bs3++(bs4++bs'))) _ _ (xA (xA (xA hx'))) (by
   have:=cl _ _ _ hi' kp';simp only[au] at this ⊢; exact this) (((kp2.trans kp3).trans kp4).trans kp')
 ·refine bU λG4 hG4=>?_;refine ak e0 λb e2 e0=>?_;refine aZ e0 λy e3 eq9=>?_;subst eq9;obtain⟨R,hm,e3⟩:=br e3;refine hG4 ?_;refine(H _ _ _ e2).2 hc.left _ _ _ _ _ i1 λz bs2 h2 k2 hy i2 kp2=>wO ?_;refine bU λG5 hG5=>?_;obtain⟨V,m,i,cl⟩:=O.i _ _ _ i2;refine hG5 ?_;exact R.ok e3 hc.right (G.2 R hm) i O.h hx.up hy λxv bs' h' k' hx' hi' kp'=>hq' xv (bs2++bs') _ _ (xA hx') (I2 (cl _ _ _ hi' kp')) (kp2.trans kp')
def ie (u:Su)(ext:EV->EV):Prop:=∀ ev,fj u ev->∀ Os e q,ext ev Os e=PD q->u.Tells (eval e u.env) Os q
theorem zT (e:aw)(h:vw e≠.oth):x8 e:=λr env=>by cases e<;>first | rfl | exact absurd rfl h
set_option tactic.hygienic true in
theorem CE (O:u.Ok)(G:CtOk u.f u.c T)(D:ri u ld)(X:ie u ext)(H:fj u ev):fj u (step T ld ext ev):=by
 intro Os e q he;have hv:=vw_is e;unfold step at he;refine⟨zT e (λhw=>by rw[hw] at he; cases he),?_⟩;cases hw:vw e<;>rw[hw] at he hv<;>dsimp only at he
 case con c=>obtain⟨_,_,rfl⟩:=hv; obtain⟨p,e1,rfl⟩:=bh.mp he; exact .plain λU U=>C9 e1
 case nam x=>obtain⟨_,rfl⟩:=hv; obtain⟨p,e1,rfl⟩:=bh.mp he; exact D _ _ _ e1 _
 case bin=>exact orE he (λhz=>by obtain⟨_,rfl⟩:=hv; exact Bp H hz) λhe=>X _ H _ _ _ he
 case un=>obtain⟨_,rfl⟩:=hv; exact DU H he
 case ift=>obtain⟨_,rfl⟩:=hv; exact DW O H he
 case cll g as kw p=>
  have hv:e=_:=hv;refine orE he (λhz=>?_) λhe=>X _ H _ _ _ he;clear he;cases kw with
  | nil=>subst hv; exact yK O G D H hz
  | cons _ _=>cases hz
 case tup=>obtain⟨_,_,rfl⟩:=hv; exact Bh O H he
 case lst=>obtain⟨_,rfl⟩:=hv; exact Bk O H he
 case sub=>obtain⟨_,rfl⟩:=hv; exact Bi O G H he
 case cmp=>obtain⟨_,rfl⟩:=hv; exact DX O H he
 case att=>exact X _ H _ _ _ he
 case cmh=>exact X _ H _ _ _ he
 case sli=>cases he
 case boo=>cases he
 case oth=>cases he
theorem vn (O:u.Ok)(G:CtOk u.f u.c T)(D:ri u ld)(X:ie u ext)(n:Nat):fj u (F8 T ld ext n):=by
 induction n with
 | zero=>intro U U U he; cases he
 | succ n ih=>exact CE O G D X ih
noncomputable def ta:EV->EV:=λU U U=>PF
theorem kK:ie u ta:=λU U U U U h=>nomatch h
end
noncomputable def SO.cel?:SO->Option PV | .L _=>PF | .T _=>PF | .C p=>p | .P _=>PF | .Z _ _=>PF | .G _=>PF | .N=>PF
theorem SO.cel_is {x:SO}{p:PV}(h:x.cel?=PD p):x=.C (PD p):=by cases x<;>first | (cases h; done) | (have h:_=_:=h; subst h; rfl)
noncomputable def NB:af->PV
 | .float f _=>.f f | .none=>.v .none | .ellipsis=>.v .ellipsis | .notImplemented=>.v .notImplemented | .bool b=>.v (.bool b) | .int i _=>.i i | .str s _=>.s s | .bytes b t=>.v (.bytes b t) | .type n=>.v (.type n) | .builtin n=>.v (.builtin n) | .ref a=>.v (.ref a)
theorem Hh:(NB v).is as v:=by cases v<;>first | exact⟨_,rfl⟩ | exact rfl
def GZ (w:aB)(x:Str):Option PV:=(nsIn (hd.heap_39 w.params) mainGlobals x).bind λo=>o.casesOn (if x="__name__" then PF else(bootBuiltins x).map .v) λv=>PD (NB v)
def cellP (CM:List (Str×Nat))(Os:List SO)(x:Str):Option PV:=(CM.lookup x).bind λi=>(Os[i]?).bind λo=>o.core.cel?
def Jx (w:aB)(CM:List (Str×Nat))(V:Vm)(Os:List SO)(x:Str):l7->Option PV
 | .local=>V.lookup x | .cell=>cellP CM Os x | .free=>if(x == ("__classdict__":Str))=PG then PF else cellP CM Os x | .globalExplicit=>PF | .globalImplicit=>GZ w x
def ldF (w:aB)(f:Fs)(V:Vm)(Os:List SO)(x:Str):Option PV:=
 if(x == ("__debug__":Str))=PG then PF else(f.sc.names.lookup x).bind (Jx w f.CM V Os x)
section
variable {f:Fs}{c:Cx}{V V':Vm}{m:Str->Option af}{as:List aj}{Os Os':List SO}{h:aL}{x:Str}{p:PV}
theorem p6 (i:Inv f c V m as Os h)(e:cellP f.CM Os x=PD p):∃ a v,c.cl.lookup x=PD a/\h.IsCell a (PD v)/\p.is as v:=by
 refine bU λG1 hG1=>?_;refine ak e λk hk e=>?_;refine ak e λo ho e=>?_;obtain⟨a,h1,h2⟩:=i.C _ _ hk;have lv:o.live:=by cases o<;>first | trivial | exact nomatch e
 obtain⟨a',o',e1,h3,h4⟩:=i.get ho lv ⟨a,h2,rfl⟩;refine hG1 ?_;cases e1;rw[SO.cel_is e] at h4;refine bU λG2 hG2=>?_;obtain⟨u,eu,v,rfl,hv⟩:=h4;refine hG2 ?_;exact⟨a,v,h1,⟨o',h3,eu⟩,hv⟩
theorem xI (e:GZ w x=PD p)(as:List aj):(∃ v,nsIn (hd.heap_39 w.params) mainGlobals x=PD (PD v)/\p.is as v)\/(nsIn (hd.heap_39 w.params) mainGlobals x=PD PF/\x≠"__name__"/\∃ v,bootBuiltins x=PD v/\p=.v v):=by
 refine ak e λo h1 e=>?_;cases o with
 | none=>
  by_cases hn:x="__name__"
  ·have e:(if x="__name__" then PF else(bootBuiltins x).map .v)=PD p:=e;rw[if_pos hn] at e; cases e
  ·have e:(if x="__name__" then PF else(bootBuiltins x).map .v)=PD p:=e;rw[if_neg hn] at e;refine aZ e λv e1 eq9=>?_;subst eq9;exact .inr ⟨h1,hn,v,e1,rfl⟩
 | some v=>cases e; exact .inl ⟨v,h1,Hh⟩
theorem jk {A:be}{env:Env}{x:Str}(hk:env.scope.kind=.function)(hx:env.kindOf x=PD .globalImplicit)(h:wpAny M A (loadGlobal env x) Q E s):wpAny M A (loadName env x) Q E s:=by
 unfold loadName;simp only[Env.blockKind,hk,hx,ScopeKind.isAnnotationScope,Bool.false_and,eV,if_false];exact h
theorem AC (O:c.Ok f)(e:ldF c.w f V Os x=PD p)(hi:Inv f c V m as Os h)(hq:∀ v,p.is as v->Q v (sh c.s₀ h k)):wpAny (MP c.w) (c.A f) (loadName (c.env f) x) Q E (sh c.s₀ h k)/\(x == ("__debug__":Str))=PH:=by
 unfold ldF at e
 by_cases hdb:(x == ("__debug__":Str))=PG
 ·rw[if_pos hdb] at e; cases e
 rw[if_neg hdb] at e;refine⟨?_,jt.mpr hdb⟩;refine ak e λkd hk e=>?_;cases kd with
 | «local»=>
  obtain⟨v,hv,hp⟩:=hi.M _ _ e;exact bQ O.kd hk hi.F.ns hv (hq v hp)
 | cell=>
  obtain⟨a,v,h1,h2,h3⟩:=p6 hi e;exact wpAny_loadName_cell O.kd hk h1 h2 (hq v h3)
 | free=>
  have e:(if(x == ("__classdict__":Str))=PG then PF else cellP f.CM Os x)=PD p:=e
  by_cases hcd:(x == ("__classdict__":Str))=PG
  ·rw[if_pos hcd] at e; cases e
  ·rw[if_neg hcd] at e;obtain⟨a,v,h1,h2,h3⟩:=p6 hi e;exact wpAny_loadName_free O.kd hk h1 h2 (hq v h3) (jt.mpr hcd)
 | globalExplicit=>cases e
 | globalImplicit=>
  have T:=qG O.t;rcases xI e as with ⟨v,h1,h2⟩ | ⟨h1,h2,v,h3,rfl⟩
  ·exact jk O.kd hk (loadGlobal_global (env:=c.env f) (T.g.keeps hi.F.keep) (mg_of O.x T.g h1) (hq v h2))
  ·exact jk O.kd hk (qI (env:=c.env f) (T.g.keeps hi.F.keep) (Ig O.x T.g h1) (T.b.keeps hi.F.keep) ((T.builtins x h2).trans h3) (hq v rfl))
theorem fL (O:c.Ok f):ri ⟨f,c,c.env f,Inv f c V m⟩ (ldF c.w f V):=λOs x p e pos U as h k E Q hi hq=>
 let q:=AC O e hi (k:=k) (E:=E) (Q:=Q) λv hv=>hq v [] h k (KR hv) (I0 (I:=λas Os h=>Inv f c V m as Os h) hi) Kp.refl
 dt q.1 q.2
def nO (f:Fs)(V:Vm)(Os:List SO)(x:Str)(p:PV):Option (Vm×List SO):=
 (f.sc.names.lookup x).bind λk=>if k=.local then PD (put V x p,Os) else if k=.cell then(f.CM.lookup x).bind λi=>(Os[i]?).bind λo=>o.casesOn (λU=>PF) (λU=>PF) (λU=>PD (V,Os.set i (.C (PD p)))) (λU=>PF) (λU U=>PF) (λU=>PF) PF else PF
theorem LU {β:Type _}{c:Prop}[Decidable c]{t s:Option β}{q:β}(e:(if c then t else s)=PD q)(h:c->t=PD q->P)(h':¬ c->s=PD q->P):P:=
 (cJ c).elim (λhc=>h hc ((if_pos hc).symm.trans e)) λhc=>h' hc ((if_neg hc).symm.trans e)
theorem Ef {t q:α}{o:SO}(e:(o.casesOn (λU=>PF) (λU=>PF) (λU=>PD t) (λU=>PF) (λU U=>PF) (λU=>PF) PF:Option α)=PD q):∃ p,o=.C p/\t=q:=by
 cases o<;>first | exact⟨_,rfl,ac e⟩ | cases e
theorem setN_ok (O:c.Ok f)(e:nO f V Os x p=PD (V',Os'))(i:Inv f c V m as Os h)(hv:p.is as v){Q:Unit->ai->Prop}(hq:∀ h' tk' m',Inv f c V' m' as Os' h'->Q () (sh c.s₀ h' tk')):wpAny (MP c.w) (c.A f) (storeName (c.env f) x v) Q E (sh c.s₀ h tk):=
 bU λG hG=>ak e λk hk e=>LU e
  (λh1 e=>have e:=ac e; have q1:put V x p=V':=congrArg nJ e; have q2:Os=Os':=congrArg sd e
   hG (cM (h1▸hk) i.F.ns (λh'' hn hs=>hq _ _ _ (q1▸q2▸i.name hv hn hs)) (by show(f.sc.kind == .class||(f.sc.kind == .module&&c.L != mainGlobals))=PH; rw[O.kd]; rfl)))
  λU e=>iteE e λh2 e=>ak e λj hj e=>ak e λo ho e=>(Ef (α:=Vm×List SO) e).elim λp0 z=>have ho:Os[j]?=PD (SO.C p0):=z.1▸ho
   have q1:V=V':=congrArg nJ z.2; have q2:Os.set j (SO.C (PD p))=Os':=congrArg sd z.2
   (i.C _ _ hj).elim λa g=>(i.ob _ _ _ g.2 ho PI).elim λo' w=>w.1.elim λu eu=>
    hG (wpAny_storeName_cell O.kd (h2▸hk) g.1 ⟨o',w.2.1,eu.1⟩ λh'' hv' hs=>hv'.elim λo2 y=>hq _ _ _ (q1▸q2▸i.obj (y:=.C (PD p)) g.2 ho PI PI hs y.1 ⟨_,y.2,v,rfl,hv⟩))
def oZ (f:Fs):Vm->List SO->List Str->List PV->Option (Vm×List SO)
 | V,Os,[],ps=>if ps.isEmpty then PD (V,Os) else PF
 | V,Os,x :: xs,ps=>ps.head?.bind λp=>(nO f V Os x p).bind λq=>oZ f q.1 q.2 xs ps.tail
def iA:List aw->Option (List Str)
 | []=>PD []
 | e :: r=>(vw e).nam?.bind λx=>(iA r).map λxs=>x :: xs
theorem tO {r:List aw}(h:iA (e :: r)=PD xs):∃ x p ys,e=.Name x p/\iA r=PD ys/\xs=x :: ys:=by
 refine ak h λx h1 h=>?_;refine aZ h λys h2 eq9=>?_;subst eq9;exact(vD h1).elim λp e1=>⟨_,p,ys,e1,h2,rfl⟩
theorem pY {env:Env}:∀ {xs:List Str},iA ts=PD xs->(assignEach ts env).length=xs.length/\(assignEach ts env).findIdx? (·.1)=PF:=by
 induction ts with
 | nil=>exact λ{U} h=>ac h▸⟨rfl,rfl⟩
 | cons e r ih=>exact λ{xs} h=>(tO h).elim λx z=>z.elim λp z=>z.elim λys z=>have q:=ih z.2.1
  z.1▸z.2.2▸⟨congrArg fq q.1,List.findIdx?_cons.trans (by rw[q.2]; rfl)⟩
theorem head_tl {p:α}{ps:List α}(e:ps.head?=PD p):ps=p :: ps.tail:=by
 cases ps with
 | nil=>cases e
 | cons a l=>exact ac e▸rfl
theorem tR:∀ {ps:List PV} {V:Vm} {Os:List SO},oZ f V Os xs ps=PD (V',Os')->xs.length=ps.length:=by
 induction xs with
 | nil=>exact λ{U U U} e=>iteE e λh U=>(congrArg lh (aX.mp h)).symm
 | cons x xs ih=>exact λ{U U U} e=>ak e λp e1 e=>ak e λq e2 e=>(congrArg fq (ih e)).trans (congrArg lh (head_tl e1)).symm
inductive Acts (A:be)(env:Env):List (af->Sem Unit)->List Str->Prop
 | nil:Acts A env [] []
 | cons {t:af->Sem Unit} {x:Str} {ts:List (af->Sem Unit)} {xs:List Str} (h:∀ (w:aB) (E:af->ai->Prop) (v:af) (Q:Unit->ai->Prop) (s:ai),wpAny (MP w) A (storeName env x v) Q E s->wpAny (MP w) A (t v) Q E s) (r:Acts A env ts xs):Acts A env (t :: ts) (x :: xs)
theorem r9 {A:be}{env:Env}:∀ {xs:List Str},iA ts=PD xs->Acts A env ((assignEach ts env).map (·.2)) xs:=by
 induction ts with
 | nil=>exact λ{U} h=>ac h▸.nil
 | cons e r ih=>exact λ{xs} h=>(tO h).elim λx z=>z.elim λp z=>z.elim λys z=>z.1▸z.2.2▸.cons (λU U U U U h=>gW h) (ih z.2.1)
theorem x6 (O:c.Ok f){Q:Unit->ai->Prop}{ts:List (af->Sem Unit)}(a:Acts (c.A f) (c.env f) ts xs):∀ {ps:List PV} {vs:List af} {V:Vm} {Os:List SO} {m:Str->Option af} {h:aL} {tk:Nat},oZ f V Os xs ps=PD (V',Os')->
  IsAll as ps vs->Inv f c V m as Os h->(∀ h' tk' m',Inv f c V' m' as Os' h'->Q () (sh c.s₀ h' tk'))->wpAny (MP c.w) (c.A f) (assignInOrder ts vs) Q E (sh c.s₀ h tk):=by
 induction a with
 | nil=>exact λ{ps vs V Os m h tk} e hv i hq=>iteE e λU e=>have e:=ac e; aD (hq h tk m ((congrArg (·.1) e:V=V')▸(congrArg (·.2) e:Os=Os')▸i))
 | cons g _ ih=>exact λ{ps vs V Os m h tk} e hv i hq=>ak e λp e1 e=>ak e λq e2 e=>(head_tl e1▸hv:IsAll as (p :: ps.tail) vs).elim λv z=>z.elim λr z=>z.1▸assignInOrder_cons (g _ _ _ _ _ (setN_ok O e2 i z.2.1 λh' tk' m' i'=>ih e z.2.2 i' hq))
theorem wV (O:c.Ok f){ps:List PV}{V:Vm}{Os:List SO}{m:Str->Option af}{h:aL}{Q:Unit->ai->Prop}(hx:iA ts=PD xs)(e:oZ f V Os xs ps=PD (V',Os'))(hv:IsAll as ps vs)(i:Inv f c V m as Os h)
  (hq:∀ h' tk' m',Inv f c V' m' as Os' h'->Q () (sh c.s₀ h' tk')):wpAny (MP c.w) (c.A f) (assignInOrder ((assignEach ts (c.env f)).map (·.2)) vs) Q E (sh c.s₀ h tk):=x6 O (r9 hx) e hv i hq
end
structure Wk where
 f:Fs
 T:Tab
 ext:Fs->Tab->aB->Vm->EV->EV
def evF (k:Wk)(w:aB)(V:Vm):EV:=F8 k.T (ldF w k.f V) (k.ext k.f k.T w V) 14
structure Wk.Okc (k:Wk)(c:Cx):Prop where
 o:c.Ok k.f
 g:CtOk k.f c k.T
 e:∀ V m,ie ⟨k.f,c,c.env k.f,Inv k.f c V m⟩ (k.ext k.f k.T c.w V)
structure Wk.Ok (k:Wk)(c:Cx):Prop extends Wk.Okc k c where
 gd:∀ c':Cx,c.Sub c'->c'.Ok k.f->Wk.Okc k c'
theorem Wk.Ok.at {k:Wk}{c:Cx}{s:ai}(O:k.Ok c)(g:c.gs s):k.Ok (c.at s):=⟨O.gd _ (Cx.at_sub c s) (O.o.at g),λc2 s' o2=>O.gd c2 ((Cx.at_sub c s).trans s') o2⟩
theorem b7 {k:Wk}{c:Cx}{V:Vm}(O:k.Okc c):fj ⟨k.f,c,c.env k.f,Inv k.f c V m⟩ (evF k c.w V):=vn ⟨IOk.inv,O.o.h,O.o.u2⟩ O.g (fL O.o) (O.e V m) 14
structure EffR where
 name:Str
 id:String
 f:List PV->List PV->Option (List PV×List Prop)
 mt:∀ {w:aB} {A:be} {s:ai} {D:aj} {o:Obj} {pl:Sem Bool} {E:af->ai->Prop} {Q:af×List af->ai->Prop},s.heap.get? D=PD o->o.cls=.type "list"->o.dict=PF->Q (.builtin id,[.ref D]) s->wpAny (MP w) A (getMethod (.ref D) name pl) Q E s
 ok:∀ {xs ps:List PV} {q:List PV×List Prop},f xs ps=PD q->Al q.2->∀ {as:List aj} {us vs:List af},IsAll as xs us->IsAll as ps vs->∀ {w:aB} {A:be} {E Q:af->ai->Prop} {s:ai} {D:aj} {n:Nat},s.heap.get? D=PD { cls:=.type "list",data:=.seq us.toArray n }->
  (∀ h' ws n',dI D s.heap h'->h'.get? D=PD { cls:=.type "list",data:=.seq ws.toArray n' }->IsAll as q.1 ws->Q .none { s with heap:=h' })->wpAny (MP w) A (call (.builtin id) (.ref D :: vs)) Q E s
theorem IsAll.app {ps qs:List PV}{us:List af}(h:IsAll as ps vs)(h':IsAll as qs us):IsAll as (ps++qs) (vs++us):=h.ind (P:=λps vs=>IsAll as (ps++qs) (vs++us)) h' λh U ih=>⟨_,_,rfl,h,ih⟩
theorem IsAll.snoc {q:PV}(hv:q.is as v){ps:List PV}(h:IsAll as ps vs):IsAll as (ps++[q]) (vs++[v]):=h.app ⟨v,[],rfl,hv,rfl⟩
theorem IsAll.rev {ps:List PV}(h:IsAll as ps vs):IsAll as ps.reverse vs.reverse:=
 h.ind (P:=λps vs=>IsAll as ps.reverse vs.reverse) rfl λh U ih=>by rw[jo,jo]; exact ih.app ⟨_,[],rfl,h,rfl⟩
theorem IG {ps:List PV}(h:IsAll as ps vs)(hl:ps.length<=1000):vs.toArray.size<=sizeLine:=by rw[aK,h.len]; exact ar hl (of_decide_eq_true rfl)
def yM:EffR where
 name:="append"
 id:="list.append"
 f:=λxs ps=>(one ps).map λp=>(xs++[p],[xs.length<=1000])
 mt:=λh hc hd hq=>Calls.getMethod_list_append h hc hd hq
 ok:=λe hC as us vs hu hv w A E Q s D n ho hq=>by
  refine aZ e λp e1 eq9=>?_;subst eq9;rw[one_is e1] at hv;obtain⟨v,r,rfl,hp,hr⟩:=hv;cases hr;exact append_at ho (λh' hs hD=>hq h' (us++[v]) (n+1) hs (by rw[hD]; simp) (hu.snoc hp)) (IG hu hC.1)
noncomputable def v7:EffR where
 name:="reverse"
 id:="list.reverse"
 f:=λxs ps=>if ps.isEmpty=PG then PD (xs.reverse,[xs.length<=sizeLine]) else PF
 mt:=λh hc hd hq=>rp ⟨_,h,hc⟩ PySem.F.plainAttrs_list PySem.F.slot_list_reverse PySem.F.type_list_reverse (λa e=>by cases e; exact⟨_,h,hd⟩) hq
 ok:=λ{xs ps q} e hC as us vs hu hv w A E Q s D n ho hq=>iteE e λe1 eq=>by
  cases eq;cases ps with
  | cons _ _=>cases e1
  | nil=>
   cases hv;refine call_meets PySem.F.slot_list_reverse ⟨_,ho,rfl⟩ PySem.F.entry_list_reverse (PySem.F.args_list_reverse_1 _) (AutoSeq1.list_reverse_list_0 D us.toArray n (by rw[aK,hu.len]; exact hC.1)) ⟨ho,?_⟩;refine hq _ us.reverse n (fw ..) ?_ hu.rev;rw[df _ ho (by rw[mapSeq_reverse]; rfl),mapSeq_reverse]
def Ho:List EffR:=[yM,v7]
inductive Vs | asg (ts:List aw)(e:aw)(p:Pos) | exp (e:aw)(p:Pos) | aug (t:aw)(op:dM)(e:aw) | oth
noncomputable def y8:aS->Vs
 | .FunctionDef ..=>.oth | .AsyncFunctionDef ..=>.oth | .ClassDef ..=>.oth | .Return ..=>.oth | .Delete ..=>.oth | .Assign ts e p=>.asg ts e p | .TypeAlias ..=>.oth | .AugAssign t op e _=>.aug t op e | .AnnAssign ..=>.oth | .For ..=>.oth | .AsyncFor ..=>.oth
 | .While ..=>.oth | .If ..=>.oth | .With ..=>.oth | .AsyncWith ..=>.oth | .Match ..=>.oth | .Raise ..=>.oth | .Try ..=>.oth | .TryStar ..=>.oth | .Assert ..=>.oth | .Import ..=>.oth | .ImportFrom ..=>.oth | .Global ..=>.oth | .Nonlocal ..=>.oth | .Expr e p=>.exp e p | .Pass ..=>.oth | .Break ..=>.oth | .Continue ..=>.oth
def Vs.is:Vs->aS->Prop
 | .asg ts e p,s=>s=.Assign ts e p
 | .exp e p,s=>s=.Expr e p
 | .aug t op e,s=>∃ p,s=.AugAssign t op e p
 | .oth,_=>True
theorem vb (s:aS):(y8 s).is s:=by cases s<;>first | exact rfl | exact⟨_,rfl⟩ | exact PI
abbrev St:=Option (Vm×List SO×List Prop)
def j8 (e:aw):Bool:=(vw e).casesOn (λU=>PH) (λU=>PH) (λU U U=>PH) (λU U=>PH) (λU U U=>PH) (λU U U U=>PH) (λU=>PH) (λU=>PH) (λU U=>PH) (λU U U=>PH) (λU U U=>PH) (λU U U=>PH) (λU U=>PH) (λU U U=>PG) PG
theorem oU (h:j8 e=PH)(t:Option aw)(l:Nat)(env:Env):swapsWith e t l env=pure PH:=by
 cases e<;>first | rfl | cases h
theorem yf {c:Cx}{f:Fs}(h:(j8 e&&f.sc.names.lookup x == PD .local)=PH)(p:Pos)(l:Nat):swapsWith e (PD (.Name x p)) l (c.env f)=pure PH:=by
 cases hc:j8 e with
 | false=>exact oU hc _ _ _
 | true=>
  rw[hc,f6] at h
  have key:∀ (a b d:Bool),(a&&((c.env f).kindOf x == PD .local)&&b&&d)=PH:=λa b d=>by
   rw[show((c.env f).kindOf x == PD NameKind.local)=PH from h,Bool.and_false]; rfl
  cases e<;>first
   | exact congrArg pure (key _ _ _)
   | rfl
def lB (e:aw):Option Str:=(vw e).nam?
theorem nam_is (h:lB e=PD x):∃ p,e=.Name x p:=vD h
def zy (e:aw):Option (aw×aw):=(vw e).sub?
theorem sub_is {q:aw×aw}(h:zy e=PD q):∃ p,e=.Subscript q.1 q.2 p:=FG h
def Ci:List PV->Option (List Int)
 | []=>PD []
 | p :: r=>p.int?.bind λx=>(Ci r).map λs=>x :: s
theorem mz {ps:List PV}:∀ {xs:List Int},Ci ps=PD xs->ps=xs.map .i:=by
 induction ps with
 | nil=>exact λ{U} e=>ac e▸rfl
 | cons p r ih=>exact λ{U} e=>ak e λx e1 e=>aZ e λs e2 eq=>eq▸PV.int_is e1▸congrArg (PV.i x :: ·) (ih e2)
theorem mm {g:α->PV}{xs:List α}{d:α}(h:n<(xs.map g).length):(xs.map g)[n]?=PD (g (xs.getD n d)):=by
 rw[aA] at h;rw[aG,iX,aF h]; rfl
def sJ (Os:List SO)(p:PV):Option (Nat×List PV):=p.ref?.bind λk=>(Os[k]?).bind λx=>x.lst?.map λxs=>(k,xs)
def mh (k:Wk)(w:aB)(V:Vm)(Os:List SO)(x:Str)(e:aw):St:=
 if(j8 e&&k.f.sc.names.lookup x == PD .local)=PG then PF else(evF k w V Os e).bind λa=>(nO k.f V (Os++a.2.1) x a.1).map λq=>(q.1,q.2,a.2.2)
def IX (ev:EV)(Os:List SO)(o i:aw)(p:PV):Option (List SO×List Prop):=
 (ev Os o).bind λa=>(ev (Os++a.2.1) i).bind λb=>(sJ (Os++a.2.1++b.2.1) a.1).bind λq=>b.1.int?.map λz=>((Os++a.2.1++b.2.1).set q.1 (.L (q.2.set z.toNat p)),a.2.2++(b.2.2++[0<=z,z<(q.2.length:Int),z<2 ^ 63]))
def F9 (op:dM)(a b:PV):Option PV:=mR PV.int? PV.int? (λx y=>(x,y)) a b |>.bind λq=>if op=.Add then PD (.i (q.1+q.2)) else if op=.Sub then PD (.i (q.1 - q.2)) else PF
theorem xl {a b p:PV}(e:F9 op a b=PD p)(hu:a.is as u)(hv:b.is as v):Gv as (inplaceOp op u v) p:=by
 intro w A E Q s₀ h k hq;refine ak e λz e1 e=>?_;obtain⟨x,y,h1,h2,rfl⟩:=fz e1;rw[PV.int_is h1] at hu; rw[PV.int_is h2] at hv;obtain⟨t,rfl⟩:=hu; obtain⟨t',rfl⟩:=hv
 by_cases g1:op=.Add
 ·rw[if_pos g1] at e; cases e; subst g1; exact@iadd_int _ _ _ _ _ _ _ _ _ _ (hq _ _ ⟨_,rfl⟩)
 ·rw[if_neg g1] at e
  by_cases g2:op=.Sub
  ·rw[if_pos g2] at e; cases e; subst g2; exact@isub_int _ _ _ _ _ _ _ _ _ _ (hq _ _ ⟨_,rfl⟩)
  ·rw[if_neg g2] at e; cases e
def zY (ev:EV)(Os:List SO)(o i:aw)(op:dM)(v:aw):Option (List SO×List Prop):=
 if(vw i).sli?.isSome then PF else
 (ev Os o).bind λa=>(ev (Os++a.2.1) i).bind λb=>(sJ (Os++a.2.1++b.2.1) a.1).bind λq=>b.1.int?.bind λz=>(Ci q.2).bind λxs=>(ev (Os++a.2.1++b.2.1) v).bind λd=>if d.2.1.isEmpty then
  (F9 op (.i (xs.getD z.toNat 0)) d.1).bind λr=>r.int?.map λn=>((Os++a.2.1++b.2.1).set q.1 (.L ((xs.set z.toNat n).map .i)),a.2.2++(b.2.2++(d.2.2++[0<=z,z<(xs.length:Int),z<2 ^ 63]))) else PF
def IZ (ev:EV)(Os:List SO)(as:List aw)(x:Str)(a:nb)(r:EffR):Option (List SO×List Prop):=if r.name=x then(rZ ev (Os++a.2.1) as).bind λb=>(sJ (Os++a.2.1) a.1).bind λU=>(sJ (Os++a.2.1++b.2.1) a.1).bind λq=>(r.f q.2 b.1).map λt=>((Os++a.2.1++b.2.1).set q.1 (.L t.1),a.2.2++(b.2.2++t.2)) else PF
def I3 (ev:EV)(Os:List SO)(g:aw)(as:List aw)(p:Pos):Option (List SO×List Prop):=(vw g).att?.bind λs=>if(ud s.1&&s.2.2.endLine == p.line&&decide (as.length<30))=PG then(ev Os s.1).bind λa=>Ho.findSome? (IZ ev Os as s.2.1 a) else PF
noncomputable def Vs.asg? (v:Vs):Option (List aw×aw):=v.casesOn (λt e U=>PD (t,e)) (λU U=>PF) (λU U U=>PF) PF
noncomputable def Vs.exp? (v:Vs):Option aw:=v.casesOn (λU U U=>PF) (λe U=>PD e) (λU U U=>PF) PF
noncomputable def Vs.aug? (v:Vs):Option (aw×dM×aw):=v.casesOn (λU U U=>PF) (λU U=>PF) (λt op e=>PD (t,op,e)) PF
theorem H5 {s:aS}{q:List aw×aw}(h:(y8 s).asg?=PD q):∃ p,s=.Assign q.1 q.2 p:=by
 have hv:=vb s;revert h hv;exact(y8 s).casesOn (λU U U h hv=>ac h▸⟨_,hv⟩) (λU U h U=>av h) (λU U U h U=>av h) λh U=>av h
theorem td {s:aS}(h:(y8 s).exp?=PD e):∃ p,s=.Expr e p:=by
 have hv:=vb s;revert h hv;exact(y8 s).casesOn (λU U U h U=>av h) (λU U h hv=>ac h▸⟨_,hv⟩) (λU U U h U=>av h) λh U=>av h
theorem H3 {s:aS}{q:aw×dM×aw}(h:(y8 s).aug?=PD q):∃ p,s=.AugAssign q.1 q.2.1 q.2.2 p:=by
 have hv:=vb s;revert h hv;exact(y8 s).casesOn (λU U U h U=>av h) (λU U h U=>av h) (λU U U h hv=>ac h▸hv) λh U=>av h
def I6 (k:Wk)(w:aB)(V:Vm)(Os:List SO)(t e:aw):St:=(zy t).bind λq=>if j8 e=PH then(evF k w V Os e).bind λa=>(IX (evF k w V) (Os++a.2.1) q.1 q.2 a.1).map λt=>(V,t.1,a.2.2++t.2) else PF
def Lo (k:Wk)(w:aB)(V:Vm)(Os:List SO)(e:aw):St:=(vw e).cll?.bind λr=>if r.2.2.1.isEmpty=PG then(I3 (evF k w V) Os r.1 r.2.1 r.2.2.2).map λq=>(V,q) else PF
def EK (k:Wk)(w:aB)(V:Vm)(Os:List SO)(t:aw)(op:dM)(e:aw):St:=(lB t).bind λx=>(ldF w k.f V Os x).bind λa=>(evF k w V Os e).bind λb=>(F9 op a b.1).bind λr=>(nO k.f V (Os++b.2.1) x r).map λq=>(q.1,q.2,b.2.2)
def F0 (k:Wk)(w:aB)(V:Vm)(Os:List SO)(s:aS):St:=
 ((y8 s).asg?.bind λr=>(one r.1).bind λt=>((lB t).bind λx=>mh k w V Os x r.2).or (I6 k w V Os t r.2)).or
  (((y8 s).exp?.bind λe=>Lo k w V Os e).or ((y8 s).aug?.bind λr=>(EK k w V Os r.1 r.2.1 r.2.2).or ((zy r.1).bind λq=>(zY (evF k w V) Os q.1 q.2 r.2.1 r.2.2).map λr=>(V,r))))
def na (f:Fs)(c:Cx)(s:aS)(V:Vm)(Os:List SO)(q:Vm×List SO×List Prop):Prop:=Al q.2.2->∀ (as:List aj) (h:aL) (tk:Nat) (m:Str->Option af) (Q:rx->ai->Prop) (E:af->ai->Prop),Inv f c V m as Os h->
 (∀ as' h' tk' m',Inv f c q.1 m' as' q.2.1 h'->Q .next (sh c.s₀ h' tk'))->wpAny (MP c.w) (c.A f) (exec s (c.env f)) Q E (sh c.s₀ h tk)
section
variable {k:Wk}{c:Cx}{V:Vm}{Os:List SO}
theorem z6 (O:k.Okc c){q:Vm×List SO×List Prop}(he:mh k c.w V Os x e=PD q):na k.f c (.Assign [.Name x p] e pos) V Os q:=by
 unfold mh at he;cases hc:j8 e&&k.f.sc.names.lookup x == PD .local with
 | true=>rw[hc] at he; cases he
 | false=>
  rw[hc] at he;refine ak he λa e1 he=>aZ he λr e2 eq=>?_;subst eq;intro hC as h tk m Q E i hq;exact dH ((b7 O _ _ _ e1).2 hC _ _ _ _ _ i λv bs h1 k1 hv i1 U=>setN_ok O.o e2 i1 hv λh' tk' m' i'=>hq _ _ _ _ i') (yf hc _ _)
theorem mP {p:PV}{q:Nat×List PV}(e:sJ Os p=PD q):p=.r q.1/\Os[q.1]?=PD (.L q.2):=by
 refine bU λG1 hG1=>?_;refine ak e λj e1 e=>?_;refine ak e λx e2 e=>?_;refine aZ e λxs e3 eq9=>?_;subst eq9;refine hG1 ?_;exact⟨PV.ref_is e1,SO.lst_is e3▸e2⟩
end
section
variable {k:Wk}{c:Cx}{V:Vm}{Os:List SO}
theorem Inv.setL {f:Fs}(i:Inv f c V m as Os h){xs ys:List PV}(ea:as[j]?=PD D)(e:Os[j]?=PD (.L xs))(hs:dI D h h')(hD:h'.get? D=PD { cls:=.type "list",data:=.seq vs.toArray n })(hv:IsAll as ys vs):Inv f c V m as (Os.set j (.L ys)) h':=
 i.obj ea e PI PI hs hD ⟨vs,n,rfl,hv⟩
theorem IsAll.set {as:List aj}{p:PV}{v:af}(hp:p.is as v){xs:List PV}{vs:List af}{n:Nat}(h:IsAll as xs vs):IsAll as (xs.set n p) (vs.set n v):=
 h.ind (P:=λxs vs=>∀ n:Nat,IsAll as (xs.set n p) (vs.set n v)) (λU=>rfl) (λh hr ih n=>n.casesOn ⟨_,_,rfl,hp,hr⟩ λn=>⟨_,_,rfl,h,ih n⟩) n
theorem kH {f:Fs}(i:Inv f c V m as Os h){xs:List PV}(ea:as[j]?=PD D)(e:Os[j]?=PD (.L xs)):∃ vs n,h.get? D=PD { cls:=.type "list",data:=.seq vs.toArray n }/\IsAll as xs vs:=by
 refine bU λG1 hG1=>?_;obtain⟨o,⟨vs,n,rfl,hv⟩,g,_⟩:=i.ob _ _ _ ea e PI;refine hG1 ?_;exact⟨vs,n,g,hv⟩
theorem o4 {f:Fs}(i:Inv f c V m as Os h){xs:List PV}(ea:as[j]?=PD D)(e:Os[j]?=PD (.L xs)){t:Tok}{p:PV}(hp:p.is as v)(h0:0<=z)(h1:z<(xs.length:Int))(h2:z<2 ^ 63)
  {A:be}  {Q:Unit->ai->Prop}  (hq:∀ h',Inv f c V m as (Os.set j (.L (xs.set z.toNat p))) h'->Q () (sh c.s₀ h' tk)):wpAny (MP c.w) A (setItem (.ref D) (.int z t) v) Q E (sh c.s₀ h tk):=by
 refine bU λG1 hG1=>?_;obtain⟨vs,n,g,hv⟩:=kH i ea e;have q:=PySem.IsL.update g (·.setIfInBounds z.toNat v);refine hG1 ?_;rw[show vs.toArray.setIfInBounds z.toNat v=(vs.set z.toNat v).toArray from Array.toList_inj.mp (by simp)] at q;exact ki_setAt g h0 h2 (by rw[aK,hv.len]; exact h1) (hq _ (i.setL ea e (fw ..) q (hv.set hp)))
theorem vW {f:Fs}(i:Inv f c V m as Os h){xs:List PV}(ea:as[j]?=PD D)(e:Os[j]?=PD (.L xs)){t:Tok}{p:PV}(hp:xs[z.toNat]?=PD p)(h0:0<=z)(h2:z<2 ^ 63)
  {A:be}    (hq:∀ v,p.is as v->Q v (sh c.s₀ h tk)):wpAny (MP c.w) A (getItem (.ref D) (.int z t)) Q E (sh c.s₀ h tk):=by
 refine bU λG1 hG1=>?_;obtain⟨vs,n,g,hv⟩:=kH i ea e;obtain⟨v,g1,g2⟩:=hv.at hp;refine hG1 ?_;exact qD ⟨_,g,rfl,n,rfl⟩ h0 h2 (by simpa using g1) (hq v g2)
theorem C5 (O:k.Okc c){o:aw}{sp:Pos}{p:PV}{q:List SO×List Prop}(he:IX (evF k c.w V) Os o i p=PD q)(hC:Al q.2)(iv:Inv k.f c V m as Os h)(hv:p.is as v){Q:Unit->ai->Prop}
  (hq:∀ as' h' tk',Inv k.f c V m as' q.1 h'->Q () (sh c.s₀ h' tk')):
  wpAny (MP c.w) (c.A k.f) (eval o (c.env k.f)) (λov s₂=>wpAny (MP c.w) (c.A k.f) (eval i (c.env k.f)) (λiv s₃=>wpAny (MP c.w) (c.A k.f) (setItem ov iv v) Q E s₃) E s₂) E (sh c.s₀ h tk):=by
 refine bU λG1 hG1=>?_;refine ak he λa e1 he=>?_;refine ak he λb e2 he=>?_;refine ak he λw e3 he=>?_;refine aZ he λz e4 eq9=>?_;subst eq9;obtain⟨g1,g2⟩:=mP e3;have hC2:=hC.right.right;refine hG1 ?_;refine(b7 O _ _ _ e1).2 hC.left _ _ _ _ _ iv λu bs h1 k1 hu i1 U=>(b7 O _ _ _ e2).2 hC.right.left _ _ _ _ _ i1 λx bs2 h2 k2 hx i2 U=>?_;rw[g1] at hu;refine bU λG2 hG2=>?_;obtain⟨D,gD,rfl⟩:=hu;refine hG2 ?_;rw[PV.int_is e4] at hx;obtain⟨t,rfl⟩:=hx;exact o4 i2 (f4 gD) g2 hv.up.up hC2.1 hC2.2.1 hC2.2.2.1 λh' i'=>hq _ _ _ i'
theorem yS (h:(vw i).sli?.isSome=PH)(ov iv new:af):augStore i ov iv new=(do holding [new,ov,iv] (setItem ov iv new); release [new,ov,iv] []; pure .next):=by
 cases i<;>first | rfl | cases h
theorem zX (O:k.Okc c){o:aw}{q:List SO×List Prop}(he:zY (evF k c.w V) Os o i op e=PD q):na k.f c (.AugAssign (.Subscript o i sp) op e pos) V Os (V,q):=by
 unfold zY at he;cases hs:(vw i).sli?.isSome with
 | true=>rw[hs] at he; cases he
 | false=>
  rw[hs] at he;refine ak he λa e1 he=>?_;refine ak he λb e2 he=>?_;refine ak he λw e3 he=>?_;refine ak he λz e4 he=>?_;refine ak he λxs e5 he=>ak he λd e6 he=>iteE he λhd he=>ak he λr e7 he=>aZ he λn e8 eq=>?_;subst eq;have hd:=aX.mp hd;obtain⟨g1,g2⟩:=mP e3;rw[mz e5] at g2;rw[PV.int_is e8] at e7;intro hC as h tk m Q E iv hq;have hC2:=hC.right.right.right;rw[List.map_set] at hq;refine wpAny_AugAssign_Subscript_any ((b7 O _ _ _ e1).2 hC.left _ _ _ _ _ iv λu bs h1 k1 hu i1 U=>(b7 O _ _ _ e2).2 hC.right.left _ _ _ _ _ i1 λx bs2 h2 k2 hx i2 U=>?_) (yS hs);rw[g1] at hu;obtain⟨D,gD,rfl⟩:=hu;rw[PV.int_is e4] at hx;obtain⟨t,rfl⟩:=hx;have hz:z.toNat<(xs.map PV.i).length:=by rw[aA]; exact(Oi hC2.1).mpr hC2.2.1
  refine vW i2 (f4 gD) g2 (mm (g:=.i) (d:=0) hz) hC2.1 hC2.2.2.1 λov hov=>(b7 O _ _ _ e6).2 hC.right.right.left _ _ _ _ _ i2 λy bs3 h3 k3 hy i3 U=>?_;rw[hd,ao] at i3;exact xl e7 hov.up hy λnv k4 hnv=>o4 i3 (f4 (f4 gD)) g2 hnv hC2.1 (by rw[aA]; exact hC2.2.1) hC2.2.2.1 λh' i'=>hq _ _ _ _ i'
theorem j9 {f:Fs}(O:c.Ok f):interactive (c.env f)=PH:=by
 have h:(c.env f).scope.kind=.function:=O.kd;unfold interactive;rw[h]; rfl
theorem C8 (O:k.Okc c){g:aw}{q:List SO×List Prop}(he:I3 (evF k c.w V) Os g es p=PD q):na k.f c (.Expr (.Call g es [] p) pos) V Os (V,q):=
 ak he λs e0 he=>iteE he λhcd he=>ak he λa e1 he=>by
  rw[att_is e0];rw[aq,aq] at hcd;obtain⟨r,hm,he⟩:=br he;refine iteE he λho he=>ak he λb e2 he=>ak he λw0 e3 he=>ak he λw e4 he=>aZ he λt e5 eq=>?_;rw[eq,<- ho];clear eq he;have g1:=mP e4;have g3:=mP e3;intro hC as h tk m Q E iv hq;refine jM (iC hcd.1.1 hcd.1.2 (of_decide_eq_true hcd.2) (iB (b7 (m:=m) O) _ _ _ _ e2) λpl=>((b7 O _ _ _ e1).2 hC.left _ _ _ _ _ iv λu bs h1 k1 hu i1 U=>?_)) (j9 O.o) rfl;rw[g3.1] at hu;refine bU λG1 hG1=>?_;obtain⟨D,gD,hD⟩:=hu;obtain⟨vs1,n1,q1,_⟩:=kH i1 gD g3.2;refine hG1 ?_;rw[hD];refine r.mt q1 rfl rfl ?_;have hj:w0.1=w.1:=ac (congrArg PV.ref? (g3.1.symm.trans g1.1))
  have fin:∀ vs bs' h2 k2,IsAll (as++bs++bs') b.1 vs->Inv k.f c V m (as++bs++bs') (Os++a.2.1++b.2.1) h2->wpAny (MP c.w) (c.A k.f) (call (.builtin r.id) ([.ref D]++vs)) (λU=>Q .next) E (sh c.s₀ h2 k2):=λvs bs' h2 k2 hvs i2=>
   have gD2:(as++bs++bs')[w.1]?=PD D:=f4 (hj▸gD)
   (kH i2 gD2 g1.2).elim λus hu=>hu.elim λn hn=>r.ok e5 hC.right.right hn.2 hvs (s:=sh c.s₀ h2 k2) hn.1 λh' ws n' hs hD hws=>hq _ _ _ _ (i2.setL gD2 g1.2 hs hD hws)
  cases es with
  | nil=>cases e2; exact i7 (fin [] [] h1 k1 rfl (I0 (I:=λas Os h=>Inv k.f c V m as Os h) i1))
  | cons e l=>
   refine ak e2 λq1 e6 U=>?_;exact ik (c:=c) (.inl ⟨_,rfl⟩) (b7 (m:=m) O _ _ _ e6).1 (iB (b7 (m:=m) O) _ _ _ _ e2) (lF (b7 O) p _ _ e2 hC.right.left _ _ _ _ _ i1 λvs bs' h2 k2 hvs i2 kp'=>⟨i2.stay,fin vs bs' h2 k2 hvs i2⟩)
theorem Dc (O:k.Okc c){q:Vm×List SO×List Prop}(he:I6 k c.w V Os t e=PD q):na k.f c (.Assign [t] e pos) V Os q:=
 ak he λx e2 hz=>iteE hz λhc hz=>ak hz λa e3 hz=>aZ hz λr e4 eq=>(sub_is e2).elim λp hp=>by
  rw[hp,eq];exact λhC as h tk m Q E iv hq=>lI ((b7 O _ _ _ e3).2 hC.left _ _ _ _ _ iv λv bs h1 k1 hv i1 U=>C5 (sp:=p) O e4 hC.right i1 hv λU U U=>hq _ _ _ _) (oU hc _ _ _)
theorem zZ (O:k.Okc c){q:Vm×List SO×List Prop}(he:EK k c.w V Os t op e=PD q):na k.f c (.AugAssign t op e pos) V Os q:=
 ak he λx e2 hz=>ak hz λa e3 hz=>ak hz λb e4 hz=>ak hz λr e5 hz=>aZ hz λw e6 eq=>(nam_is e2).elim λp hp=>by
  rw[hp,eq];exact λhC as h tk m Q E iv hq=>wpAny_AugAssign_Name (AC O.o e3 iv λov hov=>(b7 O _ _ _ e4).2 hC _ _ _ _ _ iv λv bs h1 k1 hv i1 U=>xl e5 hov.up hv λnv k2 hnv=>setN_ok O.o e6 i1 hnv (hq _)).1
theorem C4 (O:k.Okc c){s:aS}{q:Vm×List SO×List Prop}(he:F0 k c.w V Os s=PD q):na k.f c s V Os q:=
 orE he (λhz=>ak hz λr e0 hz=>ak hz λt e1 hz=>(H5 e0).elim λpos e9=>by
   rw[e9,one_is e1];exact orE hz (λhz=>ak hz λx e2 hz=>(nam_is e2).elim λp hp=>hp▸z6 O hz) (Dc O))
  λhz=>orE hz (λhz=>ak hz λe e0 hz=>ak hz λr e1 hz=>iteE hz λhk hz=>aZ hz λt e2 eq=>(td e0).elim λpos e9=>by
   rw[e9,cll_is e1,aX.mp hk,eq];exact C8 O e2) λhz=>ak hz λr e0 hz=>(H3 e0).elim λpos e9=>by
   rw[e9]
   exact orE hz (zZ O) λhz=>ak hz λx e2 hz=>aZ hz λt e4 eq=>(sub_is e2).elim λp hp=>by
    rw[hp,eq];exact zX (sp:=p) O e4
end
def cont (f:Fs)(c:Cx):List (List aS)->rx->ai->Prop
 | []=>c.R
 | b :: bs=>λfl s=>match fl with
  | .next=>wpAny (MP c.w) (c.A f) (execs b (c.env f)) (cont f c bs) c.E s
  | fl=>cont f c bs fl s
theorem fH {f:Fs}{c:Cx}{fl:rx}{s:ai}(hn:fl≠.next)(h:c.R fl s):∀ bs,cont f c bs fl s
 | []=>h
 | _ :: bs=>by
  cases fl with
  | next=>exact absurd rfl hn
  | brk=>exact fH hn h bs
  | cont=>exact fH hn h bs
  | ret v=>exact fH hn h bs
structure Run (k:Wk)(c:Cx)(V:Vm)(Os:List SO)(bs:List (List aS)):Prop where
 go:∀ {s:ai},k.Ok (c.at s)->∀ as h tk m,Inv k.f (c.at s) V m as Os h->cont k.f c bs .next (sh s h tk)
section
variable {k:Wk}{c:Cx}{V V':Vm}{Os Os':List SO}{b rest body orelse:List aS}{bs:List (List aS)}{C:List Prop}
theorem Run.at (h:Run k c V Os (b :: bs))(O:k.Ok (c.at s)){hp:aL}(i:Inv k.f (c.at s) V m as Os hp):wpAny (MP c.w) (c.A k.f) (execs b (c.env k.f)) (cont k.f c bs) c.E (sh s hp tk):=h.go O as hp tk m i
theorem Run.of (h:∀ {s:ai},k.Ok (c.at s)->∀ as hp tk m,Inv k.f (c.at s) V m as Os hp->wpAny (MP c.w) (c.A k.f) (execs b (c.env k.f)) (cont k.f c bs) c.E (sh s hp tk)):Run k c V Os (b :: bs):=⟨h⟩
theorem Run.one {s:aS}(he:∀ {s₁:ai},k.Ok (c.at s₁)->∀ as hp tk m,Inv k.f (c.at s₁) V m as Os hp->∀ (Q:rx->ai->Prop),(∀ as' h' tk' m',Inv k.f (c.at s₁) V' m' as' Os' h'->Q .next (sh s₁ h' tk'))->(∀ fl s',fl≠.next->cont k.f c bs fl s'->Q fl s')->wpAny (MP c.w) (c.A k.f) (exec s (c.env k.f)) Q c.E (sh s₁ hp tk))(h:Run k c V' Os' (rest :: bs)):Run k c V Os ((s :: rest) :: bs):=
 .of λO as hp tk m i=>bc (he O as hp tk m i _ (λas' h' tk' m' i'=>h.at O i') λfl s' hn hc=>by cases fl<;>first | exact absurd rfl hn | exact hc)
theorem Run.asg {s:aS}(he:F0 k c.w V Os s=PD (V',Os',C))(hC:Al C)(h:Run k c V' Os' (rest :: bs)):Run k c V Os ((s :: rest) :: bs):=
 .one (λO as hp tk m i Q hq U=>C4 O.toOkc he hC as hp tk m Q c.E i hq) h
def qX (k:Wk)(w:aB):Nat->Vm->List SO->List aS->St
 | 0,V,Os,_=>PD (V,Os,[])
 | n+1,V,Os,b=>b.head?.bind λs=>(F0 k w V Os s).bind λa=>(qX k w n a.1 a.2.1 b.tail).map λq=>(q.1,q.2.1,a.2.2++q.2.2)
theorem Run.blk (n:Nat)(V':Vm)(Os':List SO)(C:List Prop)(he:qX k c.w n V Os b=PD (V',Os',C))(hC:Al C)(h:Run k c V' Os' (b.drop n :: bs)):Run k c V Os (b :: bs):=by
 induction n generalizing V Os b C with
 | zero=>exact have e:=ac he; (congrArg (·.1) e:V=V').symm▸(congrArg (·.2.1) e:Os=Os').symm▸h
 | succ n ih=>
  cases b with
  | nil=>exact ak he λs e1 U=>nomatch e1
  | cons s' b=>exact ak he λs e1 he=>ak he λa e2 he=>aZ he λq e3 eq=>have hC:Al (a.2.2++q.2.2):=(congrArg (·.2.2) eq:C=a.2.2++q.2.2)▸hC; Run.asg (C:=a.2.2) (ac e1▸e2) hC.left (ih _ (e3.trans (congrArg PD (gz (congrArg (·.1) eq).symm (gz (congrArg (·.2.1) eq).symm rfl)))) hC.right h)
theorem Run.iteA (x:Bool)(Os':List SO)(C:List Prop)(he:Cg (evF k c.w V) Os t=PD (x,Os',C))(hC:Al C)(h1:x=PG->Run k c V (Os++Os') (body :: rest :: bs))(h2:x=PH->Run k c V (Os++Os') (orelse :: rest :: bs)):
  Run k c V Os ((.If t body orelse pos :: rest) :: bs):=by
 refine .of λO as h tk m i=>bc (rl (oR ⟨IOk.inv,O.o.h,O.o.u2⟩ (b7 O.toOkc) he hC _ _ _ _ _ i λcs h' k' hi U=>?_));cases x with
 | true=>exact aU ((h1 rfl).at O hi) (λfl s q=>by cases fl<;>exact q) λU U q=>q
 | false=>exact aU ((h2 rfl).at O hi) (λfl s q=>by cases fl<;>exact q) λU U q=>q
theorem Run.ite (x:Bool)(C:List Prop)(he:Cg (evF k c.w V) Os t=PD (x,[],C))(hC:Al C)(h1:x=PG->Run k c V Os (body :: rest :: bs))(h2:x=PH->Run k c V Os (orelse :: rest :: bs)):
  Run k c V Os ((.If t body orelse pos :: rest) :: bs):=Run.iteA x [] C he hC (λq=>by rw[ao]; exact h1 q) (λq=>by rw[ao]; exact h2 q)
theorem Run.nil (h:Run k c V Os (b :: bs)):Run k c V Os ([] :: b :: bs):=.of λO U U U U i=>gy (h.go O _ _ _ _ i)
theorem Run.fin (h:c.N V Os):Run k c V Os [[]]:=.of λO as hp tk m i=>gy (O.o.nxt _ _ _ _ _ _ _ O.o.g0 i h).1
theorem Run.ret {e:aw}{pos:Pos}(p:PV)(Os':List SO)(C:List Prop)(he:evF k c.w V Os e=PD (p,Os',C))(hC:Al C)(h:c.P p (Os++Os')):Run k c V Os ((.Return (PD e) pos :: rest) :: bs):=
 .of λO as hp tk m i=>bc (wpAny_Return_some ((b7 O.toOkc _ _ _ he).2 hC _ _ _ _ _ i λv cs h'' k' hv hi U=>fH (c:=c) (fl:=.ret v) (λq=>by cases q) (O.o.ret _ _ _ _ _ _ _ _ _ O.o.g0 hi hv h) bs))
theorem Run.brk {pos:Pos}(h:c.B V Os):Run k c V Os ((.Break pos :: rest) :: bs):=
 .of λO as hp tk m i=>bc (wpAny_Break (fH (c:=c) (fl:=.brk) (λq=>by cases q) (O.o.brk _ _ _ _ _ _ _ O.o.g0 i h) bs))
theorem r7 (he:mh k c.w V Os x e=PD (V',Os',C))(hC:Al C)(H:Run k c V' Os' (rest :: bs))(O:k.Ok (c.at s))(i:Inv k.f (c.at s) V m as Os h):
  wpAny (MP c.w) (c.A k.f) (eval e (c.env k.f)) (λv s₁=>wpAny (MP c.w) (c.A k.f) (storeName (c.env k.f) x v) (λU s'=>wpAny (MP c.w) (c.A k.f) (execs rest (c.env k.f)) (cont k.f c bs) c.E s') c.E s₁) c.E (sh s h tk):=by
 unfold mh at he;revert he;cases j8 e&&k.f.sc.names.lookup x == PD .local with
 | true=>exact λhe=>nomatch he
 | false=>exact λhe=>ak he λa e1 he=>aZ he λr e2 eq=>(b7 O.toOkc _ _ _ e1).2 ((congrArg (·.2.2) eq:C=a.2.2)▸hC) _ _ _ _ _ i λv bs' h1 k1 hv i1 U=>setN_ok O.o (e2.trans (congrArg PD (gz (congrArg (·.1) eq).symm (congrArg (·.2.1) eq).symm))) i1 hv λh' tk' m' i'=>H.at O i'
theorem Run.asgIf {px pi:Pos}{e1 e2:aw}(b:Bool)(C:List Prop)(he:Cg (evF k c.w V) Os t=PD (b,[],C))(hC:Al C)
  (h1:b=PG->∃ V' Os' C,mh k c.w V Os x e1=PD (V',Os',C)/\Al C/\Run k c V' Os' (rest :: bs))
  (h2:b=PH->∃ V' Os' C,mh k c.w V Os x e2=PD (V',Os',C)/\Al C/\Run k c V' Os' (rest :: bs)):
  Run k c V Os ((.Assign [.Name x px] (.IfExp t e1 e2 pi) pos :: rest) :: bs):=by
 refine .of λO as h tk m i=>bc (dH (IfExp_ (oR ⟨IOk.inv,O.o.h,O.o.u2⟩ (b7 O.toOkc) he hC _ _ _ _ _ i λcs h' k' hi U=>?_)) rfl);rw[ao] at hi;cases b with
 | true=>exact(h1 rfl).elim λV' z=>z.elim λOs' z=>z.elim λC z=>r7 z.1 z.2.1 z.2.2 O hi
 | false=>exact(h2 rfl).elim λV' z=>z.elim λOs' z=>z.elim λC z=>r7 z.1 z.2.1 z.2.2 O hi
def items (Os:List SO)(j:Nat):Option (List PV):=(Os[j]?).bind λx=>x.core.lst?.or x.core.tup?
theorem wP (l:Nat)(env:Env):swapsWithSole [.Tuple ts j p] e l env=pure PH:=by
 refine(?_:swapsWith e (PD (.Tuple ts j p)) l env=pure PH);cases e<;>rfl
theorem mr {f:Fs}(i:Inv f c V m as Os h){ps:List PV}(e:items Os j=PD ps)(hv:(PV.r j).is as v):∃ D vs,v=.ref D/\(h.IsList D vs.toArray\/MW h D vs.toArray)/\IsAll as ps vs:=by
 refine bU λG1 hG1=>?_;refine ak e λx e1 e=>?_;have lv:x.live:=by cases x<;>first | trivial | (rcases cH.mp e with e | ⟨_,e⟩<;>cases e)
 obtain⟨D,o,rfl,h1,h2⟩:=i.get e1 lv hv;refine hG1 ?_;rcases cH.mp e with e | ⟨_,e⟩
 ·rw[SO.lst_is e] at h2;refine bU λG2 hG2=>?_;obtain⟨vs,n,rfl,h3⟩:=h2;refine hG2 ?_;exact⟨D,vs,rfl,.inl ⟨_,h1,rfl,n,rfl⟩,h3⟩
 ·rw[SO.tup_is e] at h2;refine bU λG3 hG3=>?_;obtain⟨vs,rfl,h3⟩:=h2;refine hG3 ?_;exact⟨D,vs,rfl,.inr ⟨_,h1,rfl,_,rfl⟩,h3⟩
theorem qp {f:Fs}(O:c.Ok f){ps:List PV}(i:Inv f c V m as Os h)(hi:items Os j=PD ps)(hv:(PV.r j).is as v)(hx:iA ts=PD xs)(hs:oZ f V Os xs ps=PD (V',Os')){Q:Unit->ai->Prop}
  (hq:∀ h' tk' m',Inv f c V' m' as Os' h'->Q () (sh c.s₀ h' tk')):wpAny (MP c.w) (c.A f) (assign (.Tuple ts kk tp) (c.env f) v) Q E (sh c.s₀ h tk):=by
 refine bU λG1 hG1=>?_;obtain⟨D,vs,rfl,hl,hvs⟩:=mr i hi hv;obtain⟨N,NN,hN⟩:=gf c.h₀ h c.L;obtain⟨q1,q2⟩:=pY (env:=c.env f) hx;have hlen:=tR hs;have hn:(assignEach ts (c.env f)).length=vs.toArray.size:=by rw[q1,hlen,<- hvs.len,aK]
 have fin:∀ h'',Fr c.h₀ c.L h'' m->gY c.h₀ c.L h'' N->wpAny (MP c.w) (c.A f) (assignInOrder ((assignEach ts (c.env f)).map (·.2)) vs.toArray.toList) Q E (sh c.s₀ h'' tk):=λh'' F'' N''=>
  wV O hx hs hvs (i.keep F'' (lf hN i.F F'' N'')) hq
 refine hG1 ?_;rcases hl with hl | hl
 ·exact tq i.F NN hl hn q2 fin (O.h.at i)
 ·exact i8 i.F NN hl hn q2 fin (O.h.at i)
theorem Run.asgT (xs:List Str)(j:Nat)(ps:List PV)(Os₁:List SO)(C:List Prop)(V':Vm)(Os':List SO)(he:evF k c.w V Os e=PD (.r j,Os₁,C))(hC:Al C)(hi:items (Os++Os₁) j=PD ps)
  (hx:iA ts=PD xs) (hs:oZ k.f V (Os++Os₁) xs ps=PD (V',Os')) (hw:swappedStores [.Tuple ts kk tp] e (c.env k.f)=pure PF) (h:Run k c V' Os' (rest :: bs)):
  Run k c V Os ((.Assign [.Tuple ts kk tp] e pos :: rest) :: bs):=
 .one (λO as hp tk m i Q hq U=>Assign_Tuple ((b7 O.toOkc _ _ _ he).2 hC _ _ _ _ _ i λu cs h' k' hu hi' U=>qp O.o hi' hi hu hx hs λh3 tk3 m3 i3=>hq _ _ _ _ i3) (wP _ _) hw) h
end
noncomputable def PV.rn (σ:Nat->Option Nat):PV->Option PV | .i z=>PD (.i z) | .f x=>PD (.f x) | .s x=>PD (.s x) | .v w=>PD (.v w) | .r k=>(σ k).map .r
def tD (σ:Nat->Option Nat):List PV->Option (List PV)
 | []=>PD []
 | p :: r=>(p.rn σ).bind λq=>(tD σ r).map λs=>q :: s
def SO.rn (σ:Nat->Option Nat):SO->Option SO | .L xs=>(tD σ xs).map .L | .T xs=>(tD σ xs).map .T | .C p=>(match p with | none=>PD (.C PF) | some p=>(p.rn σ).map λq=>.C (PD q)) | .P q=>PD (.P q) | .Z _ _=>PF | .G _=>PF | .N=>PF
section
variable {σ:Nat->Option Nat}{as bs:List aj}
theorem PV.rn_is (H:∀ j i a,σ j=PD i->as[j]?=PD a->bs[i]?=PD a){p q:PV}(e:p.rn σ=PD q)(h:p.is as v):q.is bs v:=by
 cases p with
 | r k=>
  refine aZ e λi e1 eq9=>?_;subst eq9;obtain⟨a,ha,rfl⟩:=h;exact⟨a,H _ _ _ e1 ha,rfl⟩
 | _=>cases e; exact h
theorem Om (H:∀ j i a,σ j=PD i->as[j]?=PD a->bs[i]?=PD a){ps qs:List PV}(e:tD σ ps=PD qs)(h:IsAll as ps vs):IsAll bs qs vs:=
 h.ind (P:=λps vs=>∀ qs,tD σ ps=PD qs->IsAll bs qs vs) (λU e=>ac e▸rfl) (λh U ih qs e=>ak e λp' e1 e=>aZ e λr' e2 eq=>eq▸⟨_,_,rfl,PV.rn_is H e1 h,ih _ e2⟩) qs e
theorem SO.rn_is (H:∀ j i a,σ j=PD i->as[j]?=PD a->bs[i]?=PD a){x y:SO}(e:x.rn σ=PD y){o:Obj}(h:x.is as o):y.is bs o:=by
 cases x with
 | L xs=>obtain⟨t,e1,rfl⟩:=bh.mp e; obtain⟨vs,n,rfl,h⟩:=h; exact⟨vs,n,rfl,Om H e1 h⟩
 | T xs=>obtain⟨t,e1,rfl⟩:=bh.mp e; obtain⟨vs,rfl,h⟩:=h; exact⟨vs,rfl,Om H e1 h⟩
 | P q=>cases e; exact h
 | C p=>
  obtain⟨u,hu,h⟩:=h;cases p with
  | none=>cases e; exact⟨u,hu,h⟩
  | some p=>obtain⟨t,e1,rfl⟩:=bh.mp e; obtain⟨v,rfl,h⟩:=h; exact⟨_,hu,v,rfl,PV.rn_is H e1 h⟩
 | Z _ _=>cases e
 | G _=>cases e
 | N=>cases e
set_option tactic.hygienic true in
theorem SO.rn_own {x y:SO}(e:x.rn σ=PD y):x.own/\y.own:=by
 cases x<;>first
  | (cases e; done)
  | (rename_i p; cases p<;>first | (cases e; exact⟨PI,PI⟩) | (obtain⟨t,_,rfl⟩:=bh.mp e; exact⟨PI,PI⟩))
  | (cases e; exact⟨PI,PI⟩)
  | (obtain⟨t,_,rfl⟩:=bh.mp e; exact⟨PI,PI⟩)
end
structure Giv (as:List aj)(Os:List SO)(h:aL)(as₀:List aj)(Os₀:List SO):Prop where
 len:as₀.length=Os₀.length
 ob:∀ (i:Nat) (a:aj) (y:SO),as₀[i]?=PD a->Os₀[i]?=PD y->∃ o,h.get? a=PD o/\y.is as₀ o
 own:∀ (i:Nat) (a:aj) (y:SO),as₀[i]?=PD a->Os₀[i]?=PD y->∃ (j:Nat) (x:SO),as[j]?=PD a/\Os[j]?=PD x/\x.live/\(y.own->x.own)
 nd:∀ (i j:Nat) (a:aj) (y:SO),as₀[i]?=PD a->as₀[j]?=PD a->Os₀[i]?=PD y->y.own->i=j
structure After (h h':aL)(tb:Bool)(as₀:List aj)(Os₀ Os₁:List SO)(bs:List aj)(ys:List SO):Prop where
 kp:∀ b o,Apart as₀ Os₀ b->(tb=PG->b≠54/\b≠61)->h.get? b=PD o->h'.get? b=PD o
 nw:NewAll h h' (as₀++bs) bs ys
 mu:∀ (i:Nat) (a:aj) (y:SO),as₀[i]?=PD a->Os₀[i]?=PD y->y.own->∃ y' o,Os₁[i]?=PD y'/\y'.own/\h'.get? a=PD o/\y'.is (as₀++bs) o
 t1:tb=PG->TabNow h' 54 36 4 EH
 t2:tb=PG->TabNow h' 61 51 4 EG
def ConY (gs:ai->ai->Prop)(Z:Cx->List aj->aL->Prop)(w:aB)(a:aj)(k:Nat)(tb:Bool)(Os₀:List SO)(ps:List PV)(p:PV)(Os₁ ys:List SO):Prop:=
 ∀ (f:Fs) (c:Cx) (V:Vm) (m:Str->Option af) (as:List aj) (Os:List SO) (h:aL),c.w=w->k<=c.k->(tb=PG->c.tb=PG)->c.Ok f->Inv f c V m as Os h->∀ as₀,Giv as Os h as₀ Os₀->Z c as₀ h->∀ vs,IsAll as₀ ps vs->
 ∀ (E Q:af->ai->Prop) (tk:Nat),(∀ v bs h' tk' s',gs c.s₀ s'->p.is (as₀++bs) v->After h h' tb as₀ Os₀ Os₁ bs ys->Q v (sh s' h' tk'))->wpAny (MP c.w) (c.A f) (call (.ref a) vs) Q E (sh c.s₀ h tk)
abbrev ConZ:=ConY Eq
abbrev Con:=ConZ λ_ _ _=>True
noncomputable def ko:Nat->List aj->List (Nat×aj)
 | _,[]=>[]
 | n,a :: r=>(n,a) :: ko (n+1) r
theorem yL:∀ {n:Nat} {q:Nat×aj},q∈ko n as->n<=q.1/\as[q.1 - n]?=PD q.2:=by
 induction as with
 | nil=>exact λ{U U} h=>nomatch h
 | cons a r ih=>exact λ{n q} h=>(aQ.mp h).elim (λe=>e▸⟨aI _,by rw[b9]; rfl⟩) λh=>have z:=ih h
   ⟨n6 z.1,by rw[<- cO (Og z.1:1<=q.1 - n),Ox]; exact z.2⟩
theorem uG {q:Nat×aj}(h:q∈ko 0 as):as[q.1]?=PD q.2:=(yL h).2
theorem r3 (as:List aj):(ko 0 as).map (·.1)=bz as.length:=by
 have key:∀ (as:List aj) (n:Nat),(ko n as).map (·.1)=List.range' n as.length:=λas=>by
  induction as with
  | nil=>intro n; rfl
  | cons a r ih=>intro n; exact congrArg (n :: ·) (ih (n+1))
 rw[key,List.range_eq_range']
theorem v6:∀ {n j:Nat} {a:aj},as[j]?=PD a->(n+j,a)∈ko n as:=by
 induction as with
 | nil=>exact λ{U U U} e=>nomatch e
 | cons b r ih=>exact λ{n j a}=>j.casesOn (λe=>ac e▸.head _) λj e=>gj n j 1▸.tail _ (ih (n:=n+1) e)
theorem jl (e:as[j]?=PD a):(j,a)∈ko 0 as:=by have:=v6 (n:=0) e; rwa [cA] at this
noncomputable def Iv (j:Nat):List Nat->Option Nat
 | []=>PF
 | g :: r=>if g=j then PD 0 else(Iv j r).map fq
theorem pL (gs:List Nat):∀ {t:Nat},Iv j gs=PD t->gs[t]?=PD j:=by
 induction gs with
 | nil=>intro t e; cases e
 | cons g r ih=>
  intro t e;exact(NP (g=j)).elim (λh=>ac ((if_pos h:Iv j (g :: r)=_).symm.trans e)▸congrArg PD h) λh=>aZ ((if_neg h:Iv j (g :: r)=_).symm.trans e) λs e1 eq9=>eq9▸ih e1
def sigE (n₀:Nat)(gs:List Nat)(j:Nat):Option Nat:=if j<n₀ then PD j else(Iv j gs).map λt=>n₀+t
def vi (σ:Nat->Option Nat)(Os:List SO):List Nat->Option (List SO)
 | []=>PD []
 | j :: r=>((Os[j]?).bind λx=>x.rn σ).bind λy=>(vi σ Os r).map λs=>y :: s
noncomputable def dy:List Nat->Bool
 | []=>PG
 | j :: r=>(!(r.contains j))&&dy r
def retE (n₀ mu:Nat)(gs:List Nat)(p:PV)(Os:List SO):Option (PV×List SO×List SO):=
 if gs.all (λj=>decide (n₀<=j))&&dy gs then(p.rn (sigE n₀ gs)).bind λq=>(vi (sigE n₀ gs) Os (bz mu)).bind λo1=>(vi (sigE n₀ gs) Os gs).map λys=>(q,o1,ys) else PF
theorem zM {Os:List SO}:∀ {ys:List SO},vi σ Os gs=PD ys->ys.length=gs.length:=by
 induction gs with
 | nil=>exact λ{U} e=>ac e▸rfl
 | cons j r ih=>exact λ{U} e=>ak e λy U e=>aZ e λs e2 eq=>(congrArg lh eq).trans (congrArg fq (ih e2))
theorem wX {Os:List SO}:∀ {ys:List SO} {t j:Nat},vi σ Os gs=PD ys->gs[t]?=PD j->∃ x y,Os[j]?=PD x/\ys[t]?=PD y/\x.rn σ=PD y:=by
 induction gs with
 | nil=>exact λ{U U U} U e=>nomatch e
 | cons g r ih=>exact λ{ys t j} e=>ak e λy e1 e=>aZ e λs e2 eq=>ak e1 λx e3 e4=>eq▸t.casesOn (λet=>ac et▸⟨x,y,e3,rfl,e4⟩) λt=>ih e2
theorem rJ {l:List Nat}:dy l=PG->l.Nodup:=by
 induction l with
 | nil=>exact λU=>.nil
 | cons j r ih=>exact λh=>have h:=(aq _ _).mp h; ky.mpr ⟨λhm=>(nomatch (congrArg not (bM.mpr hm)).symm.trans h.1),ih h.2⟩
def tL (kd:Str->Option l7):Vm->Vm->Vm
 | [],V=>V
 | q :: r,V=>tL kd r (if kd q.1=PD .local then put V q.1 q.2 else V)
def oM (kd:Str->Option l7):Vm->Vm->Vm
 | [],V=>V
 | q :: r,V=>oM kd r (if kd q.1=PD .local then V else put V q.1 q.2)
def B9 (as:List aj):Vm->List (Str×af)->Prop
 | [],B=>B=[]
 | q :: V,B=>∃ v r,B=(q.1,v) :: r/\q.2.is as v/\B9 as V r
def Eu (as:List aj)(V:Vm)(m:Str->Option af):Prop:=∀ x,PV.isO as (V.lookup x) (m x)
theorem mV {a:α}{l:List (Str×α)}{o:Option α}(h:(x == y)=PH)(e:((y,a) :: l).lookup x=o):l.lookup x=o:=by rw[bv,h] at e; exact e
theorem mU {a:α}{l:List (Str×α)}(h:(x == y)=PG):((y,a) :: l).lookup x=PD a:=by rw[bv,h]
theorem ui {V:Vm}{p:PV}(h:∃ v,m x=PD v/\p.is as v)(M:Mem as V m):Mem as ((x,p) :: V) m:=λy q e=>
 nM (motive:=λb=>(y == x)=b->∃ v,m y=PD v/\q.is as v) (y == x) (λhy=>M y q (mV hy e)) (λhy=>ac ((mU hy).symm.trans e)▸eq_of_beq hy▸h) rfl
theorem Ap {Va:Vm}:∀ {B:List (Str×af)} {V:Vm} {m:Str->Option af},B9 as Va B->Mem as V m->Mem as (tL kd Va V) (bindL kd B m):=by
 induction Va with
 | nil=>exact λ{U U U} h M=>h▸M
 | cons q Va ih=>
  intro B V m h M;refine h.elim λv z=>z.elim λr z=>?_;rw[z.1];refine(?_:Mem as (tL kd Va _) (bindL kd r _));refine ih z.2.2 ?_
  by_cases hk:kd q.1=PD .local
  ·rw[if_pos hk,if_pos hk]; exact sO M z.2.1
  ·rw[if_neg hk,if_neg hk]; exact M
theorem Ar {V:Vm}(M:Eu as V m){p:PV}(hp:p.is as v):Eu as (put V x p) (λy=>if y=x then PD v else m y):=by
 intro y;refine(?_:PV.isO as ((put V x p).lookup y) (if y=x then PD v else m y));rw[uj]
 by_cases h:y=x
 ·rw[if_pos h,if_pos h]; exact⟨v,rfl,hp⟩
 ·rw[if_neg h,if_neg h]; exact M y
theorem yy {Va:Vm}:∀ {B:List (Str×af)} {V:Vm} {m:Str->Option af},B9 as Va B->Eu as V m->Eu as (oM kd Va V) (bindC kd B m):=by
 induction Va with
 | nil=>exact λ{U U U} h M=>h▸M
 | cons q Va ih=>
  intro B V m h M;refine h.elim λv z=>z.elim λr z=>?_;rw[z.1];refine(?_:Eu as (oM kd Va _) (bindC kd r _));refine ih z.2.2 ?_
  by_cases hk:kd q.1=PD .local
  ·rw[if_pos hk,if_pos hk]; exact M
  ·rw[if_neg hk,if_neg hk]; exact Ar M z.2.1
noncomputable def ug:Nat->List Str->List (Str×Nat)
 | _,[]=>[]
 | n,x :: r=>(x,n) :: ug (n+1) r
theorem xw {i:Nat}:∀ {as₀:List aj},(ug as₀.length (cl.map (·.1))).lookup x=PD i->∃ a,cl.lookup x=PD a/\(as₀++cl.map (·.2))[i]?=PD a:=by
 induction cl with
 | nil=>exact λ{U} h=>nomatch h
 | cons q cl ih=>exact λ{as₀}=>nM (motive:=λb=>(x == q.1)=b->(ug as₀.length ((q :: cl).map (·.1))).lookup x=PD i->∃ a,(q :: cl).lookup x=PD a/\(as₀++(q :: cl).map (·.2))[i]?=PD a) (x == q.1) (λhx h=>(ih (as₀:=as₀++[q.2]) (by rw[aJ]; exact mV hx h)).imp λa z=>⟨by rw[bv,hx]; exact z.1,by rw[ft,oJ]; exact z.2⟩) (λhx h=>⟨q.2,by rw[bv,hx],by rw[<- ac ((mU hx).symm.trans h),aM (aI _),b9]; rfl⟩) rfl
theorem kq:∀ (l:List (Str×l7)) (n:Nat) (acc:List (Str×aj)),(∀ q∈acc,q.2<n)->(acc.map (·.2)).Nodup->((cellsFrom n l acc).map (·.2)).Nodup
 | [],_,_,_,h=>h
 | (x,k) :: r,n,acc,h,hn=>by
  unfold cellsFrom
  by_cases hk:(k == .cell)=PG
  ·rw[if_pos hk];refine kq r (n+1) _ (λq hq=>?_) ?_
   ·rcases aQ.mp hq with rfl | hq
    ·exact cC _
    ·exact bF (h q hq)
   ·rw[ft];refine ky.mpr ⟨λhm=>?_,hn⟩;obtain⟨q,hq,e⟩:=d7.mp hm;have:=h q hq;rw[e] at this; exact bY _ this
  ·rw[if_neg hk]; exact kq r n acc h hn
theorem uN (H:wG cm cl cells):∀ (j:Nat) (x:Str) (a:aj),cl[j]?=PD (x,a)->∃ o,(a,o)∈cells/\o.data=.cell (cm x):=by
 induction H with
 | nil=>exact λj x a e=>nomatch List.getElem?_nil.symm.trans e
 | cons h r ih=>
  intro j x a e;cases j with
  | zero=>exact have z:=Prod.mk.inj (ac e); ⟨_,z.2▸.head _,z.1▸h⟩
  | succ j=>exact(ih j x a e).elim λo z=>⟨o,.tail _ z.1,z.2⟩
noncomputable def rg (Vc:Vm)(ns:List Str):List SO:=ns.map λx=>.C (Vc.lookup x)
noncomputable abbrev um (sc:dC)(x:Str):Option l7:=sc.names.lookup x
noncomputable def hidL (tb:Bool):List aj->List SO->List aj
 | a :: as,y :: ys=>(y.casesOn (λU=>[a]) (λU=>[a]) (λU=>[a]) (λU=>[a]) (λU U=>[a]) (λU=>[]) [])++hidL tb as ys
 | _,_=>bif tb then[54,61] else[]
theorem Dz {b:aj}{y:SO}:b∈(y.casesOn (λU=>[a]) (λU=>[a]) (λU=>[a]) (λU=>[a]) (λU U=>[a]) (λU=>[]) []:List aj)↔y.own/\a=b:=
 have t:b∈[a]↔True/\a=b:=ay.trans (Iff.intro (λe=>⟨PI,e.symm⟩) λe=>e.2.symm);have n:b∈([]:List aj)↔False/\a=b:=Iff.intro (λq=>nomatch q) λq=>q.1.elim
 y.casesOn (λU=>t) (λU=>t) (λU=>t) (λU=>t) (λU U=>t) (λU=>n) n
theorem Apart.cons {b:aj}{y:SO}{ys:List SO}:Apart (a :: as) (y :: ys) b↔(y.own->a≠b)/\Apart as ys b:=
 ⟨λA=>⟨λhw q=>A 0 y (congrArg PD q) rfl hw,λk x e1 e2 hw=>A (k+1) x e1 e2 hw⟩,λz k=>k.casesOn (λx e1 e2 hw=>z.1 (ac e2▸hw) (ac e1)) λk=>z.2 k⟩
theorem fB {b:aj}:∀ {Os:List SO},as.length=Os.length->(b∈hidL tb as Os↔(¬ Apart as Os b)\/(tb=PG/\(b=54\/b=61))):=by
 induction as with
 | nil=>exact λ{Os}=>Os.casesOn (λU=>
   have ap:Apart [] [] b:=λk x e=>nomatch e
   tb.casesOn ⟨λh=>(nomatch h),λh=>h.elim (λq=>absurd ap q) λq=>nomatch q.1⟩
    ⟨λh=>.inr ⟨rfl,(aQ.mp h).imp id ay.mp⟩,λh=>h.elim (λq=>absurd ap q) λq=>aQ.mpr (q.2.imp id ay.mpr)⟩) λU U h=>nomatch h
 | cons a as ih=>exact λ{Os}=>Os.casesOn (λh=>nomatch h) λy ys h=>bf.trans ((or_congr Dz (ih (se h))).trans (or_assoc.symm.trans (or_congr (Iff.symm ((not_congr Apart.cons).trans
   ⟨λz=>(cJ (y.own/\a=b)).imp id λq w=>z ⟨λhw e=>q ⟨hw,e⟩,w⟩,λz w=>z.elim (λq=>w.1 q.1 q.2) λn=>n w.2⟩)) .rfl)))
theorem Ad (l:List α):(∀ (i j:Nat) (a:α),l[i]?=PD a->l[j]?=PD a->i=j)->l.Nodup:=by
 induction l with
 | nil=>exact λU=>.nil
 | cons x r ih=>exact λh=>ky.mpr ⟨λhm=>(List.getElem?_of_mem hm).elim λk e=>(nomatch h 0 (k+1) x rfl e),ih λi j a e1 e2=>se (h (i+1) (j+1) a e1 e2)⟩
section
variable {f:Fs}{c:Cx}{V:Vm}{m:Str->Option af}{as:List aj}{Os:List SO}{h h':aL}{tb:Bool}{as₀:List aj}{Os₀ Os₁ ys:List SO}{p p':PV}{mu:Nat}{gs:List Nat}
theorem FM {i':Nat}(e:sigE n gs j=PD i'):(j<n/\j=i')\/∃ t,gs[t]?=PD j/\i'=n+t:=
 (cJ (j<n)).elim (λh=>.inl ⟨h,ac ((if_pos h).symm.trans e)⟩) λh=>aZ ((if_neg h).symm.trans e) λt e eq=>.inr ⟨t,pL _ e,eq⟩
structure Rt (n mu:Nat)(gs:List Nat)(p' p:PV)(Os Os₁ ys:List SO):Prop where
 ge:∀ t j:Nat,gs[t]?=PD j->n<=j
 nd:gs.Nodup
 v:p'.rn (sigE n gs)=PD p
 o:vi (sigE n gs) Os (bz mu)=PD Os₁
 y:vi (sigE n gs) Os gs=PD ys
theorem CW (e:retE n mu gs p' Os=PD (p,Os₁,ys)):Rt n mu gs p' p Os Os₁ ys:=
 iteE e λhc e=>ak e λq e1 e=>ak e λo1 e2 e=>aZ e λy1 e3 eq=>have hc:=(aq _ _).mp hc
  ⟨λt j e=>of_decide_eq_true (aR.mp hc.1 j (dr e)),rJ hc.2,e1.trans (congrArg (λz=>PD z.1) eq).symm,e2.trans (congrArg (λz=>PD z.2.1) eq).symm,e3.trans (congrArg (λz=>PD z.2.2) eq).symm⟩
section
variable (i:Inv f c V m as Os h')(pf:∀ (j:Nat) (a:aj),as₀[j]?=PD a->as[j]?=PD a)(hlen:as₀.length=Os₀.length)(R:Rt Os₀.length mu gs p' p Os Os₁ ys)(hmu:∀ (j:Nat) (y:SO),Os₀[j]?=PD y->y.own->j<mu)
theorem Rt.at {t j:Nat}(R:Rt n mu gs p' p Os Os₁ ys)(i:Inv f c V m as Os h')(e:gs[t]?=PD j):∃ a x y,as[j]?=PD a/\Os[j]?=PD x/\ys[t]?=PD y/\x.rn (sigE n gs)=PD y:=
 (wX R.y e).elim λx z=>z.elim λy z=>⟨_,x,y,aF (i.len▸lt_of_get z.1),z⟩
theorem Rt.bs {t:Nat}(R:Rt n mu gs p' p Os Os₁ ys)(i:Inv f c V m as Os h')(e:(gs.map λj=>(as[j]?).getD 0)[t]?=PD D):∃ j x y,gs[t]?=PD j/\as[j]?=PD D/\Os[j]?=PD x/\ys[t]?=PD y/\x.rn (sigE n gs)=PD y:=
 aZ (aG.symm.trans e) λj e1 eq=>(R.at i e1).elim λa z=>z.elim λx z=>z.elim λy z=>⟨j,x,y,e1,(eq.trans (congrArg (·.getD 0) z.1))▸z.1,z.2⟩
theorem Rt.sig (R:Rt Os₀.length mu gs p' p Os Os₁ ys)(pf:∀ (j:Nat) (a:aj),as₀[j]?=PD a->as[j]?=PD a)(hlen:as₀.length=Os₀.length)(j i' a:Nat)(es:sigE Os₀.length gs j=PD i')(ea:as[j]?=PD a):(as₀++gs.map λj=>(as[j]?).getD 0)[i']?=PD a:=
 (FM es).elim (λz=>z.2▸have h1:=aF (l:=as₀) (hlen▸z.1); f4 (h1.trans ((pf _ _ h1).symm.trans ea))) λz=>z.elim λt z=>by
  rw[z.2,<- hlen,aM (a8 _ _),eH,aG,z.1]; exact congrArg PD (congrArg (·.getD 0) ea)
theorem Rt.own (R:Rt Os₀.length mu gs p' p Os Os₁ ys)(hmu:∀ (j:Nat) (y:SO),Os₀[j]?=PD y->y.own->j<mu){j:Nat}{y:SO}(ey:Os₀[j]?=PD y)(hw:y.own):∃ x y',Os[j]?=PD x/\Os₁[j]?=PD y'/\x.rn (sigE Os₀.length gs)=PD y':=
 wX R.o (lS (hmu j y ey hw))
end
theorem B6 (i:Inv f c V m as Os h')(pf:∀ (j:Nat) (a:aj),as₀[j]?=PD a->as[j]?=PD a)(htb:c.tb=tb)(hlen:as₀.length=Os₀.length)(gk:∀ b o,b∉hidL tb as₀ Os₀->h.get? b=PD o->c.h₀.get? b=PD o)(hmu:∀ (j:Nat) (y:SO),Os₀[j]?=PD y->y.own->j<mu)
  (e:retE Os₀.length mu gs p' Os=PD (p,Os₁,ys))  (hv:p'.is as v):∃ bs,p.is (as₀++bs) v/\After h h' tb as₀ Os₀ Os₁ bs ys:=
 have R:=CW e;have H:=R.sig pf hlen;have tab:∀ {P:aj} {line col:Nat} {q:Str},TabAt c.L c.h₀ as Os h' P line col q->TabNow h' P line col q:=λT=>T.elim λo z=>⟨o,z.1,z.2.2.2.2⟩
 have hid:∀ {t j:Nat} {D:aj} {x y:SO},gs[t]?=PD j->as[j]?=PD D->Os[j]?=PD x->x.own->D∉hidL tb as₀ Os₀:=λg1 g2 g3 w hb=>((fB hlen).mp hb).elim
  (λz=>z λk0 y0 e1 e2 hw=>(R.own hmu e2 hw).elim λx0 u=>u.elim λy1 u=>bY _ (eX (i.nd _ _ _ _ _ (pf _ _ e1) g2 u.1 g3 (SO.rn_own u.2.2).1 w▸lt_of_get e2) (R.ge _ _ g1)))
  λz=>z.2.elim (λq=>(i.t1 (htb▸z.1)).elim λo u=>u.2.2.2.1 _ _ (q▸g2) g3 w) λq=>(i.t2 (htb▸z.1)).elim λo u=>u.2.2.2.1 _ _ (q▸g2) g3 w
 ⟨gs.map λj=>(as[j]?).getD 0,PV.rn_is H R.v hv,λb o A ht eb=>i.F.keep _ _ (gk b o (λhb=>((fB hlen).mp hb).elim (λz=>z A) λz=>z.2.elim (ht z.1).1 (ht z.1).2) eb),
  ⟨(aA ..).trans (zM R.y).symm,Ad _ λt t' D h1 h2=>(R.bs i h1).elim λj z=>z.elim λx z=>z.elim λy z=>(R.bs i h2).elim λj' z'=>z'.elim λx' z'=>z'.elim λy' z'=>
    (gG (lt_of_get z.1) R.nd).mp (z.1.trans (i.nd _ _ _ _ _ z.2.1 z'.2.1 z.2.2.1 z'.2.2.1 (SO.rn_own z.2.2.2.2).1 (SO.rn_own z'.2.2.2.2).1▸z'.1.symm)),
   λt D y ed ey=>(R.bs i ed).elim λj z=>z.elim λx z=>z.elim λy' z=>have w:=SO.rn_own z.2.2.2.2
    (i.ob _ _ _ z.2.1 z.2.2.1 w.1.live).elim λo k=>ac (z.2.2.2.1.symm.trans ey)▸⟨cU.mpr λo2 eh=>(nomatch (gk _ _ (hid (y:=y) z.1 z.2.1 z.2.2.1 w.1) eh).symm.trans (k.2.2.1 w.1).2),⟨o,k.2.1,SO.rn_is H z.2.2.2.2 k.1⟩,w.2⟩⟩,
  λj a y ea ey hw=>(R.own hmu ey hw).elim λx z=>z.elim λy' z=>have w:=SO.rn_own z.2.2
   (i.ob _ _ _ (pf _ _ ea) z.1 w.1.live).elim λo k=>⟨y',o,z.2.1,w.2,k.2.1,SO.rn_is H z.2.2 k.1⟩,
  λht=>tab (i.t1 (htb▸ht)),λht=>tab (i.t2 (htb▸ht))⟩
end
theorem HdC.sub {f:Fs}{c:Cx}{V:Vm}{Os:List SO}(H:HdC c)(i:Inv f c V m as Os h){Os₀:List SO}(gv:Giv as Os h as₀ Os₀)(htb:tb=PG->c.tb=PG){c':Cx}(gk:∀ b o,b∉hidL tb as₀ Os₀->h.get? b=PD o->c'.h₀.get? b=PD o)(hv:c'.hv=c.hv):HdC c':=λv e=>by
 refine bU λG1 hG1=>?_;obtain⟨a,o,vs,h1,h2,h3⟩:=H v (hv▸e);refine hG1 ?_;refine⟨a,o,vs,h1,.inl (gk a o (λhb=>?_) (i.stay a o h2)),h3⟩;rcases(fB gv.len).mp hb with z | ⟨ht,z⟩
 ·refine z λj y e1 e2 hw=>?_;refine bU λG2 hG2=>?_;obtain⟨j',x',e3,e4,_,hx⟩:=gv.own j a y e1 e2;refine hG2 ?_;rcases h2 with h2 | h2
  ·refine bU λG3 hG3=>?_;obtain⟨_,_,_,h5,_⟩:=i.ob _ _ _ e3 e4 (hx hw).live;refine hG3 ?_;rw[(h5 (hx hw)).2] at h2; cases h2
  ·exact(i.pn _ h2).2.2.1 j' x' e3 e4 (hx hw)
 ·rcases h2 with h2 | h2
  ·refine bU λG4 hG4=>?_;obtain⟨_,_,_,g1,_⟩:=i.t1 (htb ht);obtain⟨_,_,_,g2,_⟩:=i.t2 (htb ht);refine hG4 ?_;rcases z with z | z<;>subst z
   ·rw[g1] at h2; cases h2
   ·rw[g2] at h2; cases h2
  ·exact z.elim ((i.pn _ h2).2.2.2 (htb ht)).1 ((i.pn _ h2).2.2.2 (htb ht)).2
theorem BP {N:Nat}(l:List (Str×l7)):∀ (n:Nat) (acc:List (Str×aj)),N<=n->(∀ q∈acc,@MU Nat _ N q.2)->∀ q∈cellsFrom n l acc,@MU Nat _ N q.2:=by
 induction l with
 | nil=>exact λU U U h=>h
 | cons y r ih=>
  intro n acc hn h;unfold cellsFrom
  by_cases hk:(y.2 == .cell)=PG
  ·rw[if_pos hk]; exact ih (n+1) _ (cq hn) (am.mpr ⟨hn,h⟩)
  ·rw[if_neg hk]; exact ih n acc hn h
theorem mE (H:wG cm cl cells):∀ q∈cells,∃ n,(n,q.1)∈cl:=by
 induction H with
 | nil=>exact λq h=>nomatch h
 | cons h r ih=>exact λq hq=>(aQ.mp hq).elim (λe=>e.symm▸⟨_,.head _⟩) λh=>(ih q h).elim λn hn=>⟨n,.tail _ hn⟩
theorem ye (h:o=tabObj #[]\/∃ a,o=tabObj (tabOne line col a)):¬ IsRec o:=by
 rintro ⟨vs,s,t,e,g⟩;rcases h with rfl | ⟨a,rfl⟩
 ·cases e; cases g
 ·cases e; simp[tabOne,rawInt] at g
section
variable {f:Fs}{c c':Cx}{V:Vm}{m m₁:Str->Option af}{as as':List aj}{Os Os':List SO}{h h₁:aL}{tb:Bool}{as₀ bs:List aj}{Os₀:List SO}{b P:aj}{o:Obj}{line col j:Nat}{q:Str}
theorem Inv.fresh (i:Inv f c V m as Os h)(e:h.get? a=PF):a≠c.L/\Apart as Os a/\(c.tb=PG->a≠54/\a≠61):=
 have no:∀ {b o},h.get? b=PD o->a≠b:=λg q=>nomatch (q▸e).symm.trans g
 ⟨i.F.ns.elim λo z=>z.elim λU z=>z.elim λU z=>no z.1,λj x e1 e2 hw=>(i.ob _ _ _ e1 e2 hw.live).elim λU z=>no z.2.1 rfl,λht=>⟨(i.t1 ht).elim λU z=>no z.1,(i.t2 ht).elim λU z=>no z.1⟩⟩
theorem TabAt.noRec (T:TabAt L h₀ as Os h P line col q)(e:h.get? P=PD o):¬ IsRec o:=
 T.elim λo2 z=>(ac (z.1.symm.trans e)▸ye (z.2.2.2.2.imp id λw=>w.imp λU w=>w.1))
theorem Inv.recA (i:Inv f c V m as Os h)(e:h.get? b=PD o)(r:IsRec o):b≠c.L/\Apart as Os b/\(c.tb=PG->b≠54/\b≠61):=
 ⟨(i.isRec _ _ e r).1,(i.isRec _ _ e r).2,λht=>⟨λq=>(i.t1 ht).noRec (q▸e) r,λq=>(i.t2 ht).noRec (q▸e) r⟩⟩
theorem TabAt.notGiven (T:TabAt c.L c.h₀ as Os h P line col q)(i:Inv f c V m as Os h){x:SO}(e1:as[j]?=PD P)(e2:Os[j]?=PD x)(lv:x.live):False:=
 T.elim λo2 z=>(cJ x.own).elim (z.2.2.2.1 j x e1 e2) λhw=>(i.ob _ _ _ e1 e2 lv).elim λU u=>nomatch z.2.2.1.symm.trans (u.2.2.2 hw)
theorem GR (i:Inv f c V m as Os h)(gv:Giv as Os h as₀ Os₀)(htb:tb=PG->c.tb=PG)(hb:b∈hidL tb as₀ Os₀):∃ o,h.get? b=PD o/\b≠c.L/\c.h₀.get? b=PF:=
 ((fB gv.len).mp hb).elim (λz=>Classical.byContradiction λn=>z λj y e1 e2 hw=>(gv.own j b y e1 e2).elim λj' t=>t.elim λx t=>(i.ob _ _ _ t.1 t.2.1 t.2.2.1).elim λo u=>n ⟨o,u.2.1,u.2.2.1 (t.2.2.2 hw)⟩)
  λz=>z.2.elim (λe=>by rw[e]; exact(i.t1 (htb z.1)).imp λo u=>⟨u.1,u.2.1,u.2.2.1⟩) λe=>by rw[e]; exact(i.t2 (htb z.1)).imp λo u=>⟨u.1,u.2.1,u.2.2.1⟩
theorem xD (i:Inv f c V m as Os h)(gv:Giv as Os h as₀ Os₀)(htb:tb=PG->c.tb=PG)(e:h.get? b=PD o)(r:IsRec o):b∉hidL tb as₀ Os₀:=λhb=>
 ((fB gv.len).mp hb).elim (λz=>z λj y e1 e2 hw=>(gv.own j b y e1 e2).elim λj' t=>t.elim λx t=>(i.isRec _ _ e r).2 j' x t.1 t.2.1 (t.2.2.2 hw)) λz=>z.2.elim (λq=>(i.t1 (htb z.1)).noRec (q▸e) r) λq=>(i.t2 (htb z.1)).noRec (q▸e) r
def hidN (tb:Bool)(as₀:List aj)(Os₀:List SO)(h:aL):List (aj×Obj):=(hidL tb as₀ Os₀).map λb=>(b,(h.get? b).getD default)
theorem ur:(hidN tb as₀ Os₀ h).map (·.1)=hidL tb as₀ Os₀:=(c8 ..).trans (eM _)
theorem pM (hb:b∈hidL tb as₀ Os₀)(e:h.get? b=PD o):(b,o)∈hidN tb as₀ Os₀ h:=d7.mpr ⟨b,hb,by rw[e]; rfl⟩
theorem rP (i:Inv f c V m as Os h)(gv:Giv as Os h as₀ Os₀)(htb:tb=PG->c.tb=PG):gY c.h₀ c.L h (hidN tb as₀ Os₀ h):=λq hq=>(d7.mp hq).elim λb z=>(GR i gv htb z.1).elim λo u=>z.2▸⟨u.1.trans (by rw[u.1]; rfl),u.2⟩
theorem rN (i:Inv f c V m as Os h)(gv:Giv as Os h as₀ Os₀)(htb:tb=PG->c.tb=PG)(F':Fr c'.h₀ c'.L h₁ m₁)(gk:∀ b o,b∉hidL tb as₀ Os₀->h.get? b=PD o->c'.h₀.get? b=PD o)(N':∀ b o,b∈hidL tb as₀ Os₀->h.get? b=PD o->h₁.get? b=PD o/\b≠c'.L/\c'.h₀.get? b=PF){x:SO}(g1:as₀[j]?=PD b)(g2:Os₀[j]?=PD x):OAt c' as₀ h₁ b x:=λU=>
 (gv.ob j b x g1 g2).elim λo z=>(cJ x.own).elim (λhw=>have n:=N' b o ((fB gv.len).mpr (.inl λA=>A j x g1 g2 hw)) z.1; ⟨o,z.2,n.1,λU=>n.2,λq=>absurd hw q⟩)
  λhw=>have k:=gk b o (λhb=>((fB gv.len).mp hb).elim (λz'=>z' λj' y e1 e2 hy=>hw (ac ((gv.nd j' j b y e1 g1 e2 hy▸e2:Os₀[j]?=PD y).symm.trans g2)▸hy)) λz=>(gv.own j b x g1 g2).elim λj' t=>t.elim λx' t=>z.2.elim (λq=>(i.t1 (htb z.1)).notGiven i (q▸t.1) t.2.1 t.2.2.1) λq=>(i.t2 (htb z.1)).notGiven i (q▸t.1) t.2.1 t.2.2.1) z.1
   ⟨o,z.2,F'.keep _ _ k,λq=>absurd q hw,λU=>k⟩
theorem xC (i:Inv f c V m as Os h)(gv:Giv as Os h as₀ Os₀)(htb:tb=PG->c.tb=PG)(F':Fr c'.h₀ c'.L h₁ m₁)(gk:∀ b o,b∉hidL tb as₀ Os₀->h.get? b=PD o->c'.h₀.get? b=PD o)(N':∀ b o,b∈hidL tb as₀ Os₀->h.get? b=PD o->h₁.get? b=PD o/\b≠c'.L/\c'.h₀.get? b=PF)(T:TabAt c.L c.h₀ as Os h P line col q)(hP:P∈hidL tb as₀ Os₀)(hap:Apart as' Os' P):TabAt c'.L c'.h₀ as' Os' h₁ P line col q:=
 T.elim λo z=>have n:=N' P o hP z.1; ⟨o,n.1,n.2.1,n.2.2,hap,z.2.2.2.2.imp id λw=>w.imp λr w=>⟨w.1,w.2.imp λr' u=>u.imp λro u=>u.imp λvs u=>u.imp λt u=>⟨u.1,F'.keep _ _ (gk _ _ (xD i gv htb u.2.1 ⟨vs,_,t,u.2.2⟩) u.2.1),u.2.2⟩⟩⟩
end
section
variable {f:Fs}{c c':Cx}{V:Vm}{m:Str->Option af}{as:List aj}{Os:List SO}{h h₁:aL}{tb:Bool}{as₀:List aj}{Os₀:List SO}{b:aj}{j:Nat}{cl:List (Str×aj)}{cells:List (aj×Obj)}
theorem jm {W:Vm}{x:SO}(hl:as₀.length=Os₀.length)(e1:(as₀++cl.map (·.2))[j]?=PD b)(e2:(Os₀++rg W (cl.map (·.1)))[j]?=PD x):(as₀[j]?=PD b/\Os₀[j]?=PD x)\/(as₀.length<=j/\∃ n,cl[j - as₀.length]?=PD (n,b)/\x=.C (W.lookup n)):=
 (jI e1).elim (λz1=>(jI e2).elim (λz2=>.inl ⟨z1.2,z2.2⟩) λz2=>absurd z1.1 (cP.mpr (hl▸z2.1))) λz1=>(jI e2).elim (λz2=>absurd (hl▸z2.1) (cP.mpr z1.1)) λz2=>
  .inr ⟨z1.1,aZ (aG.symm.trans z1.2) λq q1 q2=>⟨q.1,by rw[q1,q2],by have e:=z2.2; unfold rg at e; rw[c8,aG,<- hl,q1] at e; exact(ac e).symm⟩⟩
theorem zz {Va:Vm}(i:Inv f c V m as Os h)(gv:Giv as Os h as₀ Os₀)(htb:tb=PG->c.tb=PG)(F':Fr c'.h₀ c'.L h₁ (bindL (um sc) binds λU=>PF))(N':gY c'.h₀ c'.L h₁ (cells++hidN tb as₀ Os₀ h))(gk:∀ b o,b∉hidL tb as₀ Os₀->h.get? b=PD o->c'.h₀.get? b=PD o)(Y:wG (bindC (um sc) binds λU=>PF) cl cells)(hlt:∀ p∈hidN tb as₀ Os₀ h,p.1<c'.L)(hIB:B9 as₀ Va binds)
  (hcl:c'.cl=cl) (hns:(cellsFrom 0 sc.names []).map (·.1)=cl.map (·.1)) (hnd:(cl.map (·.2)).Nodup) (hge:∀ q∈cl,@k9 Nat _ c'.L q.2) (ht:c'.tb=tb) (hpre:c'.pre=ko 0 as₀) (hpn:c'.pn=[]):
  Inv ⟨sc,ug Os₀.length ((cellsFrom 0 sc.names []).map (·.1))⟩ c' (tL (um sc) Va []) (bindL (um sc) binds λU=>PF) (as₀++cl.map (·.2)) (Os₀++rg (oM (um sc) Va []) ((cellsFrom 0 sc.names []).map (·.1))) h₁:=by
 have N2:∀ b o,b∈hidL tb as₀ Os₀->h.get? b=PD o->h₁.get? b=PD o/\b≠c'.L/\c'.h₀.get? b=PF:=λb o hb e=>N' (b,o) (aN _ (pM hb e));have ME:=yy (kd:=um sc) hIB (V:=[]) (m:=λU=>PF) (λx=>rfl);have cellO:∀ {j:Nat} {b:aj} {n:Str},cl[j]?=PD (n,b)->∃ o,(b,o)∈cells/\(SO.C ((oM (um sc) Va []).lookup n)).is as₀ o:=λ{j b n} e=>(uN Y _ _ _ e).imp λo z=>⟨z.1,_,z.2,ME n⟩;have fr:∀ q∈cells,h.get? q.1=PF:=λq hq=>cU.mpr λo e=>(cJ (q.1∈hidL tb as₀ Os₀)).elim (λhb=>(mE Y q hq).elim λn hn=>bY _ (iP (hlt (q.1,o) (pM hb e)) (hge _ hn))) λhb=>nomatch (gk _ _ hb e).symm.trans (N' q (bP _ hq)).2.2;rw[hns];have ap:∀ {P line col:Nat} {s:Str},TabAt c.L c.h₀ as Os h P line col s->Apart (as₀++cl.map (·.2)) (Os₀++rg (oM (um sc) Va []) (cl.map (·.1))) P:=λT j x e1 e2 hw=>(jm gv.len e1 e2).elim (λg=>(gv.own j _ x g.1 g.2).elim λj' t=>t.elim λx' t=>T.notGiven i t.1 t.2.1 t.2.2.1) λg=>g.2.elim λn g=>(cellO g.1).elim λoc z=>T.elim λo t=>nomatch t.1.symm.trans (fr _ z.1);have no:∀ {j:Nat} {b:aj} {x:SO} {j':Nat} {n:Str},as₀[j]?=PD b->Os₀[j]?=PD x->¬ cl[j']?=PD (n,b):=λg1 g2 g3=>(gv.ob _ _ _ g1 g2).elim λo u=>(cellO g3).elim λoc z=>nomatch u.1.symm.trans (fr _ z.1);have at2:∀ {j:Nat} {n:Str} {b:aj},cl[j]?=PD (n,b)->(cl.map (·.2))[j]?=PD b:=λe=>by rw[aG,e]; rfl
 exact⟨F',(Ap (V:=[]) (m:=λU=>PF) hIB (λU U e=>nomatch e)).up,λx j e=>by rw[hcl]; exact xw (by rw[gv.len]; exact e),by unfold rg; rw[aJ,aJ,aA,aA,aA,gv.len],
  λj b x e1 e2=>(jm gv.len e1 e2).elim (λg=>(rN i gv htb F' gk N2 g.1 g.2).up λU U e=>e) λg=>g.2.elim λn g=>(cellO g.1).elim λo z U=>have w:=N' _ (bP _ z.1); ⟨o,g.2▸z.2.up,w.1,λU=>w.2,λq=>absurd (g.2▸PI:x.own) q⟩,
  λj j' b x y e1 e2 e3 e4 o1 o2=>(jm gv.len e1 e3).elim (λg=>(jm gv.len e2 e4).elim (λg'=>gv.nd _ _ _ _ g.1 g'.1 g.2 o1) λg'=>g'.2.elim λn g'=>absurd g'.1 (no g.1 g.2)) λg=>(jm gv.len e2 e4).elim (λg'=>g.2.elim λn g=>absurd g.1 (no g'.1 g'.2)) λg'=>g.2.elim λn w=>g'.2.elim λn' w'=>
   (cO g.1).symm.trans ((congrArg (·+as₀.length) ((gG (lt_of_get (at2 w.1)) hnd).mp ((at2 w.1).trans (at2 w'.1).symm))).trans (cO g'.1)),
  λt=>xC i gv htb F' gk N2 (i.t1 (htb (ht▸t))) ((fB gv.len).mpr (.inr ⟨ht▸t,.inl rfl⟩)) (ap (i.t1 (htb (ht▸t)))),λt=>xC i gv htb F' gk N2 (i.t2 (htb (ht▸t))) ((fB gv.len).mpr (.inr ⟨ht▸t,.inr rfl⟩)) (ap (i.t2 (htb (ht▸t)))),λq hq=>f4 (uG (hpre▸hq)),λq hq=>nomatch (hpn▸hq:q∈[])⟩
end
theorem xT {prog:cj}{A₀ A:be}{s₁:ai}{base:aL}{outer:List Env}{env:Env}{ts:List (aj×Obj)}{K:wE}{p:cj}{loose:List Str}{mean:j0->Option af}{mg mb:Str->Option af}
  {R:lK->ai->Prop} {name:Str}    {kV:af}   {f:aj} {args:Args} 
  (B:ry A₀ base outer h₀) (F:Fr h₀ L s.heap m) (X₀:K.In h₀) (N:gY h₀ L s.heap ts) (T:Top p loose mean mg mb h₀) (hA:A.frames=PD (env :: outer)) (hf:env.frame=PD L) (hke:env.scope.kind=.function) (X₁:K.In s₁.heap)
  (ho:K.lookup f=PD ⟨oc,od,.func (fnOf name qual params body scope dV kV doc pm an cdv ct),osl⟩) (hcd:codeIn K cdv qual=PG) (hroom:A.depth<recursionLimit)
  (hbind:∀ (M:nk) (A:be) (E:af->ai->Prop) (Q:List (Str×af)->ai->Prop),Q binds s->wpAny M A (bindArgs (fnOf name qual params body scope dV kV doc pm an cdv ct) args) Q E s₁) (hkind:(binds.all λy=>scope.names.lookup y.1 == PD .local||scope.names.lookup y.1 == PD .cell)=PG)
  (hnd:((cellsFrom 0 scope.names []).map (·.1)).Nodup)
  (h:∀ L' h₁ tk cells,Fr (hideAll s.heap (ts.map (·.1))) L' h₁ (bindL (envOfC qual scope L' f cdv).kindOf binds λU=>PF)->gY (hideAll s.heap (ts.map (·.1))) L' h₁ (cells++ts)->
   wG (bindC (envOfC qual scope L' f cdv).kindOf binds λU=>PF) (cellsFrom (L'+1) scope.names []) cells->ry A base (env :: outer) (hideAll s.heap (ts.map (·.1)))->K.In (hideAll s.heap (ts.map (·.1)))->Top p loose mean mg mb (hideAll s.heap (ts.map (·.1)))->(∀ p∈ts,p.1<L')->
   wpAny (model prog w) (A.deeper (envOfC qual scope L' f cdv)) (execs body (envOfC qual scope L' f cdv))
    (λfl s'=>Ce h₀ L m (hideAll s.heap (ts.map (·.1))) R (match fl with | .ret v=>v | _=>.none) s')
    (λe s'=>wpAny (model prog w) (A.deeper (envOfC qual scope L' f cdv)) (leaving (envOfC qual scope L' f cdv) e) (λU s''=>R (.error e) s'') (λe' s''=>R (.error e') s'') s')
    { s with heap:=h₁,toks:=tk })
  (hco:scope.isCoroutine=PH) (hgen:scope.isGenerator=PH) (hk:scope.kind=.function):codeAny (model prog w) A (.call (.ref f) args) R s₁:=by
 refine bU λG1 hG1=>?_;obtain⟨_,BG,st,lv⟩:=groundX (R:=R) B F N hA hf hke;refine hG1 ?_;refine codeAny_call_function hroom (X₁ _ _ ho) rfl hco hgen rfl (codeRec_of X₁ hcd) (hbind _ _ _ _ ?_);refine wpAny_newFunctionEnv_cells hk (kindsX hkind _) λenv' he s' x=>?_;subst he;refine⟨(T.nolimit.keeps F.keep).keeps x.toInCall.keep,codeAny_func ?_⟩;refine bU λG2 hG2=>?_;obtain⟨h₁,tk,rfl,_⟩:=x.done;have hk₁:=x.toInCall.keep;obtain⟨cells,NC,Y⟩:=Cl.news (h₀:=s.heap) (aI _) λn c hm=>⟨x.cell n c (lookup_of_mem_nodup (cellsFrom_names scope.names 0 (s.heap.objs.size+1) [] [] rfl▸hnd) hm),x.above n c hm⟩;refine hG2 ?_;refine aU (h s.heap.objs.size h₁ tk cells ⟨x.toInCall.ns,λb o e=>hk₁ b o (qH _ e),bq (hideAll_size _ _)⟩ (λp hp=>?_) Y BG (X₀.keeps st) (T.keeps st) (λp hp=>aO (N p hp).1)) (λfl s' hl=>lv _ _ hl) (λU U y=>y);rcases bf.mp hp with hp | hp
 ·refine⟨(NC p hp).1,(NC p hp).2.1,?_⟩;cases q:(hideAll s.heap (ts.map (·.1))).get? p.1 with
  | none=>rfl
  | some o=>have:=qH _ q; rw[(NC p hp).2.2] at this; cases this
 ·exact⟨hk₁ _ _ (N p hp).1,aY (aO (N p hp).1),hideAll_none _ (List.mem_map_of_mem hp)⟩
def Ent (gs:ai->ai->Prop)(Z:Cx->List aj->aL->Prop)(w:aB)(a:aj)(fd:iQ)(k:Nat)(tb:Bool)(Os₀:List SO)(Va:Vm)(p:PV)(Os₁ ys:List SO):Prop:=
 ∀ (f:Fs) (c:Cx) (V:Vm) (m:Str->Option af) (as:List aj) (Os:List SO) (h:aL),c.w=w->k<=c.k->(tb=PG->c.tb=PG)->c.Ok f->Inv f c V m as Os h->∀ as₀,Giv as Os h as₀ Os₀->Z c as₀ h->∀ binds,(binds.all λy=>fd.scope.names.lookup y.1 == PD .local||fd.scope.names.lookup y.1 == PD .cell)=PG->B9 as₀ Va binds->
 ∀ (s₁:ai) (args:Args) (tk:Nat),(hd.heap_39 w.params).In s₁.heap->(∀ (M:nk) (A:be) (E:af->ai->Prop) (Q:List (Str×af)->ai->Prop),Q binds (sh c.s₀ h tk)->wpAny M A (bindArgs fd args) Q E s₁)->
 ∀ R:lK->ai->Prop,(∀ v bs h' tk' s',gs c.s₀ s'->p.is (as₀++bs) v->After h h' tb as₀ Os₀ Os₁ bs ys->R (.ok (.ret v)) (sh s' h' tk'))->codeAny (MP c.w) (c.A f) (.call (.ref a) args) R s₁
structure Frm (gs:ai->ai->Prop)(Z:Cx->List aj->aL->Prop)(tb:Bool)(Os₀:List SO)(c:Cx):Prop where
 ex:∃ c₀ as₀ h,Z c₀ as₀ h/\c.hv=c₀.hv/\c.gs=gs c₀.s₀/\c.pre=ko 0 as₀/\(∀ b o,Apart as₀ Os₀ b->(tb=PG->b≠54/\b≠61)->h.get? b=PD o->c.h₀.get? b=PD o)/\c₀.w=c.w
def entC (c:Cx)(f:Fs)(sc:dC)(gs:ai->Prop)(k mu:Nat)(qual:Str)(a:aj)(cdv:af)(cl:List (Str×aj))(g:aL)(L':aj)(m:Str->Option af)(R:lK->ai->Prop)(tb:Bool)(as₀:List aj)(Os₀:List SO)(p:PV)(Os₁ ys:List SO):Cx:={
  w:=c.w,hv:=c.hv,dp:=c.dp+1,un:=c.un+3,k:=k,gd:=c.gd,q:=qual,fa:=a,cd:=cdv,cl:=cl,outer:=c.env f :: c.outer,A₀:=c.A f,base:=c.base,h₀:=g,L:=L',p:=c.p,loose:=c.loose,mean:=c.mean,mg:=c.mg,mb:=c.mb,s₀:=c.s₀,gs:=gs,
  E:=λe s'=>wpAny (MP c.w) ((c.A f).deeper (envX qual sc L' a cdv cl)) (leaving (envX qual sc L' a cdv cl) e) (λU s''=>R (.error e) s'') (λe' s''=>R (.error e') s'') s',
  R:=λfl s'=>Ce c.h₀ c.L m g R (match fl with | .ret v=>v | _=>.none) s',
  P:=λp' Os'=>∃ gs,retE Os₀.length mu gs p' Os'=PD (p,Os₁,ys),
  N:=λU Os'=>∃ gs,retE Os₀.length mu gs (.v .none) Os'=PD (p,Os₁,ys),
  B:=λU U=>False,tb:=tb,pre:=ko 0 as₀,np:=(ko 0 as₀).map (·.1),pn:=[] }
section
variable {f:Fs}{c:Cx}{V:Vm}{m:Str->Option af}{as as₀:List aj}{Os Os₀ Os₁ ys:List SO}{h g:aL}{tb:Bool}{a L':aj}{k mu:Nat}{gs:ai->Prop}{qual:Str}{cdv:af}{cl:List (Str×aj)}{R:lK->ai->Prop}{p:PV}{sc:dC}{CM:List (Str×Nat)}
theorem lG (gv:Giv as Os h as₀ Os₀)(gk:∀ b o,b∉hidL tb as₀ Os₀->h.get? b=PD o->g.get? b=PD o)(hmu:∀ (j:Nat) (y:SO),Os₀[j]?=PD y->y.own->j<mu)
  (ret:∀ v bs h' tk' s',gs s'->p.is (as₀++bs) v->After h h' tb as₀ Os₀ Os₁ bs ys->R (.ok (.ret v)) (sh s' h' tk')) {V':Vm}   {Os':List SO}   {p':PV} {tk':Nat} {s':ai} (hs':gs s') (i':Inv ⟨sc,CM⟩ ((entC c f sc gs k mu qual a cdv cl g L' m R tb as₀ Os₀ p Os₁ ys).at s') V' m' as' Os' h') (hp':p'.is as' v) (hP:∃ gs,retE Os₀.length mu gs p' Os'=PD (p,Os₁,ys)):Ce c.h₀ c.L m g R v (sh s' h' tk'):=
 hP.elim λgs hP=>(B6 i' (λj a e=>i'.pf (j,a) (jl e)) rfl gv.len gk hmu hP hp').elim λbs z=>leaveK_ (news':=[]) i'.F News.nil λU U=>ret v bs h' tk' s' hs' z.1 z.2
theorem xO (O:c.Ok f)(i:Inv f c V m as Os h)(gv:Giv as Os h as₀ Os₀)(htb:tb=PG->c.tb=PG)(gk:∀ b o,b∉hidL tb as₀ Os₀->h.get? b=PD o->g.get? b=PD o)(hmu:∀ (j:Nat) (y:SO),Os₀[j]?=PD y->y.own->j<mu)
  (ret:∀ v bs h' tk' s',gs s'->p.is (as₀++bs) v->After h h' tb as₀ Os₀ Os₁ bs ys->R (.ok (.ret v)) (sh s' h' tk')) (hk:sc.kind=.function) (hkc:k+1<=c.k) (hgs:gs c.s₀) (B':ry (c.A f) c.base (c.env f :: c.outer) g) (X':(hd.heap_39 c.w.params).In g) (T':Top c.p c.loose c.mean c.mg c.mb g):(entC c f sc gs k mu qual a cdv cl g L' m R tb as₀ Os₀ p Os₁ ys).Ok ⟨sc,CM⟩:=
 ⟨hk,B',X',T',O.h.sub i gv htb gk rfl,rfl,(cS (ar (bq (gj c.dp 1 k)) (NR hkc c.dp)) O.rd),(cS (cX (ar (bq (N8 c.un 3 _)) (NR (ar (ar (bq (NZ 3 _)) (NR (by decide:3<=20) (20*k))) (NQ 20 hkc)) c.un)) 2) O.ru),(by passes_own),hgs,
  λs' V' m' as' Os' h' v p' tk' g' i' hp hP=>lG gv gk hmu ret g' i' hp hP,λs' V' m' as' Os' h' tk' g' i' hP=>⟨lG gv gk hmu ret g' i' (p':=.v .none) rfl hP,lG gv gk hmu ret g' i' (p':=.v .none) rfl hP⟩,λU U U U U U U U U q=>q.elim⟩
end
theorem JU {gs:ai->ai->Prop}{Z:Cx->List aj->aL->Prop}{Os₀:List SO}{p:PV}{Os₁ ys:List SO}{name:Str}{kV:af}{T:Tab}{ext:Fs->Tab->aB->Vm->EV->EV}(mu:Nat)(Va:Vm)
  (hZ:∀ (c:Cx) (as₀:List aj) (h:aL),Z c as₀ h->gs c.s₀ c.s₀)
  (ho:(hd.heap_39 w.params).lookup a=PD ⟨oc,od,.func (fnOf name qual params body sc dV kV doc pm an cdv ct),osl⟩) (hcd:codeIn (hd.heap_39 w.params) cdv qual=PG)
  (hco:sc.isCoroutine=PH) (hgen:sc.isGenerator=PH) (hk:sc.kind=.function) (hnd:((cellsFrom 0 sc.names []).map (·.1)).Nodup) (hmu:∀ (j:Nat) (y:SO),Os₀[j]?=PD y->y.own->j<mu)
  (G:∀ c:Cx,c.w=w->c.k=k->c.tb=tb->c.Ok ⟨sc,ug Os₀.length ((cellsFrom 0 sc.names []).map (·.1))⟩->Wk.Okc ⟨⟨sc,ug Os₀.length ((cellsFrom 0 sc.names []).map (·.1))⟩,T,ext⟩ c)
  (H:∀ c:Cx,c.w=w->c.np=bz Os₀.length->(∀ p' Os' gs,retE Os₀.length mu gs p' Os'=PD (p,Os₁,ys)->c.P p' Os')->(∀ V Os',c.P (.v .none) Os'->c.N V Os')->c.q=qual/\c.cd=cdv/\c.k=k/\c.tb=tb/\Frm gs Z tb Os₀ c->
   Run ⟨⟨sc,ug Os₀.length ((cellsFrom 0 sc.names []).map (·.1))⟩,T,ext⟩ c (tL (um sc) Va []) (Os₀++rg (oM (um sc) Va []) ((cellsFrom 0 sc.names []).map (·.1))) [body]):Ent gs Z w a (fnOf name qual params body sc dV kV doc pm an cdv ct) (k+1) tb Os₀ Va p Os₁ ys:=by
 intro f c V m as Os h hw hkc htb O i as₀ gv hz binds hkinds hIB s₁ args tk hX₁ hbind R ret;subst hw;refine xT (env:=c.env f) (s:=sh c.s₀ h tk) (K:=Mine.hd.heap_39 c.w.params) O.b i.F O.x (rP i gv htb) O.t rfl rfl O.kd hX₁ ho hcd O.lim hbind hkinds hnd (λL' h₁ tk1 cells F' N' Y B' X' T' hlt=>?_) hco hgen hk;rw[ur] at F' N' B' X' T'⊢;refine(?_:wpAny _ _ _ (λfl s'=>Ce c.h₀ c.L m (hideAll h (hidL tb as₀ Os₀)) R _ s') _ _)
 exact aU ((H (entC c f sc (gs c.s₀) k mu qual a cdv (cellsFrom (L'+1) sc.names []) (hideAll h (hidL tb as₀ Os₀)) L' m R tb as₀ Os₀ p Os₁ ys) rfl (gv.len▸r3 as₀) (λp' Os' gs q=>⟨gs,q⟩) (λU U q=>q) ⟨rfl,rfl,rfl,rfl,c,as₀,h,hz,rfl,rfl,rfl,λb o A ht e=>jZ _ e (λhb=>((fB gv.len).mp hb).elim (λz=>z A) λz=>z.2.elim (ht z.1).1 (ht z.1).2),rfl⟩).at (s:=c.s₀)
  ⟨G _ rfl rfl rfl (xO O i gv htb (λb o hb e=>jZ _ e hb) hmu ret hk hkc (hZ c as₀ h hz) B' X' T'),λc2 s o2=>G c2 s.w s.k s.tb o2⟩
  (zz i gv htb F' N' (λb o hb e=>jZ _ e hb) Y hlt hIB rfl (cellsFrom_names sc.names 0 (L'+1) [] [] rfl) (kq _ _ _ (λU q=>nomatch q) .nil) (BP _ _ _ (aI _) λU q=>nomatch q) rfl rfl rfl)) (λU U q=>q) (λU U q=>q)
theorem Ent.con {gs:ai->ai->Prop}{Z:Cx->List aj->aL->Prop}{Os₀:List SO}{Va:Vm}{ps:List PV}{p:PV}{Os₁ ys:List SO}(e:Ent gs Z w a fd k tb Os₀ Va p Os₁ ys)
  (hb:∀ as₀ vs,IsAll as₀ ps vs->∃ binds,(∀ s:ai,(hd.heap_39 w.params).In s.heap->Iz s fd ⟨vs,[]⟩ binds)/\(binds.all λy=>fd.scope.names.lookup y.1 == PD .local||fd.scope.names.lookup y.1 == PD .cell)=PG/\B9 as₀ Va binds):ConY gs Z w a k tb Os₀ ps p Os₁ ys:=by
 intro f c V m as Os h hw hkc htb O i as₀ gv hz vs hvs E Q tk hq;refine bU λG1 hG1=>?_;obtain⟨binds,h1,h2,h3⟩:=hb as₀ vs hvs;refine hG1 ?_;exact iG (e f c V m as Os h hw hkc htb O i as₀ gv hz binds h2 h3 _ ⟨vs,[]⟩ tk (hw▸O.x.keeps i.F.keep) (h1 _ (hw▸O.x.keeps i.F.keep)) _ hq)
noncomputable def sigC (n₀ N i:Nat):Option Nat:=if i<n₀ then PF else PD (N+(i - n₀))
def uW (σ:Nat->Option Nat):List SO->Option (List SO)
 | []=>PD []
 | y :: r=>(y.rn σ).bind λz=>(uW σ r).map λs=>z :: s
theorem vh {ys:List SO}:∀ {zs:List SO},uW σ ys=PD zs->zs.length=ys.length/\∀ (t:Nat) (z:SO),zs[t]?=PD z->∃ y,ys[t]?=PD y/\y.rn σ=PD z:=by
 induction ys with
 | nil=>exact λ{U} e=>ac e▸⟨rfl,λt U h=>nomatch h⟩
 | cons y r ih=>exact λ{U} e=>ak e λz e1 e=>aZ e λs e2 eq=>have w:=ih e2; eq▸⟨congrArg fq w.1,λt=>t.casesOn (λz' h=>ac h▸⟨y,rfl,e1⟩) w.2⟩
theorem ConZ.call {Z:Cx->List aj->aL->Prop}{Os₀:List SO}{ps:List PV}{p:PV}{Os₁ ys:List SO}(C:ConZ Z w a k tb Os₀ ps p Os₁ ys){f:Fs}{c:Cx}{V:Vm}{Os:List SO}(hw:c.w=w)(hk:k<=c.k)(htb:tb=PG->c.tb=PG)(O:c.Ok f)(i:Inv f c V m as Os h)
   (g:Giv as Os h as₀ Os₀) (z:Z c as₀ h) (no:∀ (j:Nat) (y:SO),Os₀[j]?=PD y->¬ y.own)  (hvs:IsAll as₀ ps vs) {q:nb} (e1:p.rn (sigC Os₀.length Os.length)=PD q.1) (e2:uW (sigC Os₀.length Os.length) ys=PD q.2.1)
    (hq:lg f c V m as Os h q Q):wpAny (MP c.w) (c.A f) (call (.ref a) vs) Q E (sh c.s₀ h tk):=by
 refine C f c V m as Os h hw hk htb O i as₀ g z vs hvs E Q tk λv bs h' tk' U es hv A=>?_;subst es
 have H:∀ j i' a',sigC Os₀.length Os.length j=PD i'->(as₀++bs)[j]?=PD a'->(as++bs)[i']?=PD a':=λj i' a' es ea=>by
  unfold sigC at es
  by_cases hj:j<Os₀.length
  ·rw[if_pos hj] at es; cases es
  ·rw[if_neg hj] at es; cases es;have hj:=hH hj;rw[aM (g.len▸hj),g.len] at ea;rw[<- i.len,aM (a8 _ _),eH];exact ea
 have ap:∀ b,Apart as₀ Os₀ b:=λb j y U e hw=>no j y e hw;have kp:∀ b o,b≠c.L->(tb=PG->b≠54/\b≠61)->h.get? b=PD o->h'.get? b=PD o:=λb o U ht e=>A.kp b o (ap b) ht e;have nL:tb=PG->c.L≠54/\c.L≠61:=λht=>⟨λq=>by obtain⟨_,_,h2,_⟩:=i.t1 (htb ht); exact h2 q.symm,λq=>by obtain⟨_,_,h2,_⟩:=i.t2 (htb ht); exact h2 q.symm⟩;have F':Fr c.h₀ c.L h' m:=⟨i.F.ns.at' λo e=>A.kp c.L o (ap _) nL e,λb o e=>A.kp b o (ap _) (λht=>⟨λq=>(by obtain⟨_,_,_,h3,_⟩:=i.t1 (htb ht); rw[q,h3] at e; cases e),λq=>(by obtain⟨_,_,_,h3,_⟩:=i.t2 (htb ht); rw[q,h3] at e; cases e)⟩) (i.F.keep b o e),i.F.above⟩;obtain⟨z1,z2⟩:=vh e2
 exact hq v bs h' tk' (PV.rn_is H e1 hv) (i.madeT F' htb kp ⟨A.nw.len.trans z1.symm,A.nw.nd,λt D z eD ez=>by
  refine bU λG1 hG1=>?_;obtain⟨y,h1,h2⟩:=z2 t z ez;obtain⟨g1,⟨o,g2,g3⟩,g4⟩:=A.nw.ob t D y eD h1;refine hG1 ?_;exact⟨g1,⟨o,g2,SO.rn_is H h2 g3⟩,(SO.rn_own h2).2⟩⟩ A.t1 A.t2) λb o n1 n2 e=>kp b o n1 (λht=>n2 (htb ht)) e
theorem Con.call {w:aB}{a:aj}{k:Nat}{tb:Bool}{Os₀:List SO}{ps:List PV}{p:PV}{Os₁ ys:List SO}(C:Con w a k tb Os₀ ps p Os₁ ys){f:Fs}{c:Cx}{V:Vm}{m:Str->Option af}{as:List aj}{Os:List SO}{h:aL}(hw:c.w=w)(hk:k<=c.k)(htb:tb=PG->c.tb=PG)(O:c.Ok f)(i:Inv f c V m as Os h)
  {as₀:List aj} (g:Giv as Os h as₀ Os₀) (no:∀ (j:Nat) (y:SO),Os₀[j]?=PD y->¬ y.own) {vs:List af} (hvs:IsAll as₀ ps vs) {q:nb} (e1:p.rn (sigC Os₀.length Os.length)=PD q.1) (e2:uW (sigC Os₀.length Os.length) ys=PD q.2.1)
  {E Q:af->ai->Prop} {tk:Nat} (hq:lg f c V m as Os h q Q):wpAny (MP c.w) (c.A f) (call (.ref a) vs) Q E (sh c.s₀ h tk):=ConZ.call C hw hk htb O i g PI no hvs e1 e2 hq
theorem Giv.nil {Os:List SO}:Giv as Os h [] []:=⟨rfl,λj U U e=>(by cases j<;>cases e),λj U U e=>(by cases j<;>cases e),λj U U U e=>(by cases j<;>cases e)⟩
theorem Giv.one {f:Fs}{c:Cx}{V:Vm}{Os:List SO}(i:Inv f c V m as Os h){x y:SO}(e:Os[j]?=PD x)(lv:x.live)(er:x.core.rn (λU=>PF)=PD y)(hu:(PV.r j).is as u):∃ l,u=.ref l/\Giv as Os h [l] [.G y]:=by
 refine bU λG1 hG1=>?_;obtain⟨l,o,rfl,h1,h2⟩:=i.get e lv hu;obtain⟨a,ea,he⟩:=hu;refine hG1 ?_;cases he;have h3:y.is [l] o:=SO.rn_is (λU U U q U=>by cases q) er h2;refine⟨l,rfl,rfl,λt a y' e1 e2=>?_,λt a y' e1 e2=>?_,λt t' a y' e1 e2 e3 hw=>?_⟩
 ·cases t with
  | zero=>cases e1; cases e2; exact⟨o,h1,h3⟩
  | succ t=>cases t<;>cases e1
 ·cases t with
  | zero=>cases e1; cases e2; exact⟨j,x,ea,e,lv,λq=>q.elim⟩
  | succ t=>cases t<;>cases e1
 ·cases t with
  | zero=>cases e3; exact hw.elim
  | succ t=>cases t<;>cases e1
theorem lw (j:Nat)(y:SO)(e:([]:List SO)[j]?=PD y):¬ y.own:=nomatch List.getElem?_nil.symm.trans e
theorem g_own {x:SO}{l:List SO}(h:∀ (j:Nat) (y:SO),l[j]?=PD y->¬ y.own)(j:Nat)(y:SO)(e:(SO.G x :: l)[j]?=PD y):¬ y.own:=by
 cases j with
 | zero=>exact(ac e:SO.G x=y)▸λh=>h
 | succ j=>exact h j y e
theorem l_own {x:SO}{l:List SO}(h:∀ (j:Nat) (y:SO),l[j]?=PD y->¬ y.own)(j:Nat)(y:SO)(e:(x :: l)[j]?=PD y)(hw:y.own):j<1:=by
 cases j with
 | zero=>exact Nat.zero_lt_one
 | succ j=>exact(h j y e hw).elim
theorem no_one {x:SO}(j:Nat)(y:SO)(e:[SO.G x][j]?=PD y):¬ y.own:=g_own lw j y e
theorem dk {f:Fs}{c:Cx}(O:c.Ok f)(h:(hd.heap_39 c.w.params).lookup a=PD o)(hd:o.data=.func fd):gU c (.ref a):=.inr (.inr ⟨a,o,fd,rfl,hd,.inl (O.x _ _ h)⟩)
def iS (Os:List SO)(p:PV):Option (List PV):=p.ref?.bind λj=>(Os[j]?).bind λx=>x.core.lst?
def Hi:List PV->Option (List UInt64)
 | []=>PD []
 | p :: r=>p.flt?.bind λx=>(Hi r).map λs=>x :: s
def K9:List PV->Option (List Str)
 | []=>PD []
 | p :: r=>p.str?.bind λx=>(K9 r).map λs=>x :: s
theorem Ba {ps:List PV}:∀ {xs:List UInt64},Hi ps=PD xs->ps=xs.map .f:=by
 induction ps with
 | nil=>exact λ{U} e=>ac e▸rfl
 | cons p r ih=>exact λ{U} e=>ak e λx e1 e=>aZ e λs e2 eq=>eq▸PV.flt_is e1▸congrArg (PV.f x :: ·) (ih e2)
theorem EA {ps:List PV}:∀ {xs:List Str},K9 ps=PD xs->ps=xs.map .s:=by
 induction ps with
 | nil=>exact λ{U} e=>ac e▸rfl
 | cons p r ih=>exact λ{U} e=>ak e λx e1 e=>aZ e λs e2 eq=>eq▸PV.str_is e1▸congrArg (PV.s x :: ·) (ih e2)
noncomputable def jS {α:Type}(l:List α):Option (α×α×α):=l.casesOn PF λa r=>r.casesOn PF λb r=>r.casesOn PF λc r=>r.casesOn (PD (a,b,c)) λU U=>PF
theorem f9 {l:List α}{q:α×α×α}:jS l=PD q->l=[q.1,q.2.1,q.2.2]:=l.casesOn av λU r=>r.casesOn av λU r=>r.casesOn av λU r=>r.casesOn (λh=>congrArg (λq:α×α×α=>[q.1,q.2.1,q.2.2]) (ac h)) λU U=>av
section
variable {f:Fs}{c:Cx}{V:Vm}{m:Str->Option af}{as:List aj}{Os:List SO}{h h':aL}
theorem ga (i:Inv f c V m as Os h){p:PV}{xs:List PV}(e:iS Os p=PD xs)(hu:p.is as u):∃ l vs n,u=.ref l/\h.get? l=PD { cls:=.type "list",data:=.seq vs.toArray n }/\IsAll as xs vs:=by
 refine bU λG1 hG1=>?_;refine ak e λj e1 e=>?_;refine ak e λx e2 e3=>?_;have lv:x.live:=by cases x<;>first | trivial | exact nomatch e3
 refine hG1 ?_;rw[PV.ref_is e1] at hu;refine bU λG2 hG2=>?_;obtain⟨a,o,rfl,h1,h2⟩:=i.get e2 lv hu;refine hG2 ?_;rw[SO.lst_is e3] at h2;refine bU λG3 hG3=>?_;obtain⟨vs,n,rfl,h3⟩:=h2;refine hG3 ?_;exact⟨a,vs,n,rfl,h1,h3⟩
theorem EI (i:Inv f c V m as Os h){p:PV}(hq:lg f c V m as Os h (p,[],C) Q){h':aL}(hv:p.is as v)(F':Fr c.h₀ c.L h' m)(kp:∀ b o,b≠c.L->h.get? b=PD o->h'.get? b=PD o):Q v (sh c.s₀ h' k):=
 hq v [] h' k (KR hv) (I0 (I:=λas Os h=>Inv f c V m as Os h) (i.keep F' kp)) λb o n U e=>kp b o n e
theorem nB (i:Inv f c V m as Os h){p:PV}(hq:lg f c V m as Os h (p,[],C) Q){h':aL}(hv:p.is as v)(kp:∀ b o,h.get? b=PD o->h'.get? b=PD o):Q v (sh c.s₀ h' k):=EI i hq hv (i.F.keeps kp) λb o U e=>kp b o e
theorem ic (i:Inv f c V m as Os h){p:PV}(hq:lg f c V m as Os h (p,[],C) Q)(hv:p.is as v):Q v (sh c.s₀ h k):=nB i hq hv λU U e=>e
end
def ET:CallR:=⟨.builtin "max",λU ps=>(Hi ps).bind λl=>(jS l).map λq=>(.f (fmax3 q.1 q.2.1 q.2.2),[],[])⟩
def EP:CallR:=⟨.builtin "min",λU ps=>(Hi ps).bind λl=>(jS l).map λq=>(.f (fmin3 q.1 q.2.1 q.2.2),[],[])⟩
def EO:CallR:=⟨.builtin "min",λOs ps=>(one ps).bind λp=>(iS Os p).bind λl=>(Ci l).bind λl=>(jS l).map λq=>(.i (min q.1 (min q.2.1 q.2.2)),[],[])⟩
def GJ:CallR:=⟨.type "int",λU ps=>(one ps).bind λp=>p.flt?.map λx=>(.i (ce bH x),[],[cI x=PH,bC x=PH])⟩
section
variable {fs:Fs}{c:Cx}
theorem Fb {ps:List PV}{l:List UInt64}{q:UInt64×UInt64×UInt64}(e1:Hi ps=PD l)(e2:jS l=PD q)(hv:IsAll as ps vs):∃ t u w,vs=[.float q.1 t,.float q.2.1 u,.float q.2.2 w]:=by
 rw[Ba e1,f9 e2] at hv;refine bU λG1 hG1=>?_;obtain⟨_,_,rfl,⟨t,rfl⟩,_,_,rfl,⟨u,rfl⟩,_,_,rfl,⟨w,rfl⟩,h⟩:=hv;refine hG1 ?_;cases h;exact⟨t,u,w,rfl⟩
theorem Aw (O:c.Ok fs):b8 fs c ET:=⟨.inl ⟨_,rfl⟩,λ{Os ps q} e hC V m as h vs i hv E Q k hq=>by
 refine bU λG1 hG1=>?_;refine ak e λl e1 e=>?_;refine aZ e λq' e2 eq9=>?_;subst eq9;obtain⟨t,u,w,rfl⟩:=Fb e1 e2 hv;refine hG1 ?_;refine Av (O.h.at i) (.float _ t) (.float _ u) (.float _ w) λh' tk kp=>?_;have H:∀ v,Q (.float (fmax3 q'.1 q'.2.1 q'.2.2) v) (sh c.s₀ h' tk):=λv=>nB i hq ⟨v,rfl⟩ kp;unfold fmax3 Cj at H;refine(?_:Q (if(bS q'.1 q'.2.1 == PD .lt)=PG then(if(bS q'.2.1 q'.2.2 == PD .lt)=PG then _ else _) else(if(bS q'.1 q'.2.2 == PD .lt)=PG then _ else _)) _)
 split<;>split<;>simp_all⟩
theorem Ao (O:c.Ok fs):b8 fs c EP:=⟨.inl ⟨_,rfl⟩,λ{Os ps q} e hC V m as h vs i hv E Q k hq=>by
 refine bU λG1 hG1=>?_;refine ak e λl e1 e=>?_;refine aZ e λq' e2 eq9=>?_;subst eq9;obtain⟨t,u,w,rfl⟩:=Fb e1 e2 hv;refine hG1 ?_;refine An (O.h.at i) (.float _ t) (.float _ u) (.float _ w) λh' tk kp=>?_;have H:∀ v,Q (.float (fmin3 q'.1 q'.2.1 q'.2.2) v) (sh c.s₀ h' tk):=λv=>nB i hq ⟨v,rfl⟩ kp;unfold fmin3 Cj at H;refine(?_:Q (if(bS q'.2.1 q'.1 == PD .lt)=PG then(if(bS q'.2.2 q'.2.1 == PD .lt)=PG then _ else _) else(if(bS q'.2.2 q'.1 == PD .lt)=PG then _ else _)) _)
 split<;>split<;>simp_all⟩
theorem Am (O:c.Ok fs):b8 fs c EO:=⟨.inl ⟨_,rfl⟩,λ{Os ps q} e hC V m as h vs i hv E Q k hq=>by
 refine bU λG1 hG1=>?_;refine ak e λp e1 e=>?_;refine ak e λl e2 e=>?_;refine ak e λz e3 e=>?_;refine aZ e λq' e4 eq9=>?_;subst eq9;refine hG1 ?_;rw[one_is e1] at hv;refine bU λG2 hG2=>?_;obtain⟨u,_,rfl,hu,h0⟩:=hv;refine hG2 ?_;cases h0;refine bU λG3 hG3=>?_;obtain⟨D,us,n,rfl,h1,h2⟩:=ga i e2 hu;refine hG3 ?_;rw[mz e3,f9 e4] at h2;refine bU λG4 hG4=>?_;obtain⟨_,_,rfl,⟨t,rfl⟩,_,_,rfl,⟨u,rfl⟩,_,_,rfl,⟨w,rfl⟩,h3⟩:=h2;refine hG4 ?_;cases h3;refine bU λG5 hG5=>?_;obtain⟨N,NN,hN⟩:=gf c.h₀ h c.L;refine hG5 ?_;exact vE i.F NN h1 (λh' tk v F' N'=>EI i hq ⟨v,rfl⟩ F' (lf hN i.F F' N')) (O.h.at i)⟩
theorem xB:b8 fs c GJ:=⟨.inr (.inl ⟨_,rfl⟩),λ{Os ps q} e hC V m as h vs i hv E Q k hq=>by
 refine ak e λp e1 e=>?_;refine aZ e λx e2 eq9=>?_;subst eq9;rw[one_is e1,PV.flt_is e2] at hv;obtain⟨u,_,rfl,⟨t,rfl⟩,h0⟩:=hv;cases h0;exact nX (λq=>by rw[hC.1] at q; cases q) (λq=>by rw[hC.2.1] at q; cases q) λU=>ic i hq ⟨_,rfl⟩⟩
end
inductive It | one (p:PV) | tup (ps:List PV)
def It.is (as:List aj):It->af->aL->Prop
 | .one p,v,_=>p.is as v
 | .tup ps,v,h=>∃ T vs,v=.ref T/\MW h T vs.toArray/\IsAll as ps vs
structure Src (f:Fs)(c:Cx)(as:List aj)(Os:List SO)(h:aL)(target:aw)(I:aj)(xs:List It)(K:List Nat)(fp wr ws:List aj)(P Md:Nat->af->aL->Prop)(St:Nat->aL->Prop):Prop where
 W:MV aH.row.prog c.w (c.A f) target I fp wr xs.length P Md St
 self:∀ (s:ai) (Q E:af->ai->Prop),St 0 s.heap->Q (.ref I) s->wpAny (MP c.w) (c.A f) (pyIter (.ref I)) Q E s
 st:St 0 h
 it:∀ i v h',P i v h'->∃ x,xs[i]?=PD x/\x.is as v h'
 live:∀ b∈ws,∀ i h',St i h'->∃ o,h'.get? b=PD o/\¬ IsRec o
 hfp:∀ b∈fp,b∈ws\/(∃ o,c.h₀.get? b=PD o\/(b,o)∈c.pn)\/∃ j x,j∈K/\as[j]?=PD b/\Os[j]?=PD x/\x.own
 hwr:∀ b∈wr,b∈ws
 hws:∀ b∈ws,b∈fp/\b≠c.L/\c.h₀.get? b=PF/\Apart as Os b/\(c.tb=PG->b≠54/\b≠61)/\∀ q∈c.pn,q.1≠b
inductive SrcAt (f:Fs)(c:Cx)(V:Vm)(m:Str->Option af)(as:List aj)(Os:List SO)(h:aL)(target:aw)(xs:List It)(ys:List SO)(K:List Nat):af->ai->Prop
 | mk (I:aj) (h':aL) (tk:Nat) (bs fp wr ws:List aj) (P Md:Nat->af->aL->Prop) (St:Nat->aL->Prop) (i:Inv f c V m (as++bs) (Os++ys) h') (kp:Kp c h h') (nw:∀ b∈ws,h.get? b=PF) (S:Src f c (as++bs) (Os++ys) h' target I xs K fp wr ws P Md St):SrcAt f c V m as Os h target xs ys K (.ref I) (sh c.s₀ h' tk)
theorem fA {a:af}{n:Int}{t:Tok}(e:o.data=.fields #[a,.int n t]):¬ IsRec o:=by
 rintro ⟨vs,s,u,e1,e2⟩;rw[e] at e1; cases e1; cases e2
theorem pQ {A:be}{I:aj}{n:String}{Q:Unit->ai->Prop}(ho:s.heap.get? I=PD o)(hc:o.cls=.type n)(hn:["enumerate","zip","dict_itemiterator","dict_reverseitemiterator","odict_iterator","itertools.zip_longest","itertools.pairwise"].contains n=PH)(hq:Q () s):
  wpAny (MP w) A (letOwnedTupleGo target (.ref I) v) Q E s:=by
 have key:wpAny (MP w) A (letOwnedTupleGo (.Tuple [] 0 default) (.ref I) v) Q E s:=by
  cases v<;>first
   | exact aD hq
   | skip
  refine(?_:wpAny _ _ (load I >>= _) _ _ _);refine ab (Id ho ?_);rw[hc]
  cases o.data<;>first
   | exact aD hq
   | skip
  refine(?_:wpAny _ _ (if(_&&_)=PG then _ else _) _ _ _);rw[hn,Bool.false_and,if_neg (λz=>nomatch z)];exact aD hq
 cases target<;>first
  | exact aD hq
  | exact key
section
variable {f:Fs}{c:Cx}{V:Vm}{m:Str->Option af}{as:List aj}{Os:List SO}{h:aL}{target:aw}
def Rd (c:Cx)(as:List aj)(Os:List SO)(K:List Nat)(b:aj):Prop:=(∃ o,c.h₀.get? b=PD o\/(b,o)∈c.pn)\/∃ j x,j∈K/\as[j]?=PD b/\Os[j]?=PD x/\x.own
theorem jC (i:Inv f c V m as Os h)(kp:∀ b o,h.get? b=PD o->h'.get? b=PD o){I:aj}{fp wr:List aj}{xs:List It}{P Md:Nat->af->aL->Prop}{St:Nat->aL->Prop}
  (W:MV aH.row.prog c.w (c.A f) target I fp wr xs.length P Md St) (self:∀ (s:ai) (Q E:af->ai->Prop),St 0 s.heap->Q (.ref I) s->wpAny (MP c.w) (c.A f) (pyIter (.ref I)) Q E s) (st:St 0 h')
  (it:∀ i v h',P i v h'->∃ x,xs[i]?=PD x/\x.is as v h') (live:∀ b∈ws,∀ i h',St i h'->∃ o,h'.get? b=PD o/\¬ IsRec o) (hfp:∀ b∈fp,b∈ws\/Rd c as Os K b) (hwr:∀ b∈wr,b∈ws) (hin:∀ b∈ws,b∈fp) (hnew:∀ b∈ws,h.objs.size<=b):
  SrcAt f c V m as Os h target xs [] K (.ref I) (sh c.s₀ h' tk):=by
 have nw:∀ {b:aj},b∈ws->∀ {d:aj} {o:Obj},h.get? d=PD o->b≠d:=λ{b} hb {d o} e q=>bY _ (eX (aO e) (q▸hnew _ hb));refine .mk I h' tk [] fp wr ws P Md St (I0 (I:=λas Os h=>Inv f c V m as Os h) (i.keep (i.F.keeps kp) λb o' U e=>kp b o' e)) (λb o' U U e=>kp b o' e) (λb hb=>d8 (hnew b hb)) ?_;rw[ao,ao];refine⟨W,self,st,it,live,hfp,hwr,λb hb=>⟨hin b hb,?_,?_,λj x e1 e2 hw=>?_,λht=>⟨?_,?_⟩,λq hq z=>nw hb (i.pn q hq).1 z.symm⟩⟩
 ·obtain⟨o,_,_,e,_⟩:=i.F.ns; exact nw hb e
 ·exact d8 (ar i.F.above (ar (bN i.F.ns.lt) (hnew b hb)))
 ·obtain⟨o,_,e,_⟩:=i.ob _ _ _ e1 e2 hw.live; exact nw hb e rfl
 ·obtain⟨o,e,_⟩:=i.t1 ht; exact nw hb e
 ·obtain⟨o,e,_⟩:=i.t2 ht; exact nw hb e
theorem AK (i:Inv f c V m as Os h){xs:List PV}(e:items Os j=PD xs)(ea:as[j]?=PD D)(hK:j∈K):Rd c as Os K D:=ak e λx e1 e2=>by
 have lv:x.live:=by cases x<;>first | trivial | exact orE e2 av av
 by_cases hw:x.own
 ·exact .inr ⟨j,x,hK,ea,e1,hw⟩
 ·refine bU λG1 hG1=>?_;obtain⟨o,_,_,_,h4⟩:=i.ob _ _ _ ea e1 lv;refine hG1 ?_;exact .inl ⟨o,.inl (h4 hw)⟩
theorem z9 {xs:List PV}(hvs:IsAll as xs vs){t:Nat}(ev:vs.toArray[t]?=PD v):∃ x,(xs.map It.one)[t]?=PD x/\x.is as v h':=by
 have ev:vs[t]?=PD v:=by simpa using ev
 have ht:t<xs.length:=hvs.len▸lt_of_get ev;obtain⟨v',g1,g2⟩:=hvs.at (aF ht);rw[ev] at g1; cases g1;exact⟨.one xs[t],by rw[aG,aF ht]; rfl,g2⟩
theorem HdC.rd {c:Cx}(H:HdC c){b:aj}(hb:b∈hdL c.hv):∃ o,c.h₀.get? b=PD o\/(b,o)∈c.pn:=by
 cases hv:c.hv with
 | none=>rw[hv] at hb; cases hb
 | some v=>
  refine bU λG1 hG1=>?_;obtain⟨a,o,vs,rfl,h2,_⟩:=H v hv;refine hG1 ?_;rw[hv] at hb;have hb:b∈[a]:=hb;rw[ay.mp hb];exact⟨o,h2⟩
theorem ut (O:c.Ok f){I:List aj}(h0:∀ b∈I,b∈ws\/Rd c as Os K b)(b:aj)(hb:b∈I++hdL (c.A f).handled):b∈ws\/Rd c as Os K b:=(bf.mp hb).elim (h0 b) λhb=>.inr (.inl (O.h.rd hb))
theorem sV (b:Nat)(hb:b∈[n]):n<=b:=bq (ay.mp hb).symm
theorem CF (O:c.Ok f)(i:Inv f c V m as Os h){xs:List PV}(e:items Os j=PD xs)(hu:(PV.r j).is as u):wpAny (MP c.w) (c.A f) (pyIter u) (SrcAt f c V m as Os h target (xs.map .one) [] [j]) E (sh c.s₀ h tk):=by
 have hu':=hu;refine bU λG1 hG1=>?_;obtain⟨D,vs,rfl,hl,hvs⟩:=mr i e hu;obtain⟨a,ea,he⟩:=hu';refine hG1 ?_;cases he;have hlt:D<h.objs.size:=by rcases hl with ⟨o,e,_⟩ | ⟨o,e,_⟩<;>exact aO e
 have hin:=ut (ws:=[h.objs.size]) (as:=as) (Os:=Os) (K:=[j]) O (I:=[h.objs.size,D]) λb hb=>(aQ.mp hb).elim (λq=>.inl (q▸.head _)) λq=>.inr (ay.mp q▸AK i e ea (.head _));have hlen:vs.toArray.size=(xs.map It.one).length:=by rw[aK,hvs.len,aA]
 have kp:∀ {o:Obj} (b:aj) (o':Obj),h.get? b=PD o'->(h.push o).get? b=PD o':=λb o' e=>ag _ e;rcases hl with hl | hl
 ·refine gV hl ?_;have W:=j3 (prog:=aH.row.prog) (w:=c.w) (A:=c.A f) h.objs.size D (aY hlt) vs.toArray;rw[hlen] at W
  exact jC (ws:=[h.objs.size]) i kp (iL W λn v s Q E st q=>let ⟨o,e,ec,_⟩:=st.1.1; pQ e ec (by decide) q) (λs Q E st h=>W.self 0 s Q E st h) ⟨⟨⟨_,aE _ rfl,rfl,rfl⟩,hl.push _⟩,(O.h.at i).keep kp⟩ (λt v h' hp=>z9 hvs hp) (λb hb n h' st=>by
   rw[ay.mp hb]; obtain⟨o,e,_,ed⟩:=st.1.1; exact⟨o,e,fA ed⟩) hin (λb hb=>hb) (λb hb=>ay.mp hb▸.head _) sV
 ·have hl:h.IsTuple D vs.toArray:=hl;refine qC hl ?_;have W:=lX (prog:=aH.row.prog) (w:=c.w) (A:=c.A f) h.objs.size D (aY hlt) vs.toArray;rw[hlen] at W
  exact jC (ws:=[h.objs.size]) i kp (iL W λn v s Q E st q=>let ⟨o,e,ec,_⟩:=st.1.1; pQ e ec (by decide) q) (λs Q E st h=>W.self 0 s Q E st h) ⟨⟨⟨_,aE _ rfl,rfl,rfl⟩,hl.push _⟩,(O.h.at i).keep kp⟩ (λt v h' hp=>z9 hvs hp) (λb hb n h' st=>by
   rw[ay.mp hb]; obtain⟨o,e,_,ed⟩:=st.1.1; exact⟨o,e,fA ed⟩) hin (λb hb=>hb) (λb hb=>ay.mp hb▸.head _) sV
end
structure InvC (f:Fs)(c:Cx)(V:Vm)(m:Str->Option af)(C:aj)(V':Vm)(m₂:Str->Option af)(as:List aj)(Os:List SO)(h:aL):Prop where
 i:Inv f c V m as Os h
 n:h.Ns C m₂
 M:Mem as V' m₂
theorem uc {C:aj}(n:h.Ns C m)(e:h.get? C=PD o):¬ IsRec o:=by
 obtain⟨o',es,ep,ho,hd,_⟩:=n;rw[e] at ho; cases ho;rintro ⟨vs,s,t,e1,_⟩;rw[hd] at e1; cases e1
section
variable {f:Fs}{c:Cx}{V V':Vm}{m m₂:Str->Option af}{as:List aj}{Os:List SO}{h h':aL}{C:aj}
theorem sX (hC:C≠c.L)(ht:c.tb=PG->C≠54/\C≠61):IOk f c (InvC f c V m C V' m₂):=λas Os h i=>⟨V,m,i.i,λbs ys h' i' kp=>⟨i',let ⟨o,es,ep,ho,r⟩:=i.n; ⟨o,es,ep,kp _ _ hC ht ho,r⟩,i.M.up⟩⟩
def Gq (w:aB)(f:Fs)(scope:dC)(V':Vm)(Os:List SO)(x:Str):Option PV:=
 if(x == ("__debug__":Str))=PG then PF else(scope.names.lookup x).bind λk=>k.casesOn (V'.lookup x) PF (if f.sc.names.lookup x=PD .cell then cellP f.CM Os x else PF) PF (GZ w x)
theorem sG {env:Env}{k:l7}(hk:env.scope.kind=.function)(h:scope.names.lookup x=PD k):
  (compEnvC scope cl C env).kindOf x=PD (if k=.free/\env.kindOf x=PD .cell then .cell else k):=by
 refine(?_:(scope.names.map λ(n,k)=>if(k == dD&&env.scope.kind == .function&&env.kindOf n == PD .cell) then(n,NameKind.cell) else(n,k)).lookup x=_);generalize scope.names=names at h
 induction names with
 | nil=>cases h
 | cons q r ih=>
  obtain⟨n,k'⟩:=q;rw[bv] at h;rw[ft];refine(?_:Oc x ((if(k' == dD&&env.scope.kind == .function&&env.kindOf n == PD .cell)=PG then(n,NameKind.cell) else(n,k')) :: _)=_);cases hx:x == n with
  | true=>
   rw[hx] at h;have h:k'=k:=ac h;subst h;have:=eq_of_beq hx; subst this
   by_cases hc:k'=.free/\env.kindOf x=PD .cell
   ·rw[if_pos hc,if_pos (by rw[hc.1,hc.2,hk]; rfl),bv,beq_self_eq_true]
   ·rw[if_neg hc,if_neg (λq=>hc (by simp only[aq,beq_iff_eq] at q; exact⟨q.1.1,q.2⟩)),bv,beq_self_eq_true]
  | false=>
   rw[hx] at h;have ih:=ih h
   by_cases hc:(k' == dD&&env.scope.kind == .function&&env.kindOf n == PD .cell)=PG
   ·rw[if_pos hc,bv,hx]; exact ih
   ·rw[if_neg hc,bv,hx]; exact ih
theorem vM (O:c.Ok f)(hk:scope.kind=.function)(hcl:∀ x a,scope.names.lookup x=PD .free->c.cl.lookup x=PD a->cl.lookup x=PD a):ri ⟨f,c,compEnvC scope cl C (c.env f),InvC f c V m C V' m₂⟩ (Gq c.w f scope V'):=by
 intro Os x p e pos U as h k E Q hi hq;have hq:∀ v,p.is as v->Q v (sh c.s₀ h k):=λv hv=>hq v [] h k (KR hv) (I0 (I:=λas Os h=>InvC f c V m C V' m₂ as Os h) hi) Kp.refl;unfold Gq at e
 by_cases hdb:(x == ("__debug__":Str))=PG
 ·rw[if_pos hdb] at e; cases e
 rw[if_neg hdb] at e;have hd':(x == ("__debug__":Str))=PH:=jt.mpr hdb;have kd:(compEnvC scope cl C (c.env f)).scope.kind=.function:=hk;have rk:=λ{k} (h:scope.names.lookup x=PD k)=>sG (cl:=cl) (C:=C) (env:=c.env f) O.kd h;refine ak e λkk hx e=>?_;cases kk with
 | «local»=>
  obtain⟨v,hv,hp⟩:=hi.M _ _ e;exact dt (bQ kd ((rk hx).trans (by rw[if_neg (λq=>nomatch q.1)])) hi.n hv (hq v hp)) hd'
 | cell=>cases e
 | free=>
  have e:(if f.sc.names.lookup x=PD .cell then cellP f.CM Os x else PF)=PD p:=e
  by_cases hs:f.sc.names.lookup x=PD .cell
  ·rw[if_pos hs] at e;obtain⟨a,v,h1,h2,h3⟩:=p6 hi.i e;exact dt (wpAny_loadName_cell kd ((rk hx).trans (by rw[if_pos ⟨rfl,hs⟩])) (hcl x a hx h1) h2 (hq v h3)) hd'
  ·rw[if_neg hs] at e; cases e
 | globalExplicit=>cases e
 | globalImplicit=>
  have hx':=(rk hx).trans (by rw[if_neg (λq=>nomatch q.1)]);have T:=qG O.t;rcases xI e as with ⟨v,h1,h2⟩ | ⟨h1,h2,v,h3,rfl⟩
  ·exact dt (jk kd hx' (loadGlobal_global (env:=compEnvC scope cl C (c.env f)) (T.g.keeps hi.i.F.keep) (mg_of O.x T.g h1) (hq v h2))) hd'
  ·exact dt (jk kd hx' (qI (env:=compEnvC scope cl C (c.env f)) (T.g.keeps hi.i.F.keep) (Ig O.x T.g h1) (T.b.keeps hi.i.F.keep) ((T.builtins x h2).trans h3) (hq v rfl))) hd'
end
inductive Tg | one (x:Str) | tup (xs:List Str)
noncomputable def Vw.tup? (v:Vw):Option (List aw):=v.casesOn (λU=>PF) (λU=>PF) (λU U U=>PF) (λU U=>PF) (λU U U=>PF) (λU U U U=>PF) PD (λU=>PF) (λU U=>PF) (λU U U=>PF) (λU U U=>PF) (λU U U=>PF) (λU U=>PF) (λU U U=>PF) PF
theorem Vw.tup_is {v:Vw}{q:List aw}:v.tup?=PD q->v=.tup q:=v.casesOn (λU=>av) (λU=>av) (λU U U=>av) (λU U=>av) (λU U U=>av) (λU U U U=>av) (λU h=>congrArg Vw.tup (ac h)) (λU=>av) (λU U=>av) (λU U U=>av) (λU U U=>av) (λU U U=>av) (λU U=>av) (λU U U=>av) av
theorem tup_is {e:aw}{q:List aw}(h:(vw e).tup?=PD q):∃ k p,e=.Tuple q k p:=(Vw.tup_is h▸vw_is e:(Vw.tup q).is e)
def rA (e:aw):Option Tg:=((lB e).map Tg.one).or ((vw e).tup?.bind λes=>(iA es).map Tg.tup)
noncomputable def Tg.isT:Tg->Bool | .one _=>PH | .tup _=>PG
def oz:Vm->List Str->List PV->Option Vm
 | V,[],ps=>if ps.isEmpty then PD V else PF
 | V,x :: xs,ps=>ps.head?.bind λp=>oz (put V x p) xs ps.tail
def bindT:Tg->It->Option Vm
 | .one x,.one p=>PD [(x,p)]
 | .one _,.tup _=>PF
 | .tup xs,.tup ps=>oz [] xs ps
 | .tup _,.one _=>PF
def q8 {α:Type}(tg:Tg)(ts:Vm->Option (Bool×List SO×List Prop))(el:Vm->Option (α×List SO×List Prop)):List It->Option (List α×List Prop)
 | []=>PD ([],[])
 | q :: r=>(bindT tg q).bind λV'=>(ts V').bind λb=>if b.2.1.isEmpty=PG then(bif b.1 then(el V').bind λa=>if a.2.1.isEmpty=PG then(q8 tg ts el r).map λt=>(a.1 :: t.1,a.2.2++t.2) else PF else q8 tg ts el r).map λt=>(t.1,b.2.2++t.2) else PF
def qU (ev:EV)(Os:List SO):List aw->Option AnsB
 | []=>PD (PG,[],[])
 | e :: r=>if r.isEmpty then Cg ev Os e else PF
noncomputable def Tg.names:Tg->List Str | .one x=>[x] | .tup xs=>xs
theorem sr {tg:Tg}(h:rA e=PD tg):(∃ x p,e=.Name x p/\tg=.one x)\/∃ es k p xs,e=.Tuple es k p/\iA es=PD xs/\tg=.tup xs:=
 orE h (λh=>aZ h λx h1 eq=>.inl ((nam_is h1).elim λp hp=>⟨x,p,hp,eq⟩)) λh=>ak h λes h1 h=>aZ h λxs h2 eq=>.inr ((tup_is h1).elim λk hk=>hk.elim λp hp=>⟨es,k,p,xs,hp,h2,eq⟩)
section
variable {f:Fs}{c:Cx}{V V':Vm}{m m₂:Str->Option af}{as:List aj}{Os:List SO}{h h':aL}{C:aj}{scope:dC}{cl:List (Str×aj)}{env:Env}
theorem Ib (hk:scope.kind=.function){A:be}{s₀:ai}{Q:Unit->ai->Prop}{ts:List (af->Sem Unit)}(a:Acts A (compEnvC scope cl C env) ts xs):∀ {ps:List PV} {vs:List af} {V₀:Vm} {m₀:Str->Option af} {h:aL} {tk:Nat},(xs.all λx=>scope.names.lookup x == PD .local)=PG->oz V₀ xs ps=PD V'->IsAll as ps vs->h.Ns C m₀->Mem as V₀ m₀->
  (∀ h' tk m₂,h'.Ns C m₂->Mem as V' m₂->(∀ b o,b≠C->h.get? b=PD o->h'.get? b=PD o)->Q () (sh s₀ h' tk))->wpAny (MP w) A (assignInOrder ts vs) Q E (sh s₀ h tk):=by
 induction a with
 | nil=>exact λ{ps vs V₀ m₀ h tk} U e hv n M hq=>iteE e λU e=>aD (hq h tk m₀ n (ac e▸M) λU U U e=>e)
 | cons g _ ih=>exact λ{ps vs V₀ m₀ h tk} hl e hv n M hq=>ak e λp e1 e=>(head_tl e1▸hv:IsAll as (p :: ps.tail) vs).elim λv z=>z.elim λr z=>
   have hl:=(aq _ _).mp hl
   z.1▸assignInOrder_cons (g _ _ _ _ _ (cM (lookup_relabel_local (eq_of_beq hl.1)) n (λh' hn hs=>ih hl.2 e z.2.2 hn (sO M z.2.1) λh3 tk3 m3 n3 M3 k3=>hq h3 tk3 m3 n3 M3 λb o hb e=>k3 b o hb ((hs.2 b hb).trans e)) (by simp[compEnvC,relabel,hk])))
theorem uP:∀ {ps:List PV} {V₀:Vm},oz V₀ xs ps=PD V'->xs.length=ps.length:=by
 induction xs with
 | nil=>exact λ{U U} e=>iteE e λh U=>(congrArg lh (aX.mp h)).symm
 | cons x xs ih=>exact λ{U U} e=>ak e λp e1 e=>(congrArg fq (ih e)).trans (congrArg lh (head_tl e1)).symm
theorem Em (O:c.Ok f)(i:Inv f c V m as Os h)(hk:scope.kind=.function){tg:Tg}(ht:rA target=PD tg)(hl:(tg.names.all λx=>scope.names.lookup x == PD .local)=PG){x:It}(hb:bindT tg x=PD V')(hv:x.is as v h)(n:h.Ns C m₂)(hC:C≠c.L)(hC0:c.h₀.get? C=PF)
    {Q:Unit->ai->Prop} (hq:∀ h' tk m₂,h'.Ns C m₂->Mem as V' m₂->(∀ b o,b≠C->b≠c.L->h.get? b=PD o->h'.get? b=PD o)->Fr c.h₀ c.L h' m->Q () (sh c.s₀ h' tk)):wpAny (MP c.w) (c.A f) (assign target (compEnvC scope cl C (c.env f)) v) Q E (sh c.s₀ h tk):=by
 have fr:∀ {h1 h2:aL},Fr c.h₀ c.L h1 m->(∀ b o,b≠C->h1.get? b=PD o->h2.get? b=PD o)->Fr c.h₀ c.L h2 m:=λF k=>⟨F.ns.at' λo e=>k _ o hC.symm e,λb o e=>k b o (λq=>by rw[q,hC0] at e; cases e) (F.keep b o e),F.above⟩;rcases sr ht with ⟨x',p,rfl,rfl⟩ | ⟨es,kk,p,xs,rfl,hx,rfl⟩
 ·cases x with
  | tup _=>cases hb
  | one q=>
   cases hb;have hl':scope.names.lookup x'=PD .local:=eq_of_beq (by rw[Tg.names,fu,aq] at hl; exact hl.1);refine gW (cM (lookup_relabel_local hl') n (λh' hn hs=>?_) (by simp[compEnvC,relabel,hk]));refine hq h' _ _ hn (λy r e=>?_) (λb o hb U e=>(hs.2 b hb).trans e) (fr i.F λb o hb e=>(hs.2 b hb).trans e);rw[bv] at e;cases hy:y == x' with
   | true=>rw[hy] at e; cases e; exact⟨v,if_pos (eq_of_beq hy),hv⟩
   | false=>rw[hy] at e; cases e
 ·cases x with
  | one _=>cases hb
  | tup ps=>
   refine bU λG1 hG1=>?_;obtain⟨D,vs,rfl,hD,hvs⟩:=hv;obtain⟨N,NN,hN⟩:=gf c.h₀ h c.L;obtain⟨q1,q2⟩:=pY (env:=compEnvC scope cl C (c.env f)) hx;refine hG1 ?_;refine i8 i.F NN hD (by rw[q1,uP hb,<- hvs.len,aK]) q2 (λh'' F'' N''=>?_) (O.h.at i);have kp:=lf hN i.F F'' N'';have n'':h''.Ns C m₂:=let ⟨o,es,ep,ho,r⟩:=n; ⟨o,es,ep,kp _ _ hC ho,r⟩;exact Ib hk (r9 hx) hl hb hvs n'' (λU U e=>nomatch e) λh3 tk3 m3 n3 M3 k3=>hq h3 tk3 m3 n3 M3 (λb o hb hL e=>k3 b o hb (kp b o hL e)) (fr F'' k3)
end
end Nw
end
section
open PySem PySem.W PySem.Calls PySem.Spec PyProof.Rows Mine LCg
namespace Nw
variable {β α:Type}{tg:Tg}{f:Fs}{k tk:Nat}{env:Env}{x:Str}{pos:Pos}{D C b:aj}{e elt:aw}{h':aL}{it:af}{w:aB}{ev:Vm->EV}{scope:dC}{s:ai}{ys:List SO}{bs:List aj}{g:cD}{m':Str->Option af}{E Q:af->ai->Prop}{ld:List SO->Str->Option PV}{use:Option (af->Sem Unit)}{RR:af->aj->lK->ai->Prop}
section
variable {f:Fs}{c:Cx}{V:Vm}{m:Str->Option af}{as:List aj}{Os:List SO}{h:aL}{scope:dC}{cl:List (Str×aj)}{T:Tab}{target iter elt:aw}{ifs:List aw}{pos:Pos}{I:aj}{xs:List It}{K:List Nat}{fp wr ws:List aj}{P Md:Nat->af->aL->Prop}{St:Nat->aL->Prop}
structure CSt {α:Type}(Acc:List α->Obj->Prop)(f:Fs)(c:Cx)(V:Vm)(m:Str->Option af)(as:List aj)(Os:List SO)(St:Nat->aL->Prop)(wr:List aj)(D C:aj)(h₁:aL)(n:Nat)(dn:List α)(m':Str->Option af)(h:aL):Prop where
 st:St n h
 i:Inv f c V m as Os h
 n:h.Ns C m'
 d:∃ o,h.get? D=PD o/\Acc dn o
 k:∀ b o,b≠c.L->(c.tb=PG->b≠54/\b≠61)->b∉wr->h₁.get? b=PD o->h.get? b=PD o
structure CLo (c:Cx)(as:List aj)(Os:List SO)(fp:List aj)(D C:aj)(h:aL):Prop where
 oD:Off c as Os D
 oC:Off c as Os C
 dF:D∉fp
 cF:C∉fp
 ne:D≠C
 old:∀ b o,h.get? b=PD o->b≠C/\@k9 Nat _ b D
theorem CLo.nD {o:Obj}(L:CLo c as Os fp D C h)(e:h.get? b=PD o):b≠D:=aY (L.old b o e).2
theorem zu {u:Su}{ev:EV}(O:u.Ok)(H:fj u ev){es:List aw}{Os:List SO}{q:AnsB}(he:qU ev Os es=PD q)(hC:Al q.2.2){as:List aj}{h:aL}{Q:Bool->ai->Prop}(hi:u.I as Os h)
  (hq:∀ bs h' k',u.I (as++bs) (Os++q.2.1) h'->Kp u.c h h'->Q q.1 (sh u.c.s₀ h' k')):wpAny (MP u.c.w) (u.c.A u.f) (sw u.env es) Q E (sh u.c.s₀ h k):=by
 cases es with
 | nil=>cases he; exact wpAny_tests_nil (hq [] _ _ (I0 hi) Kp.refl)
 | cons e r=>
  cases r with
  | nil=>exact wpAny_tests_one (oR O H he hC _ _ _ _ _ hi hq)
  | cons _ _=>cases he
def B8 (e target iter:aw)(ifs:List aw)(emit:Sem Unit)(it:af)(D:aj)(env:Env):Prop:=compTurn e 0 it (.ref D) env=(do
   standAt iter.pos
   match <- pyNext it with
   | none=>pure (.done .next)
   | some v=>
    letOwnedTupleGo target it v
    assign target env v
    let mut ok:=PG
    for c in ifs do
     if ok then ok <- isTrue c env (eval c env)
    if ok then
     emit
    again (.compLoop e 0 it (.ref D) env))
theorem tm {emit:Sem Unit}{A:be}{R:lK->ai->Prop}(hu:A.under (.compLoop e 0 it (.ref D) env)=A/\(MP w).den (.compLoop e 0 it (.ref D) env)=(compTurn e 0 it (.ref D) env).onRaise λx=>do noteFrame x env; theTreesLotGoes x)(ht:B8 e target iter ifs emit it D env)(I:Nat->ai->Prop)
  (turn:∀ n s,I n s->wpAny (MP w) A (pyNext it) (λr s₁=>match r with
   | none=>R (.ok .next) s₁
   | some v=>wpAny (MP w) A (letOwnedTupleGo target it v) (λU s₁'=>wpAny (MP w) A (assign target env v) (λU s₂=>
     wpAny (MP w) A (sw env ifs) (λok s₃=>
      if ok=PG then wpAny (MP w) A emit (λU s₅=>∃ m,m<n/\I m s₅) (notedBy (MP w) A env λe s'=>R (.error e) s') s₃
      else ∃ m,m<n/\I m s₃) (notedBy (MP w) A env λe s'=>R (.error e) s') s₂) (notedBy (MP w) A env λe s'=>R (.error e) s') s₁')
     (notedBy (MP w) A env λe s'=>R (.error e) s') s₁) (notedBy (MP w) A env λe s'=>R (.error e) s') s)
  (n:Nat) (h:I n s):codeAny (MP w) A (.compLoop e 0 it (.ref D) env) R s:=by
 refine codeAny_loop rfl I (λn s hI=>?_) n h;rw[hu.1,hu.2];refine wpAny_noted ?_;rw[show _=_ from ht];refine ab (da (ab (aU (turn n s hI) (λr s₁ h₁=>?_) λU U h'=>h')));cases r with
 | none=>exact aD h₁
 | some v=>
  refine ab (aU h₁ (λU s₁' h₁'=>?_) λU U h'=>h');refine ab (aU h₁' (λU s₂ h₂=>ab (aU h₂ (λok s₃ h₃=>?_) λU U h'=>h')) λU U h'=>h');cases ok with
  | false=>exact aD ⟨rfl,h₃⟩
  | true=>exact ab (aU h₃ (λU s₅ h₅=>aD ⟨rfl,h₅⟩) λU U h'=>h')
structure Snk (α:Type) where
 e:aw
 nw:Sem af
 o₀:Obj
 emit:aj->Env->Sem Unit
 Acc:List aj->List α->Obj->Prop
 y:List α->SO
structure SnkOk {α:Type}(f:Fs)(c:Cx)(V:Vm)(m:Str->Option af)(as:List aj)(Os:List SO)(scope:dC)(cl:List (Str×aj))(target iter:aw)(ifs:List aw)(K:Snk α)(el:Vm->Option (α×List SO×List Prop)):Prop where
 nw:∀ {A:be} {E Q:af->ai->Prop} {s:ai},Q (.ref s.heap.objs.size) { s with heap:=s.heap.push K.o₀ }->wpAny (MP c.w) A K.nw Q E s
 fr:K.o₀.isFreed=PH
 a0:K.Acc as [] K.o₀
 nr:∀ {dn o},K.Acc as dn o->¬ IsRec o
 y:∀ {dn o} (D:aj),K.Acc as dn o->(K.y dn).is (as++[D]) o
 yo:∀ dn,(K.y dn).own
 turn:∀ (it:af) (D:aj) (env:Env),B8 K.e target iter ifs (K.emit D env) it D env
 go:∀ (A:be) (it:af) (D:aj) (env:Env),A.under (.compLoop K.e 0 it (.ref D) env)=A/\(MP c.w).den (.compLoop K.e 0 it (.ref D) env)=(compTurn K.e 0 it (.ref D) env).onRaise λx=>do noteFrame x env; theTreesLotGoes x
 start:∀ {A:be} {it:af} {D:aj} {env:Env} {R:lK->ai->Prop} {s:ai},codeAny (MP c.w) A (.compLoop K.e 0 it (.ref D) env) R s->wpAny (MP c.w) A (pyIter it) (λit' s'=>codeAny (MP c.w) A (.compLoop K.e 0 it' (.ref D) env) R s') (notedBy (MP c.w) A env λx s'=>R (.error x) s') s->codeAny (MP c.w) A (.compStart K.e 0 it (.ref D) env) R s
 emit:∀ {C D:aj} {V':Vm} {m₂:Str->Option af} {a:α×List SO×List Prop} {dn:List α} {o:Obj} {h:aL} {k:Nat} {Q:Unit->ai->Prop} {E:af->ai->Prop},C≠c.L->(c.tb=PG->C≠54/\C≠61)->Off c as Os D->el V'=PD a->a.2.1=[]->Al a.2.2->dn.length<=64->InvC f c V m C V' m₂ as Os h->h.get? D=PD o->K.Acc as dn o->
  (∀ h1 h2 k2 o',InvC f c V m C V' m₂ as Os h1->Kp c h h1->h1.get? D=PD o->dI D h1 h2->h2.get? D=PD o'->K.Acc as (dn++[a.1]) o'->Q () (sh c.s₀ h2 k2))->wpAny (MP c.w) (c.A f) (K.emit D (compEnvC scope cl C (c.env f))) Q E (sh c.s₀ h k)
section
variable {S:Src f c as Os h target I xs K fp wr ws P Md St}
theorem Src.off (S:Src f c as Os h target I xs K fp wr ws P Md St)(i:Inv f c V m as Os h)(ne:∀ b o,h.get? b=PD o->b≠D):Off c as Os D/\D∉fp:=
 have no:∀ {o},¬ h.get? D=PD o:=λe=>ne D _ e rfl
 ⟨⟨λq=>i.F.ns.elim λo z=>z.elim λU z=>z.elim λU z=>ne _ o z.1 q.symm,cU.mpr λo e=>no (i.F.keep _ _ e),λj x e1 e2 hw=>(i.ob _ _ _ e1 e2 hw.live).elim λU z=>no z.2.1,
  λht=>⟨λq=>(i.t1 ht).elim λU z=>ne _ _ z.1 q.symm,λq=>(i.t2 ht).elim λU z=>ne _ _ z.1 q.symm⟩,λq hq=>ne _ _ (i.pn q hq).1⟩,
  λhf=>(S.hfp D hf).elim (λhb=>(S.live D hb 0 h S.st).elim λU z=>no z.1) λz=>z.elim (λz=>z.elim λU z=>no (i.stay _ _ z)) λz=>z.elim λU z=>z.elim λU z=>(i.ob _ _ _ z.2.1 z.2.2.1 z.2.2.2.live).elim λU z=>no z.2.1⟩
theorem Apart.snoc {x:SO}(hA:Apart as Os b)(l:as.length=Os.length)(ne:D≠b):Apart (as++[D]) (Os++[x]) b:=λj y e1 e2 hw=>
 (jI e1).elim (λz=>hA j y z.2 ((dW (l▸z.1)).symm.trans e2) hw) λz=>ne (ay.mp (dr z.2)).symm
theorem Src.wrO (S:Src f c as Os h target I xs K fp wr ws P Md St)(hb:b∈wr):b∈fp/\Off c as Os b:=
 have z:=S.hws b (S.hwr b hb)
 ⟨z.1,z.2.1,z.2.2.1,z.2.2.2.1,z.2.2.2.2.1,z.2.2.2.2.2⟩
theorem Src.keep (S:Src f c as Os h target I xs K fp wr ws P Md St){D C:aj}{h₀ h' h'':aL}{n:Nat}(L:CLo c as Os fp D C h₀)(i:Inv f c V m as Os h')(F:Fr c.h₀ c.L h'' m)(k:∀ b o,b≠C->b≠D->b≠c.L->(c.tb=PG->b≠54/\b≠61)->h'.get? b=PD o->h''.get? b=PD o)(st:St n h'):St n h'':=
 S.W.frame _ _ _ st λb hb o e=>
  have go:=k b o (λq=>L.cF (q▸hb)) λq=>L.dF (q▸hb)
  (S.hfp b hb).elim (λhw=>have z:=S.hws b hw; go z.2.1 z.2.2.2.2.1 e) λz=>z.elim (λz=>z.elim λU z=>z.elim (λz=>(F.keep _ _ z).trans ((i.F.keep _ _ z).symm.trans e)) λz=>have q:=i.pn _ z; go q.2.1 q.2.2.2 e) λz=>z.elim λj z=>z.elim λx z=>
   have hw:=z.2.2.2
   (i.ob _ _ _ z.2.1 z.2.2.1 hw.live).elim λU q=>go (q.2.2.1 hw).1 (λht=>⟨λq=>(i.t1 ht).elim λU A=>A.2.2.2.1 j x (q▸z.2.1) z.2.2.1 hw,λq=>(i.t2 ht).elim λU A=>A.2.2.2.1 j x (q▸z.2.1) z.2.2.1 hw⟩) e
variable {α:Type}{Acc:List α->Obj->Prop}{D C:aj}{h₁ h':aL}{n n':Nat}{St':Nat->aL->Prop}{dn dn':List α}{m' m₂:Str->Option af}{V':Vm}
theorem CSt.step (Z:CSt Acc f c V m as Os St wr D C h₁ n dn m' h)(X:aj->Prop)(hX:∀ b,X b->Off c as Os b/\(∀ o,h.get? b=PD o->¬ IsRec o)/\(b∈wr\/∀ o,¬ h₁.get? b=PD o))(F:Fr c.h₀ c.L h' m)(kp:∀ b o,¬ X b->b≠c.L->h.get? b=PD o->h'.get? b=PD o)(st:St' n' h')(ns:h'.Ns C m₂)(d:∃ o,h'.get? D=PD o/\Acc dn' o):CSt Acc f c V m as Os St' wr D C h₁ n' dn' m₂ h':=
 ⟨st,Z.i.keepX X (λb hb=>have z:=hX b hb; ⟨z.1.a,z.1.t,z.1.p,λU=>z.2.1⟩) F kp,ns,d,λb o h1 h2 h3 e=>kp b o (λx=>(hX b x).2.2.elim h3 λq=>q o e) h1 (Z.k b o h1 h2 h3 e)⟩
theorem CSt.atWr (S:Src f c as Os h₁ target I xs K fp wr ws P Md St)(L:CLo c as Os fp D C h₁)(Z:CSt Acc f c V m as Os St wr D C h₁ n dn m' h)(kk:∀ b o,b∉wr->h.get? b=PD o->h'.get? b=PD o)(st:St' n' h'):CSt Acc f c V m as Os St' wr D C h₁ n' dn m' h':=
 Z.step (·∈wr) (λb hb=>⟨(S.wrO hb).2,λo e=>(S.live b (S.hwr b hb) n h Z.st).elim λo' g=>ac (g.1.symm.trans e)▸g.2,.inl hb⟩) (Z.i.frX (·∈wr) (λb hb=>⟨(S.wrO hb).2.L,(S.wrO hb).2.g⟩) kk) (λb o hb U e=>kk b o hb e) st (Z.n.at' λo e=>kk _ o (λq=>L.cF (S.wrO q).1) e) (Z.d.imp λo d=>⟨kk _ _ (λq=>L.dF (S.wrO q).1) d.1,d.2⟩)
theorem CSt.next (S:Src f c as Os h₁ target I xs K fp wr ws P Md St)(L:CLo c as Os fp D C h₁)(Z:CSt Acc f c V m as Os St wr D C h₁ n dn m' h)(hlt:n<xs.length){x:It}(ex:xs[n]?=PD x){R:ai->Prop}{E':af->ai->Prop}(hq:∀ v h3 tk3,x.is as v h3->CSt Acc f c V m as Os St wr D C h₁ (n+1) dn m' h3->Q v (sh c.s₀ h3 tk3)):
  wpAny (MP c.w) (c.A f) (pyNext (.ref I)) (λr s₁=>match r with | none=>R s₁ | some v=>wpAny (MP c.w) (c.A f) (letOwnedTupleGo target (.ref I) v) (λU s=>Q v s) E' s₁) E (sh c.s₀ h tk):=
 S.W.item n (sh c.s₀ h tk) _ _ hlt Z.st λv h2 tk2 hMd hk2=>S.W.go n v (sh c.s₀ h2 tk2) _ _ hMd λh3 hP st3 hk3=>(S.it n v h3 hP).elim λy hy=>hq v h3 tk2 (ac (hy.1.symm.trans ex)▸hy.2) (Z.atWr S L (λb o hb e=>hk3 b o hb (hk2 b o hb e)) st3)
theorem CSt.asg (S:Src f c as Os h₁ target I xs K fp wr ws P Md St)(L:CLo c as Os fp D C h₁)(O:c.Ok f)(Z:CSt Acc f c V m as Os St wr D C h₁ n dn m' h)(hk:scope.kind=.function)(ht:rA target=PD tg)(hl:(tg.names.all λx=>scope.names.lookup x == PD .local)=PG){x:It}(hb:bindT tg x=PD V'){v:af}(hv:x.is as v h){Q:Unit->ai->Prop}
  (hq:∀ h' tk m₂,Mem as V' m₂->CSt Acc f c V m as Os St wr D C h₁ n dn m₂ h'->Q () (sh c.s₀ h' tk)):wpAny (MP c.w) (c.A f) (assign target (compEnvC scope cl C (c.env f)) v) Q E (sh c.s₀ h tk):=
 Em O Z.i hk ht hl hb hv Z.n L.oC.L L.oC.g λh4 tk4 m₂ n4 M4 k4 F4=>hq h4 tk4 m₂ M4 (Z.step (·=C) (λb hb=>hb▸⟨L.oC,λo e=>uc Z.n e,.inr λo e=>(L.old C o e).1 rfl⟩) F4 k4 (S.keep L Z.i F4 (λb o h1 U h3 U e=>k4 b o h1 h3 e) Z.st) n4 (Z.d.imp λo d=>⟨k4 _ _ L.ne L.oD.L d.1,d.2⟩))
theorem InvC.nil (i:InvC f c V m C V' m₂ (as++bs) (Os++ys) h)(l:as.length=Os.length)(hy:ys=[]):InvC f c V m C V' m₂ as Os h:=by
 have l6:=i.i.len;rw[hy,ao,aJ,l] at l6;rw[hy,ao,bE.mp (Nat.add_eq_left.mp l6),ao] at i;exact i
theorem CSt.kp (S:Src f c as Os h₁ target I xs K fp wr ws P Md St)(L:CLo c as Os fp D C h₁)(Z:CSt Acc f c V m as Os St wr D C h₁ n dn m' h)(i:InvC f c V m C V' m₂ as Os h')(kp:Kp c h h'):CSt Acc f c V m as Os St wr D C h₁ n dn m₂ h':=
 ⟨S.keep L Z.i i.i.F (λb o U U h3 h4 e=>kp b o h3 h4 e) Z.st,i.i,i.n,Z.d.imp λo d=>⟨kp _ _ L.oD.L L.oD.t d.1,d.2⟩,λb o h1 h2 h3 e=>kp b o h1 h2 (Z.k b o h1 h2 h3 e)⟩
theorem CSt.emit {N:Snk α}{el:Vm->Option (α×List SO×List Prop)}(NO:SnkOk f c V m as Os scope cl target iter ifs N el)(S:Src f c as Os h₁ target I xs K fp wr ws P Md St)(L:CLo c as Os fp D C h₁)(Z:CSt (N.Acc as) f c V m as Os St wr D C h₁ n dn m₂ h)(M:Mem as V' m₂){a:α×List SO×List Prop}(he:el V'=PD a)(hz:a.2.1=[])(hC:Al a.2.2)(hl:dn.length<=64){tk:Nat}{E:af->ai->Prop}{Q:Unit->ai->Prop}
  (hq:∀ h' tk,CSt (N.Acc as) f c V m as Os St wr D C h₁ n (dn++[a.1]) m₂ h'->Q () (sh c.s₀ h' tk)):wpAny (MP c.w) (c.A f) (N.emit D (compEnvC scope cl C (c.env f))) Q E (sh c.s₀ h tk):=
 Z.d.elim λoA d=>NO.emit L.oC.L L.oC.t L.oD he hz hC hl ⟨Z.i,Z.n,M⟩ d.1 d.2 λh6 h7 k7 o7 i6 kp6 d6 hs hD hA=>
  have k7:∀ b o,b≠D->h6.get? b=PD o->h7.get? b=PD o:=λb o hb e=>(hs.2 b hb).trans e;have F7:Fr c.h₀ c.L h7 m:=i6.i.frX (·=D) (λb hb=>hb▸⟨L.oD.L,L.oD.g⟩) k7;have Z6:=Z.kp S L i6 kp6
  hq h7 _ (Z6.step (·=D) (λb hb=>hb▸⟨L.oD,λo e=>ac (d6.symm.trans e)▸NO.nr d.2,.inr λo e=>L.nD e rfl⟩) F7 (λb o hb U e=>k7 b o hb e) (S.keep L i6.i F7 (λb o U h2 U U e=>k7 b o h2 e) Z6.st) (Z6.n.at' λo e=>k7 _ o L.ne.symm e) ⟨o7,hD,hA⟩)
inductive CHd (Z:Nat->List α->(Str->Option af)->aL->Prop)(cm:List It->Option (List α×List Prop))(s₀:ai)(xs:List It)(qs:List α)(k:Nat):ai->Prop
 | mk (h:aL) (tk n:Nat) (dn:List α) (m':Str->Option af) (ys:List It) (p:List α×List Prop) (hy:xs.drop n=ys) (hn:n+ys.length=xs.length) (hk:k=ys.length) (hd:dn.length<=n) (z:Z n dn m' h) (hm:cm ys=PD p) (hC:Al p.2) (hq:dn++p.1=qs):CHd Z cm s₀ xs qs k (sh s₀ h tk)
theorem LW {p:Prop}[Decidable p]{A B:Prop}(h1:p->A)(h2:¬ p->B):if p then A else B:=by
 by_cases hp:p
 ·rw[if_pos hp]; exact h1 hp
 ·rw[if_neg hp]; exact h2 hp
theorem Mp {b:Bool}{x y:β}{z:β}(h:(bif b then x else y)=z)(hb:b=PG):x=z:=by rw[hb] at h; exact h
theorem Mq {b:Bool}{x y:β}{z:β}(h:(bif b then x else y)=z)(hb:¬ b=PG):y=z:=by rw[jt.mpr hb] at h; exact h
theorem CLo.new (S:Src f c as Os h target I xs K fp wr ws P Md St)(i:Inv f c V m as Os h){o₀ o₁:Obj}(hf:o₀.isFreed=PH)(hs:dI (h.push o₀).objs.size ((h.push o₀).push o₁) h₁):CLo c as Os fp h.objs.size (h.push o₀).objs.size h/\(∀ b o,h.get? b=PD o->h₁.get? b=PD o)/\h₁.get? h.objs.size=PD o₀:=
 have hC:(h.push o₀).objs.size=h.objs.size+1:=bW ..;have lt:∀ b o,h.get? b=PD o->@k9 Nat _ b h.objs.size:=λb o e=>aO e;have n1:∀ b o,h.get? b=PD o->b≠h.objs.size:=λb o e=>aY (lt b o e);have n2:∀ b o,h.get? b=PD o->b≠(h.push o₀).objs.size:=λb o e q=>aY (bF (lt b o e)) (q.trans hC);have ne:h.objs.size≠(h.push o₀).objs.size:=λq=>aY (cC _) (q.trans hC)
 ⟨⟨(S.off i n1).1,(S.off i n2).1,(S.off i n1).2,(S.off i n2).2,ne,λb o e=>⟨n2 b o e,lt b o e⟩⟩,λb o e=>hs.extBut b o (n2 b o e) (ag _ (ag _ e)),hs.extBut _ _ ne (ag _ (aE _ hf))⟩
end
theorem yP {N:Snk α}{el:Vm->Option (α×List SO×List Prop)}(NO:SnkOk f c V m as Os scope cl target iter ifs N el)(S:Src f c as Os h target I xs K fp wr ws P Md St)(L:CLo c as Os fp D C h){qs:List α}
  (hRR:∀ D C h' tk' m',Inv f c V m (as++[D]) (Os++[N.y qs]) h'->h'.Ns C m'->Off c (as++[D]) (Os++[N.y qs]) C->(∀ b o,b≠c.L->(c.tb=PG->b≠54/\b≠61)->b∉wr->h.get? b=PD o->h'.get? b=PD o)->(∀ b o,h.get? b=PD o->b≠C/\@k9 Nat _ b D)->RR (.ref D) C (.ok .next) (sh c.s₀ h' tk'))
   {n:Nat} {dn:List α}  (hn:n=xs.length) (Z:CSt (N.Acc as) f c V m as Os St wr D C h n dn m' h') (hq:dn=qs)  :
  wpAny (MP c.w) (c.A f) (pyNext (.ref I)) (λr s₁=>match r with | none=>RR (.ref D) C (.ok .next) s₁ | some v=>Q v s₁) E (sh c.s₀ h' tk):=
 S.W.done (sh c.s₀ h' tk) _ _ (hn▸Z.st) λh2 tk2 hk2=>
  have Z2:CSt (N.Acc as) f c V m as Os (λU U=>True) wr D C h n qs m' h2:=hq▸Z.atWr S L hk2 PI
  Z2.d.elim λoA d=>hRR D C h2 tk2 m' (Z2.i.add L.oD (NO.y D d.2) d.1 (NO.yo qs)) Z2.n ⟨L.oC.L,L.oC.g,L.oC.a.snoc Z2.i.len L.ne,L.oC.t,L.oC.p⟩ Z2.k L.old
theorem yO {N:Snk α}{el:Vm->Option (α×List SO×List Prop)}(NO:SnkOk f c V m as Os scope cl target iter ifs N el)(O:c.Ok f)(hev:∀ C,C≠c.L->(c.tb=PG->C≠54/\C≠61)->∀ V' m₂,fj ⟨f,c,compEnvC scope cl C (c.env f),InvC f c V m C V' m₂⟩ (ev V'))(S:Src f c as Os h target I xs K fp wr ws P Md St)(L:CLo c as Os fp D C h)
  (ht:rA target=PD tg) (hln:(tg.names.all λx=>scope.names.lookup x == PD .local)=PG) (hkind:scope.kind=.function) {qs:List α} (hl:xs.length<=64) 
  (hRR:∀ D C h' tk' m',Inv f c V m (as++[D]) (Os++[N.y qs]) h'->h'.Ns C m'->Off c (as++[D]) (Os++[N.y qs]) C->(∀ b o,b≠c.L->(c.tb=PG->b≠54/\b≠61)->b∉wr->h.get? b=PD o->h'.get? b=PD o)->(∀ b o,h.get? b=PD o->b≠C/\@k9 Nat _ b D)->RR (.ref D) C (.ok .next) (sh c.s₀ h' tk'))
    (z:CHd (CSt (N.Acc as) f c V m as Os St wr D C h) (q8 tg (λV'=>qU (ev V') Os ifs) el) c.s₀ xs qs k s):
  wpAny (MP c.w) (c.A f) (pyNext (.ref I)) (λr s₁=>match r with
   | none=>RR (.ref D) C (.ok .next) s₁
   | some v=>wpAny (MP c.w) (c.A f) (letOwnedTupleGo target (.ref I) v) (λU s₁'=>wpAny (MP c.w) (c.A f) (assign target (compEnvC scope cl C (c.env f)) v) (λU s₂=>
     wpAny (MP c.w) (c.A f) (sw (compEnvC scope cl C (c.env f)) ifs) (λok s₃=>
      if ok=PG then wpAny (MP c.w) (c.A f) (N.emit D (compEnvC scope cl C (c.env f))) (λU s₅=>∃ j,j<k/\CHd (CSt (N.Acc as) f c V m as Os St wr D C h) (q8 tg (λV'=>qU (ev V') Os ifs) el) c.s₀ xs qs j s₅) (notedBy (MP c.w) (c.A f) (compEnvC scope cl C (c.env f)) λe s'=>RR (.ref D) C (.error e) s') s₃
      else ∃ j,j<k/\CHd (CSt (N.Acc as) f c V m as Os St wr D C h) (q8 tg (λV'=>qU (ev V') Os ifs) el) c.s₀ xs qs j s₃) (notedBy (MP c.w) (c.A f) (compEnvC scope cl C (c.env f)) λe s'=>RR (.ref D) C (.error e) s') s₂) (notedBy (MP c.w) (c.A f) (compEnvC scope cl C (c.env f)) λe s'=>RR (.ref D) C (.error e) s') s₁')
     (notedBy (MP c.w) (c.A f) (compEnvC scope cl C (c.env f)) λe s'=>RR (.ref D) C (.error e) s') s₁) (notedBy (MP c.w) (c.A f) (compEnvC scope cl C (c.env f)) λe s'=>RR (.ref D) C (.error e) s') s:=by
 refine z.casesOn λh' tk' n dn m' ys p hy hn hk hd Z hm hCp hq=>?_;cases ys with
 | nil=>exact yP NO S L hRR ((wB n).symm.trans hn) Z (by have e:PD ([],[])=PD p:=hm; rw[<- ac e,ao] at hq; exact hq)
 | cons y r=>
  have hlt:n<xs.length:=hn▸jX (fT _);have ex:xs[n]?=PD y:=by have e:=List.getElem?_drop (xs:=xs) (i:=n) (j:=0); rw[hy] at e; exact e.symm
  have hr:xs.drop (n+1)=r:=by rw[<- List.tail_drop,hy]; rfl
  have hn1:n+1+r.length=xs.length:=(Nat.succ_add_eq_add_succ n r.length).trans hn;have lk:r.length<k:=hk▸cC _;have hm:((bindT tg y).bind λV'=>(qU (ev V') Os ifs).bind λb=>if b.2.1.isEmpty=PG then(bif b.1 then(el V').bind λa=>if a.2.1.isEmpty=PG then(q8 tg (λV'=>qU (ev V') Os ifs) el r).map λt=>(a.1 :: t.1,a.2.2++t.2) else PF else q8 tg (λV'=>qU (ev V') Os ifs) el r).map λt=>(t.1,b.2.2++t.2) else PF)=PD p:=hm;refine ak hm λV' e1 hm=>ak hm λb e2 hm=>iteE hm λhz hm=>aZ hm λt e3 eq=>?_;have hCb:Al (t.1,b.2.2++t.2).2:=eq▸hCp;have hqt:dn++t.1=qs:=by rw[eq] at hq; exact hq
  exact Z.next S L hlt ex λv h3 tk3 hv Z3=>Z3.asg S L O hkind ht hln e1 hv λh4 tk4 m₂ M4 Z4=>zu (u:=⟨f,c,compEnvC scope cl C (c.env f),InvC f c V m C V' m₂⟩) ⟨sX L.oC.L L.oC.t,O.h,O.u2⟩ (hev C L.oC.L L.oC.t V' m₂) e2 (Al.left hCb) ⟨Z4.i,Z4.n,M4⟩ λbs5 h5 k5 i5 kp5=>
   have j5:=i5.nil Z4.i.len (aX.mp hz);have Z5:=Z4.kp S L j5 kp5
   LW (λhb=>ak (Mp e3 hb) λa e4 e5=>iteE e5 λha e6=>aZ e6 λt' e7 eq'=>
    have hCa:Al (a.1 :: t'.1,a.2.2++t'.2).2:=eq'▸Al.right hCb
    Z5.emit NO S L j5.M e4 (aX.mp ha) (Al.left hCa) (ar hd (ar (bN hlt) hl)) λh7 k7 Z7=>⟨r.length,lk,.mk h7 k7 (n+1) (dn++[a.1]) m₂ r t' hr hn1 rfl (by rw[aJ]; exact fU hd) Z7 e7 (Al.right hCa) (by rw[eq'] at hqt; rw[au]; exact hqt)⟩)
   λhb=>⟨r.length,lk,.mk h5 k5 (n+1) dn m₂ r t hr hn1 rfl (cq hd) Z5 (Mq e3 hb) (Al.right hCb) hqt⟩
theorem wg {N:Snk α}{el:Vm->Option (α×List SO×List Prop)}(NO:SnkOk f c V m as Os scope cl target iter ifs N el)(O:c.Ok f)(hev:∀ C,C≠c.L->(c.tb=PG->C≠54/\C≠61)->∀ V' m₂,fj ⟨f,c,compEnvC scope cl C (c.env f),InvC f c V m C V' m₂⟩ (ev V'))(S:Src f c as Os h target I xs K fp wr ws P Md St)(i:Inv f c V m as Os h)(hcell:∀ y∈scope.names,y.2≠.cell)(hkind:scope.kind=.function)
  (ht:rA target=PD tg) (hln:(tg.names.all λx=>scope.names.lookup x == PD .local)=PG) {qs:List α} {C0:List Prop} (hm:q8 tg (λV'=>qU (ev V') Os ifs) el xs=PD (qs,C0)) (hC:Al C0) (hl:xs.length<=64)
    
  (hRR:∀ D C h' tk' m',Inv f c V m (as++[D]) (Os++[N.y qs]) h'->h'.Ns C m'->Off c (as++[D]) (Os++[N.y qs]) C->(∀ b o,b≠c.L->(c.tb=PG->b≠54/\b≠61)->b∉wr->h.get? b=PD o->h'.get? b=PD o)->(∀ b o,h.get? b=PD o->b≠C/\@k9 Nat _ b D)->RR (.ref D) C (.ok .next) (sh c.s₀ h' tk')):
  wpAny (MP c.w) (c.A f) N.nw (λacc s₃=>wpAny (MP c.w) (c.A f) (newFunctionEnv scope (c.env f).globals cl [] (c.env f).qual PF .none (PD (c.env f))) (λcenv s₄=>
   codeAny (MP c.w) (c.A f) (.compStart N.e 0 (.ref I) acc { cenv with scope:=relabel scope (c.env f) }) (RR acc cenv.locals) s₄) E s₃) E (sh c.s₀ h tk):=
 NO.nw (wpAny_newFunctionEnv hcell (λU hy=>nomatch hy) (λh₁ ns₁ hs₁=>have q:=CLo.new S i NO.fr hs₁
  have L:=q.1;have i₁:Inv f c V m as Os h₁:=i.keep (i.F.keeps q.2.1) λb o U e=>q.2.1 b o e;have start:CSt (N.Acc as) f c V m as Os St wr h.objs.size (h.push N.o₀).objs.size h 0 [] _ h₁:=⟨S.W.frame _ _ _ S.st λb U o e=>q.2.1 b o e,i₁,ns₁,⟨_,q.2.2,NO.a0⟩,λb o U U U e=>q.2.1 b o e⟩
  have loop:codeAny (MP c.w) (c.A f) (.compLoop N.e 0 (.ref I) (.ref h.objs.size) (compEnvC scope cl (h.push N.o₀).objs.size (c.env f))) (RR (.ref h.objs.size) (h.push N.o₀).objs.size) (sh c.s₀ h₁ (tk+([]:List (Str×af)).length)):=
   tm (NO.go _ _ _ _) (NO.turn _ _ _) (CHd (CSt (N.Acc as) f c V m as Os St wr h.objs.size (h.push N.o₀).objs.size h) (q8 tg (λV'=>qU (ev V') Os ifs) el) c.s₀ xs qs) (λk s' z=>yO NO O hev S L ht hln hkind hl hRR z) xs.length
    (.mk h₁ _ 0 [] _ xs (qs,C0) rfl (cA _) rfl (aI _) start hm hC rfl)
  NO.start loop (S.self _ _ _ start.st loop)) hkind)
end
abbrev kt:=List It×List SO×List Prop×List Nat
structure SrcR where
 key:String
 tup:Bool
 f:List SO->List PV->Option kt
 ok:∀ {Os:List SO} {ps:List PV} {q:kt},f Os ps=PD q->Al q.2.2.1->∀ {fs:Fs} {c:Cx} {V:Vm} {m:Str->Option af} {as:List aj} {h:aL} {vs:List af},c.Ok fs->Inv fs c V m as Os h->IsAll as ps vs->∀ {target:aw} {tg:Tg},rA target=PD tg->(tup=PG->tg.isT=PG)->
  ∀ {E:af->ai->Prop} {k:Nat},wpAny (MP c.w) (c.A fs) (call (.type key) vs) (λxv s₁=>wpAny (MP c.w) (c.A fs) (pyIter xv) (SrcAt fs c V m as Os h target q.1 q.2.1 q.2.2.2) E s₁) E (sh c.s₀ h k)
noncomputable def chars (x:Str):List It:=x.cps.toList.map λch=>.one (.s ⟨#[ch]⟩)
def Nd (Os:List SO)(p:PV):Option kt:=
 (p.ref?.bind λj=>(items Os j).map λxs=>(xs.map .one,[],[],[j])).or (p.str?.bind λx=>if x.cps.all (·<128) then PD (chars x,[],[],[]) else PF)
noncomputable def IB (v:af):Option String:=v.casesOn PF PF PF (λU=>PF) (λU U=>PF) (λU U=>PF) (λU U=>PF) (λU U=>PF) PD (λU=>PF) (λU=>PF)
theorem Cr {v:af}{T:String}:IB v=PD T->v=.type T:=v.casesOn av av av (λU=>av) (λU U=>av) (λU U=>av) (λU U=>av) (λU U=>av) (λU h=>congrArg dL (ac h)) (λU=>av) (λU=>av)
def CD (ld:List SO->Str->Option PV)(Os:List SO)(e:aw):Option (String×List aw):=(vw e).cll?.bind λc=>if(c.2.2.1.isEmpty&&!c.2.1.isEmpty)=PG then(lB c.1).bind λx=>((ld Os x).bind PV.val?).bind λv=>(IB v).map λT=>(T,c.2.1) else PF
theorem Eb {α:Type _}{l:List α}(h:(!l.isEmpty)=PG):∃ a r,l=a :: r:=by cases l with | nil=>cases h | cons a r=>exact⟨a,r,rfl⟩
theorem FI {Os:List SO}{q:String×List aw}(h:CD ld Os e=PD q):∃ x xp p a r,e=.Call (.Name x xp) q.2 [] p/\q.2=a :: r/\ld Os x=PD (.v (.type q.1)):=
 ak h λc e1 h=>iteE h λhc h=>ak h λx e2 h=>ak h λv e3 h=>aZ h λT e4 eq=>ak e3 λpf e5 e6=>by
  obtain⟨h1,h2⟩:=d9.mp hc;obtain⟨xp,e7⟩:=nam_is e2;obtain⟨a,r,e8⟩:=Eb h2;rw[eq];exact⟨x,xp,_,a,r,by rw[cll_is e1,e7,aX.mp h1],e8,by rw[<- Cr e4,e5,PV.val_is e6]⟩
def vm (st:List SrcR)(ld:List SO->Str->Option PV)(ev:EV)(Os:List SO)(tg:Tg)(e:aw):Option kt:=
 ((CD ld Os e).bind λq=>(rZ ev Os q.2).bind λa=>(st.findSome? λr=>if r.key=q.1/\(r.tup=PG->tg.isT=PG) then r.f (Os++a.2.1) a.1 else PF).map λs=>(s.1,a.2.1++s.2.1,a.2.2++s.2.2.1,s.2.2.2)).or
  ((ev Os e).bind λa=>(Nd (Os++a.2.1) a.1).map λs=>(s.1,a.2.1,a.2.2,s.2.2.2))
section
variable {f:Fs}{c:Cx}{V:Vm}{m:Str->Option af}{as:List aj}{Os:List SO}{h:aL}{target:aw}{tg:Tg}
theorem F6 (O:c.Ok f)(i:Inv f c V m as Os h){p:PV}{q:kt}(e:Nd Os p=PD q){u:af}(hu:p.is as u):wpAny (MP c.w) (c.A f) (pyIter u) (SrcAt f c V m as Os h target q.1 [] q.2.2.2) E (sh c.s₀ h k):=by
 rcases cH.mp e with e | ⟨_,e⟩
 ·refine ak e λj e1 e=>?_;refine aZ e λxs e2 eq9=>?_;subst eq9;rw[PV.ref_is e1] at hu;exact CF O i e2 hu
 ·refine ak e λy e1 e=>?_
  by_cases ha:y.cps.all (·<128)=PG
  ·rw[if_pos ha] at e; cases e;rw[PV.str_is e1] at hu;obtain⟨t,rfl⟩:=hu;refine wpAny_pyIter_ascii ha ?_;have W:=u9 (prog:=aH.row.prog) (w:=c.w) (A:=c.A f) h.objs.size y t;have hl:y.cps.size=(chars y).length:=by unfold chars; rw[aA]; simp
   rw[hl] at W
   refine jC (ws:=[h.objs.size]) i (λb o e=>ag _ e) (iL W λn v s Q E st q=>let ⟨o,e,ec,_⟩:=st.1; pQ e ec (by decide) q) (λs Q E st h=>W.self 0 s Q E st h) ⟨⟨_,aE _ rfl,rfl,rfl⟩,(O.h.at i).keep λb o e=>ag _ e⟩ (λn v h' hp=>?_) (λb hb n h' st=>by
    rw[ay.mp hb]; obtain⟨o,e,_,ed⟩:=st.1; exact⟨o,e,fA ed⟩) (ut O λb hb=>.inl hb) (λb hb=>hb) (λb hb=>bP _ hb) sV
   obtain⟨ch,w,h1,rfl⟩:=hp;refine⟨.one (.s ⟨#[ch]⟩),?_,w,rfl⟩;unfold chars;rw[aG,kF,h1]; rfl
  ·rw[if_neg ha] at e; cases e
theorem zB {zs:List SO}{h1:aL}{xs:List It}{K:List Nat}(kp:Kp c h h1)(H:SrcAt f c V m (as++bs) (Os++ys) h1 target xs zs K it s):SrcAt f c V m as Os h target xs (ys++zs) K it s:=by
 cases H with
 | mk I h2 tk bs2 fp wr ws P Md St q3 q4 q5 q6=>
  rw[au,au] at q3 q6;refine .mk I h2 tk (bs++bs2) fp wr ws P Md St q3 (kp.trans q4) (λb hb=>?_) q6;obtain⟨_,g1,_,_,g2,_⟩:=q6.hws b hb;cases e:h.get? b with
  | none=>rfl
  | some o=>have:=kp b o g1 g2 e; rw[q5 b hb] at this; cases this
theorem yn {k:Wk}(O:k.Okc c){R:SrcR}{xp p:Pos}{a0:aw}{r0:List aw}{a:AnsL}{s:kt}(hld:ldF c.w k.f V Os x=PD (.v (.type R.key)))(e1:rZ (evF k c.w V) Os (a0 :: r0)=PD a)(e2:R.f (Os++a.2.1) a.1=PD s)(hC:Al (a.2.2++s.2.2.1))(hk:R.tup=PG->tg.isT=PG)(i:Inv k.f c V m as Os h)(ht:rA target=PD tg):
  wpAny (MP c.w) (c.A k.f) (eval (.Call (.Name x xp) (a0 :: r0) [] p) (c.env k.f)) (λxv s₁=>wpAny (MP c.w) (c.A k.f) (pyIter xv) (SrcAt k.f c V m as Os h target s.1 (a.2.1++s.2.1) s.2.2.2) E s₁) E (sh c.s₀ h tk):=by
 refine Call_ (fL O.o _ _ _ hld xp PI _ _ _ _ _ i λv bs h1 k1 hv i1 kp1=>?_);rw[ao] at i1;rw[show v=.type R.key from hv];refine ak e1 λq1 e3 U=>ik (c:=c) (.inr (.inl ⟨_,rfl⟩)) (b7 (m:=m) O _ _ _ e3).1 (iB (b7 (m:=m) O) _ _ _ _ e1) (lF (b7 O) p _ _ e1 hC.left _ _ _ _ _ i1 λvs bs' h2 k2 hvs i2 kp'=>⟨i2.stay,aU (R.ok e2 hC.right O.o i2 hvs ht hk) (λxv s' z=>aU z (λit s'' z=>zB (kp1.trans kp') (by rw[au] at z; exact z)) λU U z=>z) λU U z=>z⟩)
theorem xa {k:Wk}(O:k.Okc c){st:List SrcR}{q:kt}(he:vm st (ldF c.w k.f V) (evF k c.w V) Os tg e=PD q)(hC:Al q.2.2.1)(i:Inv k.f c V m as Os h)(ht:rA target=PD tg):
  wpAny (MP c.w) (c.A k.f) (eval e (c.env k.f)) (λxv s₁=>wpAny (MP c.w) (c.A k.f) (pyIter xv) (SrcAt k.f c V m as Os h target q.1 q.2.1 q.2.2.2) E s₁) E (sh c.s₀ h tk):=
 orE he (λhe=>ak he λr hs he=>ak he λa e1 he=>aZ he λs e2 eq=>bU λG hG=>(FI hs).elim λx w=>w.elim λxp w=>w.elim λp w=>w.elim λa0 w=>w.elim λr0 w=>(br e2).elim λR y=>iteE y.2 λhk e2=>
  hG (by rw[eq] at hC ⊢; rw[w.1,w.2.1]; exact yn O (hk.1▸w.2.2) (w.2.1▸e1) e2 hC hk.2 i ht))
 λhe=>ak he λa e1 he=>aZ he λs e2 eq=>by
  rw[eq] at hC⊢;refine(b7 O _ _ _ e1).2 hC _ _ _ _ _ i λv bs h1 k1 hv i1 kp1=>aU (F6 (target:=target) O.o i1 e2 hv) (λit s' z=>?_) λU U z=>z;have:=zB (zs:=[]) kp1 z;rwa [ao] at this
end
noncomputable def clo (env:Env):List (Str×l7)->List (Str×aj)->List (Str×aj)
 | [],acc=>acc
 | q :: r,acc=>clo env r (if(q.2 == .free)=PG then((env.cells.lookup q.1).elim acc λa=>(q.1,a) :: acc) else acc)
theorem Ee (l:List (Str×l7)):∀ (acc:List (Str×aj)),(∀ q∈acc,env.cells.lookup q.1=PD q.2)->(∀ q∈clo env l acc,env.cells.lookup q.1=PD q.2)/\(∀ q∈acc,q∈clo env l acc)/\∀ x a,(x,dD)∈l->env.cells.lookup x=PD a->(x,a)∈clo env l acc:=by
 induction l with
 | nil=>exact λacc h=>⟨h,λU q=>q,λU U q=>nomatch q⟩
 | cons n r ih=>
  intro acc h
  have K:∀ acc',(∀ q∈acc',env.cells.lookup q.1=PD q.2)->(∀ q∈acc,q∈acc')->(∀ x a,(x,dD)=n->env.cells.lookup x=PD a->(x,a)∈acc')->(∀ q∈clo env r acc',env.cells.lookup q.1=PD q.2)/\(∀ q∈acc,q∈clo env r acc')/\∀ x a,(x,dD)∈n :: r->env.cells.lookup x=PD a->(x,a)∈clo env r acc':=λacc' h1 h2 h3=>
   have z:=ih acc' h1
   ⟨z.1,λq hq=>z.2.1 q (h2 q hq),λx a hx e=>(aQ.mp hx).elim (λq=>z.2.1 _ (h3 x a q e)) λq=>z.2.2 x a q e⟩
  refine K _ ?_ ?_ ?_
  ·by_cases hk:(n.2 == .free)=PG
   ·rw[if_pos hk];exact Option.casesOn (motive:=λo=>env.cells.lookup n.1=o->∀ q∈(o.elim acc λa=>(n.1,a) :: acc),env.cells.lookup q.1=PD q.2) (env.cells.lookup n.1) (λU=>h) (λa e q hq=>(aQ.mp hq).elim (λw=>w▸e) (h q)) rfl
   ·rw[if_neg hk]; exact h
  ·by_cases hk:(n.2 == .free)=PG
   ·rw[if_pos hk];exact Option.casesOn (motive:=λo=>∀ q∈acc,q∈(o.elim acc λa=>(n.1,a) :: acc)) (env.cells.lookup n.1) (λU hq=>hq) λa q hq=>.tail _ hq
   ·rw[if_neg hk]; exact λU q=>q
  ·exact λx a q e=>q▸(if_pos (rfl:(dD == dD)=PG)▸e▸.head _:(x,a)∈(if(dD == dD)=PG then((env.cells.lookup x).elim acc λa=>(x,a) :: acc) else acc))
theorem jG {k:α}{l:List (Str×α)}(h:l.lookup x=PD k):(x,k)∈l:=by
 induction l with
 | nil=>cases h
 | cons q r ih=>
  rw[bv] at h;cases hx:x == q.1 with
  | true=>rw[hx] at h; cases h; rw[eq_of_beq hx]; exact .head _
  | false=>rw[hx] at h; exact .tail _ (ih h)
theorem vJ {a:α}{l:List (Str×α)}(h:(x,a)∈l):∃ b,l.lookup x=PD b:=by
 induction l with
 | nil=>cases h
 | cons q r ih=>
  rw[bv];cases hx:x == q.1 with
  | true=>exact⟨q.2,rfl⟩
  | false=>
   rcases aQ.mp h with h | h
   ·subst h; rw[beq_self_eq_true] at hx; cases hx
   ·exact ih h
theorem p5 (h:∀ q∈scope.names,q.2=.free->∃ a,env.cells.lookup q.1=PD a):
  ∃ cl,closureFor scope env=pure cl/\∀ x a,scope.names.lookup x=PD .free->env.cells.lookup x=PD a->cl.lookup x=PD a:=by
 refine⟨clo env scope.names [],?_,λx a hx ha=>?_⟩
 ·unfold closureFor
  have key:∀ (l:List (Str×l7)) (acc:List (Str×aj)),(∀ q∈l,q.2=.free->∃ a,env.cells.lookup q.1=PD a)->
    (forIn l acc λ(x:Str×l7) (r:List (Str×aj))=>if(x.2 == .free)=PG then(do let a <- cellOf env x.1; pure (fR ((x.1,a) :: r))) else pure (fR r):Sem _)=pure (clo env l acc):=by
   intro l
   induction l with
   | nil=>intro acc U; rfl
   | cons q r ih=>
    intro acc hl;obtain⟨n,k⟩:=q;rw[kA];unfold clo
    by_cases hk:(k == .free)=PG
    ·obtain⟨a,ea⟩:=hl (n,k) (.head _) (eq_of_beq hk);simp only[hk,if_true,cellOf,ea];exact ih _ λq hq=>hl q (.tail _ hq)
    ·simp only[hk,if_false,eV];exact ih _ λq hq=>hl q (.tail _ hq)
  have:=key scope.names [] h;show(forIn scope.names [] _ >>= λr=>pure r)=_;erw [this]; rfl
 ·refine bU λG1 hG1=>?_;obtain⟨h1,_,h3⟩:=Ee (env:=env) scope.names [] (λU q=>nomatch q);obtain⟨b,hb⟩:=vJ (h3 x a (jG hx) ha);have:=h1 _ (jG hb);refine hG1 ?_;rw[hb,<- ha,this]
section
variable {f:Fs}{c:Cx}{V:Vm}{m:Str->Option af}{as:List aj}{Os:List SO}{T:Tab}{scope:dC}{cl:List (Str×aj)}{target iter elt:aw}{ifs:List aw}{pos:Pos}
theorem pK {V':Vm}{m₂:Str->Option af}{h:aL}(i:InvC f c V m C V' m₂ as Os h)(i':InvC f c V m C V' m₂ (as++bs) (Os++[]) h'):bs=[]:=by
 have hl:=i'.i.len;rw[aJ,ao,i.i.len] at hl;exact bE.mp (iK (hl.trans (wB _).symm))
noncomputable def IJ (elt:aw)(g:cD)(scope:dC)(pos:Pos):Snk PV:=⟨.ListComp elt [g] scope pos,newList [],lst [],λD env=>do let _ <- call (.builtin "list.append") [.ref D,<- eval elt env],λas dn o=>∃ ys,o=lst ys/\IsAll as dn ys,.L⟩
theorem CG (hev:∀ C,C≠c.L->(c.tb=PG->C≠54/\C≠61)->∀ V' m₂,fj ⟨f,c,compEnvC scope cl C (c.env f),InvC f c V m C V' m₂⟩ (ev V')):SnkOk f c V m as Os scope cl target iter ifs (IJ elt ⟨target,iter,ifs,0⟩ scope pos) (λV'=>ev V' Os elt) where
 nw:=λq=>bL q
 fr:=rfl
 a0:=⟨[],rfl,rfl⟩
 nr:=λ⟨_,e,_⟩=>by rintro ⟨_,_,_,q,_⟩; rw[e] at q; cases q
 y:=λD ⟨ys,e,h⟩=>⟨ys,_,e,h.up⟩
 yo:=λU=>trivial
 turn:=λit D env=>compTurn_list _ _ _ _ _ _ _ _ _
 go:=λU U U U=>⟨rfl,rfl⟩
 start:=λh0 h=>codeAny_compStart_list h0 h
 emit:=λ{C D V' m₂ a dn o h k Q E} hC ht oD e ha hA hl i hD hacc hq=>by
  refine bU λG1 hG1=>?_;obtain⟨ys,rfl,hys⟩:=hacc;refine hG1 ?_;refine ab ((hev C hC ht V' m₂ Os elt a e).2 hA as h k _ _ i λv bs h1 k1 hv i1 kp=>?_);have i1:InvC f c V m C V' m₂ (as++bs) (Os++[]) h1:=ha▸i1;have hb:=pK i i1;subst hb;rw[ao] at hv;have i2:InvC f c V m C V' m₂ as Os h1:=by rw[ao,ao] at i1; exact i1
  have d1:=kp _ _ oD.L oD.t hD;refine ab (append_at (hsz:=by show ys.toArray.size<=sizeLine; rw[aK,hys.len]; exact ar hl (of_decide_eq_true rfl)) d1 λh2 hs hD2=>aD ?_);exact hq h1 h2 k1 (lst (ys++[v])) i2 kp d1 hs (hD2.trans (congrArg PD (lst_snoc ys v))) ⟨_,rfl,hys.snoc hv⟩
end
def wi (f:Fs)(scope:dC)(tg:Tg):Bool:=
 scope.kind == .function&&scope.names.all (λy=>y.2 != .cell)&&tg.names.all (λx=>scope.names.lookup x == PD .local)&&scope.names.all (λy=>y.2 != .local||scope.names.lookup y.1 == PD .local)&&scope.names.all (λy=>y.2 != .free||(f.CM.lookup y.1).isSome)
def sI {α:Type}(k:Wk)(st:List SrcR)(w:aB)(V:Vm)(Os:List SO)(ev:Vm->EV)(el:List SO->Vm->Option (α×List SO×List Prop))(g:cD)(scope:dC):Option (kt×List α×List Prop):=
 (rA g.target).bind λtg=>if g.is_async=0/\wi k.f scope tg=PG then
  (vm st (ldF w k.f V) (evF k w V) Os tg g.iter).bind λs=>if s.1.length<=64 then(q8 tg (λV'=>qU (ev V') (Os++s.2.1) g.ifs) (el (Os++s.2.1)) s.1).map λq=>(s,q) else PF else PF
abbrev xi (k:Wk)(st:List SrcR)(w:aB)(V:Vm)(Os:List SO)(elt:aw)(g:cD)(scope:dC):Option (kt×List PV×List Prop):=sI k st w V Os (λV'=>F8 k.T (Gq w k.f scope V') ta 12) (λOs V'=>F8 k.T (Gq w k.f scope V') ta 12 Os elt) g scope
section
variable {k:Wk}{c:Cx}{V:Vm}{m:Str->Option af}{as:List aj}{Os:List SO}{h:aL}
theorem DM {st:List SrcR}{iter:aw}{s:kt}(h:vm st ld (evF k w V) Os tg iter=PD s)(env:Env)(x:af):foldedSetIterable iter env x=pure x:=by
 revert h
 cases iter<;>first
  | exact λU=>rfl
  | (intro h; exfalso; unfold vm CD at h; cases h)
theorem yQ (i:Inv k.f c V m as Os h)(ok:wi k.f scope tg=PG):scope.kind=.function/\(∀ y∈scope.names,y.2≠.cell)/\(∀ y∈scope.names,y.2=.local->scope.names.lookup y.1=PD .local)/\(tg.names.all (λx=>scope.names.lookup x == PD .local))=PG/\∀ y∈scope.names,y.2=.free->∃ a,(c.env k.f).cells.lookup y.1=PD a:=by
 unfold wi at ok;simp only[aq] at ok;have all:∀ {p q:l7->Str->Bool},scope.names.all (λy=>p y.2 y.1||q y.2 y.1)=PG->∀ y∈scope.names,p y.2 y.1=PH->q y.2 y.1=PG:=λh y hy e=>by have:=aR.mp h y hy; rwa [e,Bool.false_or] at this
 exact⟨eq_of_beq ok.1.1.1.1,λy hy q=>(by have:=aR.mp ok.1.1.1.2 y hy; rw[q] at this; cases this),λy hy q=>eq_of_beq (all (p:=λk U=>k != .local) (q:=λU n=>scope.names.lookup n == PD .local) ok.1.2 y hy (by rw[q]; rfl)),ok.1.1.2,λy hy q=>
  (dY.mp (all (p:=λk U=>k != .free) (q:=λU n=>(k.f.CM.lookup n).isSome) ok.2 y hy (by rw[q]; rfl))).elim λj hj=>(i.C _ _ hj).imp λa z=>z.1⟩
theorem pcompG_ok {N:Snk α}{el:List SO->Vm->Option (α×List SO×List Prop)}(O:k.Okc c){st:List SrcR}{q:kt×List α×List Prop}(hcl0:clausesOf N.e=[g])(he:sI k st c.w V Os ev el g scope=PD q)
  (hev:∀ cl,scope.kind=.function->(∀ x a,scope.names.lookup x=PD .free->c.cl.lookup x=PD a->cl.lookup x=PD a)->∀ C,C≠c.L->(c.tb=PG->C≠54/\C≠61)->∀ V' m₂,fj ⟨k.f,c,compEnvC scope cl C (c.env k.f),InvC k.f c V m C V' m₂⟩ (ev V'))
  (NK:∀ cl,scope.kind=.function->(∀ x a,scope.names.lookup x=PD .free->c.cl.lookup x=PD a->cl.lookup x=PD a)->∀ as Os,g.is_async=0->SnkOk k.f c V m as Os scope cl g.target g.iter g.ifs N (el Os)) (hC:Al q.1.2.2.1) (hC2:Al q.2.2) (i:Inv k.f c V m as Os h)   
  (hq:∀ D bs C h' tk' m',Inv k.f c V m (as++(bs++[D])) (Os++(q.1.2.1++[N.y q.2.1])) h'->h'.Ns C m'->Off c (as++(bs++[D])) (Os++(q.1.2.1++[N.y q.2.1])) C->(∀ h'',dI C h' h''->Kp c h h'')->as.length+bs.length=(Os++q.1.2.1).length->(∀ b o,c.h₀.get? b=PD o->@k9 Nat _ b D)->compPost (MP c.w) (c.A k.f) E use Q (.ref D) C (.ok .next) (sh c.s₀ h' tk')):
  wpAny (MP c.w) (c.A k.f) (comprehension N.e scope (c.env k.f) (firstIterPos [g] pos) N.nw PH (eval g.iter (c.env k.f)) use) Q E (sh c.s₀ h tk):=by
 refine ak he λtg e1 he=>iteE he λhc he=>ak he λs e2 he=>iteE he λhl he=>aZ he λr e3 eq=>?_;have ok:=yQ i hc.2;refine(p5 ok.2.2.2.2).elim λcl hcl=>?_;rw[eq] at hC hC2 hq;refine wpAny_comprehension_free (cl:=cl) hcl0 (DM e2 _) hcl.1 ok.1 ok.2.2.1 (aU (xa O e2 hC i e1) (λxv s₁ z=>aU z (λit s₂ z=>?_) λU U e=>e) λU U e=>e)
 ·obtain⟨I,h',tk',bs,fp,wr,ws,P,Md,St,i',kp,hws,S⟩:=z;refine wg (NK cl ok.1 hcl.2 _ _ hc.1) O.o (hev cl ok.1 hcl.2) S i' ok.2.1 ok.1 e1 ok.2.2.2.1 e3 hC2 hl λD C h2 tk2 m' i2 n2 oC kp2 hnC=>?_;rw[au,au] at i2 oC;refine hq D bs C h2 tk2 m' i2 n2 oC (λh'' hs b o b1 b2 e=>?_) (by have:=i'.len; rw[aJ] at this; exact this) λb o e=>(hnC b o (i'.F.keep b o e)).2;have e':=kp b o b1 b2 e;refine(hs.2 b (hnC b o e').1).trans (kp2 b o b1 b2 (λhb=>?_) e');rw[hws b (S.hwr b hb)] at e; cases e
theorem Bo (O:k.Okc c)(cl:List (Str×aj))(hk:scope.kind=.function)(hcl:∀ x a,scope.names.lookup x=PD .free->c.cl.lookup x=PD a->cl.lookup x=PD a)(C:aj)(q1:C≠c.L)(q2:c.tb=PG->C≠54/\C≠61)(V':Vm)(m₂:Str->Option af):fj ⟨k.f,c,compEnvC scope cl C (c.env k.f),InvC k.f c V m C V' m₂⟩ (F8 k.T (Gq c.w k.f scope V') ta 12):=
 vn ⟨sX q1 q2,O.o.h,O.o.u2⟩ O.g (vM O.o hk hcl) kK 12
theorem t8 (O:k.Okc c){st:List SrcR}{q:kt×List PV×List Prop}(he:xi k st c.w V Os elt g scope=PD q)(hC:Al q.1.2.2.1)(hC2:Al q.2.2)(i:Inv k.f c V m as Os h)
  (hq:∀ D bs C h' tk' m',Inv k.f c V m (as++(bs++[D])) (Os++(q.1.2.1++[.L q.2.1])) h'->h'.Ns C m'->Off c (as++(bs++[D])) (Os++(q.1.2.1++[.L q.2.1])) C->(∀ h'',dI C h' h''->Kp c h h'')->as.length+bs.length=(Os++q.1.2.1).length->compPost (MP c.w) (c.A k.f) E use Q (.ref D) C (.ok .next) (sh c.s₀ h' tk')):
  wpAny (MP c.w) (c.A k.f) (comprehension (.ListComp elt [g] scope pos) scope (c.env k.f) (firstIterPos [g] pos) (newList []) PH (eval g.iter (c.env k.f)) use) Q E (sh c.s₀ h tk):=
 pcompG_ok (N:=IJ elt g scope pos) O rfl he (λcl hk hcl=>Bo O cl hk hcl) (λcl hk hcl as Os hz=>by
  obtain⟨t,it,ifs,n⟩:=g;have hz:n=0:=hz;subst hz;exact CG (Bo O cl hk hcl)) hC hC2 i λD bs C h' tk' m' i' n' oC kp hl U=>hq D bs C h' tk' m' i' n' oC kp hl
def Bg (e0:Fs->Tab->aB->Vm->EV->EV)(st:List SrcR)(f:Fs)(T:Tab)(w:aB)(V:Vm):EV->EV:=λev Os e=>(vw e).cmh?.bind λr=>(one r.2.1).bind λg=>(xi ⟨f,T,e0⟩ st w V Os r.1 g r.2.2).map λq=>(.r (Os++q.1.2.1).length,q.1.2.1++[.L q.2.1],q.1.2.2.1++q.2.2)
abbrev extC:=Bg λ_ _ _ _=>ta
theorem sM (h:g.is_async=0):firstAsync [g]=PH:=by
 obtain⟨a,b,d,n⟩:=g;have h:n=0:=h;subst h; rfl
theorem vY:firstIter [g] env=eval g.iter env:=by
 obtain⟨a,b,d,n⟩:=g; rfl
theorem ls {el:List SO->Vm->Option (α×List SO×List Prop)}{st:List SrcR}{q:kt×List α×List Prop}(he:sI k st w V Os ev el g scope=PD q):g.is_async=0:=by
 refine ak he λtg e1 he=>?_
 by_cases hc:g.is_async=0
 ·exact hc
 ·rw[if_neg λz=>hc z.1] at he; cases he
theorem pJ (i:Inv f c V m as Os h)(oC:Off c as Os C)(n:h.Ns C m')(hs:dI C h h'):Inv f c V m as Os h':=
 have kp:∀ b o,¬ (λb=>b=C) b->h.get? b=PD o->h'.get? b=PD o:=λb o hb e=>(hs.2 b hb).trans e
 i.keepX (λb=>b=C) (λb hb=>by subst hb; exact⟨oC.a,oC.t,oC.p,λU o e=>uc n e⟩) (i.frX (λb=>b=C) (λb hb=>by subst hb; exact⟨oC.L,oC.g⟩) kp) λb o hb U e=>kp b o hb e
theorem uD {e0:Fs->Tab->aB->Vm->EV->EV}{T:Tab}{st:List SrcR}(O:c.Ok f)(G:CtOk f c T)(E0:∀ V m,ie ⟨f,c,c.env f,Inv f c V m⟩ (e0 f T c.w V)):ie ⟨f,c,c.env f,Inv f c V m⟩ (Bg e0 st f T c.w V):=by
 intro ev H Os e q he;refine ak he λt e0' he=>ak he λg e1 he=>aZ he λr e2 eq=>(BJ e0').elim λpos hp=>?_;rw[hp,one_is e1,eq];clear eq he;intro hC as h tk E Q i hq;rw[eval_ListComp,sM (ls e2),vY];refine t8 (k:=⟨f,T,e0⟩) (use:=PF) ⟨O,G,E0⟩ e2 hC.left hC.right i λD bs C h' tk' m' i' n' oC kp hl=>⟨m',n',λh'' hs=>?_⟩;have i'':=pJ i' oC n' hs;refine hq (.ref D) (bs++[D]) h'' tk' ⟨D,?_,rfl⟩ i'' (kp h'' hs);show(as++(bs++[D]))[(Os++r.1.2.1).length]?=PD D;rw[<- hl,<- au,aM (by rw[aJ]; exact aI _),aJ,b9]; rfl
theorem eY {T:Tab}{st:List SrcR}(O:c.Ok f)(G:CtOk f c T):ie ⟨f,c,c.env f,Inv f c V m⟩ (extC st f T c.w V):=uD O G λU U=>kK
theorem Run.asgC {px cp:Pos}{rest:List aS}{bs:List (List aS)}(st:List SrcR)(q:kt×List PV×List Prop)(V':Vm)(he:xi k st c.w V Os elt g scope=PD q)(hC:Al q.1.2.2.1)(hC2:Al q.2.2)
  (hx:k.f.sc.names.lookup x=PD .local) (hsw:swapsWith (.ListComp elt [g] scope cp) (PD (.Name x px)) pos.line (c.env k.f)=pure PG) (hV:put V x (.r (Os++q.1.2.1).length)=V') (h:Run k c V' (Os++(q.1.2.1++[.L q.2.1])) (rest :: bs)):
  Run k c V Os ((.Assign [.Name x px] (.ListComp elt [g] scope cp) pos :: rest) :: bs):=by
 refine .one (λO as hp tk m i Q hq U=>?_) h;rw[exec_Assign_Name_used _ _ _ _ hsw];refine ab (da (ab ?_));refine(?_:wpAny _ _ (do let _ <- comprehension (.ListComp elt [g] scope cp) scope (c.env k.f) _ (newList []) (firstAsync [g]) (firstIter [g] (c.env k.f)) (PD (assign (.Name x px) (c.env k.f)))) _ _ _);rw[sM (ls he),vY];refine ab (aU (t8 (Q:=λU s'=>Q .next s') O.toOkc he hC hC2 i λD bs' C h' tk' m' i' n' oC kp hl=>?_) (λU s' z=>aD (aD z)) λU U z=>z);refine(?_:wpAny _ _ (assign (.Name x px) (c.env k.f) (.ref D)) _ _ _);refine gW (cM hx i'.F.ns (λh2 hn2 hs2=>?_) (by show(k.f.sc.kind == .class||(k.f.sc.kind == .module&&c.L != mainGlobals))=PH; rw[O.o.kd]; rfl))
 have iv:=i'.name (x:=x) (p:=.r (Os++q.1.2.1).length) (v:=.ref D) ⟨D,by
  rw[<- hl,<- au,aM (by rw[aJ]; exact aI _),aJ,b9]; rfl,rfl⟩ hn2 hs2
 have n2:h2.Ns C m':=n'.sameBut hs2 oC.L;exact⟨m',n2,λh3 hs3=>hq _ _ _ _ (hV▸pJ iv oC n2 hs3)⟩
end
end Nw
end
section
open PySem PySem.W PySem.Calls PySem.Spec PyProof.Rows Mine
namespace Nw
variable {x y:SO}{tg:Tg}{V':Vm}{p:PV}{o:Obj}{tk j n:Nat}{z:Int}{h h':aL}{e:aw}{v:af}{s₀:ai}{os:Nat->Obj}{Os:List SO}{ps:List PV}{K fi ds:List Nat}{xs:List Str}{ws as bs wr:List aj}{b:List aS}{C:List Prop}{vs:List af}{gs:ai->Prop}{N B:Vm->List SO->Prop}{pre:List (Nat×aj)}{pn:List (aj×Obj)}{Fl:rx->ai->Prop}{m:Str->Option af}
noncomputable def yu (o:Obj):SO->SO | .L xs=>.Z o (.L xs) | .T xs=>.Z o (.T xs) | .C p=>.C p | .P q=>.P q | .Z o x=>.Z o x | .G x=>.G x | .N=>.N
def pinF (os:Nat->Obj)(K:List Nat):Nat->List SO->List SO
 | _,[]=>[]
 | n,x :: r=>(bif K.contains n then yu (os n) x else x) :: pinF os K (n+1) r
theorem oi:∀ {n j:Nat},(pinF os K n Os)[j]?=(Os[j]?).map λx=>bif K.contains (n+j) then yu (os (n+j)) x else x:=by
 induction Os with
 | nil=>exact λ{U j}=>rfl
 | cons x r ih=>exact λ{n j}=>j.casesOn rfl λj=>(ih (n:=n+1)).trans (by rw[gj]; rfl)
theorem pC {os:Nat->Obj}{K:List Nat}:∀ {Os:List SO} {n:Nat},(pinF os K n Os).length=Os.length
 | [],_=>rfl
 | _ :: r,n=>congrArg fq (pC (Os:=r))
theorem j4:((yu o x).own↔x.own)/\((yu o x).live↔x.live):=by cases x<;>exact⟨dT,dT⟩
noncomputable def tS:SO->Bool | .L _=>PG | .T _=>PG | .C _=>PH | .P _=>PH | .Z _ _=>PH | .G _=>PG | .N=>PH
section
variable {f:Fs}{c:Cx}{V:Vm}{m:Str->Option af}{as:List aj}{Os Os':List SO}{h:aL}
theorem Inv.ent (i:Inv f c V m as Os h)(hl:Os'.length=Os.length)(hx:∀ (j:Nat) (a:aj) (x x':SO),as[j]?=PD a->Os[j]?=PD x->Os'[j]?=PD x'->(x'.own↔x.own)/\(x'.live↔x.live)/\∀ o,h.get? a=PD o->x.is as o->x'.is as o):Inv f c V m as Os' h:=by
 have get:∀ {j:Nat} {x':SO},Os'[j]?=PD x'->∃ x,Os[j]?=PD x:=λ{j x'} e=>by
  have:=lt_of_get e;exact⟨Os[j]'(hl▸this),aF _⟩
 have ap:∀ {b:aj},Apart as Os b->Apart as Os' b:=λ{b} A j x' e1 e2 hw=>by
  obtain⟨x,e3⟩:=get e2;exact A j x e1 e3 ((hx j b x x' e1 e3 e2).1.mp hw)
 refine⟨i.F,i.M,i.C,i.len.trans hl.symm,λj a x' e1 e2 lv=>?_,λj j' a x y e1 e2 e3 e4 o1 o2=>?_,λht=>let ⟨o,h1,h2,h3,h4,h5⟩:=i.t1 ht; ⟨o,h1,h2,h3,ap h4,h5⟩,λht=>let ⟨o,h1,h2,h3,h4,h5⟩:=i.t2 ht; ⟨o,h1,h2,h3,ap h4,h5⟩,i.pf,λq hq=>let ⟨h1,h2,h4,h5⟩:=i.pn q hq; ⟨h1,h2,ap h4,h5⟩⟩
 ·refine bU λG1 hG1=>?_;obtain⟨x,e3⟩:=get e2;obtain⟨g1,g2,g3⟩:=hx j a x x' e1 e3 e2;obtain⟨o,k1,k2,k3,k4⟩:=i.ob _ _ _ e1 e3 (g2.mp lv);refine hG1 ?_;exact⟨o,g3 o k2 k1,k2,λw=>k3 (g1.mp w),λw=>k4 λq=>w (g1.mpr q)⟩
 ·refine bU λG2 hG2=>?_;obtain⟨x',e5⟩:=get e3;obtain⟨y',e6⟩:=get e4;refine hG2 ?_;exact i.nd _ _ _ _ _ e1 e2 e5 e6 ((hx _ _ _ _ e1 e5 e3).1.mp o1) ((hx _ _ _ _ e2 e6 e4).1.mp o2)
theorem Inv.pin (i:Inv f c V m as Os h)(ho:∀ (j:Nat) (a:aj),K.contains j=PG->as[j]?=PD a->h.get? a=PD (os j)):Inv f c V m as (pinF os K 0 Os) h:=by
 refine i.ent pC λj a x x' ea ex ex'=>?_;rw[oi,ex,cA] at ex';cases ex';cases hK:K.contains j with
 | false=>exact⟨dT,dT,λU U h=>h⟩
 | true=>
  refine⟨j4.1,j4.2,λo eo hx=>?_⟩;have hr:x.own->¬ IsRec o:=λhw=>x.noRec hw hx;rw[ho j a hK ea] at eo; cases eo;cases x<;>first | exact hx | exact⟨rfl,hx,hr PI⟩
theorem Inv.unpin (i:Inv f c V m as (pinF os K 0 Os) h):Inv f c V m as Os h:=by
 refine i.ent pC.symm λj a x' x ea ex' ex=>?_;rw[oi,ex,cA] at ex';cases ex';cases hK:K.contains j with
 | false=>exact⟨dT,dT,λU U h=>h⟩
 | true=>
  refine⟨j4.1.symm,j4.2.symm,λo eo hx=>?_⟩;cases x<;>first | exact hx | exact hx.2.1
noncomputable def Cx.lp (c:Cx)(gs:ai->Prop)(N B:Vm->List SO->Prop)(R:rx->ai->Prop)(pre:List (Nat×aj))(pn:List (aj×Obj)):Cx:={ c with gs:=gs,N:=N,B:=B,R:=R,pre:=pre,np:=pre.map (·.1),pn:=pn++c.pn }
theorem Inv.lp {R:rx->ai->Prop}(i:Inv f c V m as Os h)(hp:Pf pre as)(hn:∀ q∈pn,h.get? q.1=PD q.2/\Off c as Os q.1):Inv f (c.lp gs N B R pre pn) V m as Os h:=
 ⟨i.F,i.M,i.C,i.len,i.ob,i.nd,i.t1,i.t2,hp,λq hq=>(bf.mp hq).elim (λhq=>let ⟨h1,h2⟩:=hn q hq; ⟨h1,h2.L,h2.a,h2.t⟩) λhq=>i.pn q hq⟩
theorem Inv.unlp {R:rx->ai->Prop}(i:Inv f (c.lp gs N B R pre pn) V m as Os h)(hp:∀ q∈c.pre,q∈pre):Inv f c V m as Os h:=
 ⟨i.F,i.M,i.C,i.len,i.ob,i.nd,i.t1,i.t2,λq hq=>i.pf q (hp q hq),λq hq=>i.pn q (aN _ hq)⟩
def sA (f:Fs)(V:Vm)(Os:List SO):Tg->It->Option (Vm×List SO)
 | .one y,.one p=>nO f V Os y p
 | .one _,.tup _=>PF
 | .tup ys,.tup ps=>oZ f V Os ys ps
 | .tup ys,.one p=>p.ref?.bind λj=>(items Os j).bind λps=>oZ f V Os ys ps
theorem setT_ok (O:c.Ok f)(i:Inv f c V m as Os h){target:aw}(ht:rA target=PD tg){x:It}(hs:sA f V Os tg x=PD (V',Os'))(hv:x.is as v h){E:af->ai->Prop}{Q:Unit->ai->Prop}
  (hq:∀ h' tk' m',Inv f c V' m' as Os' h'->Q () (sh c.s₀ h' tk')):wpAny (MP c.w) (c.A f) (assign target (c.env f) v) Q E (sh c.s₀ h tk):=by
 rcases sr ht with ⟨y,p,rfl,rfl⟩ | ⟨es,kk,p,ys,rfl,hx,rfl⟩
 ·cases x with
  | tup _=>cases hs
  | one q=>exact gW (setN_ok O hs i hv hq)
 ·cases x with
  | one q=>
   refine bU λG1 hG1=>?_;refine ak hs λj e1 hs=>?_;refine ak hs λps e2 hs=>?_;have hv:q.is as v:=hv;refine hG1 ?_;rw[PV.ref_is e1] at hv;exact qp O i e2 hv hx hs hq
  | tup ps=>
   refine bU λG2 hG2=>?_;obtain⟨D,vs,rfl,hD,hvs⟩:=hv;obtain⟨N,NN,hN⟩:=gf c.h₀ h c.L;obtain⟨q1,q2⟩:=pY (env:=c.env f) hx;refine hG2 ?_;exact i8 i.F NN hD (by rw[q1,tR hs,<- hvs.len,aK]) q2 (λh'' F'' N''=>wV O hx hs hvs (i.keep F'' (lf hN i.F F'' N'')) hq) (O.h.at i)
end
noncomputable def mq (ws:List aj)(h:aL):List (aj×Obj):=ws.filterMap λb=>(h.get? b).map λo=>(b,o)
theorem AJ {b:aj}(hb:b∈ws)(e:h.get? b=PD o):(b,o)∈mq ws h:=dP.mpr ⟨b,hb,by rw[e]; rfl⟩
theorem AI {q:aj×Obj}(hq:q∈mq ws h):q.1∈ws/\h.get? q.1=PD q.2:=(dP.mp hq).elim λb z=>aZ z.2 λo e1 eq=>eq▸⟨z.1,e1⟩
noncomputable def preOf (as:List aj)(fi:List Nat):List (Nat×aj):=fi.map λj=>(j,(as[j]?).getD 0)
noncomputable def zN (fi:List Nat):PV->Bool | .i _=>PG | .f _=>PG | .s _=>PG | .v _=>PG | .r j=>fi.contains j
def EX (fi:List Nat):It->Bool | .one p=>zN fi p | .tup ps=>ps.all (zN fi)
theorem sH (hp:Pf (preOf as fi) bs){a:aj}(hj:fi.contains j=PG)(e:as[j]?=PD a):bs[j]?=PD a:=by
 have:=hp (j,(as[j]?).getD 0) (d7.mpr ⟨j,bM.mp hj,rfl⟩);rw[e] at this; exact this
theorem w9 (h:zN fi p=PG)(hp:Pf (preOf as fi) bs)(hv:p.is as v):p.is bs v:=by
 cases p with
 | r j=>obtain⟨a,ea,rfl⟩:=hv; exact⟨a,sH hp h ea,rfl⟩
 | _=>exact hv
theorem kG (hp:Pf (preOf as fi) bs)(hb:ps.all (zN fi)=PG)(h:IsAll as ps vs):IsAll bs ps vs:=
 h.ind (P:=λps vs=>ps.all (zN fi)=PG->IsAll bs ps vs) (λU=>rfl) (λh U ih hb=>have hb:=(aq _ _).mp hb; ⟨_,_,rfl,w9 hb.1 hp h,ih hb.2⟩) hb
theorem GH {x:It}(h:EX fi x=PG)(hp:Pf (preOf as fi) bs){hh:aL}(hv:x.is as v hh):x.is bs v hh:=by
 cases x with
 | one p=>exact w9 h hp hv
 | tup ps=>obtain⟨T,vs,e,hT,hvs⟩:=hv; exact⟨T,vs,e,hT,kG hp h hvs⟩
structure Trn (f:Fs)(c:Cx)(as:List aj)(Os:List SO)(target:aw)(I:aj)(xs:List It)(K:List Nat)(wr ws:List aj)(gB:ai->ai->Prop)(St:Nat->ai->aL->Prop):Prop where
 turn:∀ n s h tk (Q:af->ai->Prop) (E:af->ai->Prop),n<xs.length->c.gs s->(∀ b o,c.h₀.get? b=PD o->h.get? b=PD o)->St n s h->(∀ v h4 tk4 s4 x,c.gs s4->xs[n]?=PD x->x.is as v h4->St (n+1) s4 h4->(∀ b o,b∉wr->h.get? b=PD o->h4.get? b=PD o)->Q v (sh s4 h4 tk4))->
  wpAny (MP c.w) (c.A f) (pyNext (.ref I)) (λr s₁=>∃ v,r=PD v/\wpAny (MP c.w) (c.A f) (letOwnedTupleGo target (.ref I) v) (λ_ s₂=>Q v s₂) E s₁) E (sh s h tk)
 done:∀ s h tk (Q:ai->Prop) (E:af->ai->Prop),c.gs s->(∀ b o,c.h₀.get? b=PD o->h.get? b=PD o)->St xs.length s h->(∀ s4 h4 tk4,c.gs s4->(∀ b o,b∉wr->h.get? b=PD o->h4.get? b=PD o)->Q (sh s4 h4 tk4))->wpAny (MP c.w) (c.A f) (pyNext (.ref I)) (λr s₁=>r=PF/\Q s₁) E (sh s h tk)
 gb:∀ s,c.gs s->gB s s
 gc:∀ s s',c.gs s->gB s s'->c.gs s'
 frame:∀ n s h s' h',St (n+1) s h->gB s s'->(∀ b o,(b∈ws\/Rd c as Os K b)->h.get? b=PD o->h'.get? b=PD o)->St (n+1) s' h'
 nr:c.tb=PG->∀ n s h,St n s h->∀ b∈ws,∀ o,h.get? b=PD o->¬ IsRec o
 hwr:∀ b∈wr,b∈ws
 hws:∀ b∈ws,b≠c.L/\c.h₀.get? b=PF/\Apart as Os b/\(c.tb=PG->b≠54/\b≠61)/\∀ q∈c.pn,q.1≠b
structure LSt (f:Fs)(c:Cx)(J:Vm->List SO->Prop)(os:Nat->Obj)(K:List Nat)(pre:List (Nat×aj))(ws:List aj)(St:ai->aL->Prop)(s:ai)(h:aL)(V:Vm)(m:Str->Option af)(as:List aj)(Os:List SO):Prop where
 st:St s h
 g:c.gs s
 i:Inv f (c.at s) V m as (pinF os K 0 Os) h
 p:Pf pre as
 off:∀ b∈ws,Off c as (pinF os K 0 Os) b
 j:J V Os
inductive THd (L:Nat->ai->aL->Vm->(Str->Option af)->List aj->List SO->Prop)(N t:Nat):ai->Prop
 | mk (n:Nat) (s:ai) (h:aL) (tk:Nat) (V:Vm) (m:Str->Option af) (as:List aj) (Os:List SO) (hn:n<=N) (ht:t=N+1 - n) (z:L n s h V m as Os):THd L N t (sh s h tk)
theorem AV (h:j<as.length):as[j]?=PD ((as[j]?).getD 0):=by rw[aF h]; rfl
theorem zS (hn:(fi.all λj=>decide (j<n))=PG)(hl:as.length=n):Pf (preOf as fi) as:=λq hq=>(d7.mp hq).elim λj hj=>hj.2▸AV (hl▸of_decide_eq_true (aR.mp hn j hj.1))
theorem yq {np:List Nat}(hp:Pf pre as)(hs:pre.map (·.1)=np)(hnp:(np.all fi.contains)=PG)(q:Nat×aj)(hq:q∈pre):q∈preOf as fi:=
 d7.mpr ⟨q.1,bM.mp (aR.mp hnp q.1 (hs▸d7.mpr ⟨q,hq,rfl⟩)),by rw[hp q hq]; rfl⟩
noncomputable def vq (as:List aj)(h:aL)(j:Nat):Obj:=((as[j]?).bind λa=>h.get? a).getD default
theorem Dh {a:aj}(ea:as[j]?=PD a)(e:h.get? a=PD o):h.get? a=PD (vq as h j):=e.trans (congrArg PD (by rw[vq,ea]; show o=(h.get? a).getD default; rw[e]; rfl))
section
variable {f:Fs}{c:Cx}{V V1 V2:Vm}{m m1 m2:Str->Option af}{as as1 as2 bs:List aj}{Os Os1 Os2:List SO}{h h1 h2:aL}{os:Nat->Obj}{K fi:List Nat}{s s0 s1 s2:ai}{j:Nat}{b:aj}
theorem t7 (e:(pinF os K n Os)[j]?=PD x)(hx:x.own):∃ y,Os[j]?=PD y/\y.own:=by
 rw[oi] at e;exact aZ e λy e1 eq=>⟨y,e1,by rw[eq] at hx; cases hk:K.contains (n+j) with | true=>rw[hk] at hx; exact j4.1.mp hx | false=>rw[hk] at hx; exact hx⟩
theorem xg (i:Inv f c V m as (pinF os K 0 Os) h)(hk:K.contains j=PG)(ey:Os[j]?=PD y)(hy:tS y=PG)(ea:as[j]?=PD b)(z0:c.h₀.get? b=PF):h.get? b=PD (os j):=by
 have ep:(pinF os K 0 Os)[j]?=PD (yu (os j) y):=by rw[oi,ey,cA]; show PD (bif K.contains j then _ else _)=_; rw[hk]; rfl
 cases y<;>first
  | (cases hy; done)
  | exact(i.ob _ _ _ ea ep PI).elim λo g=>g.2.1.trans (congrArg PD g.1.1)
  | exact(i.ob _ _ _ ea ep PI).elim λo g=>nomatch z0.symm.trans (g.2.2.2 λq=>q)
def SqK (K:List Nat)(Os:List SO):Prop:=∀ j,K.contains j=PG->∃ x,Os[j]?=PD x/\tS x=PG
theorem SqK.of (h:(K.all λj=>(Os[j]?).elim PH tS)=PG):SqK K Os:=λj hk=>by
 have:=aR.mp h j (bM.mp hk);cases e:Os[j]? with
 | none=>rw[e] at this; cases this
 | some x=>rw[e] at this; exact⟨x,rfl,this⟩
theorem CY (i:Inv f (c.at s0) V m as Os h)(i1:Inv f (c.at s1) V1 m1 as1 (pinF os K 0 Os1) h1)(i2:Inv f (c.at s2) V2 m2 as2 (pinF os K 0 Os2) h2)(p1:Pf (preOf as fi) as1)(p2:Pf (preOf as fi) as2)(hK:(K.all fi.contains)=PG)(J1:SqK K Os1)(J2:SqK K Os2)(hb:Rd c as Os K b)(e:h1.get? b=PD o):h2.get? b=PD o:=
 hb.elim (λz=>z.elim λo' e'=>(i2.stay b o' e').trans ((i1.stay b o' e').symm.trans e)) λz=>z.elim λj z=>z.elim λx z=>
  have hk:=bM.mpr z.1;have hf:=aR.mp hK j z.1;have z0:c.h₀.get? b=PF:=(i.ob _ _ _ z.2.1 z.2.2.1 z.2.2.2.live).elim λU q=>(q.2.2.1 z.2.2.2).2;have g2:=(J2 j hk).elim λy hy=>xg i2 hk hy.1 hy.2 (sH p2 hf z.2.1) z0;have g1:=(J1 j hk).elim λy hy=>xg i1 hk hy.1 hy.2 (sH p1 hf z.2.1) z0
  g2.trans (g1.symm.trans e)
variable {xs:List It}{target:aw}{I:aj}{wr ws:List aj}{gB:ai->ai->Prop}{St:Nat->ai->aL->Prop}{J J':Vm->List SO->Prop}{pre:List (Nat×aj)}
theorem Trn.off (S:Trn f c as Os target I xs K wr ws gB St)(hb:b∈ws):Off c as Os b:=have z:=S.hws b hb; ⟨z.1,z.2.1,z.2.2.1,z.2.2.2.1,z.2.2.2.2⟩
theorem LSt.start (i:Inv f (c.at s) V m as Os h)(S:Trn f c as Os target I xs K wr ws gB St)(st:St 0 s h)(g:c.gs s)(p:Pf pre as)(hK:SqK K Os)(j:J V Os):LSt f c J (vq as h) K pre ws (St 0) s h V m as Os:=
 ⟨st,g,i.pin λj a hk ea=>(hK j hk).elim λx hx=>(i.ob _ _ _ ea hx.1 (by have z:=hx.2; cases x<;>first | trivial | cases z)).elim λo q=>Dh ea q.2.1,p,
  λb hb=>have z:=S.off hb; ⟨z.L,z.g,λj x e1 e2 hx=>(t7 e2 hx).elim λy hy=>z.a j y e1 hy.1 hy.2,z.t,z.p⟩,j⟩
theorem LSt.atWr (S:Trn f c as Os target I xs K wr ws gB St)(Z:LSt f c J os K pre ws (St n) s1 h1 V1 m1 as1 Os1)(g:c.gs s2)(kk:∀ b o,b∉wr->h1.get? b=PD o->h2.get? b=PD o){St':ai->aL->Prop}(st:St' s2 h2):LSt f c J os K pre ws St' s2 h2 V1 m1 as1 Os1:=
 have z:=Z.i.keepX (·∈wr) (λb hb=>have q:=Z.off b (S.hwr b hb); ⟨q.a,q.t,q.p,λht o e=>S.nr ht n s1 h1 Z.st b (S.hwr b hb) o e⟩) (Z.i.frX (·∈wr) (λb hb=>have q:=Z.off b (S.hwr b hb); ⟨q.L,q.g⟩) kk) λb o hb U e=>kk b o hb e
 ⟨st,g,⟨z.F,z.M,z.C,z.len,z.ob,z.nd,z.t1,z.t2,z.pf,z.pn⟩,Z.p,Z.off,Z.j⟩
abbrev Cx.trn (c:Cx)(s:ai)(gB:ai->ai->Prop)(os:Nat->Obj)(K:List Nat)(J B:Vm->List SO->Prop)(Fl:rx->ai->Prop)(pre:List (Nat×aj))(its:List (aj×Obj)):Cx:=(c.at s).lp (gB s) (λV Os=>∃ Os3,Os=pinF os K 0 Os3/\J V Os3) (λV Os=>∃ Os3,Os=pinF os K 0 Os3/\B V Os3) Fl pre its
theorem LSt.next (i:Inv f (c.at s0) V m as Os h)(S:Trn f c as Os target I xs K wr ws gB St)(hn:(fi.all λj=>decide (j<Os.length))=PG)(hK:(K.all fi.contains)=PG)
  (apd:(∀ n s h,St (n+1) s h->∀ b∈ws,∃ o,h.get? b=PD o)\/((∀ V Os,J' V Os->∀ j x,Os[j]?=PD x->x.own->fi.contains j=PG)/\∀ j a,fi.contains j=PG->as[j]?=PD a->a∉ws))
  (Z:LSt f c J os K (preOf as fi) ws (St (n+1)) s1 h1 V1 m1 as1 Os1) (J1:SqK K Os1) (J2:SqK K Os2) (hcp:∀ q∈c.pre,q∈preOf as fi)   (gb:gB s1 s2) (i2:Inv f ((c.trn s1 gB os K N B Fl (preOf as fi) (mq ws h1)).at s2) V2 m2 as2 (pinF os K 0 Os2) h2) (j2:J' V2 Os2):LSt f c J' os K (preOf as fi) ws (St (n+1)) s2 h2 V2 m2 as2 Os2:=
 have i2':Inv f (c.at s2) V2 m2 as2 (pinF os K 0 Os2) h2:=Inv.unlp (c:=c.at s2) i2 hcp;have p2:Pf (preOf as fi) as2:=i2.pf;have pinned:∀ b∈ws,∀ o,h1.get? b=PD o->h2.get? b=PD o/\Apart as2 (pinF os K 0 Os2) b:=λb hb o e=>have z:=i2.pn _ (bP _ (AJ hb e)); ⟨z.1,z.2.2.1⟩
 ⟨S.frame n s1 h1 s2 h2 Z.st gb λb o hb e=>hb.elim (λhb=>(pinned b hb o e).1) λhb=>CY i Z.i i2' Z.p p2 hK J1 J2 hb e,S.gc s1 s2 Z.g gb,i2',p2,
  λb hb=>have w:=S.off hb; ⟨w.L,w.g,apd.elim (λz=>(z n s1 h1 Z.st b hb).elim λo e=>(pinned b hb o e).2) λz j x e1 e2 hx=>(t7 e2 hx).elim λy hy=>
   have hf:=z.1 V2 Os2 j2 j y hy.1 hy.2;have e3:=aF (l:=as) (i:=j) (i.len▸of_decide_eq_true (aR.mp hn j (bM.mp hf)))
   z.2 j b hf (e3.trans ((sH p2 hf e3).symm.trans e1)) hb,w.t,w.p⟩,j2⟩
end
section
variable {k:Wk}{c:Cx}{V:Vm}{Os:List SO}{target iter:aw}{body rest:List aS}{pos:Pos}{bs:List (List aS)}
theorem zr {s:ai}{m2:Str->Option af}{as2:List aj}{xs:List It}{I:aj}{gB:ai->ai->Prop}{St:Nat->ai->aL->Prop}(O:k.Ok (c.at s₀))(i':Inv k.f (c.at s₀) V m as Os h')(S:Trn k.f c as Os target I xs K wr ws gB St)(tg:Tg)(fi:List Nat)(J:Nat->Vm->List SO->Prop)(B:Vm->List SO->Prop)
  (apd:(∀ n s h,St (n+1) s h->∀ b∈ws,∃ o,h.get? b=PD o)\/((∀ n V Os,J n V Os->∀ j x,Os[j]?=PD x->x.own->fi.contains j=PG)/\∀ j a,fi.contains j=PG->as[j]?=PD a->a∉ws))
  (ht:rA target=PD tg) (hK:(K.all fi.contains)=PG) (hJ:∀ n V Os,J n V Os->(K.all λj=>(Os[j]?).elim PH tS)=PG) (hn0:(fi.all λj=>decide (j<Os.length))=PG) (hcp:∀ q∈c.pre,q∈preOf as fi)
  (step:∀ (n:Nat) (x:It) (V:Vm) (Os:List SO) (os:Nat->Obj) (c':Cx),c'.w=c.w->c'.np=fi->(∀ p Os,c.P p Os->c'.P p Os)->(∀ V Os,J (n+1) V Os->c'.N V (pinF os K 0 Os))->(∀ V Os,B V Os->c'.B V (pinF os K 0 Os))->xs[n]?=PD x->J n V Os->c'.gs=gB c'.s₀/\c'.hv=c.hv/\c.Sub c'->
   ∃ V₁ Os₁,EX fi x=PG/\sA k.f V (pinF os K 0 Os) tg x=PD (V₁,Os₁)/\Run k c' V₁ Os₁ [body])
  (done:∀ V Os,B V Os->Run k c V Os (rest :: bs)) {V2:Vm} {Os2:List SO} (Z:LSt k.f c (J n) os K (preOf as fi) ws (St (n+1)) s h V2 m2 as2 Os2) {x:It} (ex:xs[n]?=PD x)  (hx:x.is as v h) 
  (hr:∀ v s,cont k.f c bs (.ret v) s->Fl (.ret v) s) (hbk:∀ s,wpAny (MP c.w) (c.A k.f) (execs rest (c.env k.f)) (cont k.f c bs) c.E s->Fl .brk s) (hN:∀ s h tk V m as2 Os,LSt k.f c (J (n+1)) os K (preOf as fi) ws (St (n+1)) s h V m as2 Os->Fl .next (sh s h tk)/\Fl .cont (sh s h tk)):
  wpAny (MP c.w) (c.A k.f) (assign target (c.env k.f) v) (λU s₂=>wpAny (MP c.w) (c.A k.f) (execs body (c.env k.f)) Fl c.E s₂) c.E (sh s h tk):=
 have i4:Inv k.f (c.trn s gB os K (J (n+1)) B Fl (preOf as fi) (mq ws h)) V2 m2 as2 (pinF os K 0 Os2) h:=Z.i.lp Z.p λq hq=>have z:=AI hq; have w:=Z.off _ z.1; ⟨z.2,w.L,w.g,w.a,w.t,w.p⟩
 have nx:∀ {s5:ai} {V5:Vm} {m5:Str->Option af} {as5:List aj} {Os5:List SO} {h5:aL} {tk5:Nat},gB s s5->Inv k.f ((c.trn s gB os K (J (n+1)) B Fl (preOf as fi) (mq ws h)).at s5) V5 m5 as5 Os5 h5->(∃ Os3,Os5=pinF os K 0 Os3/\J (n+1) V5 Os3)->Fl .next (sh s5 h5 tk5)/\Fl .cont (sh s5 h5 tk5):=λ{s5 V5 m5 as5 Os5 h5 tk5} gb5 i5 z=>z.elim λOs3 z=>
  hN s5 h5 tk5 V5 m5 as5 Os3 (Z.next i' S hn0 hK (apd.imp id λz=>⟨z.1 (n+1),z.2⟩) (.of (hJ _ _ _ Z.j)) (.of (hJ _ _ _ z.2)) hcp gb5 (z.1▸i5) z.2)
 have Ok':(c.trn s gB os K (J (n+1)) B Fl (preOf as fi) (mq ws h)).Ok k.f:=⟨O.o.kd,O.o.b,O.o.x,O.o.t,O.o.h.mono rfl rfl λU h=>aN _ h,rfl,O.o.rd,O.o.ru,O.o.pe,S.gb s Z.g,λs5 V5 m5 as5 Os5 h5 v p tk5 gb5 i5 hp hP=>hr _ _ (fH (c:=c) (fl:=.ret v) (λq=>nomatch q) (O.o.ret s5 V5 m5 as5 Os5 h5 v p tk5 (S.gc s s5 Z.g gb5) (Inv.unlp (c:=c.at s5) i5 hcp) hp hP) bs),
  λs5 V5 m5 as5 Os5 h5 tk5 gb5 i5 hN=>nx gb5 i5 hN,λs5 V5 m5 as5 Os5 h5 tk5 gb5 i5 z=>z.elim λOs3 z=>hbk _ ((done V5 Os3 z.2).at (O.at (S.gc s s5 Z.g gb5)) (z.1▸Inv.unlp (c:=c.at s5) i5 hcp:Inv k.f (c.at s5) V5 m5 as5 (pinF os K 0 Os3) h5).unpin)⟩
 have sub:(c.at s₀).Sub (c.trn s gB os K (J (n+1)) B Fl (preOf as fi) (mq ws h)):=⟨rfl,rfl,rfl,rfl,rfl,λq hq=>aN _ hq,hcp⟩;have hplen:(preOf as fi).map (·.1)=fi:=(c8 ..).trans (eM fi)
 (step n x V2 Os2 os (c.trn s gB os K (J (n+1)) B Fl (preOf as fi) (mq ws h)) rfl hplen (λU U h=>h) (λV Os j=>⟨Os,rfl,j⟩) (λV Os j=>⟨Os,rfl,j⟩) ex Z.j ⟨rfl,rfl,sub.w,sub.k,sub.tb,sub.h₀,sub.cl,sub.pn,hcp⟩).elim λV₁ z=>z.elim λOs₁ z=>
  setT_ok Ok' i4 ht z.2.1 (GH z.1 Z.p hx) λh5 tk5 m5 i5=>z.2.2.at (s:=s) ⟨O.gd (c.trn s gB os K (J (n+1)) B Fl (preOf as fi) (mq ws h)) sub Ok',λc2 s o2=>O.gd c2 (sub.trans s) o2⟩ i5
theorem tN {tk':Nat}{xs:List It}{I:aj}{gB:ai->ai->Prop}{St:Nat->ai->aL->Prop}(O:k.Ok (c.at s₀))(i':Inv k.f (c.at s₀) V m as Os h')(S:Trn k.f c as Os target I xs K wr ws gB St)(st0:St 0 s₀ h')(tg:Tg)(fi:List Nat)(J:Nat->Vm->List SO->Prop)(B:Vm->List SO->Prop)
  (apd:(∀ n s h,St (n+1) s h->∀ b∈ws,∃ o,h.get? b=PD o)\/((∀ n V Os,J n V Os->∀ j x,Os[j]?=PD x->x.own->fi.contains j=PG)/\∀ j a,fi.contains j=PG->as[j]?=PD a->a∉ws))
  (ht:rA target=PD tg) (hK:(K.all fi.contains)=PG) (hJ:∀ n V Os,J n V Os->(K.all λj=>(Os[j]?).elim PH tS)=PG) (hn0:(fi.all λj=>decide (j<Os.length))=PG) (hnp:(c.np.all fi.contains)=PG) (h0:J 0 V Os)
  (step:∀ (n:Nat) (x:It) (V:Vm) (Os:List SO) (os:Nat->Obj) (c':Cx),c'.w=c.w->c'.np=fi->(∀ p Os,c.P p Os->c'.P p Os)->(∀ V Os,J (n+1) V Os->c'.N V (pinF os K 0 Os))->(∀ V Os,B V Os->c'.B V (pinF os K 0 Os))->xs[n]?=PD x->J n V Os->c'.gs=gB c'.s₀/\c'.hv=c.hv/\c.Sub c'->
   ∃ V₁ Os₁,EX fi x=PG/\sA k.f V (pinF os K 0 Os) tg x=PD (V₁,Os₁)/\Run k c' V₁ Os₁ [body])
  (done:∀ V Os,J xs.length V Os\/B V Os->Run k c V Os (rest :: bs)):
  codeAny (MP c.w) (c.A k.f) (.forLoop target (.ref I) body [] (c.env k.f)) (λr s'=>match r with | .ok f=>(match f with | .next=>wpAny (MP c.w) (c.A k.f) (execs rest (c.env k.f)) (cont k.f c bs) c.E s' | fl=>cont k.f c bs fl s') | .error e=>cameBackBy (MP c.w) (c.A k.f) (c.env k.f) c.E e s') (sh s₀ h' tk'):=by
 have hcp:=yq i'.pf O.o.hp hnp;refine codeAny_forLoop_any (THd (λn=>LSt k.f c (J n) (vq as h') K (preOf as fi) ws (St n)) xs.length) (λt s' z=>?_) (xs.length+1) (.mk 0 s₀ h' tk' V m as Os (jw _) rfl (.start i' S st0 O.o.g0 (zS hn0 i'.len) (.of (hJ _ _ _ h0)) h0));refine z.casesOn λn s h2 tk2 V2 m2 as2 Os2 hnl ht2 Z=>(wA n xs.length).elim (λhlt=>?_) λhge=>?_
 ·refine aU (S.turn n s h2 tk2 (λv s'=>wpAny (MP c.w) (c.A k.f) (assign target (c.env k.f) v) (λU s₂=>wpAny (MP c.w) (c.A k.f) (execs body (c.env k.f)) _ _ s₂) _ s') _ hlt Z.g (λb o e=>Z.i.F.keep b o e) Z.st λv h4 tk4 s4 x gs4 ex hx st4 hk4=>?_) (λr s' z=>by obtain⟨v,rfl,z⟩:=z; exact z) λU U z=>z
  refine wpAny_passesOwn O.o.pe (aU (zr (Fl:=λfl s=>match fl with
   | .next=>∃ j,j<t/\THd (λn=>LSt k.f c (J n) (vq as h') K (preOf as fi) ws (St n)) xs.length j s
   | .cont=>∃ j,j<t/\THd (λn=>LSt k.f c (J n) (vq as h') K (preOf as fi) ws (St n)) xs.length j s
   | .brk=>wpAny (MP c.w) (c.A k.f) (execs rest (c.env k.f)) (cont k.f c bs) c.E s
   | .ret v=>cont k.f c bs (.ret v) s) O i' S tg fi J B apd ht hK hJ hn0 hcp step (λV Os z=>done V Os (.inr z)) (Z.atWr S gs4 hk4 st4) ex hx (λU U z=>z) (λU z=>z) λs5 h5 tk5 V5 m5 as5 Os5 z=>?_) (λU U z=>aU z (λfl s3 z=>by cases fl<;>exact z) λe s3 z=>O.o.pe e s3 z) λU U z=>z)
  have q:∃ j,j<t/\THd (λn=>LSt k.f c (J n) (vq as h') K (preOf as fi) ws (St n)) xs.length j (sh s5 h5 tk5):=⟨xs.length+1 - (n+1),by rw[ht2]; exact Nat.sub_lt_sub_left (bF hlt) (cC n),.mk (n+1) s5 h5 tk5 V5 m5 as5 Os5 hlt rfl z⟩;exact⟨q,q⟩
 ·have hne:n=xs.length:=f7 hnl hge;exact aU (S.done s h2 tk2 (λs'=>wpAny (MP c.w) (c.A k.f) (execs [] (c.env k.f)) _ _ s') _ Z.g (λb o e=>Z.i.F.keep b o e) (hne▸Z.st) λs4 h3 tk3 gs4 hk3=>gy (aU ((done V2 Os2 (.inl (hne▸Z.j))).at (O.at gs4) (Z.atWr S gs4 hk3 (St':=λU U=>True) PI).i.unpin) (λU U z=>z) λU U z=>z)) (λr s' z=>by obtain⟨rfl,z⟩:=z; exact z) λU U z=>z
theorem Run.for (st:List SrcR)(q:kt)(tg:Tg)(fi:List Nat)(J:Nat->Vm->List SO->Prop)(B:Vm->List SO->Prop)
  (he:vm st (ldF c.w k.f V) (evF k c.w V) Os tg iter=PD q) (hC:Al q.2.2.1) (ht:rA target=PD tg)
  (hK:(q.2.2.2.all fi.contains)=PG) (hJ:∀ n V Os,J n V Os->(q.2.2.2.all λj=>(Os[j]?).elim PH tS)=PG) (hn0:(fi.all λj=>decide (j<(Os++q.2.1).length))=PG) (hnp:(c.np.all fi.contains)=PG) (h0:J 0 V (Os++q.2.1))
  (step:∀ (n:Nat) (x:It) (V:Vm) (Os:List SO) (os:Nat->Obj) (c':Cx),c'.w=c.w->c'.np=fi->(∀ p Os,c.P p Os->c'.P p Os)->(∀ V Os,J (n+1) V Os->c'.N V (pinF os q.2.2.2 0 Os))->(∀ V Os,B V Os->c'.B V (pinF os q.2.2.2 0 Os))->q.1[n]?=PD x->J n V Os->c'.gs=c.gs/\c'.hv=c.hv/\c.Sub c'->
   ∃ V₁ Os₁,EX fi x=PG/\sA k.f V (pinF os q.2.2.2 0 Os) tg x=PD (V₁,Os₁)/\Run k c' V₁ Os₁ [body])
  (done:∀ V Os,J q.1.length V Os\/B V Os->Run k c V Os (rest :: bs)):Run k c V Os ((.For target iter body [] pos :: rest) :: bs):=by
 refine .of λ{s₀} O as h tk m i=>bc (wpAny_For (aU (xa O.toOkc he hC i ht) (λxv s₁ z=>aU z (λit s₂ z=>?_) λU U e=>e) λU U e=>e) λx=>?_)
 rotate_left
 ·cases iter<;>first
   | rfl
   | (exfalso; unfold vm CD at he; cases he)
 obtain⟨I,h',tk',bs',fp,wr,ws,P,Md,St,i',kp,hnew,S⟩:=z;refine tN (wr:=wr) (ws:=ws) (gB:=λU s=>c.gs s) (St:=λn U h=>St n h) O i' ⟨λn s h tk Q E hlt gs U st hQ=>?_,λs h tk Q E gs U st hQ=>?_,λU g=>g,λU U U g=>g,λn s h s' h' st U kk=>S.W.frame _ _ _ st λb hb o e=>kk b o (S.hfp b hb) e,λU n s h st b hb o e=>?_,S.hwr,λb hb=>(S.hws b hb).2⟩ S.st tg fi J B (.inl λn s h st b hb=>let ⟨o,e,_⟩:=S.live b hb _ h st; ⟨o,e⟩) ht hK hJ hn0 hnp h0 step done
 ·exact S.W.item n (sh s h tk) _ _ hlt st λv h3 tk3 hMd hk3=>⟨v,rfl,S.W.go n v (sh s h3 tk3) _ _ hMd λh4 hP st4 hk4=>let ⟨x,ex,hx⟩:=S.it n v h4 hP; hQ v h4 tk3 s x gs ex hx st4 λb o hb e=>hk4 b o hb (hk3 b o hb e)⟩
 ·exact S.W.done (sh s h tk) _ _ st λh4 tk4 kk=>⟨rfl,hQ s h4 tk4 gs kk⟩
 ·obtain⟨o',e',r⟩:=S.live b hb n h st;rw[e] at e'; cases e'; exact r
end
noncomputable def KU (gs:List Nat):PV->Option PV | .i z=>PD (.i z) | .f x=>PD (.f x) | .s x=>PD (.s x) | .v w=>PD (.v w) | .r k=>(gs.idxOf? k).map .r
def He (gs:List Nat):List PV->Option (List PV)
 | []=>PD []
 | p :: r=>(KU gs p).bind λp'=>(He gs r).map λr'=>p' :: r'
def gcU (gs:List Nat):Option PV->Option (Option PV) | none=>PD PF | some p=>(KU gs p).map PD
def gcX (gs:List Nat):SO->Option SO
 | .L xs=>(He gs xs).map .L | .T xs=>(He gs xs).map .T | .C p=>(gcU gs p).map .C | .P q=>PD (.P q) | .Z o x=>(gcX gs x).map (.Z o) | .G x=>(gcX gs x).map .G | .N=>PD .N
def Hd (gs ds:List Nat)(Os:List SO):Nat->List Nat->Option (List SO)
 | _,[]=>PD []
 | n,j :: r=>(Os[j]?).bind λx=>(bif ds.contains j then PD .N else gcX gs x).bind λy=>(Hd gs ds Os (n+1) r).map λl=>y :: l
def KT (gs:List Nat)(V:Vm):List Str->Option Vm
 | []=>PD []
 | x :: r=>(V.lookup x).bind λp=>(KU gs p).bind λp'=>(KT gs V r).map λl=>(x,p') :: l
noncomputable def NA (gs:List Nat)(fi:List Nat)(CM:List (Str×Nat)):Bool:=decide gs.Nodup&&((fi.all λj=>decide (gs[j]?=PD j))&&CM.all λq=>decide (gs[q.2]?=PD q.2))
section
variable {gs:List Nat}{as as':List aj}
def GcA (gs:List Nat)(as as':List aj):Prop:=as'.length=gs.length/\∀ (k j:Nat),gs[k]?=PD j->as'[k]?=as[j]?
theorem Po (G:GcA gs as as'){p':PV}(e:KU gs p=PD p')(h:p.is as v):p'.is as' v:=by
 cases p with
 | r k=>
  refine aZ e λn e1 eq9=>?_;subst eq9;obtain⟨a,ea,rfl⟩:=h;obtain⟨hn,e2,_⟩:=List.idxOf?_eq_some_iff.mp e1;exact⟨a,(G.2 n k (by rw[aF hn,e2])).trans ea,rfl⟩
 | _=>cases e; exact h
theorem A3 (G:GcA gs as as'){qs:List PV}(e:He gs ps=PD qs)(h:IsAll as ps vs):IsAll as' qs vs:=
 h.ind (P:=λps vs=>∀ qs,He gs ps=PD qs->IsAll as' qs vs) (λU e=>ac e▸rfl) (λh U ih qs e=>ak e λp' e1 e=>aZ e λr' e2 eq=>eq▸⟨_,_,rfl,Po G e1 h,ih _ e2⟩) qs e
theorem A1 (G:GcA gs as as')(e:gcX gs x=PD y):(x.own↔y.own)/\(x.live↔y.live)/\∀ o,x.is as o->y.is as' o:=by
 induction x generalizing y with
 | L xs=>obtain⟨r,e1,rfl⟩:=bh.mp e; exact⟨dT,dT,λo ⟨vs,n,h1,h2⟩=>⟨vs,n,h1,A3 G e1 h2⟩⟩
 | T xs=>obtain⟨r,e1,rfl⟩:=bh.mp e; exact⟨dT,dT,λo ⟨vs,h1,h2⟩=>⟨vs,h1,A3 G e1 h2⟩⟩
 | C p=>
  refine aZ e λr e1 eq9=>?_;subst eq9;refine⟨dT,dT,λo ⟨u,h1,h2⟩=>⟨u,h1,?_⟩⟩;cases p with
  | none=>cases e1; exact h2
  | some p=>obtain⟨p',e2,rfl⟩:=bh.mp e1; obtain⟨v,h3,h4⟩:=h2; exact⟨v,h3,Po G e2 h4⟩
 | P q=>cases e; exact⟨dT,dT,λU h=>h⟩
 | Z o x ih=>obtain⟨r,e1,rfl⟩:=bh.mp e; exact⟨dT,dT,λo h=>⟨h.1,(ih e1).2.2 o h.2.1,h.2.2⟩⟩
 | G x ih=>obtain⟨r,e1,rfl⟩:=bh.mp e; exact⟨dT,dT,λo h=>(ih e1).2.2 o h⟩
 | N=>cases e; exact⟨dT,dT,λU h=>h⟩
theorem Hc {js:List Nat}:∀ {n:Nat} {Os':List SO},Hd gs ds Os n js=PD Os'->Os'.length=js.length/\∀ (k j:Nat),js[k]?=PD j->∃ x y,Os[j]?=PD x/\Os'[k]?=PD y/\(y=.N\/gcX gs x=PD y):=by
 induction js with
 | nil=>exact λ{U U} e=>ac e▸⟨rfl,λk U e=>nomatch e⟩
 | cons j r ih=>exact λ{n Os'} e=>ak e λx e1 e=>ak e λy e2 e=>aZ e λl e3 eq=>eq▸have z:=ih e3
  ⟨congrArg fq z.1,λk=>k.casesOn (λj' ek=>ac ek▸⟨x,y,e1,rfl,nM (motive:=λc=>(bif c then PD .N else gcX gs x)=PD y->y=.N\/gcX gs x=PD y) (ds.contains j) .inr (λe=>.inl (ac e).symm) e2⟩) z.2⟩
theorem Hb (G:GcA gs as as'){V:Vm}(M:Mem as V m):∀ {V':Vm},KT gs V xs=PD V'->Mem as' V' m:=by
 induction xs with
 | nil=>exact λ{U} e=>ac e▸λU U e=>nomatch e
 | cons x r ih=>exact λ{U} e=>ak e λp e1 e=>ak e λp' e2 e=>aZ e λl e3 eq=>eq▸ui ((M _ _ e1).imp λv z=>⟨z.1,Po G e2 z.2⟩) (ih e3)
end
theorem Inv.gc {f:Fs}{c:Cx}{V:Vm}{Os':List SO}(i:Inv f c V m as Os h){gs:List Nat}(hb:NA gs c.np f.CM=PG)(hp:c.pre.map (·.1)=c.np)(hV:KT gs V xs=PD V')(hO:Hd gs ds Os 0 gs=PD Os'):∃ as',Inv f c V' m as' Os' h:=
 have hb:=(aq _ _).mp hb;have b23:=(aq _ _).mp hb.2;have q:=Hc hO
 have G:GcA gs as (gs.map λj=>(as[j]?).getD 0):=⟨aA _,λk j e=>(q.2 k j e).elim λx w=>w.elim λy w=>by
  have lt:j<as.length:=i.len▸lt_of_get w.1;show(gs.map _)[k]?=_;rw[aG,e,aF lt]; exact congrArg PD (congrArg (·.getD 0) (aF lt))⟩
 have back:∀ {k:Nat} {a:aj} {y:SO},(gs.map λj=>(as[j]?).getD 0)[k]?=PD a->Os'[k]?=PD y->∃ j x,gs[k]?=PD j/\as[j]?=PD a/\Os[j]?=PD x/\(y=.N\/gcX gs x=PD y):=λ{k a y} ea ey=>
  have ek:=aF (q.1▸lt_of_get ey:k<gs.length)
  (q.2 k _ ek).elim λx w=>w.elim λy' w=>⟨_,x,ek,(G.2 k _ ek).symm.trans ea,w.1,ac (w.2.1.symm.trans ey)▸w.2.2⟩
 have wn:∀ {x y:SO},(y=.N\/gcX gs x=PD y)->y.own->x.own:=λe hw=>e.elim (λe=>(e▸hw:SO.N.own).elim) λe=>(A1 G e).1.mpr hw;have ap:∀ {b:aj},Apart as Os b->Apart (gs.map λj=>(as[j]?).getD 0) Os' b:=λA k y e1 e2 hw=>(back e1 e2).elim λj w=>w.elim λx w=>A j x w.2.1 w.2.2.1 (wn w.2.2.2 hw)
 ⟨gs.map λj=>(as[j]?).getD 0,i.F,Hb G i.M hV,λx n e=>(i.C x n e).imp λa z=>⟨z.1,(G.2 n n (of_decide_eq_true (aR.mp b23.2 (x,n) (jG e)))).trans z.2⟩,G.1.trans q.1.symm,
  λk a y e1 e2 lv=>(back e1 e2).elim λj w=>w.elim λx w=>w.2.2.2.elim (λe=>(e▸lv:SO.N.live).elim) λe=>have g:=A1 G e; (i.ob j a x w.2.1 w.2.2.1 (g.2.1.mpr lv)).elim λo z=>⟨o,g.2.2 o z.1,z.2.1,λw=>z.2.2.1 (g.1.mpr w),λw=>z.2.2.2 λq=>w (g.1.mp q)⟩,
  λk k' a y y' e1 e2 e3 e4 o1 o2=>(back e1 e3).elim λj w=>w.elim λx w=>(back e2 e4).elim λj' w'=>w'.elim λx' w'=>
   (gG (lt_of_get w.1) (of_decide_eq_true hb.1)).mp (w.1.trans (i.nd _ _ _ _ _ w.2.1 w'.2.1 w.2.2.1 w'.2.2.1 (wn w.2.2.2 o1) (wn w'.2.2.2 o2)▸w'.1.symm)),
  λht=>(i.t1 ht).imp λo z=>⟨z.1,z.2.1,z.2.2.1,ap z.2.2.2.1,z.2.2.2.2⟩,λht=>(i.t2 ht).imp λo z=>⟨z.1,z.2.1,z.2.2.1,ap z.2.2.2.1,z.2.2.2.2⟩,
  λq hq=>(G.2 _ _ (of_decide_eq_true (aR.mp b23.1 q.1 (hp▸d7.mpr ⟨q,hq,rfl⟩)))).trans (i.pf q hq),λq hq=>have z:=i.pn q hq; ⟨z.1,z.2.1,ap z.2.2.1,z.2.2.2⟩⟩
theorem Run.gc {k:Wk}{c:Cx}{V:Vm}{Os:List SO}{bs:List (List aS)}(gs ds:List Nat)(xs:List Str)(fi:List Nat)(V':Vm)(Os':List SO)(hn:c.np=fi)(hb:NA gs fi k.f.CM=PG)(hV:KT gs V xs=PD V')(hO:Hd gs ds Os 0 gs=PD Os')(h:Run k c V' Os' bs):Run k c V Os bs:=by
 subst hn;exact⟨λO as hp tk m i=>let ⟨as',i'⟩:=i.gc hb O.o.hp hV hO; h.go O as' hp tk m i'⟩
def nC (w:aB)(a:aj):Obj:=((hd.heap_39 w.params).lookup a).getD default
def fdAt (w:aB)(a:aj):iQ:=match(nC w a).data with | .func fd=>fd | _=>default
noncomputable def stmtsOf:FuncBody->List aS | .stmts b=>b | .expr _=>[]
def bn (w:aB)(a:aj):List aS:=stmtsOf (fdAt w a).body
def pS (fd:iQ):iQ:=fnOf fd.name fd.qualname fd.params (stmtsOf fd.body) fd.scope fd.defaults fd.kwdefaults fd.doc fd.pyModule fd.annotations fd.code fd.closureTuple
noncomputable def r5 (sc:dC):List Str:=(cellsFrom 0 sc.names []).map (·.1)
def wkAt (w:aB)(a:aj)(n:Nat)(T:Tab)(ext:Fs->Tab->aB->Vm->EV->EV):Wk:=⟨⟨(fdAt w a).scope,ug n (r5 (fdAt w a).scope)⟩,T,ext⟩
abbrev dN (w:aB)(a:aj):Prop:=(hd.heap_39 w.params).lookup a=PD ⟨(nC w a).cls,(nC w a).dict,.func (pS (fdAt w a)),(nC w a).slots⟩
def Ld (sc:dC):Bool:=!sc.isCoroutine&&(!sc.isGenerator&&(decide (sc.kind=.function)&&decide (r5 sc).Nodup))
theorem GI {Va:Vm}:∀ {vs:List af},IsAll as (Va.map (·.2)) vs->B9 as Va ((Va.map (·.1)).zip vs):=by
 induction Va with
 | nil=>exact λ{U} U=>rfl
 | cons q r ih=>exact λ{U} h=>h.elim λv z=>z.elim λs z=>z.1▸⟨v,_,rfl,z.2.1,ih z.2.2⟩
theorem pI {fd:iQ}:∀ {Va:Vm} {vs:List af},(Va.all λy=>fd.scope.names.lookup y.1 == PD .local||fd.scope.names.lookup y.1 == PD .cell)=PG->(((Va.map (·.1)).zip vs).all λy=>fd.scope.names.lookup y.1 == PD .local||fd.scope.names.lookup y.1 == PD .cell)=PG
 | [],_,_=>rfl
 | _ :: _,[],_=>rfl
 | q :: r,v :: s,h=>by
  rw[fu,aq] at h;refine(?_:(((q.1,v) :: (r.map (·.1)).zip s).all _)=PG);rw[fu,aq];exact⟨h.1,pI h.2⟩
abbrev jL (fd:iQ)(Va:Vm):Prop:=∀ vs:List af,vs.length=Va.length->bindArgs (pS fd) ⟨vs,[]⟩=pure ((Va.map (·.1)).zip vs)
section
variable {fd:iQ}{q r s t:Str×PV}
theorem vc {α:Type}{vs:List α}(h:vs.length=n+1):∃ u r,vs=u :: r/\r.length=n:=by
 cases vs with
 | nil=>cases h
 | cons u r=>exact⟨u,r,rfl,se h⟩
theorem to (h:∀ u,bindArgs (pS fd) ⟨[u],[]⟩=pure [(q.1,u)]):jL fd [q]:=λvs e0=>by
 refine bU λG1 hG1=>?_;obtain⟨u,l0,d0,e1⟩:=vc (show vs.length=0+1 from e0);have dn:=bE.mp e1;refine hG1 ?_;rw[d0,dn]; exact h u
theorem p9 (h:∀ u v,bindArgs (pS fd) ⟨[u,v],[]⟩=pure [(q.1,u),(r.1,v)]):jL fd [q,r]:=λvs e0=>by
 refine bU λG1 hG1=>?_;obtain⟨u,l0,d0,e1⟩:=vc (show vs.length=1+1 from e0);obtain⟨v,l1,d1,e2⟩:=vc (show l0.length=0+1 from e1);have dn:=bE.mp e2;refine hG1 ?_;rw[d0,d1,dn]; exact h u v
theorem m7 (h:∀ u v x,bindArgs (pS fd) ⟨[u,v,x],[]⟩=pure [(q.1,u),(r.1,v),(s.1,x)]):jL fd [q,r,s]:=λvs e0=>by
 refine bU λG1 hG1=>?_;obtain⟨u,l0,d0,e1⟩:=vc (show vs.length=2+1 from e0);obtain⟨v,l1,d1,e2⟩:=vc (show l0.length=1+1 from e1);obtain⟨x,l2,d2,e3⟩:=vc (show l1.length=0+1 from e2);have dn:=bE.mp e3;refine hG1 ?_;rw[d0,d1,d2,dn]; exact h u v x
theorem BW (h:∀ u v x y,bindArgs (pS fd) ⟨[u,v,x,y],[]⟩=pure [(q.1,u),(r.1,v),(s.1,x),(t.1,y)]):jL fd [q,r,s,t]:=λvs e0=>by
 refine bU λG1 hG1=>?_;obtain⟨u,l0,d0,e1⟩:=vc (show vs.length=3+1 from e0);obtain⟨v,l1,d1,e2⟩:=vc (show l0.length=2+1 from e1);obtain⟨x,l2,d2,e3⟩:=vc (show l1.length=1+1 from e2);obtain⟨y,l3,d3,e4⟩:=vc (show l2.length=0+1 from e3);have dn:=bE.mp e4;refine hG1 ?_;rw[d0,d1,d2,d3,dn]; exact h u v x y
end
def okB (fd:iQ)(Va:Vm)(K:wE):Bool:=codeIn K fd.code fd.qualname&&(Ld fd.scope&&Va.all λy=>fd.scope.names.lookup y.1 == PD .local||fd.scope.names.lookup y.1 == PD .cell)
section
variable {gs:ai->ai->Prop}{Z:Cx->List aj->aL->Prop}{w:aB}{a:aj}{k:Nat}{tb:Bool}{Os₀:List SO}{p:PV}{Os₁ ys:List SO}{T:Tab}{ext:Fs->Tab->aB->Vm->EV->EV}
theorem jJ (mu:Nat)(Va:Vm)(hZ:∀ (c:Cx) (as₀:List aj) (h:aL),Z c as₀ h->gs c.s₀ c.s₀)(ho:dN w a)(hk:okB (fdAt w a) Va (hd.heap_39 w.params)=PG)
  (hmu:∀ (j:Nat) (y:SO),Os₀[j]?=PD y->y.own->j<mu)
  (G:∀ c:Cx,c.w=w->c.k=k->c.tb=tb->c.Ok (wkAt w a Os₀.length T ext).f->Wk.Okc (wkAt w a Os₀.length T ext) c)
  (H:∀ c:Cx,c.w=w->c.np=bz Os₀.length->(∀ p' Os' gs,retE Os₀.length mu gs p' Os'=PD (p,Os₁,ys)->c.P p' Os')->(∀ V Os',c.P (.v .none) Os'->c.N V Os')->c.q=(fdAt w a).qualname/\c.cd=(fdAt w a).code/\c.k=k/\c.tb=tb/\Frm gs Z tb Os₀ c->
   Run (wkAt w a Os₀.length T ext) c (tL (um (fdAt w a).scope) Va []) (Os₀++rg (oM (um (fdAt w a).scope) Va []) (r5 (fdAt w a).scope)) [bn w a]):Ent gs Z w a (pS (fdAt w a)) (k+1) tb Os₀ Va p Os₁ ys:=by
 rw[okB,Ld,aq,aq,aq,aq,aq] at hk;refine bU λG1 hG1=>?_;obtain⟨h0,⟨h1,h2,h3,h4⟩,h5⟩:=hk;have f1:∀ {b:Bool},(!b)=PG->b=PH:=λ{b} e=>by cases b<;>first | rfl | cases e
 refine hG1 ?_;exact JU mu Va hZ ho h0 (f1 h1) (f1 h2) (of_decide_eq_true h3) (of_decide_eq_true h4) hmu G H
theorem tf (mu:Nat)(Va:Vm)(hZ:∀ (c:Cx) (as₀:List aj) (h:aL),Z c as₀ h->gs c.s₀ c.s₀)(ho:dN w a)(hb:jL (fdAt w a) Va)(hk:okB (fdAt w a) Va (hd.heap_39 w.params)=PG)
  (hmu:∀ (j:Nat) (y:SO),Os₀[j]?=PD y->y.own->j<mu)
  (G:∀ c:Cx,c.w=w->c.k=k->c.tb=tb->c.Ok (wkAt w a Os₀.length T ext).f->Wk.Okc (wkAt w a Os₀.length T ext) c)
  (H:∀ c:Cx,c.w=w->c.np=bz Os₀.length->(∀ p' Os' gs,retE Os₀.length mu gs p' Os'=PD (p,Os₁,ys)->c.P p' Os')->(∀ V Os',c.P (.v .none) Os'->c.N V Os')->c.q=(fdAt w a).qualname/\c.cd=(fdAt w a).code/\c.k=k/\c.tb=tb/\Frm gs Z tb Os₀ c->
   Run (wkAt w a Os₀.length T ext) c (tL (um (fdAt w a).scope) Va []) (Os₀++rg (oM (um (fdAt w a).scope) Va []) (r5 (fdAt w a).scope)) [bn w a]):ConY gs Z w a (k+1) tb Os₀ (Va.map (·.2)) p Os₁ ys:=
 (jJ mu Va hZ ho hk hmu G H).con λas₀ vs h=>⟨_,λU U=>fZ (hb vs (h.len.trans (aA _))),pI (by
  rw[okB,aq,aq] at hk; exact hk.2.2),GI h⟩
theorem f5 (mu:Nat)(Va:Vm)(ho:dN w a)(hb:jL (fdAt w a) Va)(hk:okB (fdAt w a) Va (hd.heap_39 w.params)=PG)
  (hmu:∀ (j:Nat) (y:SO),Os₀[j]?=PD y->y.own->j<mu)
  (G:∀ c:Cx,c.w=w->c.k=k->c.tb=tb->c.Ok (wkAt w a Os₀.length T ext).f->Wk.Okc (wkAt w a Os₀.length T ext) c)
  (H:∀ c:Cx,c.w=w->c.np=bz Os₀.length->(∀ p' Os' gs,retE Os₀.length mu gs p' Os'=PD (p,Os₁,ys)->c.P p' Os')->(∀ V Os',c.P (.v .none) Os'->c.N V Os')->c.q=(fdAt w a).qualname/\c.cd=(fdAt w a).code/\c.k=k/\c.tb=tb->
   Run (wkAt w a Os₀.length T ext) c (tL (um (fdAt w a).scope) Va []) (Os₀++rg (oM (um (fdAt w a).scope) Va []) (r5 (fdAt w a).scope)) [bn w a]):Con w a (k+1) tb Os₀ (Va.map (·.2)) p Os₁ ys:=
 tf mu Va (λU U U U=>rfl) ho hb hk hmu G λc h1 h2 h3 h4 h5=>H c h1 h2 h3 h4 ⟨h5.1,h5.2.1,h5.2.2.1,h5.2.2.2.1⟩
end
inductive Vt | ite (t:aw)(b o:List aS) | ret (e:aw) | for (t i:aw)(b:List aS) | asg (t e:aw) | brk | oth
def vt:aS->Vt
 | .FunctionDef ..=>.oth | .AsyncFunctionDef ..=>.oth | .ClassDef ..=>.oth | .Return e _=>e.elim .oth .ret | .Delete ..=>.oth | .Assign ts e _=>(one ts).elim .oth λt=>.asg t e | .TypeAlias ..=>.oth | .AugAssign ..=>.oth | .AnnAssign ..=>.oth
 | .For t i b o _=>if o.isEmpty then .for t i b else .oth | .AsyncFor ..=>.oth | .While ..=>.oth | .If t b o _=>.ite t b o | .With ..=>.oth | .AsyncWith ..=>.oth | .Match ..=>.oth | .Raise ..=>.oth | .Try ..=>.oth | .TryStar ..=>.oth | .Assert ..=>.oth
 | .Import ..=>.oth | .ImportFrom ..=>.oth | .Global ..=>.oth | .Nonlocal ..=>.oth | .Expr ..=>.oth | .Pass ..=>.oth | .Break ..=>.brk | .Continue ..=>.oth
def Vt.is:Vt->aS->Prop
 | .ite t b o,s=>∃ p,s=.If t b o p
 | .ret e,s=>∃ p,s=.Return (PD e) p
 | .for t i b,s=>∃ p,s=.For t i b [] p
 | .asg t e,s=>∃ p,s=.Assign [t] e p
 | .brk,s=>∃ p,s=.Break p
 | .oth,_=>True
theorem vt_is (s:aS):(vt s).is s:=by
 cases s with
 | Return e p=>cases e<;>first | exact⟨_,rfl⟩ | trivial
 | Assign ts e p=>
  cases ts with
  | nil=>trivial
  | cons t r=>cases r<;>first | exact⟨_,rfl⟩ | trivial
 | For t i b o p=>cases o<;>first | exact⟨_,rfl⟩ | trivial
 | If t b o p=>exact⟨_,rfl⟩
 | Break p=>exact⟨_,rfl⟩
 | _=>trivial
def EZ (b:List aS):Option (aw×List aS×List aS):=b.head?.bind λs=>Vt.casesOn (vt s) (λt b o=>PD (t,b,o)) (λU=>PF) (λU U U=>PF) (λU U=>PF) PF PF
def GU (b:List aS):Option aw:=b.head?.bind λs=>Vt.casesOn (vt s) (λU U U=>PF) PD (λU U U=>PF) (λU U=>PF) PF PF
def DB (b:List aS):Option (aw×aw×List aS):=b.head?.bind λs=>Vt.casesOn (vt s) (λU U U=>PF) (λU=>PF) (λt i b=>PD (t,i,b)) (λU U=>PF) PF PF
def nV (b:List aS):Option (aw×aw):=b.head?.bind λs=>Vt.casesOn (vt s) (λU U U=>PF) (λU=>PF) (λU U U=>PF) (λt e=>PD (t,e)) PF PF
def DD (b:List aS):Bool:=b.head?.elim PH λs=>Vt.casesOn (vt s) (λU U U=>PH) (λU=>PH) (λU U U=>PH) (λU U=>PH) PG PH
def thn (b:List aS):List aS:=(EZ b).elim [] (·.2.1)
def els (b:List aS):List aS:=(EZ b).elim [] (·.2.2)
def yz (b:List aS):List aS:=(DB b).elim [] (·.2.2)
theorem dU {s:aS}(h:b.head?=PD s):b=s :: b.tail:=by cases b<;>cases h; rfl
theorem vIf {v:Vt}{q:aw×List aS×List aS}:(Vt.casesOn v (λt b o=>PD (t,b,o)) (λU=>PF) (λU U U=>PF) (λU U=>PF) PF PF:Option (aw×List aS×List aS))=PD q->v=.ite q.1 q.2.1 q.2.2:=v.casesOn (λU U U e=>ac e▸rfl) (λU e=>av e) (λU U U e=>av e) (λU U e=>av e) (λe=>av e) λe=>av e
theorem pN {q:aw×List aS×List aS}(h:EZ b=PD q):∃ p,b=.If q.1 q.2.1 q.2.2 p :: b.tail:=ak h λs e1 e=>(show ∃ p,s=.If q.1 q.2.1 q.2.2 p from(vIf e▸vt_is s:(Vt.ite q.1 q.2.1 q.2.2).is s)).imp λp hp=>(dU e1).trans (congrArg (· :: b.tail) hp)
theorem vRet {v:Vt}{q:aw}:(Vt.casesOn v (λU U U=>PF) (PD) (λU U U=>PF) (λU U=>PF) PF PF:Option (aw))=PD q->v=.ret q:=v.casesOn (λU U U e=>av e) (λU e=>ac e▸rfl) (λU U U e=>av e) (λU U e=>av e) (λe=>av e) λe=>av e
theorem xG {q:aw}(h:GU b=PD q):∃ p,b=.Return (PD q) p :: b.tail:=ak h λs e1 e=>(show ∃ p,s=.Return (PD q) p from(vRet e▸vt_is s:(Vt.ret q).is s)).imp λp hp=>(dU e1).trans (congrArg (· :: b.tail) hp)
theorem vFor {v:Vt}{q:aw×aw×List aS}:(Vt.casesOn v (λU U U=>PF) (λU=>PF) (λt i b=>PD (t,i,b)) (λU U=>PF) PF PF:Option (aw×aw×List aS))=PD q->v=.for q.1 q.2.1 q.2.2:=v.casesOn (λU U U e=>av e) (λU e=>av e) (λU U U e=>ac e▸rfl) (λU U e=>av e) (λe=>av e) λe=>av e
theorem xH {q:aw×aw×List aS}(h:DB b=PD q):∃ p,b=.For q.1 q.2.1 q.2.2 [] p :: b.tail:=ak h λs e1 e=>(show ∃ p,s=.For q.1 q.2.1 q.2.2 [] p from(vFor e▸vt_is s:(Vt.for q.1 q.2.1 q.2.2).is s)).imp λp hp=>(dU e1).trans (congrArg (· :: b.tail) hp)
theorem vAsg {v:Vt}{q:aw×aw}:(Vt.casesOn v (λU U U=>PF) (λU=>PF) (λU U U=>PF) (λt e=>PD (t,e)) PF PF:Option (aw×aw))=PD q->v=.asg q.1 q.2:=v.casesOn (λU U U e=>av e) (λU e=>av e) (λU U U e=>av e) (λU U e=>ac e▸rfl) (λe=>av e) λe=>av e
theorem gM {q:aw×aw}(h:nV b=PD q):∃ p,b=.Assign [q.1] q.2 p :: b.tail:=ak h λs e1 e=>(show ∃ p,s=.Assign [q.1] q.2 p from(vAsg e▸vt_is s:(Vt.asg q.1 q.2).is s)).imp λp hp=>(dU e1).trans (congrArg (· :: b.tail) hp)
theorem vBrk {v:Vt}:(Vt.casesOn v (λU U U=>PH) (λU=>PH) (λU U U=>PH) (λU U=>PH) PG PH:Bool)=PG->v=.brk:=v.casesOn (λU U U e=>absurd e aP) (λU e=>absurd e aP) (λU U U e=>absurd e aP) (λU U e=>absurd e aP) (λU=>rfl) λe=>absurd e aP
theorem DC (h:DD b=PG):∃ p,b=.Break p :: b.tail:=by
 unfold DD at h;cases e1:b.head? with
 | none=>rw[e1] at h; cases h
 | some s=>rw[e1] at h; exact(show ∃ p,s=.Break p from(vBrk h▸vt_is s:Vt.brk.is s)).imp λp hp=>(dU e1).trans (congrArg (· :: b.tail) hp)
section
variable {k:Wk}{c:Cx}{V V':Vm}{Os Os':List SO}{b:List aS}{bs:List (List aS)}
def Ls (k:Wk)(w:aB)(V:Vm)(Os:List SO)(b:List aS):Option AnsB:=(EZ b).bind λq=>Cg (evF k w V) Os q.1
theorem Run.if (x:Bool)(Os':List SO)(C:List Prop)(he:Ls k c.w V Os b=PD (x,Os',C))(hC:Al C)(h1:x=PG->Run k c V (Os++Os') (thn b :: b.tail :: bs))(h2:x=PH->Run k c V (Os++Os') (els b :: b.tail :: bs)):Run k c V Os (b :: bs):=by
 refine ak he λq e1 e2=>?_;unfold thn at h1;unfold els at h2;rw[e1] at h1 h2;obtain⟨p,e⟩:=pN e1;rw[e];exact Run.iteA x Os' C e2 hC h1 h2
def Lr (k:Wk)(w:aB)(V:Vm)(Os:List SO)(b:List aS):Option (Bool×List Prop):=(EZ b).bind λq=>if q.2.2.isEmpty then(Cg (evF k w V) Os q.1).bind λa=>if a.2.1.isEmpty then PD (a.1,a.2.2) else PF else PF
theorem Run.ifN (x:Bool)(C:List Prop)(he:Lr k c.w V Os b=PD (x,C))(hC:Al C)(h1:x=PG->Run k c V Os (thn b :: b.tail :: bs))(h2:x=PH->Run k c V Os (b.tail :: bs)):Run k c V Os (b :: bs):=by
 refine ak he λq e1 e2=>?_;unfold thn at h1;rw[e1] at h1;obtain⟨t,xb,o⟩:=q;cases o with
 | cons _ _=>cases e2
 | nil=>
  obtain⟨⟨x',O',C'⟩,e3,e4⟩:=Option.bind_eq_some_iff.mp e2;cases O' with
  | cons _ _=>cases e4
  | nil=>
   cases e4;obtain⟨p,e⟩:=pN e1;rw[e];exact Run.ite x' C' e3 hC h1 λz=>Run.nil (h2 z)
def Lq (k:Wk)(w:aB)(V:Vm)(Os:List SO)(b:List aS):PE:=(GU b).bind λe=>evF k w V Os e
theorem Run.rt (p:PV)(Os':List SO)(C:List Prop)(he:Lq k c.w V Os b=PD (p,Os',C))(hC:Al C)(h:c.P p (Os++Os')):Run k c V Os (b :: bs):=by
 refine bU λG1 hG1=>?_;refine ak he λq e1 e2=>?_;obtain⟨_,e⟩:=xG e1;refine hG1 ?_;rw[e];exact Run.ret p Os' C e2 hC h
theorem Run.bk (he:DD b=PG)(h:c.B V Os):Run k c V Os (b :: bs):=by
 obtain⟨_,e⟩:=DC he;rw[e];exact Run.brk h
theorem Run.nl (he:b.isEmpty=PG)(h:Run k c V Os bs)(hb:bs≠[]):Run k c V Os (b :: bs):=by
 cases b with
 | cons _ _=>cases he
 | nil=>
  cases bs with
  | nil=>exact absurd rfl hb
  | cons _ _=>exact Run.nil h
def Way (k:Wk)(c:Cx)(V:Vm)(Os:List SO)(b:List aS)(V':Vm)(Os':List SO):Prop:=∀ d bs,Run k c V' Os' (d :: bs)->Run k c V Os (b :: d :: bs)
theorem Way.blk (n:Nat)(C:List Prop)(he:qX k c.w n V Os b=PD (V',Os',C))(hn:(b.drop n).isEmpty=PG)(hC:Al C):Way k c V Os b V' Os':=
 λd bs h=>Run.blk n V' Os' C he hC (Run.nl hn h λq=>nomatch q)
theorem Run.ifJ (x:Bool)(C:List Prop)(F:Bool->Vm)(G:Bool->List SO)(he:Ls k c.w V Os b=PD (x,[],C))(hC:Al C)(h1:x=PG->Way k c V Os (thn b) (F PG) (G PG))(h2:x=PH->Way k c V Os (els b) (F PH) (G PH))(h:Run k c (F x) (G x) (b.tail :: bs)):Run k c V Os (b :: bs):=
 Run.if x [] C he hC (λz=>by subst z; rw[ao]; exact h1 rfl _ _ h) (λz=>by subst z; rw[ao]; exact h2 rfl _ _ h)
theorem Way.if (x:Bool)(C:List Prop)(F:Bool->Vm)(G:Bool->List SO)(he:Ls k c.w V Os b=PD (x,[],C))(hn:b.tail.isEmpty=PG)(hC:Al C)(h1:x=PG->Way k c V Os (thn b) (F PG) (G PG))(h2:x=PH->Way k c V Os (els b) (F PH) (G PH)):Way k c V Os b (F x) (G x):=
 λd bs h=>Run.ifJ x C F G he hC h1 h2 (Run.nl hn h λq=>nomatch q)
end
section
variable {k:Wk}{c:Cx}{V V':Vm}{Os Os':List SO}{b:List aS}{bs:List (List aS)}
def Ac (e:aw):Bool:=(vw e).casesOn (λU=>PG) (λU=>PG) (λU U U=>PG) (λU U=>PG) (λU U U=>PG) (λU U U U=>PG) (λU=>PH) (λU=>PH) (λU U=>PG) (λU U U=>PG) (λU U U=>PG) (λU U U=>PG) (λU U=>PG) (λU U U=>PG) PH
theorem Cy {ts:List aw}{kk:Nat}{tp:Pos}{env:Env}(h:Ac e=PG):swappedStores [.Tuple ts kk tp] e env=pure PF:=by
 cases e<;>first | rfl | cases h
noncomputable def Tg.tup? (t:Tg):Option (List Str):=match t with | .one _=>PF | .tup xs=>PD xs
theorem Run.q {V':Vm}{Os':List SO}{q:Vm×List SO×List Prop}(eq:(V',Os',C)=q)(h:Run k c V' Os' bs):Run k c q.1 q.2.1 bs:=eq▸h
theorem Al.q {V':Vm}{Os':List SO}{q:Vm×List SO×List Prop}(eq:(V',Os',C)=q)(h:Al C):Al q.2.2:=eq▸h
theorem sv (h:rA e=PD tg)(h':tg.tup?=PD xs):∃ es kk p,e=.Tuple es kk p/\iA es=PD xs:=by
 rcases sr h with ⟨_,_,_,e⟩ | ⟨es,kk,p,ys,e1,e2,e3⟩
 ·rw[e] at h'; exact av h'
 ·rw[e3] at h'; exact⟨es,kk,p,e1,h'▸e2⟩
def LD (k:Wk)(w:aB)(V:Vm)(Os:List SO)(b:List aS):St:=
 (nV b).bind λq=>(rA q.1).bind λt=>t.tup?.bind λxs=>if Ac q.2=PG then(evF k w V Os q.2).bind λa=>a.1.ref?.bind λj=>(items (Os++a.2.1) j).bind λps=>(oZ k.f V (Os++a.2.1) xs ps).map λr=>(r.1,r.2,a.2.2) else PF
theorem Run.asT (V':Vm)(Os':List SO)(C:List Prop)(he:LD k c.w V Os b=PD (V',Os',C))(hC:Al C)(h:Run k c V' Os' (b.tail :: bs)):Run k c V Os (b :: bs):=
 ak he λq e1 he=>ak he λtg e2 he=>ak he λxs e3 he=>iteE he λhn he=>ak he λa e4 he=>ak he λj e5 he=>ak he λps e6 he=>aZ he λr e7 eq=>(gM e1).elim λpos e9=>by
  obtain⟨es,kk,pp,et,hx⟩:=sv e2 e3;rw[et] at e9;rw[e9];exact Run.asgT xs j ps a.2.1 a.2.2 r.1 r.2 (by rw[e4,<- PV.ref_is e5]) (Al.q eq hC) e6 hx e7 (Cy hn) (Run.q eq h)
def GO (e:aw):Option (aw×aw×aw):=(vw e).ift?
theorem ift_is {q:aw×aw×aw}(h:GO e=PD q):∃ p,e=.IfExp q.1 q.2.1 q.2.2 p:=GN h
def L5 (b:List aS):Option (Str×aw×aw×aw):=(nV b).bind λq=>(lB q.1).bind λx=>(GO q.2).map λr=>(x,r)
def LH (k:Wk)(w:aB)(V:Vm)(Os:List SO)(b:List aS):Option AnsB:=(L5 b).bind λq=>Cg (evF k w V) Os q.2.1
def I9 (k:Wk)(w:aB)(V:Vm)(Os:List SO)(b:List aS):St:=(L5 b).bind λq=>mh k w V Os q.1 q.2.2.1
def I8 (k:Wk)(w:aB)(V:Vm)(Os:List SO)(b:List aS):St:=(L5 b).bind λq=>mh k w V Os q.1 q.2.2.2
theorem Run.asI (x:Bool)(C:List Prop)(he:LH k c.w V Os b=PD (x,[],C))(hC:Al C)(h1:x=PG->∃ V' Os' C,I9 k c.w V Os b=PD (V',Os',C)/\Al C/\Run k c V' Os' (b.tail :: bs))(h2:x=PH->∃ V' Os' C,I8 k c.w V Os b=PD (V',Os',C)/\Al C/\Run k c V' Os' (b.tail :: bs)):Run k c V Os (b :: bs):=
 ak he λr e1 e2=>ak e1 λq e3 h3=>ak h3 λz e4 h4=>aZ h4 λt e5 eq=>(gM e3).elim λpos e9=>(nam_is e4).elim λpp hp=>(ift_is e5).elim λpi hi=>by
  unfold I9 at h1;unfold I8 at h2;rw[e1] at h1 h2;rw[eq] at h1 h2 e2;rw[hp,hi] at e9;rw[e9];exact Run.asgIf x C e2 hC h1 h2
end
theorem vu {δ ε:Type}{γ:Type _}{g1:PV->Option δ}{g2:PV->Option ε}{f:δ->ε->γ}{a b:PV}{q:γ}{P:Prop}(e:mR g1 g2 f a b=PD q)(h:∀ x y,g1 a=PD x->g2 b=PD y->q=f x y->P):P:=let ⟨x,y,h1,h2,h3⟩:=fz e; h x y h1 h2 h3.symm
theorem PV.isInt (h:p.int?=PD z)(hv:p.is as v):∃ t,v=.int z t:=by rw[PV.int_is h] at hv; exact hv
theorem PV.isStr {z:Str}(h:p.str?=PD z)(hv:p.is as v):∃ t,v=.str z t:=by rw[PV.str_is h] at hv; exact hv
theorem IsAll.one (h:IsAll as [p] vs):∃ v,vs=[v]/\p.is as v:=by obtain⟨v,r,e,h,h0⟩:=h; cases h0; exact⟨v,e,h⟩
theorem IsAll.two {q:PV}(h:IsAll as [p,q] vs):∃ v u,vs=[v,u]/\p.is as v/\q.is as u:=by obtain⟨v,r,e,h,h0⟩:=h; obtain⟨u,e2,h2⟩:=h0.one; subst e2; exact⟨v,u,e,h,h2⟩
noncomputable def yb {α:Type _}(l:List α):Option (α×α):=l.casesOn PF λa r=>r.casesOn PF λb r=>r.casesOn (PD (a,b)) λU U=>PF
theorem two_is {α:Type _}{l:List α}{q:α×α}:yb l=PD q->l=[q.1,q.2]:=l.casesOn av λU r=>r.casesOn av λU r=>r.casesOn (λh=>congrArg (λq:α×α=>[q.1,q.2]) (ac h)) λU U=>av
section
variable {f:Fs}{c:Cx}{V:Vm}{m:Str->Option af}{as:List aj}{Os:List SO}{h:aL}
theorem Inv.new (i:Inv f c V m as Os h)(hy:y.is (as++[h.objs.size]) o)(hw:y.own)(hf:o.isFreed=PH):(PV.r Os.length).is (as++[h.objs.size]) (.ref h.objs.size)/\Inv f c V m (as++[h.objs.size]) (Os++[y]) (h.push o):=by
 have n0:h.get? h.objs.size=PF:=by
  cases e:h.get? h.objs.size with
  | none=>rfl
  | some o=>exact absurd (aO e) (bY _)
 have kp:∀ b o',h.get? b=PD o'->(h.push o).get? b=PD o':=λb o' e=>ag _ e;exact⟨⟨_,by rw[<- i.len,aM (aI _),b9]; rfl,rfl⟩,i.made (i.F.keeps kp) (λb o' U e=>kp b o' e) (NewAll.cons n0 (aE _ hf) hy hw (di) NewAll.nil)⟩
theorem xd (i:Inv f c V m as Os h){h₁:aL}(k:∀ b o,h.get? b=PD o->h₁.get? b=PD o){Q:af->ai->Prop}(hq:lg f c V m as Os h (.r Os.length,[y],C) Q)(hy:y.is (as++[h₁.objs.size]) o)(hw:y.own)(hf:o.isFreed=PH):Q (.ref h₁.objs.size) (sh c.s₀ (h₁.push o) tk):=by
 obtain⟨g1,g2⟩:=(i.keep (i.F.keeps k) λb o U e=>k b o e).new hy hw hf;exact hq _ _ _ _ g1 g2 λb o U U e=>ag _ (k b o e)
end
noncomputable def ixN (z:Int)(n:Nat):Nat:=if 0<=z then z.toNat else(z+n).toNat
theorem GF (h1:-(n:Int)<=z)(h2:z<n):ixN z n<n:=
 (NP (0<=z)).elim (λh=>cS (bq (if_pos h:ixN z n=_)) ((Oi h).mpr h2)) λh=>cS (bq (if_neg h:ixN z n=_)) ((Oi (dj (NT (Int.add_left_neg _).symm) (lN h1 n))).mpr (NM (Int.add_lt_add_right (nq.mp h) n) (NT (kB _))))
theorem ED (h1:-(n:Int)<=z)(h2:z<n):seqIndex? z n=PD (ixN z n):=by
 by_cases h:0<=z
 ·have e:ixN z n=z.toNat:=if_pos h;rw[e]; unfold seqIndex?;rw[if_neg (dQ.mpr h),if_pos (by simp only[aq,decide_eq_true_eq]; exact⟨h,h2⟩)]
 ·have e:ixN z n=(z+n).toNat:=if_neg h;rw[e]; exact seqIndex_neg (nq.mp h) h1
def EJ (l:List PV)(z:Int):Option PV:=(((Ci l).map λxs=>PV.i (xs.getD (ixN z l.length) 0)).or ((K9 l).map λxs=>PV.s (xs.getD (ixN z l.length) ⟨#[]⟩))).or (l[ixN z l.length]?)
theorem zV {l:List PV}(e:EJ l z=PD p)(hn:ixN z l.length<l.length)(hv:IsAll as l vs):∃ v,vs[ixN z l.length]?=PD v/\p.is as v:=
 orE e (λe=>orE e (λe=>aZ e λxs e1 e2=>by
  have hn':=hn;rw[show l=xs.map .i from mz e1] at hn' hv⊢;rw[mz e1] at e2;exact hv.at (by rw[e2]; exact mm hn')) λe=>aZ e λxs e1 e2=>by
  have hn':=hn;rw[show l=xs.map .s from EA e1] at hn' hv⊢;rw[EA e1] at e2;exact hv.at (by rw[e2]; exact mm hn')) λe=>hv.at e
def ln:SubR where
 wd:=λU=>True
 f:=λOs a b=>a.ref?.bind λj=>(items Os j).bind λl=>b.int?.bind λz=>if l.length<=1000 then(EJ l z).map λp=>(p,[],[-(l.length:Int)<=z,z<(l.length:Int)]) else PF
 ok:=λe hC fs c V m as h U i H u v hu hv E Q k hq=>ak e λj e1 e=>ak e λl e2 e=>ak e λz e3 e=>iteE e λhl e=>aZ e λp e4 eq=>by
  subst eq;rw[PV.ref_is e1] at hu;refine bU λG1 hG1=>?_;obtain⟨t,rfl⟩:=PV.isInt e3 hv;obtain⟨D,vs,rfl,hD,hvs⟩:=mr i e2 hu;have hn:=GF hC.1 hC.2.1;obtain⟨x,g1,g2⟩:=zV e4 hn hvs;have sz:vs.toArray.size=l.length:=by rw[aK,hvs.len]
  have g1:vs.toArray[ixN z l.length]?=PD x:=by simpa using g1
  have lo:-(2 ^ 63)<=z:=dj (Int.neg_le_neg (dj (dJ.mpr hl) (by decide:((1000:Nat):Int)<=2 ^ 63))) hC.1;have hi:z<2 ^ 63:=kD hC.2.1 (NJ (dJ.mpr hl) (by decide));have q:=ic i hq g2 (k:=k);refine hG1 ?_;rcases hD with hD | hD
  ·refine⟨"list",_,jf,hD.typeIs,?_⟩
   by_cases h0:0<=z
   ·exact qD hD h0 hi (by rw[<- g1]; unfold ixN; rw[if_pos h0]) q
   ·exact wpAny_getItem_list_neg hD (nq.mp h0) (by rw[sz]; exact hC.1) lo (by rw[<- g1,sz]; unfold ixN; rw[if_neg h0]) q
  ·exact⟨"tuple",_,F.slot_tuple_getitem.lookup,hD.typeIs,getItem_tuple hD lo hi (by rw[sz]; exact ED hC.1 hC.2.1) g1 q⟩
def l5:SubR where
 wd:=λU=>True
 f:=λU a b=>mR PV.str? PV.int? (λx z=>(PV.s (fk x z),[],[fitsSsize z=PG,(bR x z).isSome=PG])) a b
 ok:=λe hC fs c V m as h U i H u v hu hv E Q k hq=>vu e λx z e1 e2 eq=>by
  subst eq;obtain⟨t,rfl⟩:=PV.isStr e1 hu;obtain⟨t',rfl⟩:=PV.isInt e2 hv;exact SB.item hC.1 hC.2.1 (ic i hq ⟨_,rfl⟩)
def oY:SlR where
 f:=λU a x y z=>if z=PF then a.str?.map λs=>(.s (ba s x y),[],[s.length<=sizeLine]) else PF
 ok:=λ{Os a x y z q} e hC fs c V m as h i H u l r t hu hl hr hz E Q k hq=>iteE e λhz0 e=>aZ e λs e1 eq=>by
  subst eq; subst hz0;obtain⟨t',rfl⟩:=PV.isStr e1 hu;cases hz;have kh:KeptH λh'=>∀ b o,h.get? b=PD o->h'.get? b=PD o:=λh' ob k b o e=>ag _ (k b o e);have k0:∀ b o,(sh c.s₀ h k).heap.get? b=PD o->(sh c.s₀ h k).heap.get? b=PD o:=λU U e=>e;have fin:∀ (h':aL) (t:Tok) (k:Nat),(∀ b o,h.get? b=PD o->h'.get? b=PD o)->Q (.str (ba s x y) t) (sh c.s₀ h' k):=λh' t k kp=>nB i hq ⟨_,rfl⟩ kp;cases hl<;>cases hr
  ·exact SBH.sliceItem_nn (s:=sh c.s₀ h k) kh k0 fin hC.1
  ·exact SBH.sliceItem_ns (s:=sh c.s₀ h k) kh k0 fin hC.1
  ·exact SBH.sliceItem_sn (s:=sh c.s₀ h k) kh k0 fin hC.1
  ·exact SBH.sliceItem_ss (s:=sh c.s₀ h k) kh k0 fin hC.1
noncomputable def KG (l:List PV)(x y z:Option Int):Option (List PV):=if x=PF/\y=PF/\z=PD (-1) then PD l.reverse else if x=PF/\z=PF then y.bind λn=>if 0<=n then PD (l.take n.toNat) else PF else PF
theorem IsAll.take {as:List aj}{ps:List PV}{vs:List af}(n:Nat)(h:IsAll as ps vs):IsAll as (ps.take n) (vs.take n):=
 h.ind (P:=λps vs=>∀ n:Nat,IsAll as (ps.take n) (vs.take n)) (λn=>n.casesOn rfl λU=>rfl) (λh U ih n=>n.casesOn rfl λn=>⟨_,_,rfl,h,ih n⟩) n
theorem zD {l l':List PV}{x y z:Option Int}(e:KG l x y z=PD l')(hv:IsAll as l vs):z≠PD 0/\∃ us:List af,slicePick vs.toArray x y z=us.toArray/\IsAll as l' us:=by
 unfold KG at e
 by_cases h1:x=PF/\y=PF/\z=PD (-1)
 ·rw[if_pos h1] at e; cases e;obtain⟨rfl,rfl,rfl⟩:=h1;exact⟨by decide,_,krv_pick _,hv.rev⟩
 ·rw[if_neg h1] at e
  exact iteE e λh2 e=>ak e λn ey e=>iteE e λh3 e=>by
   cases e;obtain⟨rfl,rfl⟩:=h2;subst ey
   have eb:sliceBounds PF (PD n) PF vs.toArray.size=(((0:Nat):Int),((min n.toNat vs.toArray.size:Nat):Int),1):=by
    simp only[sliceBounds,Option.getD_none,show(1:Int) > 0 by decide,if_true,if_neg (dQ.mpr h3)]
    congr 1
    congr 1
    exact O0 h3
   refine⟨by decide,vs.take n.toNat,?_,hv.take _⟩;rw[kmk_pick_nat _ eb,aK];refine(?_:((vs.drop 0).take (min n.toNat vs.length - 0)).toArray=_);rw[si,Nat.sub_zero,kmk_take_min]
def zC:SlR where
 f:=λOs a x y z=>(iS Os a).bind λl=>(KG l x y z).map λl'=>(.r Os.length,[.L l'],[l.length<=sizeLine])
 ok:=λe hC fs c V m as h i H u l r t hu hl hr hz E Q k hq=>ak e λps e1 e=>aZ e λl' e2 eq=>by
  subst eq;refine bU λG1 hG1=>?_;obtain⟨D,vs,n,rfl,h1,h2⟩:=ga i e1 hu;obtain⟨z0,us,g1,g2⟩:=zD e2 h2;have L0:(sh c.s₀ (h.push (sliceO l r t)) k).heap.IsList D vs.toArray:=⟨_,ag _ h1,rfl,n,rfl⟩;refine hG1 ?_;refine⟨"list",_,jf,L0.typeIs,wpAny_getItem_list_slice (lo:=_) L0 ⟨_,aE _ rfl,rfl,rfl⟩ hl hr hz z0 ?_ (by rw[aK,h2.len]; exact hC.1)⟩;rw[g1];exact xd i (λb o e=>ag _ e) hq (o:={ cls:=.type "list",data:=.seq us.toArray }) ⟨us,_,rfl,g2.up⟩ PI rfl
def oV (name:Str)(id:String)(g:∀ {M:nk} {A:be} {E:af->ai->Prop} {s:ai} {x:Str} {t:Tok} {pl:Sem Bool} {Q:af×List af->ai->Prop},Q (.builtin id,[.str x t]) s->wpAny M A (getMethod (.str x t) name pl) Q E s):MetR where
 name:=name
 id:=id
 rc:=λU a=>a.str?.isSome
 ok:=λ{Os a} e fs c V m as h i u hu pl E Q k hq=>by
  obtain⟨x,hx⟩:=dY.mp e;obtain⟨t,rfl⟩:=PV.isStr hx hu;exact@g _ _ _ _ _ _ _ _ hq
def Az:MetR:=oV (aa "count") "str.count" @GM.count
def Gm:MetR:=oV (aa "index") "str.index" @GM.index
def Ay:MetR:=oV (aa "join") "str.join" @GM.join
def AA:MetR where
 name:="bit_length"
 id:="int.bit_length"
 rc:=λU a=>a.int?.isSome
 ok:=λ{Os a} e fs c V m as h i u hu pl E Q k hq=>by
  obtain⟨x,hx⟩:=dY.mp e;obtain⟨t,rfl⟩:=PV.isInt hx hu;exact@getMethod_int_bit_length _ _ _ _ _ _ _ _ hq
noncomputable def occ (x y:Str):Int:=((aT x y 0 x.length (x.length+1)).length:Nat)
noncomputable def fst (x y:Str):Option Nat:=(aT x y 0 x.length 1).head?
def wf:CallR:=⟨.builtin "str.count",λU ps=>(yb ps).bind λq=>mR PV.str? PV.str? (λx y=>(PV.i (occ x y),[],[])) q.1 q.2⟩
def AP:CallR:=⟨.builtin "str.index",λU ps=>(yb ps).bind λq=>mR PV.str? PV.str? (λx y=>(PV.i (((fst x y).getD 0:Nat):Int),[],[fst x y≠PF])) q.1 q.2⟩
def Cf (l:List PV):List Str:=l.filterMap PV.str?
def xz:CallR:=⟨.builtin "str.join",λOs ps=>(yb ps).bind λq=>q.1.str?.bind λx=>(iS Os q.2).map λl=>(.s (jV x (Cf l)),[],[l=(Cf l).map .s,((Cf l).map (·.length)).sum+(Cf l).length*x.length<=16777216])⟩
def xY:CallR:=⟨.builtin "int.bit_length",λU ps=>(one ps).bind λp=>p.int?.map λz=>(.i (az z:Nat),[],[])⟩
def Dr:CallR:=⟨.builtin "len",λOs ps=>(one ps).bind λp=>((iS Os p).map λl=>(.i (l.length:Nat),[],[(l.length:Int)<2 ^ 63])).or (p.str?.map λx=>(.i (x.length:Nat),[],[(x.length:Int)<2 ^ 63]))⟩
def xS:CallR:=⟨.builtin "divmod",λOs ps=>(yb ps).bind λq=>mR PV.int? PV.int? (λa b=>(PV.r Os.length,[.T [.i (a.fdiv b),.i (a.fmod b)]],[b≠0,aC a b=PH])) q.1 q.2⟩
def II:CallR:=⟨.builtin "sum",λOs ps=>(one ps).bind λp=>(iS Os p).bind λl=>(Ci l).map λxs=>(.i xs.sum,[],[])⟩
def ES:CallR:=⟨.builtin "max",λOs ps=>(one ps).bind λp=>(iS Os p).bind λl=>(Ci l).bind λl=>(jS l).map λq=>(.i (max q.1 (max q.2.1 q.2.2)),[],[])⟩
theorem FK {ys:List Str}:∀ {vs:List af},IsAll as (ys.map .s) vs->StrsAre vs ys:=by
 induction ys with
 | nil=>exact λ{U} h=>h▸.nil
 | cons y r ih=>exact λ{U} h=>h.elim λv z=>z.elim λs z=>z.1▸z.2.1.elim λt e=>e▸.cons _ _ (ih z.2.2)
theorem AN {ys:List Int}:∀ {vs:List af},IsAll as (ys.map .i) vs->jr vs ys:=by
 induction ys with
 | nil=>exact λ{U} h=>h▸.nil
 | cons y r ih=>exact λ{U} h=>h.elim λv z=>z.elim λs z=>z.1▸z.2.1.elim λt e=>e▸.cons _ _ (ih z.2.2)
section
variable {fs:Fs}{c:Cx}
theorem bi {id:String}:gU c (.builtin id):=.inl ⟨_,rfl⟩
theorem r4:b8 fs c wf:=⟨bi,λe hC V m as h vs i hv E Q k hq=>ak e λq e1 e=>vu e λx y e2 e3 eq=>by
 subst eq;rw[two_is e1] at hv;obtain⟨u,v,rfl,hu,hv2⟩:=hv.two;obtain⟨t,rfl⟩:=PV.isStr e2 hu;obtain⟨t',rfl⟩:=PV.isStr e3 hv2;exact call_gives F.slot_str_count (Ie _ _ _) F.entry_str_count (F.args_str_count_2 _ _) (gives_str_count x y t t') (ic i hq ⟨_,rfl⟩)⟩
theorem yE:b8 fs c AP:=⟨bi,λe hC V m as h vs i hv E Q k hq=>ak e λq e1 e=>vu e λx y e2 e3 eq=>by
 subst eq;rw[two_is e1] at hv;obtain⟨u,v,rfl,hu,hv2⟩:=hv.two;obtain⟨t,rfl⟩:=PV.isStr e2 hu;obtain⟨t',rfl⟩:=PV.isStr e3 hv2;have hn:=hC.1;unfold fst at hn;cases ho:aT x y 0 x.length 1 with
 | nil=>rw[ho] at hn; exact absurd rfl hn
 | cons n r=>
  have q:=ic i hq (v:=.int (((fst x y).getD 0:Nat):Int) (sh c.s₀ h k).toks) (k:=k+1) ⟨_,rfl⟩;have e0:(fst x y).getD 0=n:=by unfold fst; rw[ho]; rfl
  rw[e0] at q;exact call_gives F.slot_str_index (Ie _ _ _) F.entry_str_index (F.args_str_index_2 _ _) (gives_str_index x y t t' n r ho) q⟩
theorem mo:b8 fs c xz:=⟨bi,λe hC V m as h vs i hv E Q k hq=>ak e λq e1 e=>ak e λx e2 e=>aZ e λl e3 eq=>by
 subst eq;rw[two_is e1] at hv;refine bU λG1 hG1=>?_;obtain⟨u,v,rfl,hu,hv2⟩:=hv.two;obtain⟨t,rfl⟩:=PV.isStr e2 hu;obtain⟨D,us,n,rfl,h1,h2⟩:=ga i e3 hv2;refine hG1 ?_;rw[hC.1] at h2;exact join_list (s:=sh c.s₀ h k) ⟨_,h1,rfl,n,rfl⟩ (FK h2) hC.2.1 λU U=>ic i hq ⟨_,rfl⟩⟩
theorem p8:b8 fs c xY:=⟨bi,λe hC V m as h vs i hv E Q k hq=>ak e λp e1 e=>aZ e λz e2 eq=>by
 subst eq;rw[one_is e1] at hv;obtain⟨u,rfl,hu⟩:=hv.one;obtain⟨t,rfl⟩:=PV.isInt e2 hu;exact call_int_bit_length (ic i hq ⟨_,rfl⟩)⟩
theorem sT:b8 fs c Dr:=⟨bi,λe hC V m as h vs i hv E Q k hq=>ak e λp e1 e=>by
 rw[one_is e1] at hv;obtain⟨u,rfl,hu⟩:=hv.one;refine orE e (λe=>aZ e λl e2 eq=>?_) λe=>aZ e λx e2 eq=>?_
 ·subst eq;obtain⟨D,us,n,rfl,h1,h2⟩:=ga i e2 hu;have z:us.toArray.size=l.length:=by rw[aK,h2.len]
  exact len_list (s:=sh c.s₀ h k) ⟨_,h1,rfl,n,rfl⟩ (by rw[z]; exact hC.1) (ic i hq ⟨_,by rw[z]⟩)
 ·subst eq;obtain⟨t,rfl⟩:=PV.isStr e2 hu;exact len_str (nq.mpr hC.1) (ic i hq ⟨_,rfl⟩)⟩
theorem wc:b8 fs c xS:=⟨bi,λe hC V m as h vs i hv E Q k hq=>ak e λq e1 e=>vu e λa b e2 e3 eq=>by
 subst eq;rw[two_is e1] at hv;obtain⟨u,v,rfl,hu,hv2⟩:=hv.two;obtain⟨t,rfl⟩:=PV.isInt e2 hu;obtain⟨t',rfl⟩:=PV.isInt e3 hv2;obtain⟨N,NN,hN⟩:=gf c.h₀ h c.L;refine divmod_N (s:=sh c.s₀ h k) i.F NN hC.1 (λh' F' N'=>?_) (.inl hC.2.1);have N2:gY c.h₀ c.L h' N:=λq hq=>N' q (.tail _ hq);have kp:=lf hN i.F F' N2;have D0:=(N' _ (.head _)).1
 have n0:h.get? h.objs.size=PF:=by
  cases e:h.get? h.objs.size with
  | none=>rfl
  | some o=>exact absurd (aO e) (bY _)
 have y:(SO.T [.i (a.fdiv b),.i (a.fmod b)]).is (as++[h.objs.size]) { cls:=.type "tuple",data:=.seq #[.int (a.fdiv b) k,.int (a.fmod b) (k+1)] }:=⟨[_,_],rfl,_,_,rfl,⟨_,rfl⟩,_,_,rfl,⟨_,rfl⟩,rfl⟩;exact hq _ [h.objs.size] h' _ ⟨_,by rw[<- i.len,aM (aI _),b9]; rfl,rfl⟩ (i.made F' kp (NewAll.cons n0 D0 y PI (di) NewAll.nil)) λb o n U e=>kp b o n e⟩
end
section
variable {A:be}{w:aB}{s:ai}{E Q:af->ai->Prop}{l:aj}
theorem Jk (hh:HdOk A.handled s.heap)(hlt:l<s.heap.objs.size)(o:Obj)(d:aj)(hd:d∈[s.heap.objs.size,l]++hdL A.handled):d<(s.heap.push o).objs.size:=by
 rw[bW];rcases bf.mp hd with hd | hd
 ·rcases aQ.mp hd with rfl | hd
  ·exact cC _
  ·rw[ay.mp hd]; exact bF hlt
 ·obtain⟨o,e⟩:=hh.at hd;exact bF (aO e)
theorem Do (hk:∀ b o',b∉[s.heap.objs.size]->(s.heap.push o).get? b=PD o'->h'.get? b=PD o')(b:aj)(o':Obj)(e:s.heap.get? b=PD o'):h'.get? b=PD o':=
 hk b o' (λhm=>by rw[ay.mp hm] at e; exact bY _ (aO e)) (ag _ e)
theorem At {R:af->Prop}{x y:Int}{t u v:Tok}(H:∀ v,R (.int (max x (max y z)) v)):R (if decide (y > x) then(if decide (z > y) then .int z v else .int y u) else(if decide (z > x) then .int z v else .int x t)):=by
 by_cases h1:y > x
 ·rw[if_pos (decide_eq_true h1)]
  by_cases h2:z > y
  ·rw[if_pos (decide_eq_true h2)]; have:=H v; rwa [ia (c9 h2),ia (c9 (kD h1 h2))] at this
  ·rw[if_neg (λh=>h2 (of_decide_eq_true h))]; have:=H u; rwa [Ob (dQ.mp h2),ia (c9 h1)] at this
 ·rw[if_neg (λh=>h1 (of_decide_eq_true h))]
  by_cases h2:z > x
  ·rw[if_pos (decide_eq_true h2)]; have:=H v; rwa [ia (dj (dQ.mp h1) (c9 h2)),ia (c9 h2)] at this
  ·rw[if_neg (λh=>h2 (of_decide_eq_true h))]; have:=H t; rwa [Ob (Int.max_le.mpr ⟨dQ.mp h1,dQ.mp h2⟩)] at this
theorem Gk {x y:Int}{t u v:Tok}(hh:HdOk A.handled s.heap)(hL:s.heap.IsList l #[.int x t,.int y u,.int z v])
  (h:∀ h' tk v,(∀ b o,s.heap.get? b=PD o->h'.get? b=PD o)->Q (.int (max x (max y z)) v) { s with heap:=h',toks:=tk }):wpAny (MP w) A (call (.builtin "max") [.ref l]) Q E s:=
 call_max_walk (xx hh hL (CmpOf.ints_gt (λi=>[x,y,z].getD i 0) (λi v e=>ID e)) λh' tk k=>At (R:=λv=>Q v { s with heap:=h',toks:=tk }) λv=>h h' tk v k)
theorem nA (ns:List Int):∀ j,preSum (λi=>ns.getD i 0) j=(ns.take j).sum
 | 0=>rfl
 | j+1=>by
  rw[preSum,nA ns j,iX]
  by_cases h:j<ns.length
  ·rw[d5,aF h,List.sum_append];refine(?_:_+ns[j]=_+(ns[j]+0));rw[gL]
  ·rw[List.getElem?_eq_none (hH h),cz (hH h),cz (cq (hH h))];exact gL _
theorem Nt:∀ {vs:List af} {ns:List Int} {i:Nat} {v:af},jr vs ns->vs[i]?=PD v->∃ t,v=.int (ns.getD i 0) t
 | _,_,i,_,.nil,e=>by cases i<;>cases e
 | _,_,0,_,.cons ..,e=>by cases e; exact⟨_,rfl⟩
 | _,_,i+1,_,.cons _ _ h,e=>Nt (i:=i) h e
theorem IH {ns:List Int}(hh:HdOk A.handled s.heap)(hL:s.heap.IsList l vs.toArray)(hi:jr vs ns)
  (h:∀ h' tk v,(∀ b o,s.heap.get? b=PD o->h'.get? b=PD o)->Q (.int ns.sum v) { s with heap:=h',toks:=tk }):wpAny (MP w) A (call (.builtin "sum") [.ref l]) Q E s:=by
 have hlt:l<s.heap.objs.size:=let ⟨_,e,_⟩:=hL; aO e;refine call_sum_walkG (gV hL ?_)
 refine⟨_,_,[_],_,_,_,λi=>ns.getD i 0,rfl,j3 (A:=A.in1) _ l (aY hlt) vs.toArray,
  ⟨⟨⟨_,aE _ rfl,rfl,rfl⟩,hL.push _⟩,hh.keep λb o e=>ag _ e⟩,Jk hh hlt _,λi v e=>?_,λh' tk t' hk=>?_⟩
 ·have e:vs[i]?=PD v:=by simpa using e
  exact Nt hi e
 ·have H:=h h' tk t' (Do hk);rw[nA,cz (by rw[aK,hi.length]; exact aI _)];exact H
end
section
variable {fs:Fs}{c:Cx}
theorem CA (O:c.Ok fs):b8 fs c II:=⟨bi,λe hC V m as h vs i hv E Q k hq=>ak e λp e1 e=>ak e λl e2 e=>aZ e λxs e3 eq=>by
 subst eq;rw[one_is e1] at hv;refine bU λG1 hG1=>?_;obtain⟨u,rfl,hu⟩:=hv.one;obtain⟨D,us,n,rfl,h1,h2⟩:=ga i e2 hu;refine hG1 ?_;rw[mz e3] at h2;exact IH (s:=sh c.s₀ h k) (O.h.at i) ⟨_,h1,rfl,n,rfl⟩ (AN h2) λh' tk v kp=>nB i hq ⟨_,rfl⟩ kp⟩
theorem Au (O:c.Ok fs):b8 fs c ES:=⟨bi,λe hC V m as h vs i hv E Q k hq=>ak e λp e1 e=>ak e λl e2 e=>ak e λz e3 e=>aZ e λq e4 eq=>by
 subst eq;rw[one_is e1] at hv;refine bU λG1 hG1=>?_;obtain⟨u,rfl,hu⟩:=hv.one;obtain⟨D,us,n,rfl,h1,h2⟩:=ga i e2 hu;refine hG1 ?_;rw[mz e3,f9 e4] at h2;refine bU λG2 hG2=>?_;obtain⟨_,_,rfl,⟨t,rfl⟩,h2⟩:=h2;obtain⟨_,_,rfl,⟨t1,rfl⟩,⟨t2,rfl⟩⟩:=h2.two;refine hG2 ?_;exact Gk (s:=sh c.s₀ h k) (O.h.at i) ⟨_,h1,rfl,n,rfl⟩ λh' tk v kp=>nB i hq ⟨_,rfl⟩ kp⟩
end
end Nw
end
section
open PySem PySem.W PySem.Calls PySem.Spec PyProof.Rows
namespace Mine
variable {TI TO i1 i2:aj}{prog:cj}{fp1 fp2:List aj}
noncomputable abbrev IM:String:="str_ascii_iterator"
theorem wa {w:aB}{A:be}(it:aj)(x:Str)(t:Tok):
  wF prog w A it ([it]++hdL A.handled) x.cps.size (SignAt x) (λi h=>h.IsStrIter it IM x t i/\HdOk A.handled h) where
 live:=λU U st=>let ⟨o,ho,_⟩:=st.1; ⟨o,ho⟩
 frame:=λU U U st hk=>⟨let ⟨o,ho,r⟩:=st.1; ⟨o,hk it (bP _ (.head _)) o ho,r⟩,st.2.keepL λb hb=>hk b (aN _ hb)⟩
 item:=λi s Q E hi st hQ=>by
  refine wpAny_nextOf_ascii_item st.1 (c:=x.cps[i]) (by simp[hi]) λh' hit' hs'=>?_;refine bU λG1 hG1=>?_;obtain⟨o,ho,hc,_⟩:=st.1;refine hG1 ?_;exact hQ _ h' (s.toks+1) ⟨_,_,by simp[hi],rfl⟩ ⟨hit',st.2.extBut ho (mj (by decide) hc) hs'.extBut⟩ hs'
 done:=λs Q E st hE=>ml st.2 st.1 (by simp) hE
structure ZOff (z TI TO i1 i2:aj)(fp1 fp2:List aj):Prop where
 z1:z∉fp1
 z2:z∉fp2
 o1:TO∉fp1
 o2:TO∉fp2
 a12:i1∉fp2
 a21:i2∉fp1
 s1:i1∈fp1
 s2:i2∈fp2
 zI:TI≠z
 zO:TO≠z
 IO:TI≠TO
 I1:TI≠i1
 I2:TI≠i2
theorem ZOff.zi1 {z:aj}(D:ZOff z TI TO i1 i2 fp1 fp2):z≠i1/\z≠i2/\TO≠i1/\TO≠i2:=⟨λq=>D.z1 (q▸D.s1),λq=>D.z2 (q▸D.s2),λq=>D.o1 (q▸D.s1),λq=>D.o2 (q▸D.s2)⟩
section
variable {prog:cj}{w:aB}{A:be}{E:af->ai->Prop}{s:ai}{z TI TO i1 i2:aj}{fp1 fp2:List aj}{n n2 k:Nat}{P1 P2:Nat->af->Prop}{S1 S2:Nat->aL->Prop}
theorem Co (D1:wF prog w A i1 fp1 n P1 S1)(D2:wF prog w A i2 fp2 n2 P2 S2)(D:ZOff z TI TO i1 i2 fp1 fp2){a b:af}{Q:af->ai->Prop}
  (hz:lT s.heap z TI TO .none) (hTI:gq s.heap TI (.ref i1) (.ref i2)) (hTO:gq s.heap TO a b) (h1:S1 k s.heap) (h2:S2 k s.heap) (hk:k<n) (hk2:k<n2)
  (hQ:∀ h' tk x y,P1 k x->P2 k y->lT h' z TI TO (rawInt s.heap.objs.size)->gq h' TO x y->S1 (k+1) h'->S2 (k+1) h'->gq h' s.heap.objs.size x y->
   (∀ c o,c≠z->c≠TO->c≠i1->c≠i2->s.heap.get? c=PD o->h'.get? c=PD o)->Q (.ref s.heap.objs.size) { s with heap:=h',toks:=tk }):
  wpAny (model prog w) A (u6.«zip.__next__» ⟨[.ref z],[]⟩) (λfin s'=>∃ v,fin=.done (.ret v)/\Q v s') E s:=by
 refine bU λG1 hG1=>?_;obtain⟨zi1,zi2,oi1,oi2⟩:=D.zi1;have nin:∀ {c d:aj} {fp:List aj},c∉fp->d∈fp->d≠c:=λh h' q=>h (q▸h');refine hG1 ?_;refine(?_:wpAny _ _ (field (.ref z) 2 >>= _) _ _ _);refine ab (bg hz rfl (x:=.bool PH) rfl ?_);refine(?_:wpAny _ _ (field (.ref z) 3 >>= _) _ _ _);refine ab (bg hz rfl (x:=.ref TI) rfl ?_);refine ab (dc hTI rfl ?_);refine(?_:wpAny _ _ (dh (.ref z) >>= _) _ _ _);refine ab ?_;unfold dh;refine ab (bg hz rfl (x:=.none) rfl (aD ?_));simp only[if_true];refine ab (eF ?_);refine ab (bg hz rfl (x:=.ref TO) rfl ?_);refine ab (gI hz (by simp) λh₁ hz₁ hs₁=>?_);replace hz₁:lT h₁ z TI TO .ellipsis:=hz₁;refine ab ?_;simp only[List.zipIdx_cons,List.zipIdx_nil,kA,List.forIn_nil];refine ab (ab (oE ?_));refine(?_:wpAny _ _ (cf (.ref i1) >>= _) _ _ _);have f1:S1 k h₁:=D1.frame _ _ _ h1 λb hb o e=>hs₁.extBut _ _ (nin D.z1 hb) e;refine ab (D1.item k _ _ _ hk f1 λx h₂ tk₂ hx f2 hs₂=>aD ?_);have hTO₂:gq h₂ TO a b:=hs₂.extBut _ _ oi1 (hs₁.extBut _ _ D.zO hTO);refine ab (dc hTO₂ rfl ?_);refine ab (wpAny_updateSeq_pair hTO₂ λh₃ hTO₃ hs₃=>?_);replace hTO₃:gq h₃ TO x b:=hTO₃;refine ab (nf (aD ?_));refine ab (ab (oE ?_));refine(?_:wpAny _ _ (cf (.ref i2) >>= _) _ _ _);have g3:S2 k h₃:=D2.frame _ _ _ h2 λb hb o e=>hs₃.extBut _ _ (nin D.o2 hb) (hs₂.extBut _ _ (nin D.a12 hb) (hs₁.extBut _ _ (nin D.z2 hb) e));refine ab (D2.item k _ _ _ hk2 g3 λy h₄ tk₄ hy g4 hs₄=>aD ?_);have hTO₄:gq h₄ TO x b:=hs₄.extBut _ _ oi2 hTO₃;refine ab (dc hTO₄ rfl ?_);refine ab (wpAny_updateSeq_pair hTO₄ λh₅ hTO₅ hs₅=>?_);replace hTO₅:gq h₅ TO x y:=hTO₅;refine ab (nf (aD (aD ?_)));refine ab (dc hTO₅ rfl ?_);refine ab (wpAny_newTuple ?_);have hsz:h₅.objs.size=s.heap.objs.size:=by rw[hs₅.1,hs₄.1,hs₃.1,hs₂.1,hs₁.1]
 have hz₅:lT h₅ z TI TO .ellipsis:=hs₅.extBut _ _ D.zO.symm (hs₄.extBut _ _ zi2 (hs₃.extBut _ _ D.zO.symm (hs₂.extBut _ _ zi1 hz₁)))
 have hk₅:∀ c o,c≠z->c≠TO->c≠i1->c≠i2->s.heap.get? c=PD o->h₅.get? c=PD o:=λc o c1 c2 c3 c4 e=>
  hs₅.extBut _ _ c2 (hs₄.extBut _ _ c4 (hs₃.extBut _ _ c2 (hs₂.extBut _ _ c3 (hs₁.extBut _ _ c1 e))))
 have hzlt:z<h₅.objs.size:=aO hz₅;refine(?_:wpAny _ _ (Builtin.SmallTypes.ownedTupleHandOut (.ref z) (.ref h₅.objs.size) >>= _) _ _ _);refine ab ?_;unfold Builtin.SmallTypes.ownedTupleHandOut;have hz₆:lT (h₅.push { cls:=.type "tuple",data:=.seq #[x,y] }) z TI TO .ellipsis:=ag _ hz₅;refine ab (gI hz₆ (by simp) λh₇ hz₇ hs₇=>?_);replace hz₇:lT h₇ z TI TO (rawInt h₅.objs.size):=hz₇;refine gI hz₇ (by simp) λh₈ hz₈ hs₈=>?_;replace hz₈:lT h₈ z TI TO (rawInt h₅.objs.size):=hz₈;have up:∀ c o,c≠z->h₅.get? c=PD o->h₈.get? c=PD o:=λc o c1 e=>hs₈.extBut _ _ c1 (hs₇.extBut _ _ c1 (ag _ e));have hT₈:gq h₈ h₅.objs.size x y:=hs₈.extBut _ _ (cL hzlt) (hs₇.extBut _ _ (cL hzlt) (aE _ rfl));rw[hsz] at hz₈ hT₈;refine aD ⟨_,rfl,?_⟩;refine(?_:Q (.ref h₅.objs.size) _);rw[hsz]
 exact hQ h₈ _ x y hx hy hz₈ (up _ _ D.zO hTO₅) (D1.frame _ _ _ f2 λb hb o e=>up _ _ (nin D.z1 hb) (hs₅.extBut _ _ (nin D.o1 hb) (hs₄.extBut _ _ (nin D.a21 hb) (hs₃.extBut _ _ (nin D.o1 hb) e))))
  (D2.frame _ _ _ g4 λb hb o e=>up _ _ (nin D.z2 hb) (hs₅.extBut _ _ (nin D.o2 hb) e)) hT₈ λc o c1 c2 c3 c4 e=>up c o c1 (hk₅ c o c1 c2 c3 c4 e)
theorem Fv (D1:wF prog w A i1 fp1 n P1 S1)(D:ZOff z TI TO i1 i2 fp1 fp2){Q:Fin->ai->Prop}
  (hz:lT s.heap z TI TO .none) (hTI:gq s.heap TI (.ref i1) (.ref i2)) (h1:S1 n s.heap)
  (hE:∀ h' e,(∀ c o,c≠z->c≠i1->s.heap.get? c=PD o->h'.get? c=PD o)->(∃ o,h'.get? e=PD o/\o.cls=.type "StopIteration")->E (.ref e) { s with heap:=h' }):
  wpAny (model prog w) A (u6.«zip.__next__» ⟨[.ref z],[]⟩) Q E s:=by
 obtain⟨zi1,zi2,oi1,oi2⟩:=D.zi1;refine(?_:wpAny _ _ (field (.ref z) 2 >>= _) _ _ _);refine ab (bg hz rfl (x:=.bool PH) rfl ?_);refine(?_:wpAny _ _ (field (.ref z) 3 >>= _) _ _ _);refine ab (bg hz rfl (x:=.ref TI) rfl ?_);refine ab (dc hTI rfl ?_);refine(?_:wpAny _ _ (dh (.ref z) >>= _) _ _ _);refine ab ?_;unfold dh;refine ab (bg hz rfl (x:=.none) rfl (aD ?_));simp only[if_true];refine ab (eF ?_);refine ab (bg hz rfl (x:=.ref TO) rfl ?_);refine ab (gI hz (by simp) λh₁ hz₁ hs₁=>?_);replace hz₁:lT h₁ z TI TO .ellipsis:=hz₁;refine ab ?_;simp only[List.zipIdx_cons,List.zipIdx_nil,kA,List.forIn_nil];refine ab (ab (oE ?_));refine(?_:wpAny _ _ (cf (.ref i1) >>= _) _ _ _);refine ab (D1.done _ _ _ (D1.frame _ _ _ h1 λb hb o e=>hs₁.extBut _ _ (λq=>D.z1 (q▸hb)) e) λh₂ e hs₂ he=>?_);obtain⟨oe,hoe,hce⟩:=he;have hz₂:lT h₂ z TI TO .ellipsis:=hs₂ _ _ zi1 hz₁;have hez:e≠z:=λx=>by subst x; rw[hz₂] at hoe; cases hoe; simp at hce
 refine gI hz₂ (by simp) λh₃ U hs₃=>hE h₃ e (λc o c1 c3 x=>hs₃.extBut _ _ c1 (hs₂ _ _ c3 (hs₁.extBut _ _ c1 x))) ⟨oe,hs₃.extBut _ _ hez hoe,hce⟩
end
theorem zh {w:aB}{A:be}{z:aj}{n n2:Nat}{P1 P2:Nat->af->Prop}{S1 S2:Nat->aL->Prop}(D1:wF prog w A.in1 i1 fp1 n P1 S1)(D2:wF prog w A.in1 i2 fp2 n2 P2 S2)(D:ZOff z TI TO i1 i2 fp1 fp2)(hn:n<=n2):
  WalksT prog w A z ([z,TI,TO]++(fp1++fp2)) [z,TO,i1,i2] n (λi vals=>∃ x y,P1 i x/\P2 i y/\vals=#[x,y])
   (λi h=>lT h z TI TO .none/\gq h TI (.ref i1) (.ref i2)/\(∃ a b,gq h TO a b)/\S1 i h/\S2 i h)
   (λi T h=>lT h z TI TO (rawInt T)/\gq h TI (.ref i1) (.ref i2)/\(∃ a b,gq h TO a b)/\S1 (i+1) h/\S2 (i+1) h/\T≠z/\T≠TO/\T≠i1/\T≠i2) where
 sub:=λc hc=>by
  rcases aQ.mp hc with rfl | hc
  ·exact .head _
  rcases aQ.mp hc with rfl | hc
  ·exact .tail _ (.tail _ (.head _))
  rcases aQ.mp hc with rfl | hc
  ·exact aN _ (bP _ D.s1)
  ·rw[ay.mp hc]; exact aN _ (aN _ D.s2)
 frame:=λi h h' H hk=>⟨hk z (.head _) _ H.1,hk TI (.tail _ (.head _)) _ H.2.1,H.2.2.1.elim λa u=>u.elim λb hTO=>⟨a,b,hk TO (.tail _ (.tail _ (.head _))) _ hTO⟩,D1.frame _ _ _ H.2.2.2.1 λb hb o e=>hk b (aN _ (bP _ hb)) o e,D2.frame _ _ _ H.2.2.2.2 λb hb o e=>hk b (aN _ (aN _ hb)) o e⟩
 item:=λi s Q E hi H hQ=>H.2.2.1.elim λa u=>u.elim λb hTO=>by
  refine(D1.live _ _ H.2.2.2.1).elim λo1 e1=>(D2.live _ _ H.2.2.2.2).elim λo2 e2=>?_;have hT:s.TypeIs (.ref z) "zip":=⟨_,H.1,rfl⟩;have lt:∀ {c o},s.heap.get? c=PD o->s.heap.objs.size≠c:=λe=>cL (aO e);have lz:=lt H.1;have lO:=lt hTO;unfold pyNext
  refine ab (fK (bA (name:=aa "__next__") hT lj
   (bZ lj hT F.entry_zip_next
    (Co D1 D2 D H.1 H.2.1 hTO H.2.2.2.1 H.2.2.2.2 hi (eX hi hn) λh' tk x y hx hy a1 a2 a3 a4 a5 hk=>aD ?_) (F.args_zip_next_1 _))))
  exact hQ s.heap.objs.size _ h' _ ⟨x,y,hx,hy,rfl⟩ (aI _) ⟨_,a5,rfl,_,rfl⟩ ⟨a1,hk _ _ D.zI D.IO D.I1 D.I2 H.2.1,⟨_,_,a2⟩,a3,a4,lz,lO,lt e1,lt e2⟩
   λc o hc e=>hk c o (λq=>hc (q▸.head _)) (λq=>hc (q▸.tail _ (.head _))) (λq=>hc (q▸.tail _ (.tail _ (.head _)))) (λq=>hc (q▸.tail _ (.tail _ (.tail _ (.head _))))) e
 go:=λelts k pos i T s Q E H hQ=>wpAny_letOwnedTupleGo_zip H.1 λh' hz' hs'=>hQ h' ⟨hz',hs'.extBut _ _ D.zI H.2.1,H.2.2.1.elim λa u=>u.elim λb hTO=>⟨a,b,hs'.extBut _ _ D.zO hTO⟩,D1.frame _ _ _ H.2.2.2.1 λb hb o e=>hs'.extBut _ _ (λq=>D.z1 (q▸hb)) e,D2.frame _ _ _ H.2.2.2.2.1 λb hb o e=>hs'.extBut _ _ (λq=>D.z2 (q▸hb)) e⟩ λc o hc e=>hs'.extBut _ _ (λq=>hc (q▸.head _)) e
 apart:=λi T h H hT=>by
  rcases aQ.mp hT with rfl | hc
  ·exact H.2.2.2.2.2.1 rfl
  rcases aQ.mp hc with rfl | hc
  ·exact H.2.2.2.2.2.2.1 rfl
  rcases aQ.mp hc with rfl | hc
  ·exact H.2.2.2.2.2.2.2.1 rfl
  ·exact H.2.2.2.2.2.2.2.2 (ay.mp hc)
 done:=λs Q E H hQ=>by
  have hT:s.TypeIs (.ref z) "zip":=⟨_,H.1,rfl⟩;unfold pyNext
  refine ab (fK (bA (name:=aa "__next__") hT lj
   (bZ lj hT F.entry_zip_next (Fv D1 D H.1 H.2.1 H.2.2.2.1 λh' e hk he=>?_) (F.args_zip_next_1 _))))
  obtain⟨o,ho,hc⟩:=he;refine ab (ty (T:="StopIteration") (b:=PG) ⟨o,ho,hc⟩ wu ?_);exact aD (hQ _ _ λc o hc e=>hk c o (λq=>hc (q▸.head _)) (λq=>hc (q▸.tail _ (.tail _ (.head _)))) e)
 self:=λi s Q E hst hQ=>kY hst.1 hQ
noncomputable abbrev zsH1 (h:aL)(l1:aj):aL:=h.push { cls:=.type "list_iterator",data:=.fields #[.ref l1,.int 0 0] }
abbrev zsH2 (h:aL)(l1:aj)(tx:Str)(tt:Tok):aL:=(zsH1 h l1).push { cls:=.type "str_ascii_iterator",data:=.fields #[.str tx tt,.int 0 0] }
abbrev zsH3 (h:aL)(l1:aj)(tx:Str)(tt:Tok):aL:=(zsH2 h l1 tx tt).push { cls:=.type "tuple",data:=.seq #[.ref h.objs.size,.ref (zsH1 h l1).objs.size] }
abbrev zsH4 (h:aL)(l1:aj)(tx:Str)(tt:Tok):aL:=(zsH3 h l1 tx tt).push { cls:=.type "tuple",data:=.seq #[.none,.none] }
abbrev zsH5 (h:aL)(l1:aj)(tx:Str)(tt:Tok):aL:=(zsH4 h l1 tx tt).push { cls:=.type "zip",data:=.fields #[.none,.bool PH,.bool PH,.ref (zsH2 h l1 tx tt).objs.size,.ref (zsH3 h l1 tx tt).objs.size] }
theorem Fu (l1:aj)(xs:Array af)(tx:Str)(tt:Tok)(ha:tx.cps.all (·<128)=PG):
  Meets (u6.«zip.__new__» ⟨[.type "zip",.ref l1,.str tx tt],[]⟩) (λU R s=>s.heap.IsList l1 xs/\
   R (.ok (.ret (.ref (zsH4 s.heap l1 tx tt).objs.size))) { s with heap:=zsH5 s.heap l1 tx tt }):=
 .of_wp λprog w A R s h=>by
  obtain⟨hp,g,d,tk,os⟩:=s; obtain⟨hl1,h⟩:=h;have hsub:=sub_zip;have hL1:Heap.IsList (Shared.heap ⟨hp,g,d,tk,os⟩) l1 xs:=hl1
  wp_walk using gV hL1,wpAny_pyIter_ascii ha
  exact⟨_,rfl,h⟩
section
variable {prog:cj}{w:aB}{A:be}{E:af->ai->Prop}{s:ai}
theorem Cm {l1:aj}{xs:Array af}{tx:Str}{tt:Tok}{Q:af->ai->Prop}(hl1:s.heap.IsList l1 xs)(ha:tx.cps.all (·<128)=PG)
  (h:∀ h',lT h' (s.heap.objs.size+4) (s.heap.objs.size+2) (s.heap.objs.size+3) .none->gq h' (s.heap.objs.size+2) (.ref s.heap.objs.size) (.ref (s.heap.objs.size+1))->
   gq h' (s.heap.objs.size+3) .none .none->h'.IsListIter s.heap.objs.size l1 0->h'.IsStrIter (s.heap.objs.size+1) IM tx tt 0->h'.objs.size=s.heap.objs.size+5->
   (∀ c o,s.heap.get? c=PD o->h'.get? c=PD o)->Q (.ref (s.heap.objs.size+4)) { s with heap:=h' }):
  wpAny (model prog w) A (call (.type "zip") [.ref l1,.str tx tt]) Q E s:=by
 refine callType_new F.called_zip (by decide) (F.typeCall_zip_2 _ _) (F.newCall_zip_2 _ _) (λobj=>F.args_object_init_3 obj _ _) F.entry_zip_new
  (Fu l1 xs tx tt ha) ⟨hl1,?_⟩
 have z1:(zsH1 s.heap l1).objs.size=s.heap.objs.size+1:=bW ..;have z2:(zsH2 s.heap l1 tx tt).objs.size=s.heap.objs.size+2:=by rw[bW,z1]
 have z3:(zsH3 s.heap l1 tx tt).objs.size=s.heap.objs.size+3:=by rw[bW,z2]
 have z4:(zsH4 s.heap l1 tx tt).objs.size=s.heap.objs.size+4:=by rw[bW,z3]
 have z5:(zsH5 s.heap l1 tx tt).objs.size=s.heap.objs.size+5:=by rw[bW,z4]
 have g5:(zsH5 s.heap l1 tx tt).get? (zsH4 s.heap l1 tx tt).objs.size=PD _:=aE _ rfl;have g4:(zsH5 s.heap l1 tx tt).get? (zsH3 s.heap l1 tx tt).objs.size=PD _:=ag _ (aE _ rfl);have g3:(zsH5 s.heap l1 tx tt).get? (zsH2 s.heap l1 tx tt).objs.size=PD _:=ag _ (ag _ (aE _ rfl));have g2:(zsH5 s.heap l1 tx tt).get? (zsH1 s.heap l1).objs.size=PD _:=ag _ (ag _ (ag _ (aE _ rfl)));have g1:(zsH5 s.heap l1 tx tt).get? s.heap.objs.size=PD _:=ag _ (ag _ (ag _ (ag _ (aE _ rfl))));refine(?_:_/\_);rw[z2,z3,z4] at g5;rw[z1,z2] at g3;rw[z3] at g4;rw[z1] at g2;rw[z4]
 exact⟨⟨_,g5,rfl⟩,h _ g5 g3 g4 ⟨_,g1,rfl,rfl⟩ ⟨_,g2,rfl,rfl⟩ z5 λc o x=>
  ag _ (ag _ (ag _ (ag _ (ag _ x))))⟩
end
end Mine
end
section
open PySem PySem.W PySem.Calls PySem.Spec PyProof.Rows Mine
namespace Nw
variable {α:Type}{j n tk:Nat}{target:aw}{Os:List SO}{xs:List Str}{gs ds:List Nat}{as:List aj}{vs:Array af}
section
variable {f:Fs}{c:Cx}{V:Vm}{m:Str->Option af}{as:List aj}{Os:List SO}{h:aL}{target:aw}
theorem sS (i:Inv f c V m as Os h){p:PV}{xs:List PV}(e:iS Os p=PD xs)(ej:p.ref?=PD j){u:af}(hu:p.is as u):∃ l vs n,u=.ref l/\h.get? l=PD { cls:=.type "list",data:=.seq vs.toArray n }/\IsAll as xs vs/\∀ K,j∈K->Rd c as Os K l:=by
 refine bU λG1 hG1=>?_;obtain⟨l,vs,n,rfl,h1,h2⟩:=ga i e hu;refine hG1 ?_;refine⟨l,vs,n,rfl,h1,h2,λK hK=>?_⟩;refine ak e λj' e1 e=>ak e λx e2 e3=>?_;rw[ej] at e1; cases e1;have lv:x.live:=by cases x<;>first | trivial | exact av e3
 rw[PV.ref_is ej] at hu;refine bU λG2 hG2=>?_;obtain⟨a,ea,he⟩:=hu;refine hG2 ?_;cases he
 by_cases hw:x.own
 ·exact .inr ⟨j,x,hK,ea,e2,hw⟩
 ·refine bU λG3 hG3=>?_;obtain⟨o,_,_,_,h4⟩:=i.ob _ _ _ ea e2 lv;refine hG3 ?_;exact .inl ⟨o,.inl (h4 hw)⟩
end
theorem Jw {prog:cj}{w:aB}{A:be}{I:aj}{fp wr:List aj}{P Md:Nat->af->aL->Prop}{St:Nat->aL->Prop}(W:MV prog w A target I fp wr n P Md St):
  MV prog w A target I fp wr n (λi v h=>i<n/\P i v h) (λi v h=>i<n/\Md i v h) St where
 sub:=W.sub
 frame:=W.frame
 item:=λi s Q E hi st hQ=>W.item i s Q E hi st λv h' tk hm hk=>hQ v h' tk ⟨hi,hm⟩ hk
 go:=λi v s Q E hm hQ=>W.go i v s Q E hm.2 λh' hp st hk=>hQ h' ⟨hm.1,hp⟩ st hk
 done:=W.done
theorem sL {o:Obj}{v:af}(e:o.data=.fields vs)(e1:vs[1]?=PD v)(hv:∀ s t,v≠.str s t):¬ IsRec o:=by
 rintro ⟨us,s,t,e2,e3⟩;rw[e] at e2; cases e2;rw[e1] at e3; cases e3;exact hv _ _ rfl
theorem Ae {o:Obj}(e:o.data=.seq vs n):¬ IsRec o:=by
 rintro ⟨us,s,t,e2,e3⟩;rw[e] at e2; cases e2
def fy:SrcR where
 key:="range"
 tup:=PH
 f:=λU ps=>(one ps).bind λp=>p.int?.map λn=>((bz n.toNat).map λi=>.one (.i (i:Nat)),[],[0<=n,n<2 ^ 62],[])
 ok:=λe hC fs c V m as h vs O i hv target tg ht htt E k=>ak e λp e1 e=>aZ e λn e2 eq=>by
  subst eq;rw[one_is e1] at hv;obtain⟨u,rfl,hu⟩:=hv.one;obtain⟨t,rfl⟩:=PV.isInt e2 hu;have h0:=hC.1
  have sz:(Builtin.Range.rangeSize 0 n 1)=((n.toNat:Nat):Int):=by
   rw[rangeSize_one,dG h0];exact(NP (0<n)).elim (λh=>(if_pos h).trans (Ou n)) λh=>(if_neg h).trans (Op h0 (dQ.mp h))
  have k1:∀ {b:aj} {o':Obj} (o:Obj),h.get? b=PD o'->(h.push o).get? b=PD o':=λo e=>ag _ e;refine call_range_1 (wpAny_pyIter_range (IsRange.new _ _ _ _ _ _ _) (small_one (by decide) (by decide) (dj (by decide) h0) hC.2.1) ?_);rw[sz];have W:=sm (prog:=aH.row.prog) (w:=c.w) (A:=c.A fs) (h.push { cls:=.type "range",data:=.fields #[.int 0 k,.int n t,.int 1 (k+1)] }).objs.size 0 1 n.toNat;have hl:n.toNat=((bz n.toNat).map λi=>It.one (.i (i:Nat))).length:=by rw[aA,gC]
  rw[hl] at W;refine jC (ws:=[_]) i (λb o e=>ag _ (k1 _ e)) (Jw (iL W λj v s Q E st q=>pQ st.1 rfl (by decide) q)) (λs Q E st h=>W.self 0 s Q E st h) ⟨?_,(O.h.at i).keep λb o e=>ag _ (k1 _ e)⟩ (λj v h' hp=>?_) (λb hb j h' st=>?_) (ut O λb hb=>.inl hb) (λb hb=>hb) (λb hb=>bP _ hb) λb hb=>?_
  ·rw[<- hl]; exact aE _ rfl
  ·obtain⟨t,rfl⟩:=hp.2;refine⟨.one (.i (j:Nat)),?_,t,by rw[On,kB]⟩;rw[aG,lS (by rw[aA,gC] at hp; exact hp.1)]; rfl
  ·rw[ay.mp hb]; exact⟨_,st.1,sL rfl rfl λU U q=>nomatch q⟩
  ·rw[ay.mp hb,bW]; exact qR _
noncomputable def nH:Nat->List PV->List It
 | _,[]=>[]
 | n,p :: r=>.tup [.i (n:Nat),p] :: nH (n+1) r
theorem uF {l:List PV}:∀ {n j:Nat} {p:PV},l[j]?=PD p->(nH n l)[j]?=PD (.tup [.i (n+j:Nat),p]):=by
 induction l with
 | nil=>exact λ{U U U} e=>nomatch e
 | cons b r ih=>exact λ{n j p}=>j.casesOn (λe=>ac e▸rfl) λj e=>(ih (n:=n+1) e).trans (by rw[gj]; rfl)
theorem kL:∀ {l:List PV} {n:Nat},(nH n l).length=l.length
 | [],_=>rfl
 | _ :: r,n=>congrArg fq (kL (l:=r))
theorem IsAll.get {l:List PV}{vs:List af}(h:IsAll as l vs){v:af}(e:vs[j]?=PD v):∃ p,l[j]?=PD p/\p.is as v:=by
 have hj:j<l.length:=h.len▸lt_of_get e;obtain⟨v',g1,g2⟩:=h.at (aF hj);rw[e] at g1; cases g1;exact⟨_,aF hj,g2⟩
theorem wN {tg:Tg}(ht:rA target=PD tg)(h:tg.isT=PG):∃ es k p,target=.Tuple es k p:=by
 rcases sr ht with ⟨x,p,_,rfl⟩ | ⟨es,k,p,_,rfl,_,_⟩
 ·cases h
 ·exact⟨es,k,p,rfl⟩
section
variable {P:aj->Prop}{a b d e g:aj}{l l':List aj}
theorem c6 (h:P a)(k:∀ x∈l,P x):∀ x∈a :: l,P x:=am.mpr ⟨h,k⟩
theorem iD:∀ x∈([]:List aj),P x:=λU h=>nomatch h
theorem Aq (h:∀ x∈l,P x)(k:∀ x∈l',P x):∀ x∈l++l',P x:=λx hx=>(bf.mp hx).elim (h x) (k x)
end
section
variable {j:Nat}{l:List PV}{us:List af}{D:aj}{n:Nat}{K:List Nat}
theorem vV (O:c.Ok f)(i:Inv f c V m as Os h)(b:aj)(hb:b∈hdL (c.A f).handled):b<h.objs.size/\Rd c as Os K b:=⟨((O.h.at i:HdOk (c.A f).handled h).at hb).elim λU e=>aO e,.inl (O.h.rd hb)⟩
theorem sk (O:c.Ok f)(i:Inv f c V m as Os h){X:aj}(hlt:D<h.objs.size)(rd:Rd c as Os K D):∀ b∈[X,D]++hdL (c.A f).handled,b=X\/(b<h.objs.size/\Rd c as Os K b):=Aq (c6 (.inl rfl) (c6 (.inr ⟨hlt,rd⟩) iD)) λb hb=>.inr (vV O i b hb)
theorem oo {t:Nat}{x:af}(h2:IsAll as l us)(hx:us.toArray[t]?=PD x):∃ p,l[t]?=PD p/\p.is as x:=h2.get (List.getElem?_toArray.symm.trans hx)
theorem zf {β:Type}{l:List α}{l':List β}{t:Nat}{p:α}{q:β}(h:l[t]?=PD p)(h':l'[t]?=PD q)(g:α×β->It):((l.zip l').map g)[t]?=PD (g (p,q)):=aG.trans (congrArg (lQ g) (List.getElem?_zip_eq_some.mpr ⟨h,h'⟩))
end
def mC:SrcR where
 key:="enumerate"
 tup:=PG
 f:=λOs ps=>(one ps).bind λp=>p.ref?.bind λj=>(iS Os p).map λl=>(nH 0 l,[],[],[j])
 ok:=λ{Os ps q0} e hC fs c V m as h vs O i hv target tg ht htt E k=>bU λG hG=>ak e λp e1 e=>ak e λj e2 e=>aZ e λl e3 eq=>(one_is e1▸hv:IsAll as [p] vs).one.elim λu z=>(sS i e3 e2 z.2).elim λD w=>w.elim λus w=>w.elim λn w=>(wN ht (htt rfl)).elim λes y=>y.elim λkk y=>y.elim λtp y=>hG (by
  have hlt:D<h.objs.size:=aO w.2.1;rw[eq,y,z.1,w.1];refine call_enumerate_list (s:=sh c.s₀ h k) ⟨_,w.2.1,rfl,n,rfl⟩ λh' hE hI hsz hk=>rj hE ?_;have hk:∀ b o,h.get? b=PD o->h'.get? b=PD o:=hk;have hdO:HdOk (c.A fs).handled h:=O.h.at i;have hne:h.objs.size+1∉[h.objs.size,D]++hdL (c.A fs).handled:=λhb=>Aq (P:=λb=>b≠h.objs.size+1) (c6 (im (eG _)) (c6 (aY (bF hlt)) iD)) (λb hb=>aY (bF (vV (K:=[]) O i b hb).1)) _ hb rfl;have W:=KTurns.ofWalksU (elts:=es) (k:=kk) (pos:=tp) (WalksT.enumerateD (A:=c.A fs) (iU (prog:=aH.row.prog) (w:=c.w) (A:=(c.A fs).in1) h.objs.size D (aY hlt) us.toArray) (h.objs.size+1) (eG _) hne (.head _)).toU;rw[show us.toArray.size=(nH 0 l).length by rw[aK,w.2.2.1.len,kL]] at W
  exact jC (ws:=[h.objs.size+1,h.objs.size]) i hk W (λs Q E st q=>st.1.elim λU he=>rj he q) ⟨⟨_,hE⟩,⟨hI,⟨_,hk _ _ w.2.1,rfl,n,rfl⟩⟩,hdO.keep hk⟩
   (λt v h'' hp=>hp.elim λT u=>u.elim λvals u=>u.2.1.elim λtt r=>r.elim λx r=>(oo w.2.2.1 r.1).elim λp' g=>⟨_,uF g.1,u.1▸⟨T,[_,x],rfl,r.2▸u.2.2,_,_,rfl,⟨tt,by rw[cA]⟩,x,[],rfl,g.2,rfl⟩⟩)
   (c6 (λt g st=>st.1.elim λU he=>⟨_,he,sL rfl rfl λU U q=>nomatch q⟩) (c6 (λt g st=>st.2.1.1.elim λo u=>⟨o,u.1,fA u.2.2⟩) iD))
   (λb hb=>(aQ.mp hb).elim (λq=>q▸.inl (.head _)) λhb=>ut O (I:=[h.objs.size,D]) (c6 (P:=λb=>b∈[h.objs.size+1,h.objs.size]\/Rd c as Os [j] b) (.inl (.tail _ (.head _))) (c6 (.inr (w.2.2.2 _ (.head _))) iD)) b hb)
   (λb hb=>hb) (c6 (.head _) (c6 (.tail _ (.head _)) iD)) (c6 (qR _) (c6 (aI _) iD)))
def Lj:SrcR where
 key:="reversed"
 tup:=PH
 f:=λOs ps=>(one ps).bind λp=>p.ref?.bind λj=>(iS Os p).map λl=>(l.reverse.map .one,[],[],[j])
 ok:=λ{Os ps q0} e hC fs c V m as h vs O i hv target tg ht htt E k=>bU λG hG=>ak e λp e1 e=>ak e λj e2 e=>aZ e λl e3 eq=>(one_is e1▸hv:IsAll as [p] vs).one.elim λu z=>(sS i e3 e2 z.2).elim λD w=>w.elim λus w=>w.elim λn w=>hG (by
  have hlt:D<h.objs.size:=aO w.2.1;have kp:∀ {o:Obj} (b:aj) (o':Obj),h.get? b=PD o'->(h.push o).get? b=PD o':=λb o' e=>ag _ e;rw[eq,z.1,w.1];have hit:(h.push (revObj D ((us.toArray.size:Int) - 1))).IsRevIter h.objs.size D ((us.toArray.size:Int) - 1):=⟨_,aE _ rfl,rfl,rfl⟩;refine call_reversed_list (s:=sh c.s₀ h k) ⟨_,w.2.1,rfl,n,rfl⟩ (nc hit ?_);have W:=iL (target:=target) (va (prog:=aH.row.prog) (w:=c.w) (A:=c.A fs) h.objs.size D (aY hlt) us.toArray) λn v s Q E st q=>st.1.2.1.elim λo u=>pQ u.1 u.2.1 (by decide) q;have hl:us.toArray.size=(l.reverse.map It.one).length:=by rw[aK,w.2.2.1.len,aA,bV]
  rw[hl] at W
  exact jC (ws:=[h.objs.size]) i kp (Jw W) (λs Q E st q=>nc st.1.2.1 q) ⟨⟨jw _,by rw[<- hl]; exact(Ou _).symm▸hit,⟨_,kp _ _ w.2.1,rfl,n,rfl⟩⟩,(O.h.at i).keep kp⟩
   (λt v h'' hp=>by
    have ht:t<us.length:=by have:=hp.1; rwa [<- hl,aK] at this
    have hp:us[us.length - 1 - t]?=PD v:=by rw[w.2.2.1.len]; simpa using hp.2
    rw[<- List.getElem?_reverse ht] at hp;exact(w.2.2.1.rev.get hp).elim λp' g=>⟨.one p',aG.trans (congrArg (lQ It.one) g.1),g.2⟩)
   (c6 (λt g st=>st.1.2.1.elim λo u=>⟨o,u.1,sL u.2.2 rfl λU U q=>nomatch q⟩) iD)
   (ut O (I:=[h.objs.size,D]) (c6 (P:=λb=>b∈[h.objs.size]\/Rd c as Os [j] b) (.inl (.head _)) (c6 (.inr (w.2.2.2 _ (.head _))) iD))) (λb hb=>hb) (c6 (.head _) iD) sV)
section
variable {f:Fs}{c:Cx}{V:Vm}{m:Str->Option af}{as:List aj}{Os:List SO}{h:aL}
theorem wU (i:Inv f c V m as Os h){h':aL}(hk:∀ b o,h.get? b=PD o->h'.get? b=PD o){es:List aw}{kk:Nat}{tp:Pos}{fp1 fp2:List aj}{n2:Nat}{P1 P2:Nat->af->Prop}{S1 S2:Nat->aL->Prop}{xs:List It}{K:List Nat}
  (D1:wF aH.row.prog c.w (c.A f).in1 h.objs.size fp1 n P1 S1) (D2:wF aH.row.prog c.w (c.A f).in1 (h.objs.size+1) fp2 n2 P2 S2) (hn:n<=n2) (hl:n=xs.length)
  (hz:lT h' (h.objs.size+4) (h.objs.size+2) (h.objs.size+3) .none) (hTI:gq h' (h.objs.size+2) (.ref h.objs.size) (.ref (h.objs.size+1))) (hTO:gq h' (h.objs.size+3) .none .none) (s1:S1 0 h') (s2:S2 0 h')
  (f1:∀ b∈fp1,b=h.objs.size\/(b<h.objs.size/\Rd c as Os K b)) (f2:∀ b∈fp2,b=h.objs.size+1\/(b<h.objs.size/\Rd c as Os K b)) (m1:h.objs.size∈fp1) (m2:h.objs.size+1∈fp2)
  (n1:∀ t g,S1 t g->∃ o,g.get? h.objs.size=PD o/\¬ IsRec o) (n2':∀ t g,S2 t g->∃ o,g.get? (h.objs.size+1)=PD o/\¬ IsRec o)
  (it:∀ t x y,P1 t x->P2 t y->∃ p q,xs[t]?=PD (.tup [p,q])/\p.is as x/\q.is as y):SrcAt f c V m as Os h (.Tuple es kk tp) xs [] K (.ref (h.objs.size+4)) (sh c.s₀ h' tk):=by
 generalize hS:h.objs.size=S at*;have no1:∀ k:Nat,1<=k->(show aj from S+k)∉fp1:=λk hk hb=>(f1 _ hb).elim (λe=>cL (jX hk) e) λe=>cP.mpr (a8 S k) e.1;have no2:∀ k:Nat,2<=k->(show aj from S+k)∉fp2:=λk hk hb=>(f2 _ hb).elim (λe=>cL hk (iK e)) λe=>cP.mpr (a8 S k) e.1;have ne:∀ {a b:Nat},a≠b->S+a≠S+b:=λh e=>h (iK e);have D:ZOff (S+4) (S+2) (S+3) S (S+1) fp1 fp2:=⟨no1 4 (by decide),no2 4 (by decide),no1 3 (by decide),no2 3 (by decide),λhb=>(f2 _ hb).elim (λe=>eG S e.symm) λe=>bY _ e.1,no1 1 (by decide),m1,m2,ne (by decide),ne (by decide),ne (by decide),ne (b:=0) (by decide),ne (by decide)⟩;have W:=KTurns.ofWalksU (elts:=es) (k:=kk) (pos:=tp) (zh D1 D2 D hn).toU;rw[hl] at W;have c0:∀ {l:List aj} {a:aj},a∈a :: l:=.head _
 exact jC (ws:=[S+4,S+2,S+3,S,S+1]) i hk W (λs Q E st q=>kY st.1 q) ⟨hz,hTI,⟨_,_,hTO⟩,s1,s2⟩
  (λt v g hp=>hp.elim λT z=>z.elim λvals z=>z.2.1.elim λx u=>u.elim λy u=>(it t x y u.1 u.2.1).elim λp w=>w.elim λq w=>⟨_,w.1,z.1▸⟨T,[x,y],rfl,u.2.2▸z.2.2,x,[y],rfl,w.2.1,y,[],rfl,w.2.2,rfl⟩⟩)
  (c6 (λt g st=>⟨_,st.1,sL rfl rfl λU U q=>nomatch q⟩) (c6 (λt g st=>⟨_,st.2.1,Ae rfl⟩) (c6 (λt g st=>st.2.2.1.elim λa u=>u.elim λb u=>⟨_,u,Ae rfl⟩) (c6 (λt g st=>n1 t g st.2.2.2.1) (c6 (λt g st=>n2' t g st.2.2.2.2) iD)))))
  (λb hb=>(bf.mp hb).elim (c6 (P:=λb=>b∈[S+4,S+2,S+3,S,S+1]\/Rd c as Os K b) (.inl c0) (c6 (.inl (.tail _ c0)) (c6 (.inl (.tail _ (.tail _ c0))) iD)) b) λhb=>(bf.mp hb).elim (λhb=>(f1 b hb).imp (λe=>by rw[e]; exact .tail _ (.tail _ (.tail _ c0))) (·.2)) λhb=>(f2 b hb).imp (λe=>by rw[e]; exact .tail _ (.tail _ (.tail _ (.tail _ c0)))) (·.2))
  (c6 c0 (c6 (.tail _ (.tail _ c0)) (c6 (.tail _ (.tail _ (.tail _ c0))) (c6 (.tail _ (.tail _ (.tail _ (.tail _ c0)))) iD))))
  (c6 c0 (c6 (.tail _ c0) (c6 (.tail _ (.tail _ c0)) (c6 (aN _ (bP _ m1)) (c6 (aN _ (aN _ m2)) iD)))))
  (hS▸c6 (a8 _ _) (c6 (a8 _ _) (c6 (a8 _ _) (c6 (aI _) (c6 (a8 _ _) iD)))))
end
def lU:SrcR where
 key:="zip"
 tup:=PG
 f:=λOs ps=>(yb ps).bind λq=>q.1.ref?.bind λj=>(iS Os q.1).bind λl=>(q.2.str?.bind λx=>if x.cps.all (·<128)=PG/\l.length<=x.cps.size then PD ((l.zip x.cps.toList).map λq=>.tup [q.1,.s ⟨#[q.2]⟩],[],[],[j]) else PF).or
  (q.2.ref?.bind λj'=>(iS Os q.2).bind λl'=>if l.length<=l'.length then PD ((l.zip l').map λq=>.tup [q.1,q.2],[],[],[j,j']) else PF)
 ok:=λ{Os ps q0} e hC fs c V m as h vs O i hv target tg ht htt E k=>bU λG hG=>ak e λq e1 e=>ak e λj e2 e=>ak e λl e3 e=>(two_is e1▸hv:IsAll as [q.1,q.2] vs).two.elim λu z=>z.elim λv z=>(sS i e3 e2 z.2.1).elim λD w=>w.elim λus w=>w.elim λn w=>(wN ht (htt rfl)).elim λes y=>y.elim λkk y=>y.elim λtp y=>
  have hlt:D<h.objs.size:=aO w.2.1;have hdO:HdOk (c.A fs).handled h:=O.h.at i;have z1:us.toArray.size=l.length:=aK.trans w.2.2.1.len
  orE e (λe=>ak e λx e4 e=>iteE e λhc e=>(PV.isStr e4 z.2.2).elim λt ev=>hG (by
   rw[<- ac e,y,z.1,w.1,ev];refine Cm (s:=sh c.s₀ h k) ⟨_,w.2.1,rfl,n,rfl⟩ hc.1 λh' hz hTI hTO hi1 hi2 hsz hk=>kY hz ?_
   exact wU i hk (iU (A:=(c.A fs).in1) _ D (aY hlt) us.toArray) (wa (A:=(c.A fs).in1) _ x t) (z1▸hc.2) (z1.trans (by rw[aA,List.length_zip,iw]; exact(kP hc.2).symm)) hz hTI hTO ⟨⟨hi1,⟨_,hk _ _ w.2.1,rfl,n,rfl⟩⟩,hdO.keep hk⟩ ⟨hi2,hdO.keep hk⟩
    (sk O i hlt (w.2.2.2 _ (.head _))) (Aq (c6 (.inl rfl) iD) λb hb=>.inr (vV O i b hb)) (.head _) (.head _) (λt g st=>st.1.1.elim λo u=>⟨o,u.1,fA u.2.2⟩) (λt g st=>st.1.elim λo u=>⟨o,u.1,fA u.2.2⟩)
    λt x y hx hy=>(oo w.2.2.1 hx).elim λp' g=>hy.elim λch u=>u.elim λu' u=>⟨p',.s ⟨#[ch]⟩,zf g.1 (kF.trans u.1) _,g.2,u',u.2⟩))
  λe=>ak e λj' e4 e=>ak e λl' e5 e=>iteE e λhc e=>(sS i e5 e4 z.2.2).elim λD' w'=>w'.elim λus' w'=>w'.elim λn' w'=>hG (by
   have hlt':D'<h.objs.size:=aO w'.2.1;have z2:us'.toArray.size=l'.length:=aK.trans w'.2.2.1.len;rw[<- ac e,y,z.1,w.1,w'.1];refine call_zip_2 (s:=sh c.s₀ h k) ⟨_,w.2.1,rfl,n,rfl⟩ ⟨_,w'.2.1,rfl,n',rfl⟩ λh' hz hTI hTO hi1 hi2 hsz hk=>kY hz ?_
   exact wU i hk (iU (A:=(c.A fs).in1) _ D (aY hlt) us.toArray) (iU (A:=(c.A fs).in1) _ D' (aY (bF hlt')) us'.toArray) (z1▸z2▸hc) (z1.trans (by rw[aA,List.length_zip]; exact(kP hc).symm)) hz hTI hTO ⟨⟨hi1,⟨_,hk _ _ w.2.1,rfl,n,rfl⟩⟩,hdO.keep hk⟩ ⟨⟨hi2,⟨_,hk _ _ w'.2.1,rfl,n',rfl⟩⟩,hdO.keep hk⟩
    (sk O i hlt (w.2.2.2 _ (.head _))) (sk O i hlt' (w'.2.2.2 _ (.tail _ (.head _)))) (.head _) (.head _) (λt g st=>st.1.1.elim λo u=>⟨o,u.1,fA u.2.2⟩) (λt g st=>st.1.1.elim λo u=>⟨o,u.1,fA u.2.2⟩)
    λt x y hx hy=>(oo w.2.2.1 hx).elim λp' g=>(oo w'.2.2.1 hy).elim λq' g'=>⟨p',q',zf g.1 g'.1 _,g.2,g'.2⟩)
section
variable {k:Wk}{c:Cx}{V V':Vm}{Os Os':List SO}{b:List aS}{bs:List (List aS)}{C:List Prop}
theorem Run.fe (he:b.isEmpty=PG)(h:c.N V' Os')(hV:V'=V)(hO:Os'=Os):Run k c V Os [b]:=by
 subst hV; subst hO;cases b with
 | cons _ _=>cases he
 | nil=>exact Run.fin h
theorem Run.fb {V₁:Vm}{Os₁:List SO}(he:DD b=PG)(h:c.B V' Os')(hV:V'=V)(hO:Os'=Os):Run k c V Os (b :: bs):=by
 subst hV; subst hO; exact Run.bk he h
def KF (k:Wk)(c:Cx)(b:List aS):Sem (Option (List Str)):=(nV b).elim (pure PF) λq=>swappedStores [q.1] q.2 (c.env k.f)
def LC (k:Wk)(w:aB)(V:Vm)(Os:List SO)(b:List aS):St:=
 (nV b).bind λq=>(rA q.1).bind λt=>t.tup?.bind λxs=>(evF k w V Os q.2).bind λa=>a.1.ref?.bind λj=>(items (Os++a.2.1) j).bind λps=>(oZ k.f V (Os++a.2.1) xs ps).map λr=>(r.1,r.2,a.2.2)
theorem Mf {m:Str->Option af}{h:aL}{E Q:af->ai->Prop}(O:k.Okc c){e:aw}{a:nb}(e1:evF k c.w V Os e=PD a)(hz:a.2.1.isEmpty=PG)(hC:Al a.2.2)(i:Inv k.f c V m as Os h)(K:∀ v bs h' tk',a.1.is (as++bs) v->Inv k.f c V m (as++bs) Os h'->Q v (sh c.s₀ h' tk')):wpAny (MP c.w) (c.A k.f) (eval e (c.env k.f)) Q E (sh c.s₀ h tk):=
 (b7 O _ _ _ e1).2 hC _ _ _ _ _ i λv bs h' tk' hv i' U=>K v bs h' tk' hv (by have i':Inv k.f c V m (as++bs) (Os++a.2.1) h':=i'; rw[aX.mp hz,ao] at i'; exact i')
theorem Run.asU (V':Vm)(Os':List SO)(C:List Prop)(hw:KF k c b=pure PF)(he:LC k c.w V Os b=PD (V',Os',C))(hC:Al C)(h:Run k c V' Os' (b.tail :: bs)):Run k c V Os (b :: bs):=
 ak he λq e1 he=>ak he λtg e2 he=>ak he λxs e3 he=>ak he λa e4 he=>ak he λj e5 he=>ak he λps e6 he=>aZ he λr e7 eq=>(gM e1).elim λpos e9=>by
  obtain⟨es,kk,pp,et,hx⟩:=sv e2 e3;rw[KF,e1] at hw;have hw:swappedStores [q.1] q.2 (c.env k.f)=pure PF:=hw;rw[et] at e9 hw;rw[e9];exact Run.asgT xs j ps a.2.1 a.2.2 r.1 r.2 (by rw[e4,<- PV.ref_is e5]) (Al.q eq hC) e6 hx e7 hw (Run.q eq h)
theorem wq {A:be}{env:Env}:Acts A env (xs.map λn=>bindName env n) xs:=by
 induction xs with
 | nil=>exact .nil
 | cons x r ih=>exact .cons (λU U U U U h=>wpAny_bindName h) ih
def LF (k:Wk)(w:aB)(V:Vm)(Os:List SO)(b:List aS)(xs:List Str):St:=
 (nV b).bind λq=>(rA q.1).bind λt=>t.tup?.bind λU=>(evF k w V Os q.2).bind λa=>a.1.ref?.bind λj=>((Os++a.2.1)[j]?).bind λx=>x.core.tup?.bind λps=>if ps.length=xs.length then(oZ k.f V (Os++a.2.1) xs.reverse ps.reverse).map λr=>(r.1,r.2,a.2.2) else PF
theorem Run.asS (xs:List Str)(V':Vm)(Os':List SO)(C:List Prop)(hw:KF k c b=pure (PD xs))(he:LF k c.w V Os b xs=PD (V',Os',C))(hC:Al C)(h:Run k c V' Os' (b.tail :: bs)):Run k c V Os (b :: bs):=
 ak he λq e1 he=>ak he λtg e2 he=>ak he λys e3 he=>ak he λa e4 he=>ak he λj e5 he=>ak he λx e6 he=>ak he λps e7 he=>iteE he λhl he=>aZ he λr e8 eq=>(gM e1).elim λpos e9=>by
  obtain⟨es,kk,pp,et,hx⟩:=sv e2 e3;rw[KF,e1] at hw;have hw:swappedStores [q.1] q.2 (c.env k.f)=pure (PD xs):=hw;rw[et] at e9 hw;rw[e9];clear e9 he;refine .one (λO as hp tk m i Q hq U=>Assign_Tuple_swapped ((b7 O.toOkc _ _ _ e4).2 (Al.q eq hC) _ _ _ _ _ i λu cs h' k' hu hi' U=>?_) (wP _ _) hw) (Run.q eq h);rw[PV.ref_is e5] at hu;have lv:x.live:=by cases x<;>first | trivial | exact av e7
  refine bU λG1 hG1=>?_;obtain⟨D,o,eu,h1,h2⟩:=hi'.get e6 lv hu;rw[SO.tup_is e7] at h2;obtain⟨vs,eo,hvs⟩:=h2;obtain⟨N,NN,hN⟩:=gf c.h₀ h' c.L;refine hG1 ?_;rw[eo] at h1;rw[eu];refine lc hi'.F NN ⟨_,h1,rfl,_,rfl⟩ (by rw[aK,hvs.len]; exact hl.symm) (λh'' F'' N''=>?_) (O.o.h.at hi');exact x6 O.o wq e8 hvs.rev (hi'.keep F'' (lf hN hi'.F F'' N'')) λh3 tk3 m3 i3=>hq _ _ _ _ i3
def JZ (e:aw):Option (aw×List cD×dC):=(vw e).cmh?
theorem cmh_is {e:aw}{q:aw×List cD×dC}(h:JZ e=PD q):∃ p,e=.ListComp q.1 q.2.1 q.2.2 p:=BJ h
def LG (st:List SrcR)(k:Wk)(w:aB)(V:Vm)(Os:List SO)(b:List aS):St:=
 (nV b).bind λq=>(lB q.1).bind λx=>(JZ q.2).bind λr=>(one r.2.1).bind λg=>if k.f.sc.kind=.function/\k.f.sc.names.lookup x=PD .local/\((q.1.pos.line == q.2.pos.line)&&!(r.2.2.names.any λy=>y.1 == x&&(y.2 == .local||y.2 == .cell)))=PG then
  (xi k st w V Os r.1 g r.2.2).map λs=>(put V x (.r (Os++s.1.2.1).length),Os++(s.1.2.1++[.L s.2.1]),s.1.2.2.1++s.2.2) else PF
theorem Cz {f:Fs}{c:Cx}{x:Str}{px cp:Pos}{el:aw}{g:cD}{sc:dC}{l:Nat}(h1:f.sc.kind=.function)(h2:f.sc.names.lookup x=PD .local)(h3:((px.line == cp.line)&&!(sc.names.any λy=>y.1 == x&&(y.2 == .local||y.2 == .cell)))=PG):swapsWith (.ListComp el [g] sc cp) (PD (.Name x px)) l (c.env f)=pure PG:=by
 obtain⟨h4,h5⟩:=d9.mp h3
 have k1:(c.env f).blockKind=.function:=by
  show(if f.sc.kind.isAnnotationScope then _ else f.sc.kind)=_;rw[h1]; rfl
 have k2:(c.env f).kindOf x=PD .local:=h2;show pure ((c.env f).blockKind == .function&&(c.env f).kindOf x == PD .local&&px.line == cp.line&&!(sc.names.any _))=pure PG;rw[k1,k2,h4,beq_self_eq_true,beq_self_eq_true,f6,f6,f6];exact congrArg pure h5
theorem Run.asC (st:List SrcR)(V':Vm)(Os':List SO)(C:List Prop)(he:LG st k c.w V Os b=PD (V',Os',C))(hC:Al C)(h:Run k c V' Os' (b.tail :: bs)):Run k c V Os (b :: bs):=
 ak he λq e1 he=>ak he λx e2 he=>ak he λr e3 he=>ak he λg e4 he=>iteE he λhc he=>aZ he λs e5 eq=>(gM e1).elim λpos e9=>(nam_is e2).elim λpx e2=>(cmh_is e3).elim λcp e3=>by
  have h3:=hc.2.2;rw[e2,e3] at e9 h3;rw[e9,one_is e4];exact Run.asgC st s _ e5 (Al.q eq hC).left (Al.q eq hC).right hc.2.1 (Cz hc.1 hc.2.1 h3) rfl (Run.q eq h)
def I7 (st:List SrcR)(k:Wk)(w:aB)(V:Vm)(Os:List SO)(b:List aS):Option (Tg×kt):=(DB b).bind λq=>(rA q.1).bind λtg=>(vm st (ldF w k.f V) (evF k w V) Os tg q.2.1).map λs=>(tg,s)
theorem Run.lpG (st:List SrcR)(tg:Tg)(xs:List It)(ys:List SO)(C:List Prop)(K:List Nat)(fi:List Nat)(F:Nat->α->Vm)(G:Nat->α->List SO)(H:Nat->α->Prop)(B:Vm->List SO->Prop)(a₀:α)(he:I7 st k c.w V Os b=PD (tg,xs,ys,C,K))(hC:Al C)
  (hK:(K.all fi.contains)=PG) (hG:∀ n a,(K.all λj=>((G n a)[j]?).elim PH tS)=PG) (hn0:(fi.all λj=>decide (j<(Os++ys).length))=PG) (hnp:(c.np.all fi.contains)=PG) (hF0:F 0 a₀=V) (hG0:G 0 a₀=Os++ys) (h0:H 0 a₀)
  (step:∀ (n:Nat) (x:It) (a:α) (os:Nat->Obj) (c':Cx),c'.w=c.w->c'.np=fi->(∀ p Os,c.P p Os->c'.P p Os)->(∀ a,H (n+1) a->c'.N (F (n+1) a) (pinF os K 0 (G (n+1) a)))->(∀ V Os,B V Os->c'.B V (pinF os K 0 Os))->xs[n]?=PD x->H n a->c'.gs=c.gs/\c'.hv=c.hv/\c.Sub c'->
   ∃ V₁ Os₁,EX fi x=PG/\sA k.f (F n a) (pinF os K 0 (G n a)) tg x=PD (V₁,Os₁)/\Run k c' V₁ Os₁ [yz b])
  (done:∀ a,H xs.length a->Run k c (F xs.length a) (G xs.length a) (b.tail :: bs)) (brk:∀ V Os,B V Os->Run k c V Os (b.tail :: bs)):Run k c V Os (b :: bs):=
 ak he λq e1 he=>ak he λt e2 he=>aZ he λs e3 eq=>by
  cases eq;obtain⟨pos,e9⟩:=xH e1;unfold yz at step;rw[e1] at step;rw[e9];refine Run.for st (xs,ys,C,K) tg fi (λn V Os=>∃ a,V=F n a/\Os=G n a/\H n a) B e3 hC e2 hK (λn V Os ⟨a,_,h2,_⟩=>h2▸hG n a) hn0 hnp ⟨a₀,hF0.symm,hG0.symm,h0⟩ (λn x V Os os c' w1 w2 w3 w4 w5 ex ⟨a,h1,h2,h3⟩ w6=>?_) (λV Os z=>z.elim (λ⟨a,h1,h2,h3⟩=>h1▸h2▸done a h3) λz=>brk V Os z);subst h1; subst h2;exact step n x a os c' w1 w2 w3 (λa h=>w4 _ _ ⟨a,rfl,rfl,h⟩) w5 ex h3 w6
theorem Run.lp (st:List SrcR)(tg:Tg)(xs:List It)(ys:List SO)(C:List Prop)(K:List Nat)(fi:List Nat)(F:Nat->α->Vm)(G:Nat->α->List SO)(H:Nat->α->Prop)(B:Vm->List SO->Prop)(a₀:α)(he:I7 st k c.w V Os b=PD (tg,xs,ys,C,K))(hC:Al C)
  (hK:(K.all fi.contains)=PG) (hG:∀ n a,(K.all λj=>((G n a)[j]?).elim PH tS)=PG) (hn0:(fi.all λj=>decide (j<(Os++ys).length))=PG) (hnp:(c.np.all fi.contains)=PG) (hF0:F 0 a₀=V) (hG0:G 0 a₀=Os++ys) (h0:H 0 a₀)
  (step:∀ (n:Nat) (x:It) (a:α) (os:Nat->Obj) (c':Cx),c'.w=c.w->c'.np=fi->(∀ p Os,c.P p Os->c'.P p Os)->(∀ a,H (n+1) a->c'.N (F (n+1) a) (pinF os K 0 (G (n+1) a)))->(∀ V Os,B V Os->c'.B V (pinF os K 0 Os))->xs[n]?=PD x->H n a->
   ∃ V₁ Os₁,EX fi x=PG/\sA k.f (F n a) (pinF os K 0 (G n a)) tg x=PD (V₁,Os₁)/\Run k c' V₁ Os₁ [yz b])
  (done:∀ a,H xs.length a->Run k c (F xs.length a) (G xs.length a) (b.tail :: bs)) (brk:∀ V Os,B V Os->Run k c V Os (b.tail :: bs)):Run k c V Os (b :: bs):=
 Run.lpG st tg xs ys C K fi F G H B a₀ he hC hK hG hn0 hnp hF0 hG0 h0 (λn x a os c' w1 w2 w3 w4 w5 ex h U=>step n x a os c' w1 w2 w3 w4 w5 ex h) done brk
noncomputable def CN (V:Vm):List Str->Option Vm
 | []=>PD []
 | x :: r=>(V.lookup x).bind λp=>(CN V r).map λl=>(x,p) :: l
theorem CL {V:Vm}{m:Str->Option af}(M:Mem as V m):∀ {V':Vm},CN V xs=PD V'->Mem as V' m:=by
 induction xs with
 | nil=>exact λ{U} e=>ac e▸λU U e=>nomatch e
 | cons x r ih=>exact λ{U} e=>ak e λp e1 e=>aZ e λl e2 eq=>eq▸ui (M _ _ e1) (ih e2)
theorem Run.ns (xs:List Str)(V':Vm)(hV:CN V xs=PD V')(h:Run k c V' Os bs):Run k c V Os bs:=⟨λO as hp tk m i=>h.go O as hp tk m ⟨i.F,CL i.M hV,i.C,i.len,i.ob,i.nd,i.t1,i.t2,i.pf,i.pn⟩⟩
theorem Run.cast (Os':List SO)(e:Os=Os')(h:Run k c V Os' bs):Run k c V Os bs:=e▸h
end
theorem Run.cb {k:Wk}{c:Cx}{V:Vm}{b:List aS}{bs:List (List aS)}(b':List aS)(e:b=b')(h:Run k c V Os (b' :: bs)):Run k c V Os (b :: bs):=e▸h
theorem uw {g:α->Int->α}{l:List Int}{i:Nat}{f:Int}(e:l[i]?=PD f)(p:α):(l.take (i+1)).foldl g p=g ((l.take i).foldl g p) f:=by
 rw[d5,e,jp]; rfl
theorem JF:Hd gs ds Os n []=PD []:=rfl
theorem km {l:List SO}{r:List Nat}{x y:SO}(e1:Os[j]?=PD x)(e2:(bif ds.contains j then PD .N else gcX gs x)=PD y)(e3:Hd gs ds Os (n+1) r=PD l):Hd gs ds Os n (j :: r)=PD (y :: l):=by
 refine(?_:((Os[j]?).bind λx=>_)=_);rw[e1,ei,e2,ei,e3]; rfl
theorem Nz (gs:List Nat):∀ l:List Int,He gs (l.map .i)=PD (l.map .i)
 | []=>rfl
 | a :: r=>by show((PD (PV.i a)).bind λp=>_)=_; rw[ei,Nz gs r]; rfl
theorem yF (gs:List Nat)(l:List Int):gcX gs (.L (l.map .i))=PD (.L (l.map .i)):=by show(He gs _).map _=_; rw[Nz]; rfl
theorem JE (gs:List Nat)(o:Obj)(l:List Int):gcX gs (.Z o (.L (l.map .i)))=PD (.Z o (.L (l.map .i))):=by show(gcX gs _).map _=_; rw[yF]; rfl
theorem o9 {x:It}(e:((bz n).map λi=>It.one (.i (i:Nat)))[j]?=PD x):x=.one (.i (j:Nat))/\j<n:=by
 rw[aG] at e;refine aZ e λa h1 h2=>?_;have h3:=lt_of_get h1;rw[gC] at h3;rw[lS h3] at h1;cases h1;exact⟨h2,h3⟩
theorem EL {l:List Int}{x:It}(e:((l.map PV.i).map It.one)[j]?=PD x):∃ a,x=.one (.i a)/\l[j]?=PD a:=by
 rw[c8,aG] at e;exact aZ e λa h1 h2=>⟨a,h2,h1⟩
theorem Iq:(3:Int)≠0:=by decide
theorem KJ (a:Int):aC a 3=PH:=bB (by decide)
theorem yx (a:Int):IntMulOk 2 a:=.of_left (by decide)
theorem JD (gs:List Nat)(o:Obj)(l:List Int):gcX gs (.Z o (.L (l.map .i).reverse))=PD (.Z o (.L (l.map .i).reverse)):=by rw[<- gT]; exact JE _ _ _
theorem Dk (a:Int):IntMulOk 3 a:=.of_left (by decide)
noncomputable abbrev nm (s:String)(p:PV):Str×PV:=(aa s,p)
end Nw
end
section
open PySem PySem.W PySem.Calls PySem.Spec PyProof.Rows
namespace Mine
variable {pos qh ra rb rc rd re rf qa qb qc qd qe qg:Pos}{tt:Tok}{i kj kl kh ki:Nat}{target iter T:aw}{C E I:aj}{b:Bool}{cd:MZ}{h₀:aL}{s s₀:ai}{prog:cj}{body orelse B Bl bd:List aS}{gd:Bool->Bool}{x y:Option af}{K:rx->Sem Fin}{H:af->Sem Fin}{pre rest:List (Nat×Str)}{m:Str->Option af}{Q:Unit->ai->Prop}{E':af->ai->Prop}{lv:List af->List af}
section
variable {M:nk}{A:be}{R:MY}{Y:wy}{n:Nat}{s₀:ai}{c:MZ}{fs:List Frame}{s:ai}{env:Env}
 {K:rx->Sem Fin} {H:af->Sem Fin} {gd:Bool->Bool} {lv:List af->List af}
theorem ve {test:aw}
  (h:wpAny M (A.over c fs) (isTrue test env (eval test env)) (λb s'=>Seg M A R Y n s₀ c ((if b=PG then execs body env else execs orelse env).wrap K H gd lv) fs s') (λx s'=>Seg M A R Y n s₀ c (H x) fs s') s):
  Seg M A R Y n s₀ c ((exec (.If test body orelse pos) env).wrap K H gd lv) fs s:=by
 rw[exec_If];refine dw (da ?_);exact dw h
theorem CO (hs:∀ x,foldedSetIterable iter env x=pure x)
  (h:wpAny M (A.over c fs) (eval iter env) (λx s₁=>wpAny M (A.over c fs) (pyIter x) (λit s₂=>
    ∀ p,Seg M A R Y n s₀ (.forLoop target it body orelse env) (M.den (.forLoop target it body orelse env))
     (.ret (λr=>((match r with | .ok f=>(.pure f:Sem rx) | .error e=>.raise e).onRaise λ(x:af)=>do
      if(<- field x 1) == ca then unsupported "frame.own-activation:exception-without-traceback"
      setFlight x env.frame).wrap K H gd lv) PF (gd PH) (lv []) c p [] :: fs) s₂) (λx s'=>Seg M A R Y n s₀ c (H x) fs s') s₁) (λx s'=>Seg M A R Y n s₀ c (H x) fs s') s):
  Seg M A R Y n s₀ c ((exec (.For target iter body orelse pos) env).wrap K H gd lv) fs s:=by
 rw[exec_For];refine dw (da ?_);refine dw (aU h (λx s₁ h₁=>?_) λU U e=>e);refine dw (iM (hs x) ?_);refine dw (da ?_);refine dw (bI (aU h₁ (λit s₂ h₂=>?_) λU U e=>e));exact seg_call h₂
end
section
variable {prog:cj}{w:aB}{A:be}{R:MY}{Y:wy}{n:Nat}{s₀:ai}{fs:List Frame}{s:ai}{env:Env}
theorem nz {it:af}
  (h:wpAny (model prog w) (A.over (.forLoop target it body [] env) fs) (pyNext it) (λr s'=>match r with
    | none=>Seg (model prog w) A R Y n s₀ (.block [] env) (leafOf (.ok .next)) fs s'
    | some v=>wpAny (model prog w) (A.over (.forLoop target it body [] env) fs) (letOwnedTupleGo target it v) (λU s₁=>wpAny (model prog w) (A.over (.forLoop target it body [] env) fs) (assign target env v) (λU s₂=>
      Seg (model prog w) A R Y n s₀ (.forLoop target it body [] env) ((execs body env).wrap (λf=>match f with
       | .next | .cont=>.pure (.again (.forLoop target it body [] env))
       | .brk=>.pure (.done .next)
       | .ret v=>.pure (.done (.ret v))) (λe=>(do noteFrame e env; theTreesLotGoes e:Sem Unit).wrap (λU=>.raise e) .raise id id) id id) fs s₂)
      (λx s'=>Seg (model prog w) A R Y n s₀ (.forLoop target it body [] env) ((do noteFrame x env; theTreesLotGoes x:Sem Unit).wrap (λU=>.raise x) .raise id id) fs s') s₁)
      (λx s'=>Seg (model prog w) A R Y n s₀ (.forLoop target it body [] env) ((do noteFrame x env; theTreesLotGoes x:Sem Unit).wrap (λU=>.raise x) .raise id id) fs s') s')
   (λU U=>False) s):
  Seg (model prog w) A R Y n s₀ (.forLoop target it body [] env) ((model prog w).den (.forLoop target it body [] env)) fs s:=by
 show Seg _ A R Y n s₀ _ ((forTurn target it body [] env).onRaise (λx=>do noteFrame x env; theTreesLotGoes x)) fs s;unfold forTurn;rw[Sem.onRaise_eq_wrap];refine dw (da ?_);refine dw (oE (aU h (λr s' hr=>?_) λU U e=>e.elim));cases r with
 | none=>
  exact seg_again rfl hr
 | some v=>
  refine dw (aU hr (λU s₁ h₁=>?_) λx s' hx=>?_)
  ·refine dw (aU h₁ (λU s₂ h₂=>?_) λx s' hx=>?_)
   ·rw[Sem.bind_eq_wrap',Sem.wrap_wrap]
    rw[Sem.wrap_congr (execs body env) _ _ (K':=λf=>match f with
      | .next | .cont=>.pure (.again (.forLoop target it body [] env))
      | .brk=>.pure (.done .next)
      | .ret v=>.pure (.done (.ret v))) (H':=(λe=>(do noteFrame e env; theTreesLotGoes e:Sem Unit).wrap (λU=>.raise e) .raise id id))
     (λf=>by cases f<;>rfl)
     (λe=>by first | exact IR _ _ | (show(do noteFrame e env; theTreesLotGoes e:Sem Unit).bind (λU=>.raise e)=_; rw[IR]))]
    exact h₂
   ·first
    | (rw[<- IR] at hx; exact hx)
    | (show Seg _ A R Y n s₀ _ ((do noteFrame x env; theTreesLotGoes x:Sem Unit).bind λU=>.raise x) fs s'; rw[IR]; exact hx)
  ·first
   | (rw[<- IR] at hx; exact hx)
   | (show Seg _ A R Y n s₀ _ ((do noteFrame x env; theTreesLotGoes x:Sem Unit).bind λU=>.raise x) fs s'; rw[IR]; exact hx)
end
noncomputable abbrev bsl:Str:=aa "\\"
noncomputable abbrev chS (c:Nat):Str:=⟨#[c]⟩
def itsF:List Nat->Nat->Bool->List (Nat×Str)
 | [],i,b=>if b then[(i - 1,bsl)] else[]
 | c :: r,i,PG=>(i,bsl++chS c) :: itsF r (i+1) PH
 | c :: r,i,PH=>if c=92 then itsF r (i+1) PG else(i,chS c) :: itsF r (i+1) PH
def MO (C:aj)(i:Nat)(b:Bool)(h:aL):Prop:=∃ m p tp,h.Ns C m/\m (aa "escape")=PD (.bool b)/\m (aa "pos")=PD (.int p tp)/\(b=PG->p=((i - 1:Nat):Int))
structure GSt (C E I:aj)(t:Str)(tt:Tok)(i:Nat)(b:Bool)(h:aL):Prop where
 ns:MO C i b h
 en:∃ old,Ih h E I i old
 it:h.IsStrIter I "str_ascii_iterator" t tt i
theorem GSt.keeps {t:Str}{h h':aL}(x:GSt C E I t tt i b h)(hk:∀ b∈[C,E,I],∀ o,h.get? b=PD o->h'.get? b=PD o):GSt C E I t tt i b h':=by
 refine bU λG1 hG1=>?_;obtain⟨⟨m,p,tp,hn,r⟩,⟨old,he⟩,⟨o,ho,hit⟩⟩:=x;refine hG1 ?_;exact⟨⟨m,p,tp,hn.at' λo e=>hk _ (by simp) o e,r⟩,⟨old,hk _ (by simp) _ he⟩,⟨o,hk _ (by simp) _ ho,hit⟩⟩
theorem GSt.live {t:Str}{h:aL}(x:GSt C E I t tt i b h):∀ b∈[C,E,I],∃ o,h.get? b=PD o:=by
 refine bU λG1 hG1=>?_;obtain⟨⟨m,p,tp,hn,r⟩,⟨old,he⟩,⟨o,ho,hit⟩⟩:=x;refine hG1 ?_;intro b hb;simp only[aQ,di,or_false] at hb;rcases hb with rfl | rfl | rfl
 ·obtain⟨o,_,_,q,_⟩:=hn; exact⟨_,q⟩
 ·exact⟨_,he⟩
 ·exact⟨_,ho⟩
structure GE (e:Env)(C:aj):Prop where
 loc:e.locals=C
 fn:e.scope.kind=.function
 kp:e.kindOf (aa "pos")=PD .local
 ke:e.kindOf (aa "escape")=PD .local
 kc:e.kindOf (aa "ch")=PD .local
 co:e.scope.isCoroutine=PH
 int:interactive e=PH
theorem GE.cls {e:Env}(G:GE e C):(e.scope.kind == .class||(e.scope.kind == .module&&e.locals != e.globals))=PH:=by rw[G.fn]; rfl
def lD (C E I:aj)(tot:List (Nat×Str)):wy:=λn s₀ v s κ=>
 (∃ p ch T tp tc,tot[tot.length - 1 - n]?=PD (p,ch)/\v=.ref T/\s.heap.IsTuple T #[.int ((p:Nat):Int) tp,.str ch tc]/\s₀.heap.get? T=PF)/\dE C [E,I] s₀ s/\
  ∃ W:List aj,(∀ b∈W,b∈[C,E,I]/\∃ o,s.heap.get? b=PD o)/\∀ s'':ai,(∀ b∈W,∀ o,s.heap.get? b=PD o->s''.heap.get? b=PD o)->κ (.send .none) s''
def mX (C E I:aj):MY:=λn s₀ r s=>r=.ok (.ret .none)/\n=0/\dE C [E,I] s₀ s
theorem zt {tot:List (Nat×Str)}{x:Nat×Str}(h:tot=pre++x :: rest):tot[tot.length - 1 - rest.length]?=PD x:=by
 subst h;rw[aJ,cV];have:pre.length+(rest.length+1) - 1 - rest.length=pre.length:=N6 pre.length rest.length;rw[this,aM (aI _),b9]; rfl
theorem El (c:Nat):(chS c == bsl)=decide (c=92):=by
 refine(?_:decide ((⟨#[c]⟩:Str)=bsl)=_);have e:bsl=⟨#[92]⟩:=by decide
 rw[e]
 by_cases h:c=92
 ·subst h; rfl
 ·rw[decide_eq_false h,decide_eq_false]; intro q; injection q with q; simp at q; exact h q
theorem DF:(λz=>if z=aa "ch" then y else if z=aa "pos" then x else m z) (aa "escape")=m (aa "escape"):=by
 show(if _ then _ else if _ then _ else _)=_;rw[if_neg (by decide),if_neg (by decide)]
theorem DE:(λz=>if z=aa "ch" then y else if z=aa "pos" then x else m z) (aa "pos")=x:=by
 show(if _ then _ else if _ then _ else _)=_;rw[if_neg (by decide),if_pos rfl]
theorem OP:(λz=>if z=aa "ch" then y else if z=aa "pos" then x else m z) (aa "ch")=y:=if_pos rfl
theorem mZ {w:aB}{A:be}{E:af->ai->Prop}{env:Env}{a b:aw}{k:Nat}{Q:af->ai->Prop}(ha:starEach [a,b] env=[(PH,eval a env),(PH,eval b env)])
  (h:wpAny (model prog w) A (eval a env) (λx s₁=>wpAny (model prog w) A (eval b env) (λy s₂=>Q (.ref s₂.heap.objs.size) { s₂ with heap:=s₂.heap.push { cls:=.type "tuple",data:=.seq #[x,y] } }) E s₁) E s):
  wpAny (model prog w) A (eval (.Tuple [a,b] k pos) env) Q E s:=by
 refine wpAny_Tuple ?_;rw[ha];exact Cb (aU h (λx s₁ h₁=>Cb (aU h₁ (λy s₂ h₂=>spliced_nil ⟨(by decide:2<=sizeLine),h₂⟩) λU U e=>e)) λU U e=>e)
theorem ny (x:dE C [E,I] s₀ s)(hC:C<s.heap.objs.size)(hE:E<s.heap.objs.size)(hI:I<s.heap.objs.size):s₀.heap.get? s.heap.objs.size=PF:=by
 obtain⟨h',tk,rfl,hk⟩:=x;cases e:s₀.heap.get? h'.objs.size with
 | none=>rfl
 | some o=>
  have:=hk _ o (cL hC) (by simp only[aQ,di,or_false,not_or]; exact⟨cL hE,cL hI⟩) e;exact absurd (aO this) (bY _)
section
variable {prog:cj}{w:aB}{A:be}{e:Env}{C E I:aj}{t:Str}{tt:Tok}{tot:List (Nat×Str)}{fs:List Frame}
 {pa pb pc pd pe pf pg ph pi pj pk pl pm pn po pp pq pr pt pu qi qj qk ql qm qn qo:Pos} {ka kb kc kd ke kf kg:Nat}
theorem rT {ex:aw}{yp sp:Pos}{p:Nat}{ch:Str}(G:GE e C)(hfs:splitAtGen fs=PF)(hgd:gd PH=PH)(hfg:fs.any tB=PH)(hpre:tot=pre++(p,ch) :: rest)(x:GSt C E I t tt i b s.heap)(since:dE C [E,I] s₀ s)
  (hev:∀ (Q E':af->ai->Prop),(∀ tp tc tk,Q (.ref s.heap.objs.size) { s with heap:=s.heap.push { cls:=.type "tuple",data:=.seq #[.int ((p:Nat):Int) tp,.str ch tc] },toks:=tk })->wpAny (model prog w) (A.over cd fs) (eval ex e) Q E' s)
  (hK:∀ s'',GSt C E I t tt i b s''.heap->Seg (model prog w) A (mX C E I) (lD C E I tot) rest.length s'' cd (K .next) fs s''):
  Seg (model prog w) A (mX C E I) (lD C E I tot) (rest.length+1) s₀ cd ((exec (.Expr (.Yield (PD ex) yp) sp) e).wrap K H gd lv) fs s:=
 have lt:∀ b∈[C,E,I],b<s.heap.objs.size:=λb hb=>(x.live b hb).elim λo q=>aO q;have fresh:s₀.heap.get? s.heap.objs.size=PF:=ny since (lt C (.head _)) (lt E (.tail _ (.head _))) (lt I (.tail _ (.tail _ (.head _))));have kp:∀ (T:Obj) (b:aj) (o:Obj),s.heap.get? b=PD o->(s.heap.push T).get? b=PD o:=λT b o q=>ag _ q
 seg_Expr_Yield hfs hgd hfg (hev _ _ λtp tc tk kap hkap=>⟨⟨p,ch,_,tp,tc,zt hpre,rfl,⟨_,aE _ rfl,rfl,_,rfl⟩,fresh⟩,since.step λb o U U q=>kp _ b o q,[C,E,I],λb hb=>⟨hb,(x.live b hb).imp λo q=>kp _ b o q⟩,λs'' hal=>hkap .none s'' (hK s'' ((x.keeps λb U o q=>kp _ b o q).keeps hal))⟩) G.co G.int
structure GTn (C E I:aj)(t:Str)(tt:Tok)(i:Nat)(h:aL)(M:Str->Option af):Prop where
 n:h.Ns C M
 p:∃ tk,M (aa "pos")=PD (.int ((i:Nat):Int) tk)
 en:∃ old,Ih h E I ((i+1:Nat):Int) old
 it:h.IsStrIter I "str_ascii_iterator" t tt (i+1)
theorem GTn.g {i:Nat}{h:aL}{M:Str->Option af}{b:Bool}(x:GTn C E I t tt i h M)(e:M (aa "escape")=PD (.bool b)):GSt C E I t tt (i+1) b h:=⟨x.p.elim λtk z=>⟨M,_,tk,x.n,e,z,λU=>rfl⟩,x.en,x.it⟩
theorem xJ {n k:Nat}{v:Bool}{p1 p2 p3:Pos}{M:Str->Option af}{R:MY}{Y:wy}(G:GE e C)(hCE:C≠E)(hCI:C≠I)(x:GTn C E I t tt i s.heap M)
  (hK:∀ s',GSt C E I t tt (i+1) v s'.heap->(∀ s₀,dE C [E,I] s₀ s->dE C [E,I] s₀ s')->Seg (model prog w) A R Y n s₀ cd (K .next) fs s'):
  Seg (model prog w) A R Y n s₀ cd ((exec (.Assign [.Name (aa "escape") p1] (.Constant (.bool v) k p2) p3) e).wrap K H gd lv) fs s:=
 MQ (dH (gg (cM G.ke (by rw[G.loc]; exact x.n) (λh₅ hn₅ hs₅=>by
  rw[G.loc] at hn₅ hs₅;exact hK _ (GTn.g ⟨hn₅,x.p.imp λtk z=>(if_neg (by decide)).trans z,x.en.imp λo q=>hs₅.extBut _ _ (im hCE) q,x.it.extBut hs₅.extBut (im hCI)⟩ (if_pos rfl)) λs₀ z=>z.step λb o hbC U q=>hs₅.extBut b o hbC q) G.cls)) (by rfl))
theorem AY (hB:B=[.If (.Name (aa "escape") pd) [.Expr (.Yield (PD (.Tuple [.Name (aa "pos") pe,.BinOp (.Constant (.str bsl) kb pf) .Add (.Name (aa "ch") pg) ph] kc pi)) pj) pk,.Assign [.Name (aa "escape") pl] (.Constant (.bool PH) kd pm) pn]
      [.If (.Compare (.Name (aa "ch") po) [.Eq] [.Constant (.str bsl) ke pp] pq) [.Assign [.Name (aa "escape") pr] (.Constant (.bool PG) kf pt) pu]
       [.Expr (.Yield (PD (.Tuple [.Name (aa "pos") qm,.Name (aa "ch") qn] kg qo)) qk) ql] qj] qi])      {c:Nat} {r:List Nat}  {u:Tok}   {M:Str->Option af} (G:GE e C) (hCE:C≠E) (hCI:C≠I) (hfs:splitAtGen fs=PF) (hgd:gd PH=PH) (hfg:fs.any tB=PH) (x:GTn C E I t tt i s.heap M) (xe:M (aa "escape")=PD (.bool b)) (xc:M (aa "ch")=PD (.str ⟨#[c]⟩ u)) (since:dE C [E,I] s₀ s) (hpre:tot=pre++itsF (c :: r) i b)
  (hN:∀ b' s₀' s',GSt C E I t tt (i+1) b' s'.heap->dE C [E,I] s₀' s'->(∃ pre,tot=pre++itsF r (i+1) b')->Seg (model prog w) A (mX C E I) (lD C E I tot) (itsF r (i+1) b').length s₀' cd (K .next) fs s'):
  Seg (model prog w) A (mX C E I) (lD C E I tot) (itsF (c :: r) i b).length s₀ cd ((execs B e).wrap K H gd lv) fs s:=by
 rw[hB];have hn:s.heap.Ns e.locals M:=by rw[G.loc]; exact x.n
 have more:∀ {y:Nat×Str} {l:List (Nat×Str)},tot=pre++y :: l->∃ p,tot=p++l:=λ{y l} q=>⟨pre++[y],by rw[q,au]; rfl⟩;refine dd (ve (rm (dt (bQ G.fn G.ke hn (v:=.bool b) xe (cK ?_)) (by decide)) (by rfl)));refine x.p.elim λtk1 xp=>?_;cases b with
 | true=>
  rw[if_pos rfl];refine dd (rT G hfs hgd hfg hpre (x.g xe) since (λQ E' q=>mZ (by rfl) (dt (bQ G.fn G.kp hn (v:=.int (i:Int) tk1) xp (Ex (jN (dt (bQ G.fn G.kc hn (v:=.str ⟨#[c]⟩ u) xc (PyProof.Rows.add_str (λt' tk'=>q _ _ _) (by show 1+1<=sizeLine; decide))) (by decide))))) (by decide))) λs'' g=>?_);refine bU λG4 hG4=>g.ns.elim λm4 z=>z.elim λp4 z=>z.elim λtp4 z=>hG4 ?_;exact dd (xJ G hCE hCI ⟨z.1,⟨tp4,z.2.2.1.trans (by rw[z.2.2.2 rfl]; rfl)⟩,g.en,g.it⟩ λs5 g5 k5=>db (db (hN PH s'' s5 g5 (k5 s'' (lb _ _ _)) (more hpre))))
 | false=>
  rw[if_neg aP];refine dd (ve (fM (dt (bQ G.fn G.kc hn (v:=.str ⟨#[c]⟩ u) xc (jN (eq_str (cK ?_)))) (by decide)) (by rfl)));rw[El]
  by_cases h92:c=92
  ·rw[decide_eq_true h92,if_pos rfl,show itsF (c :: r) i PH=itsF r (i+1) PG from if_pos h92];exact dd (xJ G hCE hCI x λs5 g5 k5=>db (db (db (hN PG s₀ s5 g5 (k5 s₀ (since.step λU U U U q=>q)) ⟨pre,hpre.trans (congrArg (pre++·) (if_pos h92))⟩))))
  ·have hits:itsF (c :: r) i PH=(i,chS c) :: itsF r (i+1) PH:=if_neg h92;rw[decide_eq_false h92,if_neg aP,hits];exact dd (rT G hfs hgd hfg (hpre.trans (congrArg (pre++·) hits)) (x.g xe) (since.step λU U U U q=>q) (λQ E' q=>mZ (by rfl) (dt (bQ G.fn G.kp hn (v:=.int (i:Int) tk1) xp (dt (bQ G.fn G.kc hn (v:=.str ⟨#[c]⟩ u) xc (q _ _ _)) (by decide))) (by decide))) λs'' g=>db (db (db (hN PH s'' s'' g (lb _ _ _) (more (hpre.trans (congrArg (pre++·) hits)))))))
theorem DK (hT:T=.Tuple [.Name (aa "pos") pa,.Name (aa "ch") pb] ka pc){A:be}(hh:A.handled=PF){D:aj}{x y:af}(G:GE e C)(ht:s.heap.IsTuple D #[x,y])(hn:s.heap.Ns C m)
  (h:∀ h' tk m',h'.Ns C m'->m' (aa "ch")=PD y->m' (aa "pos")=PD x->m' (aa "escape")=m (aa "escape")->(∀ c o,c≠C->s.heap.get? c=PD o->h'.get? c=PD o)->Q () { s with heap:=h',toks:=tk }):wpAny (model prog w) A (assign T e (.ref D)) Q E' s:=by
 rw[hT];exact kcp_assign hh ht G.kp G.kc G.cls (by rw[G.loc]; exact hn) λh' tk n k=>h h' tk (λz=>if z=aa "ch" then PD y else if z=aa "pos" then PD x else m z) (by rw[G.loc] at n; exact n) OP DE DF λc o q=>k c o (by rw[G.loc]; exact q)
theorem DI (hT:T=.Tuple [.Name (aa "pos") pa,.Name (aa "ch") pb] ka pc){A:be}{x:Int}{y:af}{D:aj}(ho:IsEnumOut s.heap E I x y D)
  (h:∀ h',Ih h' E I x y->dI E s.heap h'->Q () { s with heap:=h' }):wpAny (model prog w) A (letOwnedTupleGo T (.ref E) (.ref D)) Q E' s:=by
 rw[hT];exact wpAny_letOwnedTupleGo_enum ho h
theorem uv {T:aw}{B:List aS}(hT:T=.Tuple [.Name (aa "pos") pa,.Name (aa "ch") pb] ka pc)(hB:B=[.If (.Name (aa "escape") pd) [.Expr (.Yield (PD (.Tuple [.Name (aa "pos") pe,.BinOp (.Constant (.str bsl) kb pf) .Add (.Name (aa "ch") pg) ph] kc pi)) pj) pk,.Assign [.Name (aa "escape") pl] (.Constant (.bool PH) kd pm) pn]
      [.If (.Compare (.Name (aa "ch") po) [.Eq] [.Constant (.str bsl) ke pp] pq) [.Assign [.Name (aa "escape") pr] (.Constant (.bool PG) kf pt) pu]
       [.Expr (.Yield (PD (.Tuple [.Name (aa "pos") qm,.Name (aa "ch") qn] kg qo)) qk) ql] qj] qi]) (G:GE e C) (hCE:C≠E) (hCI:C≠I) (hEI:E≠I) (hfs:splitAtGen fs=PF) (hfg:fs.any tB=PH) (hh:(marksOver fs (A.handled,A.handled)).1=PF)
  (after:∀ b s₀ s,MO C t.cps.size b s.heap->E<s.heap.objs.size->dE C [E,I] s₀ s->(∃ pre,tot=pre++itsF [] t.cps.size b)->Seg (model prog w) A (mX C E I) (lD C E I tot) (itsF [] t.cps.size b).length s₀ (.block [] e) (leafOf (.ok .next)) fs s):
  ∀ (cs:List Nat) (i:Nat) (b:Bool) (s₀ s:ai),t.cps.toList.drop i=cs->i<=t.cps.size->GSt C E I t tt i b s.heap->dE C [E,I] s₀ s->(∃ pre,tot=pre++itsF cs i b)->
   Seg (model prog w) A (mX C E I) (lD C E I tot) (itsF cs i b).length s₀ (.forLoop T (.ref E) B [] e) ((model prog w).den (.forLoop T (.ref E) B [] e)) fs s
 | [],i,b,s₀,s,hcs,hi,x,since,suf=>by
  have hin:i=t.cps.size:=f7 hi (by have:=List.drop_eq_nil_iff.mp hcs; rwa [iw] at this);rw[hin] at x suf⊢
  exact bU λG1 hG1=>x.en.elim λold he=>x.ns.elim λm z=>z.elim λp z=>z.elim λtp z=>hG1 (nz (wpAny_pyNext_enum_endD (Draws.strAscii (by exact hh) I t tt) he x.it λh' hx=>
   after b s₀ _ ⟨m,p,tp,z.1.at' λo q=>hx _ o hCI q,z.2⟩ (aO (hx _ _ hEI he)) (since.step λb o hbC hbw q=>hx b o (λz=>hbw (z▸.tail _ (.head _))) q) suf))
 | c :: r,i,b,s₀,s,hcs,hi,x,since,suf=>by
  have hci:t.cps.toList[i]?=PD c:=by have e:=List.getElem?_drop (xs:=t.cps.toList) (i:=i) (j:=0); rw[hcs] at e; exact e.symm
  have hlt:i<t.cps.size:=(fX.mp hci).1;have hr:t.cps.toList.drop (i+1)=r:=by rw[<- List.tail_drop,hcs]; rfl
  refine bU λG1 hG1=>x.en.elim λold he=>x.ns.elim λm z=>z.elim λp z=>z.elim λtp z=>suf.elim λpre hpre=>hG1 ?_;refine nz (wpAny_pyNext_enum_itemD (Draws.strAscii (by exact hh) I t tt) he x.it hlt hEI (by simp[hEI]) λy h₁ tk₁ hx ho hit₁ hT' hsz hk=>?_);refine bU λG2 hG2=>hx.elim λc' z'=>z'.elim λu z'=>hG2 ?_;have ec:c'=c:=ac (z'.1.symm.trans (kF.symm.trans hci));refine DI hT ho λh₂ he₂ hs₂=>?_;have k2:∀ b o,b≠C->b∉[E,I]->s.heap.get? b=PD o->h₂.get? b=PD o:=λb o U hbw q=>hs₂.extBut b o (λz=>hbw (z▸.head _)) (hk b o (λz=>hbw (z▸.head _)) (λz=>hbw (z▸.tail _ (.head _))) q);refine DK hT hh G (x:=.int (i:Int) tk₁) (y:=y) ⟨_,hs₂.extBut _ _ (cL (aO he)) hT',rfl,_,rfl⟩ (z.1.at' λo q=>hs₂.extBut _ o hCE (hk _ o hCE hCI q)) λh₃ tk₃ m₃ hn₃ q1 q2 q3 hk₃=>?_;refine AY hB G hCE hCI hfs rfl hfg (u:=u) ⟨hn₃,⟨_,q2⟩,⟨_,hk₃ _ _ (im hCE) he₂⟩,(hit₁.extBut hs₂.extBut (im hEI)).extBut (λb o hb q=>hk₃ b o hb q) (im hCI)⟩ (q3.trans z.2.1) (q1.trans (by rw[z'.2,ec])) (since.step λb o hbC hbw q=>hk₃ b o hbC (k2 b o hbC hbw q)) hpre λb' s₀' s' g' since' suf'=>?_;exact seg_again rfl (uv hT hB G hCE hCI hEI hfs hfg hh after r (i+1) b' s₀' s' hr hlt g' since' suf')
theorem AZ (G:GE e C)(gn:MO C t.cps.size b s.heap)(gE:E<s.heap.objs.size)(hE:I<E)(sn:dE C [E,I] s₀ s)(hpre:tot=pre++itsF [] t.cps.size b)
  (hK:∀ s₀ s,dE C [E,I] s₀ s->Seg (model prog w) A (mX C E I) (lD C E I tot) 0 s₀ cd (K .next) [] s):
  Seg (model prog w) A (mX C E I) (lD C E I tot) (itsF [] t.cps.size b).length s₀ cd ((execs [.If (.Name (aa "escape") qh) [.Expr (.Yield (PD (.Tuple [.Name (aa "pos") ra,.Constant (.str bsl) kj rb] kl rc)) rd) re] [] rf] e).wrap K H id id) [] s:=by
 refine bU λG1 hG1=>gn.elim λm z=>z.elim λp z=>z.elim λtp z=>hG1 ?_;have hn:s.heap.Ns e.locals m:=by rw[G.loc]; exact z.1
 refine dd (ve (rm (dt (bQ G.fn G.ke hn (v:=.bool b) z.2.1 (cK ?_)) (by decide)) (by rfl)));cases b with
 | true=>
  rw[if_pos rfl];refine dd ?_;refine(?_:Seg _ A _ _ (0+1) s₀ _ _ [] _);refine seg_Expr_Yield rfl rfl rfl (mZ (by rfl) (dt (bQ G.fn G.kp hn z.2.2.1 (jN λkap hkap=>?_)) (by decide))) G.co G.int;rw[z.2.2.2 rfl];exact⟨⟨t.cps.size - 1,bsl,_,_,_,zt (rest:=[]) hpre,rfl,⟨_,aE _ rfl,rfl,_,rfl⟩,ny (sn.step λU U U U q=>q) z.1.lt gE (iP hE gE)⟩,sn.step λb o U U q=>ag _ q,[],(λb hb=>nomatch hb),λs'' U=>hkap .none s'' (db (db (hK s'' s'' (lb _ _ _))))⟩
 | false=>
  rw[if_neg aP];exact db (db (hK s₀ _ (sn.step λU U U U q=>q)))
theorem Ha {qf:Pos}(hbd:bd=.Assign [.Name (aa "pos") qa] (.Constant (.int 0) kh qb) qc :: .Assign [.Name (aa "escape") qd] (.Constant (.bool PH) ki qe) qf :: .For T iter B [] qg :: Bl)
  (hT:T=.Tuple [.Name (aa "pos") pa,.Name (aa "ch") pb] ka pc) (hB:B=[.If (.Name (aa "escape") pd) [.Expr (.Yield (PD (.Tuple [.Name (aa "pos") pe,.BinOp (.Constant (.str bsl) kb pf) .Add (.Name (aa "ch") pg) ph] kc pi)) pj) pk,.Assign [.Name (aa "escape") pl] (.Constant (.bool PH) kd pm) pn]
      [.If (.Compare (.Name (aa "ch") po) [.Eq] [.Constant (.str bsl) ke pp] pq) [.Assign [.Name (aa "escape") pr] (.Constant (.bool PG) kf pt) pu]
       [.Expr (.Yield (PD (.Tuple [.Name (aa "pos") qm,.Name (aa "ch") qn] kg qo)) qk) ql] qj] qi])
  (hBl:Bl=[.If (.Name (aa "escape") qh) [.Expr (.Yield (PD (.Tuple [.Name (aa "pos") ra,.Constant (.str bsl) kj rb] kl rc)) rd) re] [] rf]) (G:GE e C) (hA:A.handled=PF)
  (hset:∀ x,foldedSetIterable iter e x=pure x) (hasc:t.cps.all (·<128)=PG)
  (hiter:∀ (A':be) (Q:af->ai->Prop) (E':af->ai->Prop) (s':ai) (m':Str->Option af),A'.handled=PF->Fr h₀ C s'.heap m'->m' (aa "addr")=PD (.str t tt)->
   (∀ h',Ih h' (s'.heap.objs.size+1) s'.heap.objs.size 0 .none->h'.IsStrIter s'.heap.objs.size (strIterType t) t tt 0->(∀ b o,s'.heap.get? b=PD o->h'.get? b=PD o)->Q (.ref (s'.heap.objs.size+1)) { s' with heap:=h' })->
   wpAny (model prog w) A' (eval iter e) Q E' s')
  (F:Fr h₀ C s.heap m) (hm:m (aa "addr")=PD (.str t tt)) (hsz:s.heap.objs.size=I) (since:dE C [I+1,I] s₀ s) (htot:tot=itsF t.cps.toList 0 PH)
  (hK:∀ s₀ s,dE C [I+1,I] s₀ s->Seg (model prog w) A (mX C (I+1) I) (lD C (I+1) I tot) 0 s₀ cd (K .next) [] s):
  Seg (model prog w) A (mX C (I+1) I) (lD C (I+1) I tot) tot.length s₀ cd ((execs bd e).wrap K H id id) [] s:=by
 have hCI:C<I:=hsz▸F.ns.lt;rw[hbd];refine dd (MQ (dH (qF (cM G.kp (by rw[G.loc]; exact F.ns) (λh₁ hn₁ hs₁=>?_) G.cls)) (by rfl)));refine dd (MQ (dH (gg (cM G.ke hn₁ (λh₂ hn₂ hs₂=>?_) G.cls)) (by rfl)));rw[G.loc] at hn₁ hs₁ hn₂ hs₂;have F₂:Fr h₀ C h₂ _:=(F.set hn₁ hs₁).set hn₂ hs₂;have sz₂:h₂.objs.size=I:=by rw[hs₂.1,hs₁.1]; exact hsz
 refine dd (CO hset (hiter _ _ _ _ _ hA F₂ ((if_neg (by decide)).trans ((if_neg (by decide)).trans hm)) λh₃ he₃ hi₃ hk₃=>rj he₃ λp=>?_));rw[show strIterType t="str_ascii_iterator" from by unfold strIterType; rw[if_pos hasc]] at hi₃;rw[show h₂.objs.size=I from sz₂] at he₃ hi₃⊢;rw[show tot.length=(itsF t.cps.toList 0 PH).length by rw[htot]];exact uv hT hB G (aY (bF hCI)) (aY hCI) (eG _) (by rfl) (by rfl) (by rw[hA]; rfl) (λb s₀ s gn gE sn suf=>suf.elim λpre hpre=>seg_leaf (.ok .next) (by rw[hBl]; exact AZ G gn gE (cC _) sn hpre hK)) t.cps.toList 0 PH s₀ _ rfl (jw _) ⟨⟨_,_,_,hn₂.at' λo q=>hk₃ _ o q,if_pos rfl,(if_neg (by decide)).trans (if_pos rfl),λq=>Bool.noConfusion q⟩,⟨_,he₃⟩,hi₃⟩ (since.step λb o hbC U q=>hk₃ b o (hs₂.extBut b o hbC (hs₁.extBut b o hbC q))) ⟨[],htot⟩
theorem A0 {qf:Pos}(hbd:bd=.Assign [.Name (aa "pos") qa] (.Constant (.int 0) kh qb) qc :: .Assign [.Name (aa "escape") qd] (.Constant (.bool PH) ki qe) qf :: .For T iter B [] qg :: Bl)
  (hT:T=.Tuple [.Name (aa "pos") pa,.Name (aa "ch") pb] ka pc) (hB:B=[.If (.Name (aa "escape") pd) [.Expr (.Yield (PD (.Tuple [.Name (aa "pos") pe,.BinOp (.Constant (.str bsl) kb pf) .Add (.Name (aa "ch") pg) ph] kc pi)) pj) pk,.Assign [.Name (aa "escape") pl] (.Constant (.bool PH) kd pm) pn]
      [.If (.Compare (.Name (aa "ch") po) [.Eq] [.Constant (.str bsl) ke pp] pq) [.Assign [.Name (aa "escape") pr] (.Constant (.bool PG) kf pt) pu]
       [.Expr (.Yield (PD (.Tuple [.Name (aa "pos") qm,.Name (aa "ch") qn] kg qo)) qk) ql] qj] qi])
  (hBl:Bl=[.If (.Name (aa "escape") qh) [.Expr (.Yield (PD (.Tuple [.Name (aa "pos") ra,.Constant (.str bsl) kj rb] kl rc)) rd) re] [] rf]) (G:GE e C) (hA:A.handled=PF)
  (hset:∀ x,foldedSetIterable iter e x=pure x) (hasc:t.cps.all (·<128)=PG)
  (hiter:∀ (A':be) (Q:af->ai->Prop) (E':af->ai->Prop) (s':ai) (m':Str->Option af),A'.handled=PF->Fr h₀ C s'.heap m'->m' (aa "addr")=PD (.str t tt)->
   (∀ h',Ih h' (s'.heap.objs.size+1) s'.heap.objs.size 0 .none->h'.IsStrIter s'.heap.objs.size (strIterType t) t tt 0->(∀ b o,s'.heap.get? b=PD o->h'.get? b=PD o)->Q (.ref (s'.heap.objs.size+1)) { s' with heap:=h' })->
   wpAny (model prog w) A' (eval iter e) Q E' s')
  (F:Fr h₀ C s.heap m) (hm:m (aa "addr")=PD (.str t tt)) (hsz:s.heap.objs.size=I) (since:dE C [I+1,I] s₀ s) (htot:tot=itsF t.cps.toList 0 PH):
  Seg (model prog w) A (mX C (I+1) I) (lD C (I+1) I tot) tot.length s₀ (.func bd e) ((model prog w).den (.func bd e)) [] s:=
 seg_func (Ha hbd hT hB hBl G hA hset hasc hiter F hm hsz since htot λs₀ s sn=>seg_end (.ok (.ret .none)) ⟨rfl,rfl,sn⟩)
end
section
variable {prog:cj}{w:aB}{A:be}{s:ai}{h₀:aL}{L:aj}{m:Str->Option af}{K:wE}
 {R:lK->ai->Prop} {name qual:Str} {params:ze} {body:List aS} {scope:dC} {dV kV doc pm cdv ct oc:af} {an od:Option aj} {osl:Array (Option af)} {f:aj} {args:Args} {binds:List (Str×af)}
theorem JY (F:Fr h₀ L s.heap m)(X₀:K.In h₀)(NL:h₀.NoLimit)
  (ho:K.lookup f=PD ⟨oc,od,.func (fnOf name qual params body scope dV kV doc pm an cdv ct),osl⟩) (hcd:codeIn K cdv qual=PG) (hroom:A.depth<recursionLimit)
  (hbind:Iz s (fnOf name qual params body scope dV kV doc pm an cdv ct) args binds) (hloc:∀ y∈binds,scope.names.lookup y.1=PD .local)
  (h:∀ h' tk,h'.Ns s.heap.objs.size (λy=>binds.reverse.lookup y)->(∀ b o,s.heap.get? b=PD o->h'.get? b=PD o)->h'.IsGen (s.heap.objs.size+1) s.gens.size->h'.objs.size=s.heap.objs.size+2->
   R (.ok (.ret (.ref (s.heap.objs.size+1)))) { s with heap:=h',gens:=s.gens.push (.fresh (.func body (envOf qual scope s.heap.objs.size f cdv))),toks:=tk })
  (hco:scope.isCoroutine=PH) (hgen:scope.isGenerator=PG) (hk:scope.kind=.function)
  (hcell:∀ x∈scope.names,x.2≠.cell):codeAny (model prog w) A (.call (.ref f) args) R s:=by
 refine codeAny_call_generator (fd:=fnOf name qual params body scope dV kV doc pm an cdv ct) (body:=body) hroom ((X₀.keeps F.keep) _ _ ho) rfl hco hgen rfl (codeRec_of (X₀.keeps F.keep) hcd) (hbind _ _ _ _ ?_);refine wpAny_newFunctionEnv hcell hloc (λh' hn' hs'=>?_) hk;have keep:∀ b o,s.heap.get? b=PD o->h'.get? b=PD o:=λb o e=>hs'.extBut b o (aY (aO e)) (ag _ e);have hsz:h'.objs.size=s.heap.objs.size+1:=by rw[hs'.1,bW]
 refine⟨(NL.keeps F.keep).keeps keep,?_⟩;refine(?_:R (.ok (.ret (.ref h'.objs.size))) _);have hg:∀ o:Obj,(h'.push o).objs.size=s.heap.objs.size+2:=λo=>by rw[bW,hsz]
 have hget:∀ o:Obj,o.isFreed=PH->(h'.push o).get? (s.heap.objs.size+1)=PD o:=λo ho=>by rw[<- hsz]; exact aE _ ho
 rw[hsz];exact h _ _ (hn'.push _) (λb o e=>ag _ (keep b o e)) ⟨_,_,_,hget _ rfl,rfl,rfl,rfl⟩ (hg _)
end
theorem yA {w:aB}{A:be}{E:af->ai->Prop}{G T:aj}{g:Nat}(hg:s.heap.IsGen G g)(h:Q () s):
  wpAny (model prog w) A (letOwnedTupleGo target (.ref G) (.ref T)) Q E s:=by
 have key:wpAny (model prog w) A (letOwnedTupleGo (.Tuple [] 0 default) (.ref G) (.ref T)) Q E s:=by
  obtain⟨o,nm,qn,ho,hc,hd,hsl⟩:=hg;refine(?_:wpAny _ _ (load G >>= _) _ _ _);refine ab (Id ho ?_);rw[hc,hd];exact aD h
 cases target<;>first | exact aD h | exact key
abbrev BG:Type:={ g:Array wD // ju g }
theorem AllBare.setGen {g:Nat}{y:wD}(x:ju s.gens)(hy:y.bare=PG):ju (s.setGen g y).gens:=λz hz=>by
 have hz':z∈s.gens.setIfInBounds g y:=hz;obtain⟨i,hi,rfl⟩:=Array.mem_iff_getElem.mp hz';have hi':i<s.gens.size:=by simpa using hi
 rw[Array.getElem_setIfInBounds hi']
 split
 ·exact hy
 ·exact x _ (Array.getElem_mem _)
def MN (prog:cj)(w:aB)(A:be)(h₀:aL)(C E I:aj)(tot:List (Nat×Str))(j:Nat)(h:aL)(W:List aj)(gs:wD):Prop:=
 (j=0->h.objs.size=I)/\∀ s'':ai,(∀ b∈W,∀ o,h.get? b=PD o->s''.heap.get? b=PD o)->(∀ b o,h₀.get? b=PD o->s''.heap.get? b=PD o)->(j=0->s''.heap.objs.size=I)->
  gs.Goes (model prog w) A.in1 (mX C E I) (lD C E I tot) (tot.length - j) (.send .none) s''
section
variable {prog:cj}{w:aB}{A:be}{s:ai}
theorem t6 {a:aj}{g n:Nat}{gs:wD}{P:Nat->ai->ai->Prop}{Y:wy}{Q:Option af->ai->Prop}{E:af->ai->Prop}(hh:A.handled=PF)
  (hl:s.heap.NoLimit) (hroom:A.depth<recursionLimit) (hg:s.heap.IsGen a g) (hgs:s.gens[g]?=PD gs)
  (hgo:gs.Goes (model prog w) A.in1 (λn s₀ r s₁=>r=.ok (.ret .none)/\P n s₀ s₁) Y n (.send .none) (s.setGen g .running))
  (hY:∀ v s₁ gs',gs'.bare=PG->Y (n - 1) (s.setGen g .running) v s₁ (λr' s''=>match n with
    | 0=>False
    | m+1=>gs'.Goes (model prog w) A.in1 (λn s₀ r s₁=>r=.ok (.ret .none)/\P n s₀ s₁) Y m r' s'')->Q (PD v) (s₁.setGen g gs'))
  (hP:∀ s₁,P n (s.setGen g .running) s₁->∀ h',(∀ b o,s₁.heap.get? b=PD o->h'.get? b=PD o)->Q PF { s₁.setGen g .finished with heap:=h' }):
  wpAny (model prog w) A (pyNext (.ref a)) Q E s:=by
 unfold pyNext;refine ab (fK (bA (name:=aa "__next__") hg.typeIs slot_gen_next (bZ slot_gen_next hg.typeIs entry_gen_next ?_ (args_gen_next _))));refine(?_:wpAny _ A.in1 (Builtin.Generator.genWake (.ref a) (.send .none)) _ _ s);unfold Builtin.Generator.genWake;refine ab (bI (wpAny_genNumber hg (ab (wpAny_genState hgs ?_))));cases gs with
 | running=>exact hgo.elim
 | finished=>exact hgo.elim
 | _=>
  refine ab (wpAny_roomToWake hl hroom ?_);refine(?_:wpAny _ A.in1 (.resume g (.send .none) [] _) _ _ s);refine wpAny_resumeQ hgs hgo (λx s₁ hx=>?_) (λv s₁ gs' hb hv=>aD ⟨v,rfl,aD (hY v s₁ gs' hb hv)⟩);obtain⟨rfl,hp⟩:=hx;refine(?_:wpAny _ A.in1 (newExc (.type "StopIteration") [] >>= _) _ _ _);refine ab ?_;simp only[newExc,newTuple];refine ab (bL ?_ (by size_fits));refine ab (m:=firstArgMember _ _) (iM (a:=ca) (by first | rfl | (simp only[firstArgMember]; rfl)) ?_);refine bL ?_ (by size_fits);simp only[raiseNew];refine ab (ab (wpAny_handled ?_))
  first | rw[show A.in1.handled=PF from hh] | rw[hh]
  refine Ew ?_;refine ab (ty (T:="StopIteration") (b:=PG) ⟨_,aE _ rfl,rfl⟩ wu ?_);exact aD (hP s₁ hp _ λb o hb=>ag _ (ag _ hb))
end
end Mine
end
section
open PySem PySem.W PySem.Calls PySem.Spec PyProof.Rows Mine
namespace Nw
variable {x y y':SO}{c:Cx}{T:Tab}{line col j kk tk:Nat}{q:Str}{tt:Tok}{a fa P:aj}{h₀:aL}{w:aB}{s₀:ai}{Os₀ ys:List SO}{ps ps₀:List PV}{xs:List Str}{as:List aj}{vs:List af}{σ:Nat->Option Nat}{CM:List (Str×Nat)}{ds:List (Nat×Bool)}{pn:List (aj×Obj)}{m:Str->Option af}{E Q:af->ai->Prop}{ext:Fs->Tab->aB->Vm->EV->EV}
section
variable {f:Fs}{c:Cx}{V:Vm}{m:Str->Option af}{as:List aj}{Os:List SO}{h:aL}
def gvX (σ:Nat->Option Nat)(own:Bool)(x:SO):Option SO:=bif own then x.rn σ else(x.core.rn σ).map .G
def gvL (σ:Nat->Option Nat)(Os:List SO):List (Nat×Bool)->Option (List SO)
 | []=>PD []
 | q :: r=>((Os[q.1]?).bind (gvX σ q.2)).bind λy=>(gvL σ Os r).map λl=>y :: l
abbrev gvS (ds:List (Nat×Bool))(j:Nat):Option Nat:=Iv j (ds.map (·.1))
theorem lC:∀ {ys:List SO},gvL σ Os ds=PD ys->ys.length=ds.length/\∀ (t:Nat) (y:SO),ys[t]?=PD y->∃ q x,ds[t]?=PD q/\Os[q.1]?=PD x/\gvX σ q.2 x=PD y:=by
 induction ds with
 | nil=>exact λ{U} e=>ac e▸⟨rfl,λt U h=>nomatch h⟩
 | cons q r ih=>exact λ{U} e=>ak e λz e1 e=>aZ e λs e2 eq=>have w:=ih e2; eq▸⟨congrArg fq w.1,λt=>t.casesOn (λz' h=>ak e1 λx e3 e4=>⟨q,x,rfl,e3,ac h▸e4⟩) w.2⟩
theorem mA {b:Bool}(e:gvX σ b x=PD y):x.live/\(y.own->x.own):=by
 cases b with
 | true=>exact⟨(SO.rn_own e).1.live,λU=>(SO.rn_own e).1⟩
 | false=>exact aZ e λz e1 eq=>⟨(by cases x<;>first | trivial | (cases e1; done)),λq=>by rw[eq] at q; exact q.elim⟩
theorem AU {t:Nat}{q:Nat×Bool}(e1:ds[t]?=PD q)(e2:as[q.1]?=PD a):(ds.map λq=>(as[q.1]?).getD 0)[t]?=PD a:=aG.trans ((congrArg (lQ _) e1).trans (congrArg PD (congrArg (·.getD 0) e2)))
theorem pP (i:Inv f c V m as Os h)(e:gvL (gvS ds) Os ds=PD Os₀){t:Nat}(e1:(ds.map λq=>(as[q.1]?).getD 0)[t]?=PD a)(e2:Os₀[t]?=PD y):∃ q x,ds[t]?=PD q/\as[q.1]?=PD a/\Os[q.1]?=PD x/\gvX (gvS ds) q.2 x=PD y:=
 ((lC e).2 t y e2).elim λq w=>w.elim λx w=>have g:=aF (i.len▸lt_of_get w.2.1:q.1<as.length); ⟨q,x,w.1,ac ((AU w.1 g).symm.trans e1)▸g,w.2⟩
theorem GX {b:Bool}(H:∀ j t a,σ j=PD t->as[j]?=PD a->bs[t]?=PD a)(h:gvX σ b x=PD y){o:Obj}(g:x.is as o):y.is bs o:=by
 cases b with
 | true=>exact SO.rn_is H h g
 | false=>exact aZ h λz e eq=>eq▸SO.rn_is H e (x.core_is g)
theorem Giv.ofs (i:Inv f c V m as Os h)(ds:List (Nat×Bool))(hn:dy (ds.map (·.1))=PG)(e:gvL (gvS ds) Os ds=PD Os₀):∃ as₀,Giv as Os h as₀ Os₀/\(∀ (t:Nat) (q:Nat×Bool) (a:aj),ds[t]?=PD q->as[q.1]?=PD a->as₀[t]?=PD a)/\∀ (t:Nat) (a:aj),as₀[t]?=PD a->∃ q:Nat×Bool,ds[t]?=PD q/\as[q.1]?=PD a:=
 have hl:=(lC e).1;have H:∀ j t a,gvS ds j=PD t->as[j]?=PD a->(ds.map λq=>(as[q.1]?).getD 0)[t]?=PD a:=λj t a e1 e2=>aZ (aG.symm.trans (pL _ e1)) λq h2 eq=>AU h2 (eq▸e2);have yat:∀ {t:Nat} {a:aj},(ds.map λq=>(as[q.1]?).getD 0)[t]?=PD a->∃ y,Os₀[t]?=PD y:=λe1=>⟨_,aF (by rw[hl]; have:=lt_of_get e1; rwa [aA] at this)⟩
 ⟨_,⟨(aA ..).trans hl.symm,λt a y e1 e2=>(pP i e e1 e2).elim λq w=>w.elim λx w=>(i.ob _ _ _ w.2.1 w.2.2.1 (mA w.2.2.2).1).elim λo g=>⟨o,g.2.1,GX H w.2.2.2 g.1⟩,
   λt a y e1 e2=>(pP i e e1 e2).elim λq w=>w.elim λx w=>⟨q.1,x,w.2.1,w.2.2.1,mA w.2.2.2⟩,
   λt t' a y e1 e2 e3 hw=>(pP i e e1 e3).elim λq w=>w.elim λx w=>(yat e2).elim λy' e4=>(pP i e e2 e4).elim λq' w'=>w'.elim λx' w'=>
    have hx:=(mA w.2.2.2).2 hw;have same:q.1=q'.1:=Classical.byContradiction λn=>i.ne w.2.1 w'.2.1 w.2.2.1 w'.2.2.1 hx.live (mA w'.2.2.2).1 n (.inl hx);have m1:(ds.map (·.1))[t]?=PD q.1:=aG.trans (congrArg (lQ _) w.1)
    (gG (lt_of_get m1) (rJ hn)).mp (m1.trans (same▸(aG.trans (congrArg (lQ _) w'.1)).symm))⟩,
  λt q a=>AU,λt a e1=>(yat e1).elim λy e2=>(pP i e e1 e2).elim λq w=>w.elim λx w=>⟨q,w.1,w.2.1⟩⟩
end
def KA (h:aL)(fa:aj)(nm:Str)(st:aS)(cl:List (Str×aj)):Prop:=∃ q doc pm c' ctv,h.get? fa=PD (fnMade nm q (stArgs st) (jB st) (stScope st) cl doc pm c' ctv)/\h.CodeRec (.ref c') q
def Kz (c:Cx)(h:aL):Prop:=∀ b o,c.h₀.get? b=PD o\/(b,o)∈c.pn->h.get? b=PD o
structure FnC (c:Cx)(fa:aj)(nm:Str)(st:aS)(xs:List Str):Prop where
 o:∃ o fd,o.data=.func fd/\(c.h₀.get? fa=PD o\/(fa,o)∈c.pn)
 cl:∃ cl,(∀ h,Kz c h->KA h fa nm st cl)/\∀ x∈xs,cl.lookup x=c.cl.lookup x
theorem FnC.sub {c':Cx}{nm:Str}{st:aS}(F:FnC c fa nm st xs)(s:c.Sub c'):FnC c' fa nm st xs:=
 have up:∀ b o,c.h₀.get? b=PD o\/(b,o)∈c.pn->c'.h₀.get? b=PD o\/(b,o)∈c'.pn:=λb o e=>e.imp (λq=>s.h₀▸q) (s.pn _);let ⟨o,fd,h1,h2⟩:=F.o; let ⟨cl,h3,h4⟩:=F.cl
 ⟨⟨o,fd,h1,up _ _ h2⟩,cl,λh k=>h3 h λb o e=>k b o (up b o e),λx hx=>s.cl▸h4 x hx⟩
theorem FnC.callee {nm:Str}{st:aS}(F:FnC c fa nm st xs):gU c (.ref fa):=let ⟨o,fd,h1,h2⟩:=F.o; .inr (.inr ⟨fa,o,fd,rfl,h1,h2⟩)
def Ix (fa:aj)(nm:Str)(st:aS)(CM:List (Str×Nat))(Os₀:List SO)(_:Cx)(as₀:List aj)(h:aL):Prop:=∃ cl,KA h fa nm st cl/\Apart as₀ Os₀ fa/\∀ x i,CM.lookup x=PD i->∃ a,cl.lookup x=PD a/\as₀[i]?=PD a
noncomputable def Mr (CM CM':List (Str×Nat))(ds:List (Nat×Bool)):Bool:=CM.all λq=>(ds[q.2]?).elim PH λd=>CM'.lookup q.1 == PD d.1
section
variable {f:Fs}{c:Cx}{V:Vm}{m:Str->Option af}{as:List aj}{Os:List SO}{h:aL}{fa:aj}{nm:Str}{st:aS}{CM:List (Str×Nat)}
theorem zg (i:Inv f c V m as Os h)(F:FnC c fa nm st (CM.map (·.1))){as₀:List aj}(gv:Giv as Os h as₀ Os₀)(hg:∀ (t:Nat) (q:Nat×Bool) (a:aj),ds[t]?=PD q->as[q.1]?=PD a->as₀[t]?=PD a)(hc:Mr CM f.CM ds=PG):Ix fa nm st CM Os₀ c as₀ h:=by
 obtain⟨o,fd,h1,h2⟩:=F.o;obtain⟨cl,h3,h4⟩:=F.cl;refine⟨cl,h3 h i.stay,λt y e1 e2 hw=>?_,λx t e=>?_⟩
 ·obtain⟨j,x,g1,g2,lv,g3⟩:=gv.own t fa y e1 e2;rcases h2 with h2 | h2
  ·obtain⟨_,_,_,g4,_⟩:=i.ob _ _ _ g1 g2 lv;rw[(g4 (g3 hw)).2] at h2; cases h2
  ·exact(i.pn _ h2).2.2.1 j x g1 g2 (g3 hw)
 ·have hm:=jG e;have h5:=aR.mp hc _ hm;cases hd:ds[t]? with
  | none=>rw[hd] at h5; cases h5
  | some d=>
   rw[hd] at h5;have h6:f.CM.lookup x=PD d.1:=eq_of_beq h5;obtain⟨a,g1,g2⟩:=i.C _ _ h6;exact⟨a,(h4 x (d7.mpr ⟨_,hm,rfl⟩)).trans g1,hg t d a hd g2⟩
theorem Dw {V:Vm}{B:List (Str×af)}(h:B9 as V B):∀ {x:Str} {p:PV},V.reverse.lookup x=PD p->∃ v,B.reverse.lookup x=PD v/\p.is as v:=by
 have key:∀ {V:Vm} {B:List (Str×af)},B9 as V B->∀ (V':Vm) (B':List (Str×af)),(∀ {x:Str} {p:PV},V'.lookup x=PD p->∃ v,B'.lookup x=PD v/\p.is as v)->∀ {x:Str} {p:PV},(V.reverseAux V').lookup x=PD p->∃ v,(B.reverseAux B').lookup x=PD v/\p.is as v:=λ{V}=>by
  induction V with
  | nil=>intro B h V' B' h0 x p e; cases h; exact h0 e
  | cons q r ih=>
   intro B h V' B' h0 x p e;obtain⟨v,s,rfl,h1,h2⟩:=h;refine ih h2 (q :: V') ((q.1,v) :: B') (λ{y p'} e'=>?_) e;rw[bv] at e'⊢;cases hy:y == q.1 with
   | true=>rw[hy] at e'; cases e'; exact⟨v,rfl,h1⟩
   | false=>rw[hy] at e'; exact h0 e'
 exact λ{x p} e=>key h [] [] (λe=>nomatch e) e
theorem Bv {k:Nat}{p:PV}{Os₁:List SO}(mu:Nat)(Va:Vm)
  (hb:∀ (q:Str) (doc pm:af) (c':aj) (ctv:af) (cl:List (Str×aj)) (as₀:List aj) (vs:List af),IsAll as₀ ps vs->∃ binds,bindArgs (fnX nm q (stArgs st) (jB st) (stScope st) cl .none .none doc pm PF (.ref c') ctv) ⟨vs,[]⟩=pure binds/\(∀ y∈binds,(stScope st).names.lookup y.1=PD .local)/\B9 as₀ Va binds)
  (hco:(stScope st).isCoroutine=PH) (hgen:(stScope st).isGenerator=PH) (hk:(stScope st).kind=.function) (hcell:∀ x∈(stScope st).names,x.2≠.cell) (hmu:∀ (j:Nat) (y:SO),Os₀[j]?=PD y->y.own->j<mu)
  (G:∀ c:Cx,c.w=w->c.k=k->FnC c fa nm st (CM.map (·.1))->c.Ok ⟨stScope st,CM⟩->Wk.Okc ⟨⟨stScope st,CM⟩,T,ext⟩ c)
  (H:∀ c:Cx,c.w=w->c.np=bz Os₀.length->c.k=k->FnC c fa nm st (CM.map (·.1))->(∀ p' Os' gs,retE Os₀.length mu gs p' Os'=PD (p,Os₁,ys)->c.P p' Os')->(∀ V Os',c.P (.v .none) Os'->c.N V Os')->
   Run ⟨⟨stScope st,CM⟩,T,ext⟩ c Va.reverse Os₀ [jB st]):ConZ (Ix fa nm st CM Os₀) w fa (k+1) PH Os₀ ps p Os₁ ys:=by
 intro f c V m as Os h hw hkc U O i as₀ gv Z vs hvs E Q tk hq;subst hw;refine bU λG9 hG9=>Z.elim λcl z=>z.1.elim λqual u=>u.elim λdoc u=>u.elim λpm u=>u.elim λc1 u=>u.elim λctv u=>(hb qual doc pm c1 ctv cl as₀ vs hvs).elim λbinds y=>hG9 ?_;refine iG ?_;suffices HR:∀ R:lK->ai->Prop,(∀ v bs h' tk' s',c.s₀=s'->p.is (as₀++bs) v->After h h' PH as₀ Os₀ Os₁ bs ys->R (.ok (.ret v)) (sh s' h' tk'))->codeAny (MP c.w) (c.A f) (.call (.ref fa) ⟨vs,[]⟩) R (sh c.s₀ h tk) from HR _ λv bs h' tk' s' e hv A=>hq v bs h' tk' s' e hv A;intro R ret;have hf:PH=PG->c.tb=PG:=λz=>nomatch z;refine wj (env:=c.env f) (s:=sh c.s₀ h tk) (K:=Mine.hd.heap_39 c.w.params) O.b i.F O.x (rP i gv hf) O.t rfl rfl O.kd u.1 u.2 O.lim (fZ y.1) y.2.1 (λL' h₁ F' N' B' X' T' hlt=>?_) hco hgen hk hcell;rw[ur] at F' N' B' X' T'⊢;have gk:∀ b o,b∉hidL PH as₀ Os₀->h.get? b=PD o->(hideAll h (hidL PH as₀ Os₀)).get? b=PD o:=λb o hb e=>jZ _ e hb;refine(?_:wpAny _ _ _ (λfl s'=>Ce c.h₀ c.L m (hideAll h (hidL PH as₀ Os₀)) R _ s') _ _)
 have FC:FnC (entC c f (stScope st) (Eq c.s₀) k mu qual fa (.ref c1) cl (hideAll h (hidL PH as₀ Os₀)) L' m R PH as₀ Os₀ p Os₁ ys) fa nm st (CM.map (·.1)):=
  have hf':=gk fa _ (λhb=>((fB gv.len).mp hb).elim (λq=>q z.2.1) λq=>nomatch q.1) u.1
  u.2.elim λc2 z=>z.elim λro z=>z.elim λvs' z=>z.elim λt z=>have hr:=gk _ _ (xD i gv hf z.2.1 ⟨vs',_,t,z.2.2⟩) z.2.1
   ⟨⟨_,_,rfl,.inl hf'⟩,cl,λh2 S=>⟨qual,doc,pm,c1,ctv,S _ _ (.inl hf'),c2,ro,vs',t,z.1,S _ _ (.inl hr),z.2.2⟩,λU U=>rfl⟩
 exact aU ((H (entC c f (stScope st) (Eq c.s₀) k mu qual fa (.ref c1) cl (hideAll h (hidL PH as₀ Os₀)) L' m R PH as₀ Os₀ p Os₁ ys) rfl (gv.len▸r3 as₀) rfl FC (λp' Os' gs q=>⟨gs,q⟩) (λU U q=>q)).at (s:=c.s₀) ⟨G _ rfl rfl FC (xO O i gv hf gk hmu ret hk hkc rfl B' X' T'),λc2 s o2=>G c2 s.w s.k (FC.sub s) o2⟩
  ⟨F',λx p e=>Dw y.2.2 e,λx j e=>z.2.2 x j e,gv.len,λj b x g1 g2=>rN i gv hf F' gk (λb o hb e=>N' (b,o) (pM hb e)) g1 g2,λj j' b x y e1 e2 e3 e4 o1 o2=>gv.nd _ _ _ _ e1 e2 e3 o1,λt=>(nomatch t),λt=>(nomatch t),λq hq=>uG hq,λU q=>nomatch q⟩) (λU U q=>q) (λU U q=>q)
end
noncomputable abbrev Cx.pin (c:Cx)(pn:List (aj×Obj)):Cx:={ c with pn:=pn++c.pn }
section
variable {f:Fs}{c:Cx}{V:Vm}{m:Str->Option af}{as:List aj}{Os:List SO}{h h':aL}{k:Wk}{b:List aS}{bs:List (List aS)}
theorem Cx.pin_sub (pn:List (aj×Obj)):c.Sub (c.pin pn):=⟨rfl,rfl,rfl,rfl,rfl,λq hq=>aN _ hq,λU h=>h⟩
theorem Inv.unad (i:Inv f (c.pin pn) V m as Os h):Inv f c V m as Os h:=⟨i.F,i.M,i.C,i.len,i.ob,i.nd,i.t1,i.t2,i.pf,λq hq=>i.pn q (aN _ hq)⟩
theorem Inv.ad (i:Inv f c V m as Os h)(hp:∀ q∈pn,h.get? q.1=PD q.2/\q.1≠c.L/\Apart as Os q.1/\(c.tb=PG->q.1≠54/\q.1≠61)):Inv f (c.pin pn) V m as Os h:=
 ⟨i.F,i.M,i.C,i.len,i.ob,i.nd,i.t1,i.t2,i.pf,λq hq=>(bf.mp hq).elim (hp q) (i.pn q)⟩
theorem Cx.Ok.pin (O:c.Ok f):(c.pin pn).Ok f:=⟨O.kd,O.b,O.x,O.t,O.h.mono rfl rfl λU h=>aN _ h,O.hp,O.rd,O.ru,O.pe,O.g0,λs V m as Os h v p tk g i hp hP=>O.ret s V m as Os h v p tk g (Inv.unad (c:=c.at s) i) hp hP,λs V m as Os h tk g i hN=>O.nxt s V m as Os h tk g (Inv.unad (c:=c.at s) i) hN,λs V m as Os h tk g i hB=>O.brk s V m as Os h tk g (Inv.unad (c:=c.at s) i) hB⟩
theorem Wk.Ok.pin {pn:List (aj×Obj)}(O:k.Ok c):k.Ok (c.pin pn):=⟨O.gd _ (Cx.pin_sub pn) O.o.pin,λc2 s o2=>O.gd c2 ((Cx.pin_sub pn).trans s) o2⟩
def OK (f:Fs)(c:Cx)(b:List aS)(K:rx->ai->Prop):rx->ai->Prop:=λfl s=>match fl with
 | .next=>wpAny (MP c.w) (c.A f) (execs b (c.env f)) K c.E s
 | fl=>K fl s
theorem uK {pn:List (aj×Obj)}:∀ bs,cont f (c.pin pn) bs=cont f c bs
 | []=>rfl
 | b :: bs=>congrArg (OK f c b) (uK bs)
theorem Run.wk (hG:∀ {s:ai},k.Ok (c.at s)->Wk.Ok ⟨k.f,T,ext⟩ (c.at s))(h:Run ⟨k.f,T,ext⟩ c V Os bs):Run k c V Os bs:=⟨λO as hp tk m i=>h.go (hG O) as hp tk m i⟩
theorem TabAt.now {L:aj}{P':aj}(T:TabAt L h₀ as Os h P line col q)(ne:P≠P')(nr:∀ o,h.get? P'=PD o->¬ IsRec o)(kp:KpB P' h h'):TabNow h' P line col q:=by
 refine bU λG1 hG1=>?_;obtain⟨o,h1,_,_,_,h5⟩:=T;refine hG1 ?_;refine⟨o,kp _ _ ne h1,h5.imp id λ⟨a,e,r⟩=>?_⟩;refine bU λG2 hG2=>?_;obtain⟨a',o',vs,t,e',ho,hd,hv⟩:=r;refine hG2 ?_;cases e';exact⟨a,e,a,o',vs,t,rfl,kp _ _ (λq=>nr o' (q▸ho) ⟨vs,_,t,hd,hv⟩) ho,hd,hv⟩
noncomputable def E7 (CM:List (Str×Nat))(ns:List (Str×l7))(xs:List Str):Bool:=ns.all (λy=>y.2 != .free||(CM.lookup y.1).isSome)&&xs.all λx=>ns.lookup x == PD .free&&(CM.lookup x).isSome
structure FdAt (P line col:aj)(q:Str):Prop where
 h:(P=54/\line=36/\col=4/\q=EH)\/(P=61/\line=51/\col=4/\q=EG)
theorem FdAt.tab {line col:aj}(W:FdAt P line col q){L:aj}(T1:TabAt L h₀ as Os h 54 36 4 EH)(T2:TabAt L h₀ as Os h 61 51 4 EG):TabAt L h₀ as Os h P line col q/\∀ h',(∀ o,h.get? P=PD o->¬ IsRec o)->KpB P h h'->TabNow h' P line col q->TabNow h' 54 36 4 EH/\TabNow h' 61 51 4 EG:=by
 rcases W.h with ⟨rfl,rfl,rfl,rfl⟩ | ⟨rfl,rfl,rfl,rfl⟩
 ·exact⟨T1,λh' nr kp tn=>⟨tn,T2.now (by decide) nr kp⟩⟩
 ·exact⟨T2,λh' nr kp tn=>⟨T1.now (by decide) nr kp,tn⟩⟩
theorem zw {o:Obj}{ps:Array af}{es:Array tC}{ep}(e:tabObj ps=o)(h:o.data=.dict es ep):False:=by subst e; cases h
theorem xX {ps:Array af}(O:c.Ok f)(i:Inv f c V m as Os h)(hP:h.get? P=PD (tabObj ps)):mainGlobals≠P/\h.BuiltinsAt c.mg P:=by
 have T:=O.t;have gP:∀ {b:aj} {o:Obj} {es:Array tC} {ep},h.get? b=PD o->o.data=.dict es ep->b≠P:=λe d q=>zw (ac (hP.symm.trans (q▸e))) d;refine bU λG hG=>?_;obtain⟨bm,ob,b1,b2,b3,b4,b5,b6⟩:=T.bmain;refine hG ⟨T.g.elim λo z=>z.elim λes z=>z.elim λep z=>gP (i.F.keep _ _ z.1) z.2.1,?_⟩;refine⟨bm,ob,b1,b2,λq=>T.g.elim λo z=>z.elim λes z=>z.elim λep z=>?_,λq=>?_,i.F.keep _ _ b3,b4,b5,b6⟩
 ·have e:=ac (b3.symm.trans (q▸z.1));rw[e,z.2.1] at b6; cases b6
 ·have e:=ac (hP.symm.trans (q▸i.F.keep _ _ b3));rw[<- e] at b4; cases b4
theorem yG {sc:dC}(i:Inv f c V m as Os h)(hfr:E7 f.CM sc.names xs=PG):∃ clos,closureFor sc (c.env f)=pure clos/\∀ x∈xs,clos.lookup x=c.cl.lookup x:=
 have fr:=(aq _ _).mp hfr
 (p5 (env:=c.env f) (scope:=sc) λy hy z=>(dY.mp (by have:=aR.mp fr.1 y hy; rw[z] at this; exact this)).elim λj hj=>(i.C _ _ hj).imp λa z=>z.1).imp λclos z=>⟨z.1,λx hx=>
  have w:=(aq _ _).mp (aR.mp fr.2 x hx)
  (dY.mp w.2).elim λj hj=>(i.C _ _ hj).elim λa g=>(z.2 x a (eq_of_beq w.1) g.1).trans g.1.symm⟩
theorem Bd {nm:Str}{st:aS}{line col:aj}{G:aj->List SO}{clos:List (Str×aj)}{s₁:ai}{b:List aS}(O:k.Ok (c.at s₁))(htb:c.tb=PG)(i:Inv k.f (c.at s₁) V m as Os h)(W:FdAt P line col q)(hxs:∀ x∈xs,clos.lookup x=c.cl.lookup x)
  (hs:∀ fa,nO k.f V Os nm (.v (.ref fa))=PD (V,G fa)) (H:∀ (fa:aj) (pn:List (aj×Obj)),FnC (c.pin pn) fa nm st xs->Run k (c.pin pn) V (G fa) (b :: bs)) {h2:aL} {tk2:Nat} {c1:aj} {doc pm ctv:af} (kp:KpB P h h2) (tn:TabNow h2 P line col q)
  (hf:h2.get? fa=PD (fnMade nm q (stArgs st) (jB st) (stScope st) clos doc pm c1 ctv)) (hff:h.get? fa=PF) (hrec:h2.CodeRec (.ref c1) q) (hc1:h.get? c1=PF\/∃ o,h.get? c1=PD o/\IsRec o):
  wpAny (MP c.w) (c.A k.f) (storeName (c.env k.f) nm (.ref fa)) (λU s''=>wpAny (MP c.w) (c.A k.f) (execs b (c.env k.f)) (cont k.f c bs) c.E s'') c.E (sh s₁ h2 tk2):=
 have w:=W.tab (i.t1 htb) (i.t2 htb);have z:=w.2 h2 (λo e=>w.1.noRec e) kp tn
 bU λG' hG=>w.1.elim λoP p=>hrec.elim λc2 r=>r.elim λro r=>r.elim λvs r=>r.elim λt r=>hG<|
  have hr:h2.get? c1=PD ro:=(qJ r.1).symm▸r.2.1
  have i2:Inv k.f (c.at s₁) V m as Os h2:=by
   have:=i.madeT (tb:=PG) (bs:=[]) (ys:=[]) (h':=h2) ⟨i.F.ns.at' λo e=>kp _ o p.2.1.symm e,λb o e=>kp b o (λy=>nomatch (y▸p.2.2.1:c.h₀.get? b=PF).symm.trans e) (i.F.keep b o e),i.F.above⟩ (λU=>htb) (λb o U t e=>kp b o (λy=>W.h.elim (λw=>(t rfl).1 (y.trans w.1)) λw=>(t rfl).2 (y.trans w.1)) e) .nil (λU=>z.1) (λU=>z.2);rwa [ao,ao] at this
  have i3:Inv k.f ((c.at s₁).pin [(fa,fnMade nm q (stArgs st) (jB st) (stScope st) clos doc pm c1 ctv),(c1,ro)]) V m as Os h2:=i2.ad (am.mpr ⟨⟨hf,i.fresh hff⟩,List.forall_mem_singleton.mpr ⟨hr,hc1.elim i.fresh λz=>z.elim λo z=>i.recA z.1 z.2⟩⟩)
  setN_ok O.o.pin (hs fa) i3 (v:=.ref fa) rfl λh4 tk4 m4 i4=>(uK bs▸(H fa _ ⟨⟨_,_,rfl,.inr (.head _)⟩,clos,λh3 S=>⟨q,doc,pm,c1,ctv,S _ _ (.inr (.head _)),c1,ro,vs,t,rfl,S _ _ (.inr (.tail _ (.head _))),r.2.2⟩,hxs⟩).at O.pin i4 :)
theorem Run.fd {nm:Str}(st:aS)(xs:List Str){P cd:Nat}(q:Str)(W:FdAt P line col q)(pos:Pos)(G:aj->List SO)(hb:b.head?=PD (.FunctionDef nm (stArgs st) (jB st) [] PF [] (stScope st) PF nm pos))(hp:pos.line=line/\pos.col=col)(htb:c.tb=PG)
  (hq:c.q++".<locals>."++nm=q/\c.cd=.ref cd) (hcd:codeHdIn (hd.heap_39 c.w.params) cd P=PG) (hd0:(stArgs st).defaults=[]) (hk0:(stArgs st).kw_defaults=[]) (ha:∀ env,annTrees (stArgs st) PF env=[]) (hfr:E7 k.f.CM (stScope st).names xs=PG)
  (hkd:k.f.sc.names.lookup nm=PD .cell) (hs:∀ fa,nO k.f V Os nm (.v (.ref fa))=PD (V,G fa)) (h:∀ (fa:aj) (pn:List (aj×Obj)),FnC (c.pin pn) fa nm st xs->Run k (c.pin pn) V (G fa) (b.tail :: bs)):Run k c V Os (b :: bs):=by
 rw[dU hb];refine .of λ{s₁} O as hp' tk m i=>bc (nestDef_K hd0 hk0 (ha _) ?_)
 have hqn:qualnameIn (c.env k.f) nm nm=q:=by
  unfold qualnameIn;rw[show(c.env k.f).kindOf nm=PD .cell from hkd];exact hq.1
 rw[hqn];have C:=(Ey O.o.x hcd).keeps i.F.keep;have hgs:=O.o.t.g.keeps i.F.keep;refine bU λG' hG=>(yG i hfr).elim λclos z=>(W.tab (i.t1 htb) (i.t2 htb)).1.elim λoP p=>p.2.2.2.2.elim (λe=>hG ?_) λy=>y.elim λa y=>y.2.elim λc2 r=>r.elim λro r=>r.elim λvs r=>r.elim λt r=>hG ?_
 ·have p1:hp'.get? P=PD (tabObj #[]):=e▸p.1;have B:=xX O.o i p1;exact makeFunction_K (mg:=c.mg) z.1 rfl hgs hq.2 C p1 PI rfl B.1 B.2 λc1 ctv doc h2 tk2 hx hge hlt hrec ht=>Bd O htb i W z.2 hs h (λb o hb e=>ag _ (hx b o hb e)) ⟨_,ag _ ht,.inr ⟨c1,by rw[hp.1,hp.2],hrec.keeps λb o e=>ag _ e⟩⟩ (aE _ rfl) (d8 (ar hge (bN hlt))) (hrec.keeps λb o e=>ag _ e) (.inl (d8 hge))
 ·have p1:hp'.get? P=PD (tabObj (tabOne line col a)):=y.1▸p.1;have hr:hp'.get? a=PD ro:=(qJ r.1).symm▸r.2.1
  exact makeFunction_hit (mg:=c.mg) (cv:=.ref a) z.1 rfl hgs hq.2 C p1 PI (by
   refine(?_:(if(line:Int) == pos.line&&(col:Int) == pos.col then PD _ else _)=_);rw[hp.1,hp.2,beq_self_eq_true,beq_self_eq_true]; rfl) (xX O.o i p1).2 λctv doc h2 tk2 hk hsz=>
   have hr2:(h2.push (fnMade nm q (stArgs st) (jB st) (stScope st) clos doc ((c.mg "__name__").getD .none) a ctv)).CodeRec (.ref a) q:=⟨a,ro,vs,t,rfl,ag _ (hk _ _ hr),r.2.2⟩
   Bd O htb i W z.2 hs h (λb o U e=>ag _ (hk b o e)) ⟨_,ag _ (hk _ _ p1),.inr ⟨a,rfl,hr2⟩⟩ (aE _ rfl) (d8 hsz) hr2 (.inr ⟨ro,hr,vs,_,t,r.2.2⟩)
end
theorem ow {g g':aw}{as as':List aw}{kw kw':List jq}{p:Pos}(h1:g=g')(h2:as=as')(h3:kw=kw'):Expr.Call g as kw p=.Call g' as' kw' p:=by rw[h1,h2,h3]
theorem sZ {α:Type _}{l:List α}{a:α}:l.head?=PD a->l=a :: l.tail:=l.casesOn av λU r h=>congrArg (· :: r) (ac h)
theorem xF {α:Type _}{l:List α}{a:α}:l.head?=PD a->l.isEmpty=PH:=l.casesOn av λU U U=>rfl
section
variable {f:Fs}{c:Cx}{V:Vm}{m:Str->Option af}{as:List aj}{Os:List SO}{h h':aL}
theorem Inv.eff {bs:List aj}(i:Inv f c V m as Os h){o':Obj}(ea:as[j]?=PD a)(ex:Os[j]?=PD x)(hx:x.own)(hy:y.own)(kp:KpB a h h')(N:NewAll h h' (as++bs) bs ys)(ho:h'.get? a=PD o')(hi:y.is (as++bs) o'):Inv f c V m (as++bs) ((Os++ys).set j y) h':=by
 refine bU λG1 hG1=>?_;obtain⟨o,_,h2,_⟩:=i.ob _ _ _ ea ex hx.live;have g1:(h'.update a λU=>o).get? a=PD o:=df _ ho (Heap.get?_some_iff.mp h2).2;have g2:∀ b,b≠a->(h'.update a λU=>o).get? b=h'.get? b:=λb hb=>Heap.get?_update_ne _ _ _ _ hb
 have keep:∀ b o',h.get? b=PD o'->(h'.update a λU=>o).get? b=PD o':=λb o' e=>by
  by_cases hb:b=a
  ·subst hb; rw[h2] at e; cases e; exact g1
  ·rw[g2 b hb]; exact kp b o' hb e
 have i1:=i.made (i.F.keeps keep) (λb o U e=>keep b o e) ⟨N.len,N.nd,λt D y eD ey=>by
  obtain⟨n1,⟨o2,n2,n3⟩,n4⟩:=N.ob t D y eD ey;exact⟨n1,⟨o2,(g2 D λq=>by rw[q,h2] at n1; cases n1).trans n2,n3⟩,n4⟩⟩
 refine hG1 ?_;exact i1.objK (f4 ea) (f4 ex) hx hy (λb o hb e=>(g2 b hb)▸e) ho hi
noncomputable def sigF (n:Nat)(ds:List Nat)(t:Nat):Option Nat:=if t<ds.length then ds[t]? else PD (n+(t - ds.length))
theorem After.eff {j:Nat}{ds:List Nat}{Os₀:List SO}{y y':SO}{ys zs:List SO}{as₀ bs:List aj}(i:Inv f c V m as Os h)(hg:gvL (gvS ((j,PG) :: ds.map λi=>(i,PH))) Os ((j,PG) :: ds.map λi=>(i,PH))=PD Os₀)(gv:Giv as Os h as₀ Os₀)(hg1:∀ (t:Nat) (q:Nat×Bool) (a:aj),((j,PG) :: ds.map λi=>(i,PH))[t]?=PD q->as[q.1]?=PD a->as₀[t]?=PD a)
  (hg2:∀ (t:Nat) (a:aj),as₀[t]?=PD a->∃ q:Nat×Bool,((j,PG) :: ds.map λi=>(i,PH))[t]?=PD q/\as[q.1]?=PD a) (A:After h h' PH as₀ Os₀ [y'] bs ys) (hy:y'.rn (sigF Os.length (j :: ds))=PD y) (hys:uW (sigF Os.length (j :: ds)) ys=PD zs):
  (∀ t i' a,sigF Os.length (j :: ds) t=PD i'->(as₀++bs)[t]?=PD a->(as++bs)[i']?=PD a)/\Inv f c V m (as++bs) ((Os++zs).set j y) h':=by
 have hmap:((j,PG) :: ds.map λi=>(i,PH)).map (·.1)=j :: ds:=by rw[ft,c8]; exact congrArg (j :: ·) (eM ds)
 have hl:=(lC hg).1;refine((lC hg).2 0 _ (aF (hl▸fT _:0<Os₀.length))).elim λd0 w=>w.elim λx0 w=>?_;have ed:(j,PG)=d0:=ac w.1;have d1:d0.1=j:=(congrArg nJ ed).symm;have d0:d0.2=PG:=(congrArg sd ed).symm;have d2:Os[j]?=PD x0:=d1▸w.2.1;have d3:gvX _ PG x0=PD _:=d0▸w.2.2;have d3:x0.rn _=PD _:=d3;have hlt:j<as.length:=i.len▸lt_of_get d2;have hj:=aF hlt;have a0:=hg1 0 (j,PG) _ rfl hj;have own:=SO.rn_own d3;refine(A.mu 0 _ _ a0 (aF _) own.2).elim λy2 u=>u.elim λo2 u=>?_;have m4:y'.is (as₀++bs) o2:=(ac u.1:y'=y2)▸u.2.2.2;have own0:∀ (t:Nat) (z:SO),Os₀[t]?=PD z->z.own->t=0:=λt=>t.casesOn (λU U U=>rfl) λt z e hz=>((lC hg).2 (t+1) z e).elim λd w=>w.elim λx w=>aZ (aG.symm.trans w.1) λi' U eq=>aZ ((eq▸w.2.2:gvX _ (i',PH).2 x=PD z):(x.core.rn _).map SO.G=PD z) λU U eq=>(eq▸hz:(SO.G _).own).elim;have kp:KpB as[j] h h':=λb o hb e=>A.kp b o (λt z e1 e2 hz=>hb (ac ((own0 t z e2 hz▸e1:as₀[0]?=PD b).symm.trans a0))) (λz=>nomatch z) e;have hl0:as₀.length=(j :: ds).length:=by rw[gv.len,hl,<- hmap,aA]
 have H2:∀ t i' a,sigF Os.length (j :: ds) t=PD i'->(as₀++bs)[t]?=PD a->(as++bs)[i']?=PD a:=λt i' a q1 q2=>(cJ (t<(j :: ds).length)).elim
  (λht=>(hg2 t a ((dW (hl0▸ht)).symm.trans q2)).elim λd g=>ac ((by rw[<- hmap,aG,g.1]; rfl:(j :: ds)[t]?=PD d.1).symm.trans ((if_pos ht).symm.trans q1))▸f4 g.2)
  λht=>ac ((if_neg ht).symm.trans q1)▸(by
   rw[<- i.len,aM (a8 _ _),eH];rwa [aM (hl0▸hH ht),hl0] at q2)
 have z:=vh hys;exact⟨H2,i.eff hj d2 own.1 (SO.rn_own hy).2 kp ⟨A.nw.len.trans z.1.symm,A.nw.nd,λt D z' eD ez=>(z.2 t z' ez).elim λy3 k=>have g:=A.nw.ob t D y3 eD k.1; ⟨g.1,g.2.1.imp λo3 u=>⟨u.1,SO.rn_is H2 k.2 u.2⟩,(SO.rn_own k.2).2⟩⟩ u.2.2.1 (SO.rn_is H2 hy m4)⟩
theorem conz_eff {Z:Cx->List aj->aL->Prop}{ds:List Nat}{p p':PV}{zs:List SO}(K:ConZ Z c.w a kk PH Os₀ ps₀ p [y'] ys)(hk:kk<=c.k)(O:c.Ok f)(i:Inv f c V m as Os h)(hn:dy (j :: ds)=PG)
  (hg:gvL (gvS ((j,PG) :: ds.map λi=>(i,PH))) Os ((j,PG) :: ds.map λi=>(i,PH))=PD Os₀) (z:∀ as₀,Giv as Os h as₀ Os₀->(∀ (t i:Nat) (a:aj),(j :: ds)[t]?=PD i->as[i]?=PD a->as₀[t]?=PD a)->Z c as₀ h)
  (hp:tD (gvS ((j,PG) :: ds.map λi=>(i,PH))) ps=PD ps₀)  (hvs:IsAll as ps vs) (hp':p.rn (sigF Os.length (j :: ds))=PD p') (hy:y'.rn (sigF Os.length (j :: ds))=PD y) (hys:uW (sigF Os.length (j :: ds)) ys=PD zs)
    (hq:∀ v bs h' tk',p'.is (as++bs) v->Inv f c V m (as++bs) ((Os++zs).set j y) h'->Q v (sh c.s₀ h' tk')):wpAny (MP c.w) (c.A f) (call (.ref a) vs) Q E (sh c.s₀ h tk):=by
 have hmap:((j,PG) :: ds.map λi=>(i,PH)).map (·.1)=j :: ds:=by rw[ft,c8]; exact congrArg (j :: ·) (eM ds)
 obtain⟨as₀,gv,hg1,hg2⟩:=Giv.ofs i ((j,PG) :: ds.map λi=>(i,PH)) (hmap.symm▸hn) hg
 have H:∀ i t a,gvS ((j,PG) :: ds.map λi=>(i,PH)) i=PD t->as[i]?=PD a->as₀[t]?=PD a:=λi t a q1 q2=>by
  have h3:=pL _ q1;rw[aG] at h3;refine aZ h3 λd h4 eq9=>?_;subst eq9;exact hg1 t d a h4 q2
 refine K f c V m as Os h rfl hk (λz=>nomatch z) O i as₀ gv (z as₀ gv λt i a e1 e2=>?_) vs (Om H hp hvs) E Q tk λv bs h' tk' U es hv A=>?_
 ·rw[<- hmap,aG] at e1;refine aZ e1 λd h4 eq9=>?_;subst eq9;exact hg1 t d a h4 e2
 subst es;obtain⟨H2,i2⟩:=After.eff i hg gv hg1 hg2 A hy hys;exact hq v bs h' tk' (PV.rn_is H2 hp' hv) i2
end
section
variable {c:Cx}{V:Vm}{Os:List SO}{k:Wk}{b:List aS}{bs:List (List aS)}
def E3 (b:List aS):Option (aw×List aw×List jq×Pos):=b.head?.bind λs=>(y8 s).exp?.bind λe=>(vw e).cll?
theorem AS {q:aw×List aw×List jq×Pos}(h:E3 b=PD q):∃ p,b=.Expr (.Call q.1 q.2.1 q.2.2.1 q.2.2.2) p :: b.tail:=
 ak h λs e1 e=>ak e λx e2 e=>by
  obtain⟨p,rfl⟩:=td e2;exact⟨p,by rw[<- cll_is e]; exact dU e1⟩
def pcs (k:Wk)(w:aB)(V:Vm)(Os:List SO)(b:List aS):Option (af×AnsL):=
 (E3 b).bind λq=>(lB q.1).bind λx=>(ldF w k.f V Os x).bind λp=>p.val?.bind λv=>q.2.1.head?.bind λU=>if q.2.2.1.isEmpty=PG then(rZ (evF k w V) Os q.2.1).map λa=>(v,a) else PF
theorem Run.cs {nm:Str}{st:aS}(fa:aj)(ps:List PV)(Os₁:List SO)(C:List Prop)(ds:List Nat)(Os₀:List SO)(he:pcs k c.w V Os b=PD (.ref fa,ps,Os₁,C))(hC:Al C)(hn:dy (j :: ds)=PG)
  (hg:gvL (gvS ((j,PG) :: ds.map λi=>(i,PH))) (Os++Os₁) ((j,PG) :: ds.map λi=>(i,PH))=PD Os₀) (hp:tD (gvS ((j,PG) :: ds.map λi=>(i,PH))) ps=PD ps₀) (K:ConZ (Ix fa nm st CM Os₀) c.w fa kk PH Os₀ ps₀ (.v .none) [y'] []) (hk:kk<=c.k) (F:FnC c fa nm st (CM.map (·.1)))
  (hcm:Mr CM k.f.CM ((j,PG) :: ds.map λi=>(i,PH))=PG) (hy:y'.rn (sigF (Os++Os₁).length (j :: ds))=PD y) (h:Run k c V ((Os++Os₁).set j y) (b.tail :: bs)):Run k c V Os (b :: bs):=
 ak he λq e1 he=>ak he λx e2 he=>ak he λp e3 he=>ak he λv e4 he=>ak he λah e5 he=>iteE he λe6 he=>aZ he λal hL eq=>(AS e1).elim λpos hb=>(nam_is e2).elim λpx hx=>by
  have ev:v=.ref fa:=(congrArg nJ eq).symm;have ea:al=(ps,Os₁,C):=(congrArg sd eq).symm;rw[PV.val_is e4,ev] at e3;rw[ea] at hL;rw[hb,ow hx rfl (aX.mp e6)]
  refine .one (λ{s₁} O ads hp' tk m i Q hq U=>jM (ks (u:=⟨k.f,c.at s₁,c.env k.f,Inv k.f (c.at s₁) V m⟩) (fL O.o) (b7 O.toOkc) e3 (xF e5) F.callee hL hC (λU U U i=>i.stay) i λvs bs h2 k2 hvs i2 U=>
   conz_eff (c:=c.at s₁) (zs:=[]) K hk O.o i2 hn hg (λas₀ gv H1=>zg i2 (F.sub (Cx.at_sub c s₁)) gv (λt q a q1 q2=>H1 t q.1 a ?_ q2) hcm) hp hvs (p':=.v .none) rfl hy rfl λv bs2 h3 tk3 U i3=>hq _ h3 tk3 m (by rw[ao] at i3; exact i3)) (j9 (c:=c.at s₁) O.o) rfl) h
  have hm:((j,PG) :: ds.map λi=>(i,PH)).map (·.1)=j :: ds:=by rw[ft,c8]; exact congrArg (j :: ·) (eM ds)
  rw[<- hm,aG,q1]; rfl
def DS (fa:aj)(ds:List Nat)(Os₀:List SO)(F:Int->Int->Int)(D:Int->Int->Prop)(f:Fs)(T:Tab)(w:aB)(V:Vm):EV->EV:=λev Os e=>
 (vw e).cll?.bind λq=>(lB q.1).bind λx=>(ldF w f V Os x).bind λp=>p.val?.bind λv=>q.2.1.head?.bind λU=>if q.2.2.1.isEmpty=PG then(rZ ev Os q.2.1).bind λa=>(yb a.1).bind λr=>r.1.int?.bind λz=>r.2.int?.map λt=>(.i (F z t),a.2.1,(v=.ref fa) :: (gvL (gvS (ds.map λi=>(i,PH))) (Os++a.2.1) (ds.map λi=>(i,PH))=PD Os₀) :: D z t :: a.2.2) else PF
theorem GY {ds:List Nat}{Os:List SO}(hg:gvL σ Os (ds.map λi=>(i,PH))=PD Os₀)(t:Nat)(z:SO)(e:Os₀[t]?=PD z):¬ z.own:=λhz=>by
 obtain⟨d,x,q1,q2,q3⟩:=(lC hg).2 t z e;rw[aG] at q1;refine aZ q1 λi' U eq=>?_;rw[eq] at q3;exact aZ q3 λU U eq=>by rw[eq] at hz; exact hz
theorem xM {fs:Fs}{nm:Str}{st:aS}{ds:List Nat}{F:Int->Int->Int}{D:Int->Int->Prop}(O:c.Ok fs)(FC:FnC c fa nm st (CM.map (·.1)))(hk:kk<=c.k)(hn:dy ds=PG)(hcm:Mr CM fs.CM (ds.map λi=>(i,PH))=PG)
  (K:∀ a b,D a b->ConZ (Ix fa nm st CM Os₀) c.w fa kk PH Os₀ [.i a,.i b] (.i (F a b)) [] []):ie ⟨fs,c,c.env fs,Inv fs c V m⟩ (DS fa ds Os₀ F D fs T c.w V):=λev H Os e q he=>ak he λq0 e1 he=>ak he λx e2 he=>ak he λp e3 he=>ak he λv e4 he=>ak he λah e5 he=>iteE he λe6 he=>ak he λa hL he=>ak he λr e7 he=>ak he λz e8 he=>aZ he λt e9 eq=>by
 rw[eq];clear eq he;rintro ⟨hv0,hg,hD,hC⟩ ads h tk E Q i hq;rw[PV.val_is e4,hv0] at e3;refine(nam_is e2).elim λpx hx=>?_;rw[(cll_is e1).trans (ow hx rfl (aX.mp e6))];refine ks (u:=⟨fs,c,c.env fs,Inv fs c V m⟩) (fL O) H e3 (xF e5) FC.callee hL hC (λU U U i=>i.stay) i λvs bs h2 k2 hvs i2 kp=>?_;rw[two_is e7,PV.int_is e8,PV.int_is e9] at hvs;refine bU λG2 hG2=>?_;obtain⟨as₀,gv,hg1,_⟩:=Giv.ofs i2 (ds.map λi=>(i,PH)) (by rw[c8]; exact(eM ds).symm▸hn) hg;obtain⟨u,v,ev,hu,hv⟩:=hvs.two;refine hG2 ?_;rw[ev];refine ConZ.call (K z t hD) rfl hk (λz=>nomatch z) O i2 gv (zg i2 FC gv hg1 hcm) (GY hg) ⟨u,_,rfl,hu,v,_,rfl,hv,rfl⟩ (q:=(.i (F z t),[],[])) rfl rfl λx bs2 h3 k3 hx i3 kp2=>?_;rw[ao] at i3;exact hq x (bs++bs2) _ _ (xA hx) (by rw[<- au]; exact i3) (kp.trans kp2)
end
section
variable {c:Cx}{V:Vm}{m:Str->Option af}{fs:Fs}{T:Tab}
noncomputable def xL (a b:Fs->Tab->aB->Vm->EV->EV)(f:Fs)(T:Tab)(w:aB)(V:Vm):EV->EV:=λev Os e=>(a f T w V ev Os e).or (b f T w V ev Os e)
theorem pW {a b:Fs->Tab->aB->Vm->EV->EV}{u:Su}(h1:ie u (a fs T w V))(h2:ie u (b fs T w V)):ie u (xL a b fs T w V):=λev H Os e q he=>orE he (h1 ev H Os e q) (h2 ev H Os e q)
def extM (f:Fs)(T:Tab)(w:aB)(V:Vm):EV->EV:=λev Os e=>
 (vw e).bin?.bind λq=>if q.2.1=.Mult then(ev Os q.1).bind λa=>(ev (Os++a.2.1) q.2.2).bind λb=>(iS (Os++a.2.1++b.2.1) a.1).bind λl=>(Ci l).bind λns=>b.1.int?.map λz=>
  (.r (Os++a.2.1++b.2.1).length,a.2.1++b.2.1++[.L ((bG z.toNat ns).flatten.map .i)],a.2.2++(b.2.2++[-(2 ^ 63:Int)<=z,z<2 ^ 63,ns.length*z.toNat<=2 ^ 24])) else PF
theorem AO {ns:List Int}(H:jr vs ns):IsAll as (ns.map .i) vs:=by
 induction H with
 | nil=>exact rfl
 | cons k t h ih=>exact⟨_,_,rfl,⟨_,rfl⟩,ih⟩
theorem DR:ie ⟨fs,c,c.env fs,Inv fs c V m⟩ (extM fs T c.w V):=λev H Os e q he=>ak he λq0 e1 he=>iteE he λe2 he=>ak he λa e3 he=>ak he λb e4 he=>ak he λl e5 he=>ak he λns e6 he=>aZ he λz e7 eq=>by
 rw[eq];clear eq he;intro hC ads h tk E Q i hq;refine(bin_is e1).elim λp he=>?_;rw[he,e2];refine Ex ((H _ _ _ e3).2 hC.left _ _ _ _ _ i λu bs h1 k1 hu i1 kp=>(H _ _ _ e4).2 hC.right.left _ _ _ _ _ i1 λv bs' h2 k2 hv i2 kp'=>?_);have i2:Inv fs c V m (ads++bs++bs') (Os++a.2.1++b.2.1) h2:=i2;obtain⟨z1,z2,z3,_⟩:=hC.right.right;rw[PV.int_is e7] at hv;obtain⟨t,rfl⟩:=hv;obtain⟨D,us,n,rfl,g1,g2⟩:=ga i2 e5 hu.up;rw[mz e6] at g2;have HI:=AN g2;obtain⟨N,NN,hN⟩:=gf c.h₀ h2 c.L;refine KM.mul i2.F NN ⟨_,g1,rfl,n,rfl⟩ HI z1 z2 (by rw[HI.length]; exact z3) λD' h' F' N' lt HI' U U U U U=>?_;obtain⟨n1,n2,n3⟩:=N' _ (.head _)
 have n0:h2.get? D'=PF:=by
  cases e:h2.get? D' with
  | none=>rfl
  | some o=>exact absurd (lt _ (hN _ _ e n2 n3)) (bY _)
 have kp2:∀ b o,b≠c.L->h2.get? b=PD o->h'.get? b=PD o:=lf hN i2.F F' λq hq=>N' q (.tail _ hq);have i3:=i2.made F' kp2 (NewAll.cons (y:=.L ((bG z.toNat ns).flatten.map .i)) n0 n1 ⟨_,_,rfl,AO HI'⟩ PI (di) NewAll.nil);refine hq (.ref D') (bs++bs'++[D']) h' k2 ⟨D',?_,rfl⟩ ?_ ((kp.trans kp').trans λb o hb U e=>kp2 b o hb e)
 ·rw[<- i2.len,<- au,<- au,aM (aI _),b9]; rfl
 ·rw[<- au,<- au,<- au,<- au]; exact i3
end
def gR (s s':ai):Prop:=∃ g:BG,s'={ s with gens:=g.1 }
theorem gR.bare {s s':ai}(h:gR s s'):ju s'.gens:=by obtain⟨g,rfl⟩:=h; exact g.2
theorem gR.rfl {s:ai}(h:ju s.gens):gR s s:=⟨⟨s.gens,h⟩,gu _⟩
theorem gR.trans {a b c:ai}(h:gR a b)(h':gR b c):gR a c:=by obtain⟨g,e⟩:=h; obtain⟨g',e'⟩:=h'; subst e; exact⟨g',e'⟩
theorem gR.ens {a b:ai}(h:gR a b){gs:Array wD}(hb:ju gs):gR a { b with gens:=gs }:=by obtain⟨g,rfl⟩:=h; exact⟨⟨gs,hb⟩,gu _⟩
noncomputable abbrev LX (q:Nat×Str):It:=.tup [.i (q.1:Int),.s q.2]
structure GnS (w:aB)(A:be)(h₀:aL)(G C E I:aj)(g:Nat)(tot:List (Nat×Str))(j:Nat)(s:ai)(h:aL):Prop where
 gn:h.IsGen G g
 ex:∃ gs W,s.gens[g]?=PD gs/\(∀ b∈W,b∈[C,E,I]/\∃ o,h.get? b=PD o)/\MN aH.row.prog w A h₀ C E I tot j h W gs
section
variable {f:Fs}{c:Cx}{as:List aj}{Os:List SO}{target:aw}{G C E I:aj}{g:Nat}{tot:List (Nat×Str)}
theorem DG (O:c.Ok f)(hh:c.hv=PF)(hg:c.gs=gR s₀)(hw:∀ b∈[G,C,E,I],b≠c.L/\c.h₀.get? b=PF/\Apart as Os b/\(c.tb=PG->b≠54/\b≠61)/\∀ q∈c.pn,q.1≠b)(hGC:G∉[C,E,I])(htb:c.tb=PH):
  Trn f c as Os target G (tot.map LX) [] [C,E,I] [G,C,E,I] (λs s'=>s'=s) (GnS c.w (c.A f) c.h₀ G C E I g tot):=by
 have sub:∀ b∈[C,E,I],b∈[G,C,E,I]:=λb hb=>List.mem_cons_of_mem _ hb
 have keep:∀ {s s₁:ai},dE C [E,I] s s₁->∃ h₁ tk₁,s₁={ s with heap:=h₁,toks:=tk₁ }/\∀ b o,b∉[C,E,I]->s.heap.get? b=PD o->h₁.get? b=PD o:=λ{s s₁} ⟨h₁,tk₁,e,hk⟩=>
  ⟨h₁,tk₁,e,λb o hb eb=>hk b o (λz=>hb (z▸.head _)) (λz=>hb (List.mem_cons_of_mem _ z)) eb⟩
 refine⟨λn s h tk Q E' hlt gs h0 st hQ=>?_,λs h tk Q E' gs h0 st hQ=>?_,λU U=>gu _,λU U g e=>e▸g,λn s h s' h' st e kk=>?_,λht=>(by rw[htb] at ht; cases ht),sub,hw⟩
 ·refine bU λG1 hG1=>?_;obtain⟨hgen,gst,W,hgs,hW,go0,go⟩:=st;refine hG1 ?_;rw[aA] at hlt;refine bU λG2 hG2=>?_;obtain⟨n',hn'⟩:∃ n',tot.length - n=n'+1:=⟨tot.length - n - 1,(cO (Og hlt)).symm⟩;refine hG2 ?_;rw[hn'] at go;rw[hg] at gs;refine t6 (s:=sh s h tk) (P:=λn s₀ s₁=>n=0/\dE C [E,I] s₀ s₁) (Y:=lD C E I tot) (n:=n'+1) hh (O.t.nolimit.keeps h0) O.lim hgen hgs (go _ (λU U U e=>e) h0 go0) (λv s₁ gs' hb9 hv=>?_) (λs₁ hp=>absurd hp.1 (jW n'));refine bU λG3 hG3=>?_;obtain⟨⟨p,ch,T,tp,tc,hidx,rfl,hT,hfresh⟩,hs,W',hW',hκ⟩:=hv;obtain⟨h₁,tk₁,rfl,hk₁⟩:=keep hs;have hg₁:h₁.IsGen G g:=by obtain⟨o,nm,qn,q,r⟩:=hgen; exact⟨o,nm,qn,hk₁ _ _ hGC q,r⟩
  have hB:=AllBare.setGen (g:=g) (y:=gs') (s:=(sh s h tk).setGen g .running) (AllBare.setGen (s:=sh s h tk) gs.bare (gu _)) hb9;refine hG3 ?_;refine⟨_,gu _,yA (g:=g) hg₁ (hQ (.ref T) h₁ tk₁ { s with gens:=(((sh s h tk).setGen g .running).setGen g gs').gens } (LX (p,ch)) (hg▸gs.ens hB) ?_ ⟨T,_,gu _,hT,_,_,gu _,⟨tp,gu _⟩,_,_,gu _,⟨tc,gu _⟩,gu _⟩ ⟨hg₁,gs',W',setGen_self (gs:=.running) (setGen_self hgs),hW',λe=>absurd e (jW n),λs'' a b U=>?_⟩ hk₁)⟩
  ·have e:tot.length - 1 - (n'+1 - 1)=n:=OX hlt hn';rw[e] at hidx;rw[aG,hidx]; rfl
  ·rw[show tot.length - (n+1)=n' from(Ox _ n 1).symm.trans (congrArg (· - 1) hn')];exact hκ s'' a
 ·refine bU λG4 hG4=>?_;obtain⟨hgen,gst,W,hgs,hW,go0,go⟩:=st;refine hG4 ?_;rw[aA,b9] at go;rw[hg] at gs;refine t6 (s:=sh s h tk) (P:=λn s₀ s₁=>n=0/\dE C [E,I] s₀ s₁) (Y:=lD C E I tot) (n:=0) hh (O.t.nolimit.keeps h0) O.lim hgen hgs (go _ (λU U U e=>e) h0 (by rw[aA] at go0; exact go0)) (λv s₁ gs' hb9 hv=>?_) (λs₁ hp h' hk=>?_)
  ·refine bU λG5 hG5=>?_;obtain⟨_,_,W',_,hκ⟩:=hv;refine hG5 ?_;exact(hκ s₁ λU U U e=>e).elim
  ·refine bU λG6 hG6=>?_;obtain⟨h₁,tk₁,rfl,hk₁⟩:=keep hp.2;have hB:=AllBare.setGen (g:=g) (y:=.finished) (s:=(sh s h tk).setGen g .running) (AllBare.setGen (s:=sh s h tk) gs.bare (gu _)) (gu _);refine hG6 ?_;exact⟨gu _,hQ { s with gens:=(((sh s h tk).setGen g .running).setGen g .finished).gens } h' tk₁ (hg▸gs.ens hB) λb o hb e=>hk b o (hk₁ b o hb e)⟩
 ·subst e;refine bU λG7 hG7=>?_;obtain⟨hgen,gst,W,hgs,hW,go0,go⟩:=st;refine hG7 ?_;refine⟨?_,gst,W,hgs,λb hb=>⟨(hW b hb).1,let ⟨o,e⟩:=(hW b hb).2; ⟨o,kk b o (.inl (sub b (hW b hb).1)) e⟩⟩,λe=>absurd e (jW n),λs'' a b z=>go s'' (λx hx o e=>a x hx o (kk x o (.inl (sub x (hW x hx).1)) e)) b λe=>absurd e (jW n)⟩;refine bU λG8 hG8=>?_;obtain⟨o,nm,qn,q,r⟩:=hgen;refine hG8 ?_;exact⟨o,nm,qn,kk _ _ (.inl (.head _)) q,r⟩
end
section
variable {pa pb pc pd pe pf pg ph pi pj pk pl pm pn po pp pq pr pt pu qi qj qk ql qm qn qo qa qb qc qd qe qf qg qh ra rb rc rd re rf sa sb sc:Pos}{ka kb kc kd ke kf kg kh ki kj kl:Nat}
theorem DH {A:be}{f:Fs}(O:c.Ok f)(hw:c.w=w){e:Env}{C E I:aj}{t:Str}{b:List aS}(hb:b=[.Assign [.Name (aa "pos") qa] (.Constant (.int 0) kh qb) qc,.Assign [.Name (aa "escape") qd] (.Constant (.bool PH) ki qe) qf,
    .For (.Tuple [.Name (aa "pos") pa,.Name (aa "ch") pb] ka pc) (.Call (.Name (aa "enumerate") sa) [.Name (aa "addr") sb] [] sc)
     [.If (.Name (aa "escape") pd) [.Expr (.Yield (PD (.Tuple [.Name (aa "pos") pe,.BinOp (.Constant (.str bsl) kb pf) .Add (.Name (aa "ch") pg) ph] kc pi)) pj) pk,.Assign [.Name (aa "escape") pl] (.Constant (.bool PH) kd pm) pn]
      [.If (.Compare (.Name (aa "ch") po) [.Eq] [.Constant (.str bsl) ke pp] pq) [.Assign [.Name (aa "escape") pr] (.Constant (.bool PG) kf pt) pu]
       [.Expr (.Yield (PD (.Tuple [.Name (aa "pos") qm,.Name (aa "ch") qn] kg qo)) qk) ql] qj] qi] [] qg,
    .If (.Name (aa "escape") qh) [.Expr (.Yield (PD (.Tuple [.Name (aa "pos") ra,.Constant (.str bsl) kj rb] kl rc)) rd) re] [] rf]) (G:GE e C) (hk:e.kindOf (aa "addr")=PD .local/\e.kindOf (aa "enumerate")=PD .globalImplicit/\e.globals=mainGlobals/\e.builtins=builtinsNs) (hl:nsIn (hd.heap_39 w.params) mainGlobals (aa "enumerate")=PD PF/\bootBuiltins (aa "enumerate")=PD (.type "enumerate")) (hA:A.handled=PF) (hasc:t.cps.all (·<128)=PG)
   (s₀ s:ai) (F:Fr c.h₀ C s.heap m) (hm:m (aa "addr")=PD (.str t tt)) (hI:s.heap.objs.size=I) (hE:E=I+1) (sn:dE C [E,I] s₀ s):
  Seg (MP w) A (mX C E I) (lD C E I (itsF t.cps.toList 0 PH)) (itsF t.cps.toList 0 PH).length s₀ (.func b e) ((MP w).den (.func b e)) [] s:=by
 subst hw; subst hE;refine A0 hb rfl rfl rfl G hA (λU=>rfl) hasc (λA' Q E' s' m' hA' F' hm' k=>?_) F hm hI sn rfl;have T:=qG O.t;refine Call_ (dt (jk G.fn hk.2.1 (qI (env:=e) (hk.2.2.1.symm▸T.g.keeps F'.keep) (Ig O.x T.g hl.1) (hk.2.2.2.symm▸T.b.keeps F'.keep) ((T.builtins _ (by decide)).trans hl.2) ?_)) (by decide));refine callWith_type1 (zc (dt (bQ G.fn hk.1 (by rw[G.loc]; exact F'.ns) hm' (MS ?_)) (by decide)));exact call_enumerate_str λh1 he hi U hk=>k h1 he hi hk
end
section
variable {f:Fs}{c:Cx}{V:Vm}{m:Str->Option af}{as:List aj}{Os:List SO}{h:aL}{target:aw}
theorem DJ (O:c.Ok f)(i:Inv f c V m as Os h)(hh:c.hv=PF)(htb:c.tb=PH)(hg:c.gs=gR s₀){t:Str}(hasc:t.cps.all (·<128)=PG)(b:List aS)(hb:b=bn c.w 122)
  (hl:nsIn (hd.heap_39 c.w.params) mainGlobals (aa "enumerate")=PD PF) (hdf:dN c.w 122) (hcd:codeIn (hd.heap_39 c.w.params) (fdAt c.w 122).code (fdAt c.w 122).qualname=PG) (hsc:(fdAt c.w 122).scope.isCoroutine=PH/\(fdAt c.w 122).scope.isGenerator=PG/\(fdAt c.w 122).scope.kind=.function/\((fdAt c.w 122).scope.names.all λx=>x.2 != .cell)=PG)
  (hns:(fdAt c.w 122).scope.names.lookup (aa "addr")=PD .local/\(fdAt c.w 122).scope.names.lookup (aa "enumerate")=PD .globalImplicit/\(fdAt c.w 122).scope.names.lookup (aa "pos")=PD .local/\(fdAt c.w 122).scope.names.lookup (aa "escape")=PD .local/\(fdAt c.w 122).scope.names.lookup (aa "ch")=PD .local)
  (hbi:∀ u,bindArgs (pS (fdAt c.w 122)) ⟨[u],[]⟩=pure [(aa "addr",u)])
  (hQ:∀ G C E' I g h' tk' s',c.gs s'->Inv f (c.at s') V m as Os h'->GnS c.w (c.A f) c.h₀ G C E' I g (itsF t.cps.toList 0 PH) 0 s' h'->(∀ b∈[G,C,E',I],@MU Nat _ h.objs.size b)->G∉[C,E',I]->Q (.ref G) (sh s' h' tk')):wpAny (MP c.w) (c.A f) (call (.ref 122) [.str t tt]) Q E (sh c.s₀ h tk):=by
 have g0:=O.g0;rw[hg] at g0
 refine iG (Mine.JY (K:=Mine.hd.heap_39 c.w.params) (binds:=[(aa "addr",.str t tt)]) i.F O.x O.t.nolimit hdf hcd O.lim (fZ (hbi _)) (λy hy=>by rw[ay.mp hy]; exact hns.1) (λh' tk hn hk hgen hsz=>?_) hsc.1 hsc.2.1 hsc.2.2.1 λx hx=>(by
  have:=aR.mp hsc.2.2.2 x hx;intro e; rw[e] at this; cases this))
 have hall:∀ b∈[h.objs.size+1,h.objs.size,h.objs.size+2+1,h.objs.size+2],@MU Nat _ h.objs.size b:=λb hb=>by
  simp only[aQ,di,or_false] at hb;rcases hb with rfl | rfl | rfl | rfl
  ·exact qR _
  ·exact aI _
  ·exact a8 _ 3
  ·exact a8 _ 2
 have hGC:h.objs.size+1∉[h.objs.size,h.objs.size+2+1,h.objs.size+2]:=by
  simp only[aQ,di,or_false,not_or];exact⟨eG _,aY (bF (cC _)),aY (cC _)⟩
 have i1:=i.keep (i.F.keeps hk) λb o U e=>hk b o e
 refine hQ (h.objs.size+1) h.objs.size (h.objs.size+2+1) (h.objs.size+2) c.s₀.gens.size h' tk { c.s₀ with gens:=c.s₀.gens.push (.fresh (.func (stmtsOf (fdAt c.w 122).body) (envOf (fdAt c.w 122).qualname (fdAt c.w 122).scope h.objs.size 122 (fdAt c.w 122).code))) } (hg▸g0.ens (AllBare.push g0.bare rfl)) ⟨i1.F,i1.M,i1.C,i1.len,i1.ob,i1.nd,i1.t1,i1.t2,i1.pf,i1.pn⟩
  ⟨hgen,_,[h.objs.size],Array.getElem?_push_size ..,λb hb=>?_,λU=>hsz,λs'' a bb cc=>⟨rfl,?_⟩⟩ hall hGC
 ·rw[ay.mp hb];refine⟨.head _,?_⟩;obtain⟨o,_,_,q,_⟩:=hn; exact⟨o,q⟩
 ·have F'':Fr c.h₀ h.objs.size s''.heap (λy=>([(aa "addr",Value.str t tt)]:List (Str×af)).reverse.lookup y):=⟨hn.at' λo e=>a _ (List.mem_cons_self ..) o e,bb,bN (cS i.F.above i.F.ns.lt)⟩;have hb':b=stmtsOf (fdAt c.w 122).body:=hb;rw[<- hb'];refine' DH (A:=(c.A f).in1) (e:=envOf (fdAt c.w 122).qualname (fdAt c.w 122).scope h.objs.size 122 (fdAt c.w 122).code) O rfl (b:=b) ?hlit ⟨rfl,hsc.2.2.1,hns.2.2.1,hns.2.2.2.1,hns.2.2.2.2,hsc.1,?hint⟩ ⟨hns.1,hns.2.1,rfl,rfl⟩ ⟨hl,rfl⟩ hh hasc s'' s'' F'' rfl (cc rfl) rfl (lb _ _ _)
  case hlit=>rw[hb]; with_unfolding_all rfl
  case hint=>kernel_rfl
end
section
variable {k:Wk}{c:Cx}{V V':Vm}{Os Os':List SO}{b:List aS}{bs:List (List aS)}{C:List Prop}
def hC1 (e:aw):Option (Str×aw):=(vw e).cll?.bind λq=>(lB q.1).bind λx=>(one q.2.1).bind λa=>if q.2.2.1.isEmpty=PG then PD (x,a) else PF
theorem pO {e:aw}{q:Str×aw}(h:hC1 e=PD q):∃ px p,e=.Call (.Name q.1 px) [q.2] [] p:=ak h λq0 e1 h=>ak h λx e2 h=>ak h λa e3 h=>iteE h λe4 h=>(nam_is e2).elim λpx hx=>by
 rw[<- ac h];exact⟨px,q0.2.2.2,(cll_is e1).trans (ow hx (one_is e3) (aX.mp e4))⟩
theorem p7 {x:Str}{e:aw}{px p:Pos}{pv:PV}{h:aL}(O:k.Ok c)(i:Inv k.f c V m as Os h)(hx:ldF c.w k.f V Os x=PD (.v (.ref a)))(he:evF k c.w V Os e=PD (pv,[],C))(hC:Al C)(hcl:gU c (.ref a))
  (hq:∀ v h' tk',pv.is as v->Inv k.f c V m as Os h'->wpAny (MP c.w) (c.A k.f) (call (.ref a) [v]) Q E (sh c.s₀ h' tk')):wpAny (MP c.w) (c.A k.f) (eval (.Call (.Name x px) [e] [] p) (c.env k.f)) Q E (sh c.s₀ h tk):=by
 refine ks (u:=⟨k.f,c,c.env k.f,Inv k.f c V m⟩) (t:=([pv],[],C)) (fL O.o) (b7 O.toOkc) hx rfl hcl (by rw[rZ,he]; exact congrArg (λC=>PD ([pv],([]:List SO),C)) (ao C)) hC (λU U U i=>i.stay) i λvs bs h2 k2 hvs i2 U=>?_
 have hb:bs=[]:=by
  have z:=i2.len;rw[aJ,ao,i.len] at z;exact bE.mp (iK z)
 rw[hb,ao] at hvs;rw[hb,ao,ao] at i2;obtain⟨v,ev,hv⟩:=hvs.one;rw[ev];exact hq v h2 k2 hv i2
def Lu (k:Wk)(w:aB)(V:Vm)(Os:List SO)(b:List aS):Option (af×Tg×Str):=(DB b).bind λq=>(rA q.1).bind λtg=>(hC1 q.2.1).bind λr=>(ldF w k.f V Os r.1).bind λu=>u.val?.bind λv=>(evF k w V Os r.2).bind λa=>if a.2.1.isEmpty=PG/\a.2.2.isEmpty=PG then a.1.str?.map λt=>(v,tg,t) else PF
theorem Run.lpN {α:Type}(tg:Tg)(t:Str)(fi:List Nat)(F:Nat->α->Vm)(G:Nat->α->List SO)(H:Nat->α->Prop)(B:Vm->List SO->Prop)(a₀:α)(hh:c.hv=PF)(htb:c.tb=PH)(hg:∃ s,c.gs=gR s)(hasc:t.cps.all (·<128)=PG)
  (hl:nsIn (hd.heap_39 c.w.params) mainGlobals (aa "enumerate")=PD PF) (hdf:dN c.w 122) (hcd:codeIn (hd.heap_39 c.w.params) (fdAt c.w 122).code (fdAt c.w 122).qualname=PG) (hsc:(fdAt c.w 122).scope.isCoroutine=PH/\(fdAt c.w 122).scope.isGenerator=PG/\(fdAt c.w 122).scope.kind=.function/\((fdAt c.w 122).scope.names.all λx=>x.2 != .cell)=PG)
  (hns:(fdAt c.w 122).scope.names.lookup (aa "addr")=PD .local/\(fdAt c.w 122).scope.names.lookup (aa "enumerate")=PD .globalImplicit/\(fdAt c.w 122).scope.names.lookup (aa "pos")=PD .local/\(fdAt c.w 122).scope.names.lookup (aa "escape")=PD .local/\(fdAt c.w 122).scope.names.lookup (aa "ch")=PD .local)
  (hbi:∀ u,bindArgs (pS (fdAt c.w 122)) ⟨[u],[]⟩=pure [(aa "addr",u)])
  (he:Lu k c.w V Os b=PD (.ref 122,tg,t)) (hfx:∀ n a j x,(G n a)[j]?=PD x->x.own->fi.contains j=PG) (hlv:fi.all (λj=>(Os[j]?).elim PH SO.ownB)=PG) (hnp:(c.np.all fi.contains)=PG) (hF0:F 0 a₀=V) (hG0:G 0 a₀=Os) (h0:H 0 a₀)
  (step:∀ (n p:Nat) (ch:Str) (a:α) (c':Cx),c'.w=c.w->c'.np=fi->(∀ p Os,c.P p Os->c'.P p Os)->(∀ a,H (n+1) a->c'.N (F (n+1) a) (G (n+1) a))->(∀ V Os,B V Os->c'.B V Os)->(itsF t.cps.toList 0 PH)[n]?=PD (p,ch)->H n a->
   ∃ V₁ Os₁,sA k.f (F n a) (G n a) tg (LX (p,ch))=PD (V₁,Os₁)/\Run k c' V₁ Os₁ [yz b])
  (done:∀ a,H (itsF t.cps.toList 0 PH).length a->Run k c (F (itsF t.cps.toList 0 PH).length a) (G (itsF t.cps.toList 0 PH).length a) (b.tail :: bs)) (brk:∀ V Os,B V Os->Run k c V Os (b.tail :: bs)):Run k c V Os (b :: bs):=
 ak he λq e1 he=>ak he λt' e2 he=>ak he λr e3 he=>ak he λu e4 he=>ak he λv e8 he=>ak he λa e5 he=>iteE he λe6 he=>aZ he λt'' e7 eq=>by
  cases eq;obtain⟨pos,e9⟩:=xH e1;have e8:u=_:=PV.val_is e8;subst e8;unfold yz at step;rw[e1] at step;rw[e9];refine bU λG1 hG1=>?_;obtain⟨px,p0,e3⟩:=pO e3;obtain⟨s₀,hg⟩:=hg;obtain⟨pv,ys,C⟩:=a;obtain⟨h1,h2⟩:=e6;have z1:ys=[]:=aX.mp h1;have z2:C=[]:=aX.mp h2;clear h1 h2;subst z1; subst z2;have e7:pv=.s t:=PV.str_is e7;subst e7;refine hG1 ?_;refine .of λ{s} O as h tk m i=>bc (wpAny_For (e3▸p7 O i e4 e5 PI (dk O.o hdf rfl) λv h' tk' hv i'=>?_) λU=>by rw[e3]; rfl);obtain⟨tt,rfl⟩:=hv;refine DJ (c:=c.at s) O.o i' hh htb hg hasc _ rfl hl hdf hcd hsc hns hbi λGn Cn En In g h2 tk2 s2 gs2 i2 st hall hGC=>wpAny_pyIter_gen st.gn ?_;have O2:=O.at gs2;have lt:∀ b∈[Gn,Cn,En,In],∀ {d:aj} {o:Obj},h'.get? d=PD o->b≠d:=λb hb {d o} e q=>bY _ (eX (aO e) (q▸hall b hb));have T:=DG (f:=k.f) (c:=c.at s2) (as:=as) (Os:=Os) (target:=q.1) (tot:=itsF t.cps.toList 0 PH) O2.o hh hg (λb hb=>⟨?_,?_,λj x e1 e2 hw=>?_,λht=>(by rw[show c.tb=PG from ht] at htb; cases htb),λq hq z=>lt b hb (i'.pn q hq).1 z.symm⟩) hGC htb (G:=Gn) (C:=Cn) (E:=En) (I:=In) (g:=g)
  rotate_left
  ·obtain⟨o,_,_,e,_⟩:=i'.F.ns; exact lt b hb e
  ·cases e:c.h₀.get? b with
   | none=>rfl
   | some o=>exact absurd rfl (lt b hb (i'.F.keep _ _ e))
  ·obtain⟨o,_,e,_⟩:=i'.ob _ _ _ e1 e2 hw.live; exact lt b hb e rfl
  refine tN (c:=c) (s₀:=s2) (rest:=b.tail) (bs:=bs) (gB:=λs s'=>s'=s) O2 i2 ⟨T.turn,T.done,T.gb,T.gc,T.frame,T.nr,T.hwr,T.hws⟩ st tg fi (λn V Os=>∃ a,V=F n a/\Os=G n a/\H n a) B (.inr ⟨λn V Os ⟨a,_,e,_⟩ j x ej hx=>hfx n a j x (e▸ej) hx,λj a hj ea hb=>?_⟩) e2 rfl (λU U U U=>rfl) (aR.mpr λj hj=>?_) hnp ⟨a₀,hF0.symm,hG0.symm,h0⟩ (λn x V Os os c' w1 w2 w3 w4 w5 ex ⟨a,h1,h2,h3⟩ w6=>?_) λV Os z=>z.elim (λ⟨a,h1,h2,h3⟩=>?_) λz=>brk V Os z
  ·have:=aR.mp hlv j (bM.mp hj);cases e:Os[j]? with
   | none=>rw[e] at this; cases this
   | some x=>rw[e] at this; obtain⟨o,_,g2,_⟩:=i'.ob _ _ _ ea e (SO.ownB_is this).live; exact lt a hb g2 rfl
  ·have:=aR.mp hlv j hj;cases e:Os[j]? with
   | none=>rw[e] at this; cases this
   | some x=>exact decide_eq_true (lt_of_get e)
  ·subst h1; subst h2
   have pin0:∀ {os:Nat->Obj} {Os:List SO} {n:Nat},pinF os [] n Os=Os:=λ{os Os}=>by
    induction Os with
    | nil=>intro U; rfl
    | cons x r ih=>intro n; exact congrArg (x :: ·) ih
   rw[aG] at ex;refine aZ ex λy ey eq=>?_;subst eq;refine bU λG2 hG2=>?_;obtain⟨V₁,Os₁,q1,q2⟩:=step n y.1 y.2 a c' w1 w2 w3 (λa h=>by have:=w4 _ _ ⟨a,rfl,rfl,h⟩; rwa [pin0] at this) (λV Os z=>by have:=w5 V Os z; rwa [pin0] at this) ey h3;refine hG2 ?_;exact⟨V₁,Os₁,rfl,by rw[pin0]; exact q1,q2⟩
  ·rw[aA] at h1 h2 h3;subst h1; subst h2;exact done a h3
end
end Nw
end
section
open PySem PySem.W PySem.Calls PySem.Spec PyProof.Rows Mine
namespace Mine
structure Sst where
 start:Nat
 op:Option Nat
 res:List Str
noncomputable abbrev dq:Str:=aa "\""
def sStep (t:Str)(s:Sst)(x:Nat×Str):Sst:=
 if(x.2 == dq)=PG then
  match s.op with
  | none=>⟨s.start,PD x.1,s.res⟩
  | some o=>⟨x.1+1,PF,if s.start=o then s.res else s.res++[ba t (PD (s.start:Int)) (PD (o:Int))]⟩
 else s
def sRun (t:Str)(l:List (Nat×Str)):Sst:=l.foldl (sStep t) ⟨0,PF,[]⟩
abbrev items (t:Str):List (Nat×Str):=itsF t.cps.toList 0 PH
def stripT (t:Str):Str:=
 if(aT t dq 0 t.length 1).isEmpty=PG then t else
 jV (aa "") (if((sRun t (items t)).start:Int)<(t.length:Int) then(sRun t (items t)).res++[ba t (PD ((sRun t (items t)).start:Int)) PF] else(sRun t (items t)).res)
theorem AH (cs:List Nat):∀ (i:Nat) (b:Bool),(b=PG->1<=i)->∀ x∈itsF cs i b,x.1<i+cs.length/\x.2.length<=2:=by
 induction cs with
 | nil=>
  intro i b hb x hx;cases b with
  | false=>cases hx
  | true=>exact(ay.mp hx:x=(i - 1,bsl))▸⟨Nat.sub_lt (hb rfl) Nat.one_pos,(by show bsl.length<=2; decide)⟩
 | cons c r ih=>
  intro i b hb x;have up:x.1<i+1+r.length/\x.2.length<=2->x.1<i+(c :: r).length/\x.2.length<=2:=λh=>⟨(gj i 1 r.length:_=i+(r.length+1))▸h.1,h.2⟩;have one:∀ {y:Str},y.length<=2->∀ l:List (Nat×Str),(x∈l->x.1<i+1+r.length/\x.2.length<=2)->x∈(i,y) :: l->x.1<i+(c :: r).length/\x.2.length<=2:=λhy l hl h=>(aQ.mp h).elim (λe=>e▸⟨jX (fT _),hy⟩) λh=>up (hl h);cases b with
  | true=>exact one (by rw[Str.length_append]; exact aI 2) _ (ih (i+1) PH (λq=>nomatch q) x)
  | false=>
   by_cases h:c=92
   ·rw[show itsF (c :: r) i PH=_ from if_pos h]; exact λhx=>up (ih (i+1) PG (λU=>dZ 1 i) x hx)
   ·rw[show itsF (c :: r) i PH=_ from if_neg h]; exact one (y:=chS c) (qR 1) _ (ih (i+1) PH (λq=>nomatch q) x)
theorem om (cs:List Nat):∀ (i:Nat) (b:Bool),(itsF cs i b).length<=cs.length+(if b then 1 else 0):=by
 induction cs with
 | nil=>exact λi b=>by cases b<;>exact aI _
 | cons c r ih=>
  intro i b;cases b with
  | true=>exact cq (fU (ih (i+1) PH))
  | false=>exact(NP (c=92)).elim (λh=>ar (bq (congrArg lh (if_pos h:itsF (c :: r) i PH=_))) (ih (i+1) PG)) λh=>ar (bq (congrArg lh (if_neg h:itsF (c :: r) i PH=_))) (fU (ih (i+1) PH))
structure SBd (t:Str)(s:Sst)(j:Nat):Prop where
 b1:s.start<=t.length
 b2:∀ o,s.op=PD o->o<t.length
 b3:s.res.length<=j
 b4:∀ x∈s.res,x.length<=t.length
theorem rC (t:Str)(a b:Option Int):(ba t a b).length<=t.length:=Txt.slice_le t a b
theorem yD (t:Str):(items t).length<=t.length:=ar (om t.cps.toList 0 PH) (by rw[iw]; exact aI _)
set_option tactic.hygienic true in
theorem SBd.step {t:Str}{s:Sst}{j:Nat}(b:SBd t s j){x:Nat×Str}(hx:x.1<t.length):SBd t (sStep t s x) (j+1):=by
 obtain⟨b1,b2,b3,b4⟩:=b;unfold sStep
 split
 ·split
  ·rename_i e;exact⟨b1,λo h=>(by cases h; exact hx),cq b3,b4⟩
  ·rename_i o e;refine⟨hx,λo h=>(by cases h),?_,?_⟩
   ·dsimp only; split
    ·exact cq b3
    ·rw[aJ]; exact cX b3 1
   ·dsimp only; split
    ·exact b4
    ·intro y hy;rcases bf.mp hy with hy | hy
     ·exact b4 y hy
     ·rw[ay.mp hy]; exact rC _ _ _
 ·exact⟨b1,b2,cq b3,b4⟩
theorem FQ (t:Str):∀ j,SBd t (sRun t ((items t).take j)) j:=by
 intro j
 induction j with
 | zero=>exact⟨jw _,λo h=>(by cases h),aI _,λx h=>(by cases h)⟩
 | succ j ih=>
  rcases wA j (items t).length with h | h
  ·have e:(items t).take (j+1)=(items t).take j++[(items t)[j]]:=by rw[d5,aF h]; rfl
   rw[e,sRun,jp];refine ih.step ?_;have:=(AH t.cps.toList 0 PH (by simp) _ (List.getElem_mem h)).1;simp at this; exact this
  ·rw[cz (cq h),<- cz h];exact⟨ih.b1,ih.b2,cq ih.b3,ih.b4⟩
theorem zx {n:Nat}:∀ (l:List Str),(∀ x∈l,x.length<=n)->(l.map (·.length)).sum<=n*l.length
 | [],_=>jw _
 | x :: r,h=>by
  have h1:=zx r λy hy=>h y (.tail _ hy);have h2:=h x (.head _);rw[ft,List.sum_cons,cV,Nat.mul_succ,NZ]; exact du h1 h2
noncomputable abbrev LP:Str:=aa "("
noncomputable abbrev Lg:Str:=aa ")"
def cRun:List (Nat×Str)->Int->Option Int
 | [],n=>PD n
 | x :: r,n=>if(x.2 == LP)=PG then cRun r (n+1) else if(x.2 == Lg)=PG then(if n - 1<0 then PF else cRun r (n - 1)) else cRun r n
def checkT (t:Str):Bool:=match cRun (items (stripT t)) 0 with | none=>PH | some n=>decide (n=0)
def preT (t:Str):Str:=if checkT t=PG then t else aa "('', '')"
structure TxOk (t:Str):Prop where
 a1:t.cps.all (·<128)=PG
 l1:t.length<=1000
 a2:(stripT t).cps.all (·<128)=PG
 l2:(stripT t).length<=1000
end Mine
end
section
open PySem PySem.W PySem.Calls PySem.Spec PyProof.Rows
open _root_.PySem.Float64 (add sub mul div isZero isFinite)
namespace Mine
noncomputable def fV (x y z:UInt64):UInt64:=
 if(bS (bD z 4607182418800017408).snd 4595172819793696085 == PD c7)=PG then
  (kE x (gS (gS (eB y x) (bD z 4607182418800017408).snd) 4618441417868443648))
 else if(bS (bD z 4607182418800017408).snd 4602678819172646912 == PD c7)=PG then y
 else if(bS (bD z 4607182418800017408).snd 4604180019048437077 == PD c7)=PG then
  (kE x (gS (gS (eB y x) (eB 4604180019048437077 (bD z 4607182418800017408).snd)) 4618441417868443648))
 else x
noncomputable def feq (x y:UInt64):Bool:=bS x y == PD .eq
noncomputable def E9 (x y:UInt64):Bool:=bS x y == PD .lt||bS x y == PD .eq
def DP (y z:UInt64):UInt64:=sub (mul 4611686018427387904 y) (if E9 y 4602678819172646912 then mul y (add 4607182418800017408 z) else sub (add y z) (mul y z))
def fM2 (y z:UInt64):UInt64:=if E9 y 4602678819172646912 then mul y (add 4607182418800017408 z) else sub (add y z) (mul y z)
def fHls2 (x y z:UInt64):UInt64×UInt64×UInt64:=
 if feq z 0 then(y,y,y) else
 (fV (DP y z) (fM2 y z) (add x 4599676419421066581),fV (DP y z) (fM2 y z) x,fV (DP y z) (fM2 y z) (sub x 4599676419421066581))
def uB (x y z:UInt64):UInt64:=
 (bD (div (if feq x (fmax3 x y z) then sub (div (sub (fmax3 x y z) z) (sub (fmax3 x y z) (fmin3 x y z))) (div (sub (fmax3 x y z) y) (sub (fmax3 x y z) (fmin3 x y z)))
  else if feq y (fmax3 x y z) then sub (add 4611686018427387904 (div (sub (fmax3 x y z) x) (sub (fmax3 x y z) (fmin3 x y z)))) (div (sub (fmax3 x y z) z) (sub (fmax3 x y z) (fmin3 x y z)))
  else sub (add 4616189618054758400 (div (sub (fmax3 x y z) y) (sub (fmax3 x y z) (fmin3 x y z)))) (div (sub (fmax3 x y z) x) (sub (fmax3 x y z) (fmin3 x y z)))) 4618441417868443648) 4607182418800017408).snd
def iF (x y z:UInt64):UInt64:=div (add (fmax3 x y z) (fmin3 x y z)) 4611686018427387904
def fHls (x y z:UInt64):UInt64×UInt64×UInt64:=
 if feq (fmin3 x y z) (fmax3 x y z) then(0,iF x y z,0) else
 (uB x y z,iF x y z,div (sub (fmax3 x y z) (fmin3 x y z)) (if E9 (iF x y z) 4602678819172646912 then add (fmax3 x y z) (fmin3 x y z) else sub (sub 4611686018427387904 (fmax3 x y z)) (fmin3 x y z)))
def fHsv (x y z:UInt64):UInt64×UInt64×UInt64:=
 if feq (fmin3 x y z) (fmax3 x y z) then(0,0,fmax3 x y z) else
 (uB x y z,div (sub (fmax3 x y z) (fmin3 x y z)) (fmax3 x y z),fmax3 x y z)
noncomputable def six (h:UInt64):Int:=ce bH (mul h 4618441417868443648)
def JL (h:UInt64):UInt64:=sub (mul h 4618441417868443648) (cZ (six h))
def fHsv2 (x y z:UInt64):UInt64×UInt64×UInt64:=
 if feq y 0 then(z,z,z) else
 let p:=mul z (sub 4607182418800017408 y);let q:=mul z (sub 4607182418800017408 (mul y (JL x)));let t:=mul z (sub 4607182418800017408 (mul y (sub 4607182418800017408 (JL x))))
 if(six x).fmod 6=0 then(z,t,p) else if(six x).fmod 6=1 then(q,z,p) else if(six x).fmod 6=2 then(p,z,t) else
 if(six x).fmod 6=3 then(p,q,z) else if(six x).fmod 6=4 then(t,p,z) else(z,p,q)
theorem nF {x:UInt64}(h:isFinite x=PG)(h':cI x=PG):False:=by
 unfold nu at h; unfold cI at h'; split at h'<;>simp_all
theorem nG {x:UInt64}(h:isFinite x=PG)(h':bC x=PG):False:=by
 unfold nu at h; unfold bC at h'; split at h'<;>simp_all
theorem LN (n:Int)(h0:n.fmod 6≠0)(h1:n.fmod 6≠1)(h2:n.fmod 6≠2)(h3:n.fmod 6≠3)(h4:n.fmod 6≠4)(h5:n.fmod 6≠5):False:=by
 have a:=bu n (show(0:Int)<6 by decide);have b:=bJ n (show(0:Int)<6 by decide);lia
end Mine
end
section
open PySem PySem.W PySem.Calls PySem.Spec PyProof.Rows Mine
open _root_.PySem.Float64 (add sub mul div isZero isFinite)
namespace Nw
variable {fs:Fs}{c:Cx}
abbrev MM (fs:Fs)(c:Cx)(l:List CallR):Prop:=∀ r∈l,b8 fs c r
theorem cE:MM fs c []:=λr h=>nomatch h
theorem aW {r:CallR}{l:List CallR}(h:b8 fs c r)(H:MM fs c l):MM fs c (r :: l):=λq hq=>by
 rcases aQ.mp hq with rfl | hq
 ·exact h
 ·exact H q hq
def tbM:Tab:=⟨[],[],[],[ET,EP,GJ]⟩
theorem dz {w:aB}(r:SubR)(h:r∈([]:List SubR)):r.wd w:=nomatch h
theorem KD (O:c.Ok fs):Wk.Okc ⟨fs,tbM,extC []⟩ c:=have G:CtOk fs c tbM:=⟨aW (Aw O) (aW (Ao O) (aW xB cE)),dz⟩; ⟨O,G,λU U=>eY O G⟩
theorem fG (j:Nat)(y:SO)(e:([]:List SO)[j]?=PD y)(hw:y.own):j<0:=(lw j y e hw).elim
theorem LI:isZero 4607182418800017408=PH:=by decide +kernel
theorem nz2:isZero 4611686018427387904=PH:=by decide +kernel
theorem Nn:isZero 4618441417868443648=PH:=by decide +kernel
theorem Jf:(6:Int)≠0:=by decide
noncomputable abbrev kU (r:UInt64×UInt64×UInt64):SO:=.T [.f r.1,.f r.2.1,.f r.2.2]
theorem c_v (w:aB)(x y z:UInt64):Con w 101 1 PH [] [.f x,.f y,.f z] (.f (fV x y z)) [] []:=by
 refine f5 (k:=0) (T:=tbM) (ext:=extC []) 0 [(aa "m1",.f x),(aa "m2",.f y),(aa "hue",.f z)] (by kernel_rfl) (m7 λu v t=>by kernel_rfl) (by kernel_rfl) fG (λc U U U O=>KD O) λc hw hn hP hN U=>?_;have P:∀ r,r=fV x y z->c.P (.f r) []:=λr e=>hP _ _ [] (by rw[e]; kernel_rfl);refine Run.blk 1 [(aa "m1",.f x),(aa "m2",.f y),(aa "hue",.f (bD z 4607182418800017408).2)] [] [_] (by kernel_rfl) ⟨LI,PI⟩ ?_;refine Run.ifN (bS (bD z 4607182418800017408).snd 4595172819793696085 == PD c7) [] (by kernel_rfl) PI (λh=>Run.rt (.f (add x (mul (mul (sub y x) (bD z 4607182418800017408).snd) 4618441417868443648))) [] [] (by kernel_rfl) PI (P _ (by unfold fV; rw[if_pos h]))) (λh=>?_);refine Run.ifN (bS (bD z 4607182418800017408).snd 4602678819172646912 == PD c7) [] (by kernel_rfl) PI (λh'=>Run.rt (.f y) [] [] (by kernel_rfl) PI (P _ (by unfold fV; rw[if_neg (ne_true_of_eq_false h),if_pos h']))) (λh'=>?_);refine Run.ifN (bS (bD z 4607182418800017408).snd 4604180019048437077 == PD c7) [] (by kernel_rfl) PI (λh''=>Run.rt (.f (add x (mul (mul (sub y x) (sub 4604180019048437077 (bD z 4607182418800017408).snd)) 4618441417868443648))) [] [] (by kernel_rfl) PI (P _ (by unfold fV; rw[if_neg (ne_true_of_eq_false h),if_neg (ne_true_of_eq_false h'),if_pos h'']))) (λh''=>?_);exact Run.rt (.f x) [] [] (by kernel_rfl) PI (P _ (by unfold fV; rw[if_neg (ne_true_of_eq_false h),if_neg (ne_true_of_eq_false h'),if_neg (ne_true_of_eq_false h'')]))
def vR:CallR:=⟨.ref 101,λU ps=>(Hi ps).bind λl=>(jS l).map λq=>(.f (fV q.1 q.2.1 q.2.2),[],[])⟩
theorem isF (w:aB):∃ fd,(nC w 101).data=.func fd/\(hd.heap_39 w.params).lookup 101=PD (nC w 101):=⟨fdAt w 101,by kernel_rfl,by kernel_rfl⟩
theorem IE (hk:1<=c.k)(O:c.Ok fs):b8 fs c vR:=⟨let ⟨_,h1,h2⟩:=isF c.w; dk O h2 h1,λ{Os ps q} e hC V m as h vs i hv E Q k hq=>by
 refine bU λG1 hG1=>?_;refine ak e λl e1 e2=>?_;refine aZ e2 λz e3 eq9=>?_;subst eq9;refine hG1 ?_;rw[Ba e1,f9 e3] at hv;exact Con.call (c_v c.w _ _ _) rfl hk (λz=>nomatch z) O i Giv.nil lw (kG (fi:=[]) (as:=as) (bs:=[]) (λU q=>nomatch q) rfl hv) rfl rfl hq⟩
def tbV:Tab:=⟨[],[],[],[vR]⟩
theorem wkV (hk:1<=c.k)(O:c.Ok fs):Wk.Okc ⟨fs,tbV,extC []⟩ c:=have G:CtOk fs c tbV:=⟨aW (IE hk O) cE,dz⟩; ⟨O,G,λU U=>eY O G⟩
theorem HT (w:aB)(x y z:UInt64):Con w 94 2 PH [] [.f x,.f y,.f z] (.r 0) [] [kU (fHls2 x y z)]:=by
 refine f5 (k:=1) (T:=tbV) (ext:=extC []) 0 [(aa "h",.f x),(aa "l",.f y),(aa "s",.f z)] (by kernel_rfl) (m7 λu v t=>by kernel_rfl) (by kernel_rfl) fG (λc U hk U O=>wkV (bq hk.symm) O) λc hw hn hP hN U=>?_;have P:∀ r,r=fHls2 x y z->c.P (.r 0) [kU r]:=λr e=>hP _ _ [0] (by rw[e]; kernel_rfl);refine Run.ifN (feq z 0) [] (by kernel_rfl) PI (λh=>Run.rt (.r 0) [kU (y,y,y)] [] (by kernel_rfl) PI (P _ (by unfold fHls2; rw[if_pos h]))) (λh=>?_);refine Run.ifJ (E9 y 4602678819172646912) [] (λb=>[(aa "h",.f x),(aa "l",.f y),(aa "s",.f z),(aa "m2",.f (if b then mul y (add 4607182418800017408 z) else sub (add y z) (mul y z)))]) (λU=>[]) (by kernel_rfl) PI (λU=>Way.blk 1 [] (by kernel_rfl) (by kernel_rfl) PI) (λU=>Way.blk 1 [] (by kernel_rfl) (by kernel_rfl) PI) ?_;refine Run.blk 1 [(aa "h",.f x),(aa "l",.f y),(aa "s",.f z),(aa "m2",.f (fM2 y z)),(aa "m1",.f (DP y z))] [] [] (by kernel_rfl) PI ?_;exact Run.rt (.r 0) [kU (fV (DP y z) (fM2 y z) (add x 4599676419421066581),fV (DP y z) (fM2 y z) x,fV (DP y z) (fM2 y z) (sub x 4599676419421066581))] [] (by kernel_rfl) PI (P _ (by unfold fHls2; rw[if_neg (ne_true_of_eq_false h)]))
theorem Ko (w:aB)(x y z:UInt64)(z1:isZero (sub (fmax3 x y z) (fmin3 x y z))=PG->feq (fmin3 x y z) (fmax3 x y z)=PG)(z2:isZero (add (fmax3 x y z) (fmin3 x y z))=PG->feq (fmin3 x y z) (fmax3 x y z)=PG)
  (z3:isZero (sub (sub 4611686018427387904 (fmax3 x y z)) (fmin3 x y z))=PG->feq (fmin3 x y z) (fmax3 x y z)=PG):Con w 87 1 PH [] [.f x,.f y,.f z] (.r 0) [] [kU (fHls x y z)]:=by
 refine f5 (k:=0) (T:=tbM) (ext:=extC []) 0 [(aa "r",.f x),(aa "g",.f y),(aa "b",.f z)] (by kernel_rfl) (m7 λu v t=>by kernel_rfl) (by kernel_rfl) fG (λc J J J O=>KD O) λc hw hn hP hN J=>?_;have P:∀ r,r=fHls x y z->c.P (.r 0) [kU r]:=λr e=>hP _ _ [0] (by rw[e]; kernel_rfl);let W:Vm->Vm:=λV=>[(aa "r",.f x),(aa "g",.f y),(aa "b",.f z),(aa "maxc",.f (fmax3 x y z)),(aa "minc",.f (fmin3 x y z)),(aa "sumc",.f (add (fmax3 x y z) (fmin3 x y z))),(aa "rangec",.f (sub (fmax3 x y z) (fmin3 x y z))),(aa "l",.f (iF x y z))]++V;refine Run.blk 5 (W []) [] [_] (by kernel_rfl) ⟨nz2,PI⟩ ?_;refine Run.ifN (feq (fmin3 x y z) (fmax3 x y z)) [] (by kernel_rfl) PI (λh=>Run.rt (.r 0) [kU (0,iF x y z,0)] [] (by kernel_rfl) PI (P _ (by unfold fHls; rw[if_pos h]))) (λh=>?_)
 have y0:∀ {u:UInt64},(isZero u=PG->feq (fmin3 x y z) (fmax3 x y z)=PG)->isZero u=PH:=λ{u} q=>by
  cases e:isZero u with
  | true=>rw[q e] at h; cases h
  | false=>rfl
 have y1:=y0 z1;let S:Bool->UInt64:=λb=>div (sub (fmax3 x y z) (fmin3 x y z)) (if b then add (fmax3 x y z) (fmin3 x y z) else sub (sub 4611686018427387904 (fmax3 x y z)) (fmin3 x y z));refine Run.ifJ (E9 (iF x y z) 4602678819172646912) [] (λb=>W [(aa "s",.f (S b))]) (λJ=>[]) (by kernel_rfl) PI (λJ=>Way.blk 1 [_] (by kernel_rfl) (by kernel_rfl) ⟨y0 z2,PI⟩) (λJ=>Way.blk 1 [_] (by kernel_rfl) (by kernel_rfl) ⟨y0 z3,PI⟩) ?_;let D:UInt64->UInt64:=λu=>div (sub (fmax3 x y z) u) (sub (fmax3 x y z) (fmin3 x y z));let U:Vm->Vm:=λV=>W ([(aa "s",.f (S (E9 (iF x y z) 4602678819172646912))),(aa "rc",.f (D x)),(aa "gc",.f (D y)),(aa "bc",.f (D z))]++V);refine Run.blk 3 (U []) [] [_,_,_] (by kernel_rfl) ⟨y1,y1,y1,PI⟩ ?_;let H:Bool->UInt64:=λb=>if b then sub (add 4611686018427387904 (D x)) (D z) else sub (add 4616189618054758400 (D y)) (D x)
 refine Run.ifJ (feq x (fmax3 x y z)) [] (λb=>U [(aa "h",.f (if b then sub (D z) (D y) else H (feq y (fmax3 x y z))))]) (λJ=>[]) (by kernel_rfl) PI (λJ=>Way.blk 1 [] (by kernel_rfl) (by kernel_rfl) PI)
  (λJ=>Way.if (feq y (fmax3 x y z)) [] (λb=>U [(aa "h",.f (H b))]) (λJ=>[]) (by kernel_rfl) (by kernel_rfl) PI (λJ=>Way.blk 1 [] (by kernel_rfl) (by kernel_rfl) PI) (λJ=>Way.blk 1 [] (by kernel_rfl) (by kernel_rfl) PI)) ?_
 refine Run.blk 1 (U [(aa "h",.f (uB x y z))]) [] [_,_] (by kernel_rfl) ⟨Nn,LI,PI⟩ ?_;exact Run.rt (.r 0) [kU (uB x y z,iF x y z,S (E9 (iF x y z) 4602678819172646912))] [] (by kernel_rfl) PI (P _ (by unfold fHls; rw[if_neg (ne_true_of_eq_false h)]))
theorem HS (w:aB)(x y z:UInt64)(z1:isZero (sub (fmax3 x y z) (fmin3 x y z))=PG->feq (fmin3 x y z) (fmax3 x y z)=PG)(z2:isZero (fmax3 x y z)=PG->feq (fmin3 x y z) (fmax3 x y z)=PG):Con w 108 1 PH [] [.f x,.f y,.f z] (.r 0) [] [kU (fHsv x y z)]:=by
 refine f5 (k:=0) (T:=tbM) (ext:=extC []) 0 [(aa "r",.f x),(aa "g",.f y),(aa "b",.f z)] (by kernel_rfl) (m7 λu v t=>by kernel_rfl) (by kernel_rfl) fG (λc J J J O=>KD O) λc hw hn hP hN J=>?_;have P:∀ r,r=fHsv x y z->c.P (.r 0) [kU r]:=λr e=>hP _ _ [0] (by rw[e]; kernel_rfl);let W:Vm->Vm:=λV=>[(aa "r",.f x),(aa "g",.f y),(aa "b",.f z),(aa "maxc",.f (fmax3 x y z)),(aa "minc",.f (fmin3 x y z)),(aa "rangec",.f (sub (fmax3 x y z) (fmin3 x y z))),(aa "v",.f (fmax3 x y z))]++V;refine Run.blk 4 (W []) [] [] (by kernel_rfl) PI ?_;refine Run.ifN (feq (fmin3 x y z) (fmax3 x y z)) [] (by kernel_rfl) PI (λh=>Run.rt (.r 0) [kU (0,0,fmax3 x y z)] [] (by kernel_rfl) PI (P _ (by unfold fHsv; rw[if_pos h]))) (λh=>?_)
 have y0:∀ {u:UInt64},(isZero u=PG->feq (fmin3 x y z) (fmax3 x y z)=PG)->isZero u=PH:=λ{u} q=>by
  cases e:isZero u with
  | true=>rw[q e] at h; cases h
  | false=>rfl
 have y1:=y0 z1;let D:UInt64->UInt64:=λu=>div (sub (fmax3 x y z) u) (sub (fmax3 x y z) (fmin3 x y z));let U:Vm->Vm:=λV=>W ([(aa "s",.f (div (sub (fmax3 x y z) (fmin3 x y z)) (fmax3 x y z))),(aa "rc",.f (D x)),(aa "gc",.f (D y)),(aa "bc",.f (D z))]++V);refine Run.blk 4 (U []) [] [_,_,_,_] (by kernel_rfl) ⟨y0 z2,y1,y1,y1,PI⟩ ?_;let H:Bool->UInt64:=λb=>if b then sub (add 4611686018427387904 (D x)) (D z) else sub (add 4616189618054758400 (D y)) (D x)
 refine Run.ifJ (feq x (fmax3 x y z)) [] (λb=>U [(aa "h",.f (if b then sub (D z) (D y) else H (feq y (fmax3 x y z))))]) (λJ=>[]) (by kernel_rfl) PI (λJ=>Way.blk 1 [] (by kernel_rfl) (by kernel_rfl) PI)
  (λJ=>Way.if (feq y (fmax3 x y z)) [] (λb=>U [(aa "h",.f (H b))]) (λJ=>[]) (by kernel_rfl) (by kernel_rfl) PI (λJ=>Way.blk 1 [] (by kernel_rfl) (by kernel_rfl) PI) (λJ=>Way.blk 1 [] (by kernel_rfl) (by kernel_rfl) PI)) ?_
 refine Run.blk 1 (U [(aa "h",.f (uB x y z))]) [] [_,_] (by kernel_rfl) ⟨Nn,LI,PI⟩ ?_;exact Run.rt (.r 0) [kU (uB x y z,div (sub (fmax3 x y z) (fmin3 x y z)) (fmax3 x y z),fmax3 x y z)] [] (by kernel_rfl) PI (P _ (by unfold fHsv; rw[if_neg (ne_true_of_eq_false h)]))
theorem Bs {n i:Int}(q:(n == i)=PG):n=i:=eq_of_beq q
theorem iZ {n i:Int}(q:(n == i)=PH):n≠i:=ne_of_beq_false q
theorem HQ (w:aB)(x y z:UInt64)(hf:isFinite (mul x 4618441417868443648)=PG)(hb:¬ (2 ^ 1024 - 2 ^ 970<=(ce bH (mul x 4618441417868443648)).natAbs)):Con w 115 1 PH [] [.f x,.f y,.f z] (.r 0) [] [kU (fHsv2 x y z)]:=by
 refine f5 (k:=0) (T:=tbM) (ext:=extC []) 0 [(aa "h",.f x),(aa "s",.f y),(aa "v",.f z)] (by kernel_rfl) (m7 λu v t=>by kernel_rfl) (by kernel_rfl) fG (λc U U U O=>KD O) λc hw hn hP hN U=>?_;have P:∀ r,fHsv2 x y z=r->c.P (.r 0) [kU r]:=λr e=>hP _ _ [0] (by rw[e]; kernel_rfl);refine Run.ifN (feq y 0) [] (by kernel_rfl) PI (λh=>Run.rt (.r 0) [kU (z,z,z)] [] (by kernel_rfl) PI (P _ (by unfold fHsv2; rw[if_pos h]))) (λh=>?_);let p:=mul z (sub 4607182418800017408 y);let q:=mul z (sub 4607182418800017408 (mul y (JL x)));let t:=mul z (sub 4607182418800017408 (mul y (sub 4607182418800017408 (JL x))));have P2:∀ r,(if(six x).fmod 6=0 then(z,t,p) else if(six x).fmod 6=1 then(q,z,p) else if(six x).fmod 6=2 then(p,z,t) else if(six x).fmod 6=3 then(p,q,z) else if(six x).fmod 6=4 then(t,p,z) else(z,p,q))=r->c.P (.r 0) [kU r]:=λr e=>P _ (by unfold fHsv2; rw[if_neg (ne_true_of_eq_false h)]; exact e)
 have nn:cI (mul x 4618441417868443648)=PH:=by cases e:cI (mul x 4618441417868443648) with
  | true=>exact(nF hf e).elim
  | false=>rfl
 have ni:bC (mul x 4618441417868443648)=PH:=by cases e:bC (mul x 4618441417868443648) with
  | true=>exact(nG hf e).elim
  | false=>rfl
 refine Run.blk 6 [(aa "h",.f x),(aa "s",.f y),(aa "v",.f z),(aa "i",.i ((six x).fmod 6)),(aa "f",.f (JL x)),(aa "p",.f p),(aa "q",.f q),(aa "t",.f t)] [] [_,_,_,_] (by kernel_rfl) ⟨nn,ni,hb,Jf,PI⟩ ?_;refine Run.ifN ((six x).fmod 6 == 0) [] (by kernel_rfl) PI (λh0=>Run.rt (.r 0) [kU (z,t,p)] [] (by kernel_rfl) PI (P2 _ (if_pos (Bs h0)))) (λh0=>?_);refine Run.ifN ((six x).fmod 6 == 1) [] (by kernel_rfl) PI (λh1=>Run.rt (.r 0) [kU (q,z,p)] [] (by kernel_rfl) PI (P2 _ (by rw[if_neg (iZ h0),if_pos (Bs h1)]))) (λh1=>?_);refine Run.ifN ((six x).fmod 6 == 2) [] (by kernel_rfl) PI (λh2=>Run.rt (.r 0) [kU (p,z,t)] [] (by kernel_rfl) PI (P2 _ (by rw[if_neg (iZ h0),if_neg (iZ h1),if_pos (Bs h2)]))) (λh2=>?_);refine Run.ifN ((six x).fmod 6 == 3) [] (by kernel_rfl) PI (λh3=>Run.rt (.r 0) [kU (p,q,z)] [] (by kernel_rfl) PI (P2 _ (by rw[if_neg (iZ h0),if_neg (iZ h1),if_neg (iZ h2),if_pos (Bs h3)]))) (λh3=>?_);refine Run.ifN ((six x).fmod 6 == 4) [] (by kernel_rfl) PI (λh4=>Run.rt (.r 0) [kU (t,p,z)] [] (by kernel_rfl) PI (P2 _ (by rw[if_neg (iZ h0),if_neg (iZ h1),if_neg (iZ h2),if_neg (iZ h3),if_pos (Bs h4)]))) (λh4=>?_);refine Run.ifN ((six x).fmod 6 == 5) [] (by kernel_rfl) PI (λh5=>Run.rt (.r 0) [kU (z,p,q)] [] (by kernel_rfl) PI (P2 _ (by rw[if_neg (iZ h0),if_neg (iZ h1),if_neg (iZ h2),if_neg (iZ h3),if_neg (iZ h4)]))) (λh5=>?_);exact(LN _ (iZ h0) (iZ h1) (iZ h2) (iZ h3) (iZ h4) (iZ h5)).elim
end Nw
end
section
open PySem PySem.W PySem.Calls PySem.Spec PyProof.Rows
open _root_.PySem.Float64 (add sub mul div isZero isFinite)
namespace Mine
noncomputable abbrev fQuo (a b:Int):UInt64:=gr (decide (a<0) != decide (b<0)) a.natAbs (Int.natAbs b)
abbrev fC (x wh:Int):UInt64:=fQuo (x+wh) 1024
noncomputable abbrev uA (h:UInt64):UInt64:=add (mul (cZ 6) h) (cZ 6)
noncomputable abbrev lE (c:UInt64):UInt64:=add (mul (cZ 2048) c) (cZ 1)
abbrev gQ (c:UInt64):Int:=(ce bH (lE c)).fdiv 2
structure ToldOk (t:UInt64×UInt64×UInt64)(X Y Z:Int):Prop where
 f1:isFinite (lE t.1)=PG
 f2:isFinite (lE t.2.1)=PG
 f3:isFinite (lE t.2.2)=PG
 e1:gQ t.1 - min (gQ t.1) (min (gQ t.2.1) (gQ t.2.2))=X
 e2:gQ t.2.1 - min (gQ t.1) (min (gQ t.2.1) (gQ t.2.2))=Y
 e3:gQ t.2.2 - min (gQ t.1) (min (gQ t.2.1) (gQ t.2.2))=Z
structure TurnF (a b c M m:UInt64)(H V:UInt64×UInt64×UInt64)(s:UInt64)(X Y Z:Int):Prop where
 ix:bC a=PH
 iy:bC b=PH
 iz:bC c=PH
 z1:isZero (sub M m)=PG->feq m M=PG
 z2:isZero (add M m)=PG->feq m M=PG
 z3:isZero (sub (sub 4611686018427387904 M) m)=PG->feq m M=PG
 z4:isZero M=PG->feq m M=PG
 h1:isFinite (uA H.1)=PG
 h2:(ce bH (uA H.1)).fdiv 6=1
 g1:isFinite (uA V.1)=PG
 g2:(ce bH (uA V.1)).fdiv 6=1
 is:bC s=PH
 v1:isFinite (mul (add H.1 s) 4618441417868443648)=PG
 v2:¬ (2 ^ 1024 - 2 ^ 970<=(ce bH (mul (add H.1 s) 4618441417868443648)).natAbs)
 odd:ToldOk (fHls2 (add V.1 s) H.2.1 H.2.2) X Y Z
 even:ToldOk (fHsv2 (add H.1 s) V.2.1 V.2.2) X Y Z
abbrev TurnOk (x y z sx wh X Y Z:Int):Prop:=TurnF (fC x wh) (fC y wh) (fC z wh) (fmax3 (fC x wh) (fC y wh) (fC z wh)) (fmin3 (fC x wh) (fC y wh) (fC z wh)) (fHls (fC x wh) (fC y wh) (fC z wh)) (fHsv (fC x wh) (fC y wh) (fC z wh)) (fQuo sx 6) X Y Z
end Mine
end
section
open PySem PySem.W PySem.Calls PySem.Spec PyProof.Rows Mine
open _root_.PySem.Float64 (add sub mul div isZero isFinite)
namespace Nw
variable {fs:Fs}{c:Cx}
noncomputable abbrev sL3 (x y z:Int):SO:=.L [.i x,.i y,.i z]
noncomputable abbrev LR (x y z:Int):Int:=min x (min y z)
abbrev lft (x y z:Int):SO:=sL3 (x - LR x y z) (y - LR x y z) (z - LR x y z)
def tb1:Tab:=⟨[],[],[],[EO]⟩
theorem BS (w:aB)(x y z:Int):Con w 298 3 PH [.G (sL3 x y z)] [.r 0] (.r 1) [] [lft x y z]:=by
 refine f5 (k:=2) (T:=tb1) (ext:=extC []) 0 [(aa "parts",.r 0)] (by kernel_rfl) (to λu=>by kernel_rfl) (by kernel_rfl) (λj y e hw=>(no_one j y e hw).elim) (λc U U U O=>have G:CtOk _ c tb1:=⟨aW (Am O) cE,dz⟩; ⟨O,G,λU U=>eY O G⟩) λc hw hn hP hN U=>?_;exact Run.rt (.r 2) [lft x y z] [] (by kernel_rfl) PI (hP _ _ [2] (by kernel_rfl))
def Bb (a:aj)(g:UInt64->UInt64->UInt64->UInt64×UInt64×UInt64)(C:UInt64->UInt64->UInt64->List Prop):CallR:=⟨.ref a,λOs ps=>(Hi ps).bind λl=>(jS l).map λq=>(.r Os.length,[kU (g q.1 q.2.1 q.2.2)],C q.1 q.2.1 q.2.2)⟩
theorem ot {a:aj}{g:UInt64->UInt64->UInt64->UInt64×UInt64×UInt64}{C:UInt64->UInt64->UInt64->List Prop}{k:Nat}(hk:k<=c.k)(hd:dN c.w a)(O:c.Ok fs)(H:∀ x y z,Al (C x y z)->Con c.w a k PH [] [.f x,.f y,.f z] (.r 0) [] [kU (g x y z)]):b8 fs c (Bb a g C):=⟨dk O hd rfl,λ{Os ps q} e hC V m as h vs i hv E Q t hq=>by
 refine bU λG1 hG1=>?_;refine ak e λl e1 e2=>?_;refine aZ e2 λz e3 eq9=>?_;subst eq9;refine hG1 ?_;rw[Ba e1,f9 e3] at hv;exact Con.call (H _ _ _ hC) rfl hk (λz=>nomatch z) O i Giv.nil lw (kG (fi:=[]) (as:=as) (bs:=[]) (λU q=>nomatch q) rfl hv) rfl rfl hq⟩
def j6:CallR:=⟨.ref 298,λOs ps=>(one ps).bind λp=>p.ref?.bind λj=>(Os[j]?).bind λx=>x.core.lst?.bind λl=>(Ci l).bind λz=>(jS z).map λq=>(.r Os.length,[lft q.1 q.2.1 q.2.2],[])⟩
theorem jj (hk:3<=c.k)(O:c.Ok fs):b8 fs c j6:=⟨dk O (show dN c.w 298 by kernel_rfl) rfl,λ{Os ps q} e hC V m as h vs i hv E Q t hq=>by
 refine ak e λp e1 h1=>?_;refine ak h1 λj e2 h2=>?_;refine ak h2 λx e3 h3=>?_;refine ak h3 λl e4 h4=>?_;refine ak h4 λz e5 h5=>?_;refine aZ h5 λr e6 eq9=>?_;subst eq9;have lv:x.live:=by cases x<;>first | trivial | exact nomatch e4
 have e4:=SO.lst_is e4;rw[mz e5,f9 e6] at e4;rw[one_is e1,PV.ref_is e2] at hv;obtain⟨u,s,rfl,hu,h0⟩:=hv;cases h0;obtain⟨D,rfl,g⟩:=Giv.one (y:=sL3 r.1 r.2.1 r.2.2) i e3 lv (by rw[e4]; rfl) hu;exact Con.call (BS c.w _ _ _) rfl hk (λz=>nomatch z) O i g no_one ⟨_,[],rfl,⟨D,rfl,rfl⟩,rfl⟩ rfl rfl hq⟩
abbrev HV (x y z:UInt64):List Prop:=[isZero (sub (fmax3 x y z) (fmin3 x y z))=PG->feq (fmin3 x y z) (fmax3 x y z)=PG,isZero (add (fmax3 x y z) (fmin3 x y z))=PG->feq (fmin3 x y z) (fmax3 x y z)=PG,isZero (sub (sub 4611686018427387904 (fmax3 x y z)) (fmin3 x y z))=PG->feq (fmin3 x y z) (fmax3 x y z)=PG]
abbrev HU (x y z:UInt64):List Prop:=[isZero (sub (fmax3 x y z) (fmin3 x y z))=PG->feq (fmin3 x y z) (fmax3 x y z)=PG,isZero (fmax3 x y z)=PG->feq (fmin3 x y z) (fmax3 x y z)=PG]
noncomputable abbrev Fn (x y z:UInt64):List Prop:=[isFinite (mul x 4618441417868443648)=PG,¬ (2 ^ 1024 - 2 ^ 970<=(ce bH (mul x 4618441417868443648)).natAbs)]
def tbT:Tab:=⟨[],[],[],[j6,Bb 87 fHls HV,Bb 94 fHls2 λU U U=>[],Bb 108 fHsv HU,Bb 115 fHsv2 Fn,GJ]⟩
theorem wkT (hk:3<=c.k)(O:c.Ok fs):Wk.Okc ⟨fs,tbT,extC []⟩ c:=
 have k1:1<=c.k:=ar (by decide) hk;have k2:2<=c.k:=ar (by decide) hk
 have G:CtOk fs c tbT:=⟨aW (jj hk O) (aW (ot (C:=HV) k1 (show dN c.w 87 by kernel_rfl) O λx y z h=>Ko _ x y z h.1 h.2.1 h.2.2.1) (aW (ot k2 (show dN c.w 94 by kernel_rfl) O λx y z U=>HT _ x y z)
  (aW (ot (C:=HU) k1 (show dN c.w 108 by kernel_rfl) O λx y z h=>HS _ x y z h.1 h.2.1) (aW (ot (C:=Fn) k1 (show dN c.w 115 by kernel_rfl) O λx y z h=>HQ _ x y z h.1 h.2.1) (aW xB cE))))),dz⟩
 ⟨O,G,λU U=>eY O G⟩
end Nw
end
section
open PySem PySem.W PySem.Calls PySem.Spec PyProof.Rows
namespace Mine
noncomputable def ownStep (p:Int×List Int):Int×List Int:=if p.1≠0/\p.1≠-1 then(p.1.fdiv 3,p.2++[p.1.fmod 3]) else p
def ownRun (n:Int):Nat->Int×List Int
 | 0=>(n,[])
 | i+1=>ownStep (ownRun n i)
theorem lu (n:Int)(i:Nat):(ownRun n i).2.length<=i:=by
 induction i with
 | zero=>exact aI _
 | succ i ih=>
  refine(?_:(ownStep _).2.length<=_);unfold ownStep
  split
  ·exact ar (bq aJ) (fU ih)
  ·exact cq ih
noncomputable def HX (k:Int)(p:Int×Int×Int):Int×Int×Int:=if k=0 then(p.1+1,p.2.1,p.2.2) else if k=1 then(p.1,p.2.1+1,p.2.2) else(p.1,p.2.1,p.2.2+1)
def bumps (T:Int)(p:Int×Int×Int):Nat->Int×Int×Int
 | 0=>p
 | j+1=>HX ((T+(j:Int)).fmod 3) (bumps T p j)
def vp (p:(Int×Int×Int)×Int)(f:Int):(Int×Int×Int)×Int:=
 (bumps p.2 (2*p.1.1+p.1.2.2,2*p.1.2.1+p.1.1,2*p.1.2.2+p.1.2.1) f.toNat,p.2+if f=1 then 1 else 0)
abbrev xm (n c:Int):(Int×Int×Int)×Int:=((if(0:Int)=c then(ownRun n 12).1 else 0,if(1:Int)=c then(ownRun n 12).1 else 0,if(2:Int)=c then(ownRun n 12).1 else 0),c)
theorem vo (n:Int)(i:Nat):∀ d∈(ownRun n i).2,0<=d/\d<=2:=by
 induction i with
 | zero=>intro d hd; cases hd
 | succ i ih=>
  refine(?_:∀ d∈(ownStep _).2,_);unfold ownStep
  split
  ·intro d hd;rcases bf.mp hd with h | h
   ·exact ih d h
   ·rw[ay.mp h];have a:=bu (ownRun n i).1 (show(0:Int)<3 by decide);have b:=bJ (ownRun n i).1 (show(0:Int)<3 by decide);exact⟨a,de b⟩
  ·exact ih
theorem ux (a:Int):a.fmod 3=0\/a.fmod 3=1\/a.fmod 3=2:=by
 have h:=bu a (show(0:Int)<3 by decide);have h2:=bJ a (show(0:Int)<3 by decide);exact c3 h h2
def ownRes (n c:Int):(Int×Int×Int)×Int:=(ownRun n 12).2.reverse.foldl vp (xm n c)
end Mine
end
section
open PySem PySem.W PySem.Calls PySem.Spec PyProof.Rows Mine
namespace Nw
variable {fs:Fs}{c:Cx}{n:Nat}
def tbO:Tab:=⟨[ln],[zC],[],[j6]⟩
theorem wkO (hk:3<=c.k)(O:c.Ok fs):Wk.Okc ⟨fs,tbO,extC [fy]⟩ c:=have G:CtOk fs c tbO:=⟨aW (jj hk O) cE,am.mpr ⟨PI,dz⟩⟩; ⟨O,G,λU U=>eY O G⟩
theorem Li:Al [0<=(12:Int),(12:Int)<2 ^ 62]:=⟨by decide,by decide,PI⟩
theorem rg3:Al [0<=(3:Int),(3:Int)<2 ^ 62]:=⟨by decide,by decide,PI⟩
theorem yH {l:List Int}{i:Nat}{f:Int}(e:l[i]?=PD f)(p:(Int×Int×Int)×Int):(l.take (i+1)).foldl vp p=vp ((l.take i).foldl vp p) f:=by
 rw[d5,e,jp]; rfl
noncomputable abbrev i3 (z:Int):List Prop:=[-((3:Nat):Int)<=z,z<((3:Nat):Int)]
theorem rM {z:Int}(h:-3<=z/\z<3){r:List Prop}(hr:Al r):Al (i3 z++r):=⟨h.1,h.2,hr⟩
abbrev Ja (a b d:Int):List Prop:=[(0:Int)<=3,(3:Int)<2 ^ 62]++(i3 ((0:Nat):Int)++(IntMulOk 2 a :: (i3 (((0:Nat):Int) - 1)++(i3 ((1:Nat):Int)++(IntMulOk 2 b :: (i3 (((1:Nat):Int) - 1)++(i3 ((2:Nat):Int)++(IntMulOk 2 d :: (i3 (((2:Nat):Int) - 1)++[])))))))))
theorem Ga (a b d:Int):Al (Ja a b d):=⟨by decide,by decide,rM (by decide) ⟨yx a,rM (by decide) (rM (by decide) ⟨yx b,rM (by decide) (rM (by decide) ⟨yx d,rM (by decide) PI⟩)⟩)⟩⟩
noncomputable abbrev L3 (p:Int×Int×Int):SO:=.L [.i p.1,.i p.2.1,.i p.2.2]
theorem HW (k x y z:Int)(h:k=0\/k=1\/k=2):SO.L (([x,y,z].set k.toNat ([x,y,z].getD k.toNat 0+1)).map .i)=L3 (HX k (x,y,z)):=by rcases h with rfl | rfl | rfl<;>rfl
theorem Ej (a:Int):Al [(3:Int)≠0,0<=a.fmod 3,a.fmod 3<((3:Nat):Int),a.fmod 3<2 ^ 63]:=⟨Iq,by rcases ux a with e | e | e<;>rw[e]<;>exact⟨by decide,by decide,by decide,PI⟩⟩
theorem on {x y a b:Int}:(if x == y then a else b)=if x=y then a else b:=by
 by_cases h:x=y
 ·rw[if_pos h,if_pos (beq_iff_eq.mpr h)]
 ·rw[if_neg h,if_neg (λq=>h (beq_iff_eq.mp q))]
theorem Kn (w:aB)(n c:Int)(h0:-1024<=n)(h1:n<=1024)(c0:0<=c)(c1:c<=2):Con w 318 4 PH [] [.i n,.i c] (.r 0) [] [.T [.r 1,.i ((ownRes n c).2 - c)],lft (ownRes n c).1.1 (ownRes n c).1.2.1 (ownRes n c).1.2.2]:=by
 refine f5 (k:=3) (T:=tbO) (ext:=extC [fy]) 0 [(aa "number",.i n),(aa "third",.i c)] (by kernel_rfl) (p9 λu v=>by kernel_rfl) (by kernel_rfl) fG (λc U hk U O=>wkO (bq hk.symm) O) λcx hw hn hP hN U=>?_;let Q:Option PV->Int->List SO->List SO:=λp N O=>[.C p,.C (PD (.i c)),.C (PD (.i N))]++O;refine Run.blk 1 [nm "figures" (.r 3)] (Q PF n [.L []]) [] (by kernel_rfl) PI ?_;refine Run.lp (α:=Unit) [fy] (.one (aa "turn")) ((bz 12).map λi=>.one (.i (i:Nat))) [] _ [] [] (λU U=>[nm "figures" (.r 3)]) (λi U=>Q PF (ownRun n i).1 [.L ((ownRun n i).2.map .i)]) (λU U=>True) (λU U=>False) () (by kernel_rfl) Li rfl (λU U=>rfl) rfl (by rw[hn]; rfl) rfl rfl PI (λi x U os c' w' n' P' N' B' ex U=>?_) (λU U=>?_) (λU U q=>q.elim)
 ·obtain⟨rfl,hi⟩:=o9 ex;refine⟨[nm "figures" (.r 3),nm "turn" (.i (i:Nat))],Q PF (ownRun n i).1 [.L ((ownRun n i).2.map .i)],rfl,by kernel_rfl,?_⟩
  have fin:∀ p:Int×List Int,ownRun n (i+1)=p->Run (wkAt w 318 0 tbO (extC [fy])) c' [nm "figures" (.r 3),nm "turn" (.i (i:Nat))] (Q PF p.1 [.L (p.2.map .i)]) [(yz ((bn w 318).drop 1)).tail]:=λp e=>
   Run.ns [aa "figures"] [nm "figures" (.r 3)] (by kernel_rfl) (Run.fe (by kernel_rfl) (N' () PI) rfl (by subst e; kernel_rfl))
  refine Run.ifN ((ownRun n i).1 != 0&&((ownRun n i).1 != -1&&PG)) [] (by kernel_rfl) PI (λht=>?_) (λhf=>?_)
  ·rw[mH,aq,bne_iff_ne,bne_iff_ne] at ht;have hC:Al [(3:Int)≠0,((ownRun n i).2.map PV.i).length<=1000,(3:Int)≠0,aC (ownRun n i).1 3=PH]:=⟨Iq,by rw[aA]; exact ar (lu n i) (ar (bN hi) (by decide)),Iq,KJ _,PI⟩;refine Run.blk 2 [nm "figures" (.r 3),nm "turn" (.i (i:Nat))] (Q PF ((ownRun n i).1.fdiv 3) [.L ((ownRun n i).2.map .i++[.i ((ownRun n i).1.fmod 3)])]) _ (by kernel_rfl) hC ?_;refine Run.nl (by kernel_rfl) (Run.cast (Q PF ((ownRun n i).1.fdiv 3) [.L (((ownRun n i).2++[(ownRun n i).1.fmod 3]).map .i)]) (by rw[eZ]; rfl) (fin _ (if_pos ht))) λq=>nomatch q
  ·refine fin _ (if_neg λq=>?_);rw[mH,bne_iff_ne.mpr q.1,bne_iff_ne.mpr q.2] at hf; cases hf
 ·generalize hN0:(ownRun n 12).1=N0;generalize hF0:(ownRun n 12).2=fg;have hlen:fg.length<=12:=hF0▸lu n 12;have hdig:∀ d∈fg,0<=d/\d<=2:=hF0▸vo n 12;let p0:Int:=if((0:Nat):Int) == c then N0 else 0
  let p1:Int:=if((1:Nat):Int) == c then N0 else 0
  let p2:Int:=if((2:Nat):Int) == c then N0 else 0
  refine(?_:Run _ _ [nm "figures" (.r 3)] (Q PF (ownRun n 12).1 [.L ((ownRun n 12).2.map .i)]) _);rw[hN0,hF0];refine Run.blk 2 [nm "figures" (.r 3),nm "turns" (.i c)] (Q (PD (.r 4)) N0 [.L (fg.map .i),.L [.i p0,.i p1,.i p2]]) _ (by kernel_rfl) rg3 ?_;let G:(Int×Int×Int)×Int->List SO:=λp=>Q (PD (.r 4)) N0 [.L (fg.map .i),.L [.i p.1.1,.i p.1.2.1,.i p.1.2.2],.L (fg.map .i).reverse];have hL:Al [(fg.map PV.i).length<=sizeLine]:=⟨by rw[aA]; exact ar hlen (by decide),PI⟩;refine Run.lp [fy] (.one (aa "figure")) ((fg.map .i).reverse.map .one) [.L (fg.map .i).reverse] _ [5] [5] (λU p=>[nm "figures" (.r 3),nm "turns" (.i p.2)]) (λU p=>G p) (λi p=>p=(fg.reverse.take i).foldl vp ((p0,p1,p2),c)) (λU U=>False) ((p0,p1,p2),c) (by kernel_rfl) hL rfl (λU U=>rfl) rfl (by rw[hn]; rfl) rfl rfl rfl (λi x p os c' w' n' P' N' B' ex hp=>?_) (λp hp=>?_) (λU U q=>q.elim)
  ·rw[<- gT] at ex;obtain⟨f,rfl,ef⟩:=EL ex;have hf:=hdig f (oF.mp (dr ef));obtain⟨⟨a,b,d⟩,T⟩:=p;let R:PV->List SO->List SO:=λr O=>[.C (PD r),.C (PD (.i c)),.C (PD (.i N0)),.L (fg.map .i),.L [.i a,.i b,.i d],.Z (os 5) (.L (fg.map .i).reverse)]++O;refine⟨[nm "figures" (.r 3),nm "turns" (.i T),nm "figure" (.i f)],R (.r 4) [],rfl,by kernel_rfl,?_⟩;refine Run.blk 1 [nm "figures" (.r 3),nm "turns" (.i T),nm "figure" (.i f)] (R (.r 6) [.L [.i (2*a+d),.i (2*b+a),.i (2*d+b)]]) _ (by kernel_rfl) (Ga a b d) ?_;have hR:Al [0<=f,f<2 ^ 62]:=⟨hf.1,NJ hf.2 (by decide),PI⟩;refine Run.lp (α:=Unit) [fy] (.one (aa "place")) ((bz f.toNat).map λi=>.one (.i (i:Nat))) [] _ [] [5] (λU U=>[nm "figures" (.r 3),nm "turns" (.i T),nm "figure" (.i f)]) (λj U=>R (.r 6) [L3 (bumps T (2*a+d,2*b+a,2*d+b) j)]) (λU U=>True) (λU U=>False) () (by kernel_rfl) hR rfl (λU U=>rfl) rfl (by rw[n']; rfl) rfl rfl PI (λj x U os2 c2 w2 n2 P2 N2 B2 ex U=>?_) (λU U=>?_) (λU U q=>q.elim)
   ·obtain⟨rfl,hj⟩:=o9 ex;refine⟨[nm "figures" (.r 3),nm "turns" (.i T),nm "figure" (.i f),nm "place" (.i (j:Nat))],R (.r 6) [L3 (bumps T (2*a+d,2*b+a,2*d+b) j)],rfl,by kernel_rfl,?_⟩;have hN:=N2 () PI;rw[show bumps T (2*a+d,2*b+a,2*d+b) (j+1)=HX ((T+(j:Int)).fmod 3) (bumps T (2*a+d,2*b+a,2*d+b) j) from rfl] at hN;generalize bumps T (2*a+d,2*b+a,2*d+b) j=q at hN⊢;obtain⟨x,y,z⟩:=q;refine Run.blk 1 [nm "figures" (.r 3),nm "turns" (.i T),nm "figure" (.i f),nm "place" (.i (j:Nat))] (R (.r 6) [.L (([x,y,z].set ((T+(j:Int)).fmod 3).toNat ([x,y,z].getD ((T+(j:Int)).fmod 3).toNat 0+1)).map .i)]) _ (by kernel_rfl) (Ej (T+(j:Int))) ?_;rw[HW _ _ _ _ (ux _)];exact Run.ns [aa "figures",aa "turns",aa "figure"] [nm "figures" (.r 3),nm "turns" (.i T),nm "figure" (.i f)] (by kernel_rfl) (Run.fe (by kernel_rfl) hN rfl (by kernel_rfl))
   ·rw[aA,gC];refine Run.blk 1 [nm "figures" (.r 3),nm "turns" (.i (T+if f == 1 then 1 else 0)),nm "figure" (.i f)] (R (.r 6) [L3 (bumps T (2*a+d,2*b+a,2*d+b) f.toNat)]) [] (by kernel_rfl) PI ?_;refine Run.gc [0,1,2,3,6,5] [] [aa "figures",aa "turns"] [5] [nm "figures" (.r 3),nm "turns" (.i (T+if f == 1 then 1 else 0))] [.C (PD (.r 4)),.C (PD (.i c)),.C (PD (.i N0)),.L (fg.map PV.i),L3 (bumps T (2*a+d,2*b+a,2*d+b) f.toNat),.Z (os 5) (.L (fg.map PV.i).reverse)] n' (by kernel_rfl) (by kernel_rfl) (km rfl (by kernel_rfl) (km rfl (by kernel_rfl) (km rfl (by kernel_rfl) (km rfl (yF _ _) (km rfl (by kernel_rfl) (km rfl (JD _ _ _) JF)))))) ?_;rw[on];exact Run.fe (by kernel_rfl) (N' (vp ((a,b,d),T) f) (by rw[yH ef,<- hp])) rfl (by kernel_rfl)
  ·rw[aA,bV,aA,<- bV,dK] at hp;obtain⟨⟨a,b,d⟩,T⟩:=p
   have hr:ownRes n c=((a,b,d),T):=by
    rw[hp]; unfold ownRes xm;rw[hN0,hF0,<- on,<- on,<- on]; rfl
   rw[hr] at hP;exact Run.rt (.r 7) [lft a b d,.T [.r 6,.i (T - c)]] [] (by kernel_rfl) PI (hP _ _ [7,6] (by kernel_rfl))
def ZT (c:Cx)(_:List aj)(_:aL):Prop:=ju c.s₀.gens/\c.hv=PF
theorem ZT.gs (c:Cx)(as₀:List aj)(h:aL)(z:ZT c as₀ h):gR c.s₀ c.s₀:=gR.rfl z.1
theorem Frm.t {tb:Bool}{Os₀:List SO}(F:Frm gR ZT tb Os₀ c):c.hv=PF/\∃ s,c.gs=gR s:=F.ex.elim λU q=>q.elim λU q=>q.elim λU q=>⟨q.2.1.trans q.1.2,_,q.2.2.1⟩
def tbS:Tab:=⟨[],[oY],[Ay],[Dr,xz]⟩
abbrev ex0:Fs->Tab->aB->Vm->EV->EV:=λ_ _ _ _=>ta
theorem K6 (O:c.Ok fs):Wk.Okc ⟨fs,tbS,ex0⟩ c:=⟨O,⟨aW sT (aW mo cE),dz⟩,λU U=>kK⟩
noncomputable def opP (o:Option Nat):PV:=o.elim (.v .none) λn=>.i (n:Int)
abbrev vS (t:Str)(s:Sst)(r:Vm):Vm:=nm "addr" (.s t) :: nm "start" (.i (s.start:Int)) :: nm "open_pos" (opP s.op) :: nm "result" (.r 0) :: r
noncomputable abbrev oS (l:List Str):List SO:=[.L (l.map .s)]
noncomputable abbrev M0:List Str:=[aa "addr",aa "start",aa "open_pos",aa "result"]
theorem xq (l:List Str)(x:Str):[SO.L (l.map .s++[.s x])]=oS (l++[x]):=by rw[show oS (l++[x])=[SO.L ((l++[x]).map .s)] from rfl,eZ]; rfl
theorem Ge {l:List Str}{j:Nat}{x:SO}(e:(oS l)[j]?=PD x):([0]:List Nat).contains j=PG:=by cases j<;>first | rfl | cases e
theorem EB {t:Str}{s:Sst}(hs:s=sRun t ((Mine.items t).take n))(hlen:t.length<=1000):s.res.length<=1000/\∀ x∈s.res,x.length<=1000:=by
 have b:=FQ t (min n (Mine.items t).length)
 have e:(Mine.items t).take (min n (Mine.items t).length)=(Mine.items t).take n:=by
  rcases Nat.le_total n (Mine.items t).length with h | h
  ·rw[kP h]
  ·rw[Nat.min_eq_right h,dK,cz h]
 rw[e,<- hs] at b;exact⟨ar b.b3 (ar (qL _ _) (ar (yD t) hlen)),λx hx=>ar (b.b4 x hx) hlen⟩
theorem yh {t:Str}{s:Sst}{x:Nat×Str}(hs:s=sRun t ((Mine.items t).take n))(e:(Mine.items t)[n]?=PD x):sStep t s x=sRun t ((Mine.items t).take (n+1)):=by
 rw[d5,e,sRun,jp,hs]; rfl
theorem Ez (l:List Str):Cf (l.map .s)=l:=by unfold Cf; rw[List.filterMap_map]; exact List.filterMap_some
theorem xy (h:n<=1000):n<=sizeLine:=ar h (by decide)
theorem qr (w:aB):nsIn (hd.heap_39 w.params) mainGlobals (aa "enumerate")=PD PF:=by kernel_rfl
theorem BE (w:aB):dN w 122:=by kernel_rfl
theorem EE (w:aB):(fdAt w 122).scope.isCoroutine=PH/\(fdAt w 122).scope.isGenerator=PG/\(fdAt w 122).scope.kind=.function/\((fdAt w 122).scope.names.all λx=>x.2 != .cell)=PG:=⟨by kernel_rfl,by kernel_rfl,by kernel_rfl,by kernel_rfl⟩
theorem EN (w:aB):(fdAt w 122).scope.names.lookup (aa "addr")=PD .local/\(fdAt w 122).scope.names.lookup (aa "enumerate")=PD .globalImplicit/\(fdAt w 122).scope.names.lookup (aa "pos")=PD .local/\(fdAt w 122).scope.names.lookup (aa "escape")=PD .local/\(fdAt w 122).scope.names.lookup (aa "ch")=PD .local:=⟨by kernel_rfl,by kernel_rfl,by kernel_rfl,by kernel_rfl,by kernel_rfl⟩
theorem Fq (w:aB)(u:af):bindArgs (pS (fdAt w 122)) ⟨[u],[]⟩=pure [(aa "addr",u)]:=by kernel_rfl
theorem Fk (w:aB):codeIn (hd.heap_39 w.params) (fdAt w 122).code (fdAt w 122).qualname=PG:=by kernel_rfl
theorem Eg (w:aB)(t:Str)(hasc:t.cps.all (·<128)=PG)(hlen:t.length<=1000):ConY gR ZT w 129 2 PH [] [.s t] (.s (stripT t)) [] []:=by
 refine tf (k:=1) (T:=tbS) (ext:=ex0) 0 [nm "addr" (.s t)] ZT.gs (by kernel_rfl) (to λu=>by kernel_rfl) (by kernel_rfl) fG (λc U U U O=>K6 O) λcx hw hn hP hN hq=>?_;obtain⟨_,_,_,htb,hF⟩:=hq;obtain⟨hh,hg⟩:=hF.t;refine Run.ifN (!!(aT t dq 0 t.length 1).isEmpty) [] (by kernel_rfl) PI (λhx=>?_) (λhx=>?_)
 ·rw[u7] at hx;exact Run.rt (.s t) [] [] (by kernel_rfl) PI (hP _ _ [] (by rw[stripT,if_pos hx]; rfl))
 rw[u7] at hx;refine Run.blk 3 (vS t ⟨0,PF,[]⟩ []) (oS []) [] (by kernel_rfl) PI ?_;refine Run.lpN (α:=Sst) (.tup [aa "pos",aa "ch"]) t [0] (λU s=>vS t s []) (λU s=>oS s.res) (λn s=>s=sRun t ((Mine.items t).take n)) (λU U=>False) ⟨0,PF,[]⟩ hh htb hg hasc (hw▸qr _) (hw▸BE _) (hw▸Fk _) (hw▸EE _) (hw▸EN _) (hw▸Fq _) (by kernel_rfl) (λU U U U e U=>Ge e) rfl (by rw[hn]; rfl) rfl rfl rfl (λn p ch s c' w' n' P' N' B' ex hs=>?_) (λs hs=>?_) λU U q=>q.elim
 ·obtain⟨l1,l2⟩:=EB hs hlen;have hst:=yh hs ex;clear hs
  have fin:∀ s':Sst,sStep t s (p,ch)=s'->∀ r O,O=oS s'.res->CN (vS t s' r) M0=PD (vS t s' [])->Run (wkAt w 129 0 tbS ex0) c' (vS t s' r) O [(yz ((bn w 129).drop 4)).tail]:=λs' e r O hO hV=>
   hO▸Run.ns M0 _ hV (Run.fe (by kernel_rfl) (N' s' (e▸hst)) rfl rfl)
  obtain⟨st,op,res⟩:=s;refine⟨vS t ⟨st,op,res⟩ [nm "pos" (.i (p:Int)),nm "ch" (.s ch)],oS res,by kernel_rfl,?_⟩;refine Run.ifN (ch == dq) [] (by kernel_rfl) PI (λhc=>?_) λhc=>fin ⟨st,op,res⟩ (if_neg (by show ¬ (ch == dq)=PG; rw[hc]; exact aP)) _ _ rfl (by kernel_rfl);cases op with
  | none=>
   refine Run.if PG [] [] (by kernel_rfl) PI (λU=>?_) λq=>nomatch q;refine Run.blk 1 (vS t ⟨st,PD p,res⟩ [nm "pos" (.i (p:Int)),nm "ch" (.s ch)]) (oS res) [] (by kernel_rfl) PI ?_;exact Run.nl (by kernel_rfl) (Run.nl (by kernel_rfl) (fin ⟨st,PD p,res⟩ (if_pos hc) _ _ rfl (by kernel_rfl)) λq=>nomatch q) λq=>nomatch q
  | some o=>
   refine Run.if PH [] [] (by kernel_rfl) PI (λq=>nomatch q) λU=>?_;have hC:Al [t.length<=sizeLine,(res.map PV.s).length<=1000]:=⟨xy hlen,by rw[aA]; exact l1,PI⟩;refine Run.ifJ ((st:Int) != (o:Int)) [] (λU=>vS t ⟨st,PD o,res⟩ [nm "pos" (.i (p:Int)),nm "ch" (.s ch)]) (λb=>bif b then[.L (res.map .s++[.s (ba t (PD (st:Int)) (PD (o:Int)))])] else oS res) (by kernel_rfl) PI (λU=>Way.blk 1 _ (by kernel_rfl) (by kernel_rfl) hC) (λU=>Way.blk 0 [] rfl (by kernel_rfl) PI) ?_;refine Run.cast (oS (if st=o then res else res++[ba t (PD (st:Int)) (PD (o:Int))])) ?_ ?_
   ·by_cases h:st=o
    ·subst h; rw[if_pos rfl,bne_self_eq_false]; rfl
    ·rw[if_neg h,show((st:Int) != (o:Int))=PG from bne_iff_ne.mpr (λq=>h (eK q))];exact xq _ _
   have es:sStep t ⟨st,PD o,res⟩ (p,ch)=⟨p+1,PF,if st=o then res else res++[ba t (PD (st:Int)) (PD (o:Int))]⟩:=if_pos hc;generalize (if st=o then res else res++[ba t (PD (st:Int)) (PD (o:Int))])=rs at es⊢;refine Run.blk 2 (vS t ⟨p+1,PF,rs⟩ [nm "pos" (.i (p:Int)),nm "ch" (.s ch)]) (oS rs) [] (by kernel_rfl) PI ?_;exact Run.nl (by kernel_rfl) (Run.nl (by kernel_rfl) (fin ⟨p+1,PF,rs⟩ es _ _ rfl (by kernel_rfl)) λq=>nomatch q) λq=>nomatch q
 ·obtain⟨l1,l2⟩:=EB hs hlen;rw[dK] at hs;have hs':s=sRun t (Mine.items t):=hs;clear hs;obtain⟨st,op,res⟩:=s;have hC:Al [t.length<=sizeLine,(res.map PV.s).length<=1000]:=⟨xy hlen,by rw[aA]; exact l1,PI⟩;refine Run.ifJ (decide ((st:Int)<(t.length:Int))) [(t.length:Int)<2 ^ 63] (λU=>vS t ⟨st,op,res⟩ []) (λb=>bif b then[.L (res.map .s++[.s (ba t (PD (st:Int)) PF)])] else oS res) (by kernel_rfl) ⟨NJ (dJ.mpr hlen) (by decide),PI⟩ (λU=>Way.blk 1 _ (by kernel_rfl) (by kernel_rfl) hC) (λU=>Way.blk 0 [] rfl (by kernel_rfl) PI) ?_
  have key:∀ l:List Str,l.length<=1001->(∀ x∈l,x.length<=1000)->stripT t=jV (aa "") l->Run (wkAt w 129 0 tbS ex0) cx (vS t ⟨st,op,res⟩ []) (oS l) [(bn w 129).drop 6]:=λl h1 h2 h3=>by
   refine Run.rt (.s (jV (aa "") (Cf (l.map PV.s)))) [] [l.map PV.s=(Cf (l.map PV.s)).map PV.s,((Cf (l.map PV.s)).map (·.length)).sum+(Cf (l.map PV.s)).length*(aa "").length<=16777216] (by kernel_rfl) ?_ (hP _ _ [] ?_)
   ·rw[Ez];refine⟨rfl,?_,PI⟩;exact ar (du (ar (zx l h2) (NQ _ h1)) (aI 0:l.length*0<=0)) (by decide)
   ·rw[Ez,h3]; rfl
  have hn0:¬ (aT t dq 0 t.length 1).isEmpty=PG:=by rw[hx]; exact aP
  by_cases h:(st:Int)<(t.length:Int)
  ·rw[decide_eq_true h];refine Run.cast (oS (res++[ba t (PD (st:Int)) PF])) (xq _ _) (key _ (by rw[aJ]; exact fU l1) (λx hx=>?_) ?_)
   ·rcases bf.mp hx with hx | hx
    ·exact l2 x hx
    ·rw[ay.mp hx]; exact ar (rC _ _ _) hlen
   ·rw[stripT,if_neg hn0,<- hs',if_pos h]
  ·rw[decide_eq_false h];exact key res (cq l1) l2 (by rw[stripT,if_neg hn0,<- hs',if_neg h])
section
variable {k:Wk}{c:Cx}{V V':Vm}{Os Os':List SO}{b:List aS}{bs:List (List aS)}{C:List Prop}{a:aj}{kk:Nat}{t:Str}{q:PV}
theorem uO {x:Str}{e:aw}{px p:Pos}{m:Str->Option af}{as:List aj}{h:aL}{tk:Nat}{Q E:af->ai->Prop}(O:k.Ok c)(i:Inv k.f c V m as Os h)(hx:ldF c.w k.f V Os x=PD (.v (.ref a)))(he:evF k c.w V Os e=PD (.s t,[],C))(hC:Al C)(hcl:gU c (.ref a))(hh:c.hv=PF)(hg:∃ s,c.gs=gR s)(K:ConY gR ZT c.w a kk PH [] [.s t] q [] [])(hk:kk<=c.k)
  (hq:∀ v h' tk' s',k.Ok (c.at s')->q.is as v->Inv k.f (c.at s') V m as Os h'->Q v (sh s' h' tk')):wpAny (MP c.w) (c.A k.f) (eval (.Call (.Name x px) [e] [] p) (c.env k.f)) Q E (sh c.s₀ h tk):=by
 obtain⟨s,hg⟩:=hg;have g0:=O.o.g0;rw[hg] at g0;refine p7 O i hx he hC hcl λv h1 tk1 hv i1=>K k.f c V m as Os h1 rfl hk (λz=>nomatch z) O.o i1 [] Giv.nil ⟨g0.bare,hh⟩ [v] ⟨v,[],rfl,hv,rfl⟩ E Q tk1 λv bs h2 tk2 s2 gs hv A=>?_;have hb:bs=[]:=bE.mp A.nw.len;subst hb;have kp:∀ b o,h1.get? b=PD o->h2.get? b=PD o:=λb o e=>A.kp b o (λj y e1 U=>by cases j<;>cases e1) (λz=>nomatch z) e;have i2:=i1.keep (i1.F.keeps kp) λb o U e=>kp b o e;exact hq v h2 tk2 s2 (O.at (hg▸g0.trans gs)) (PV.is.up (as:=[]) hv) ⟨i2.F,i2.M,i2.C,i2.len,i2.ob,i2.nd,i2.t1,i2.t2,i2.pf,i2.pn⟩
def Lv (k:Wk)(w:aB)(V:Vm)(Os:List SO)(b:List aS):Option (af×Str×Str×List Prop):=(nV b).bind λq=>(lB q.1).bind λx=>(hC1 q.2).bind λr=>(ldF w k.f V Os r.1).bind λu=>u.val?.bind λv=>(evF k w V Os r.2).bind λa=>if a.2.1.isEmpty=PG then a.1.str?.map λt=>(v,x,t,a.2.2) else PF
theorem Run.gcN (x:Str)(he:Lv k c.w V Os b=PD (.ref a,x,t,C))(hC:Al C)(hcl:∀ s,k.Ok (c.at s)->gU c (.ref a))(hh:c.hv=PF)(hg:∃ s,c.gs=gR s)(K:ConY gR ZT c.w a kk PH [] [.s t] q [] [])(hk:kk<=c.k)(hs:nO k.f V Os x q=PD (V',Os'))(h:Run k c V' Os' (b.tail :: bs)):Run k c V Os (b :: bs):=
 ak he λq0 e1 he=>ak he λx' e2 he=>ak he λr e3 he=>ak he λu e4 he=>ak he λv e5 he=>ak he λal e6 he=>iteE he λe7 he=>aZ he λt' e8 eq=>(gM e1).elim λpos e9=>(nam_is e2).elim λpx e2=>by
  obtain⟨py,pz,e3⟩:=pO e3;have ev:v=.ref a:=(congrArg (·.1) eq).symm;have ex:x=x':=congrArg (·.2.1) eq;have ea:al=(.s t,[],C):=gz ((PV.str_is e8).trans (congrArg PV.s (congrArg (·.2.2.1) eq).symm)) (gz (aX.mp e7) (congrArg (·.2.2.2) eq).symm);rw[PV.val_is e5,ev] at e4;rw[ea] at e6;rw[e2,e3,<- ex] at e9;rw[e9];refine .of λ{s} O as h1 tk m i=>bc (dH (uO O i e4 e6 hC (hcl s O) hh hg K hk λv h2 tk2 s2 O2 hv i2=>setN_ok (c:=c.at s2) O2.o hs i2 hv λh3 tk3 m3 i3=>h.at O2 i3) rfl)
def Je (e:aw):Option aw:=(vw e).un?.bind λq=>if q.1=.Not then PD q.2 else PF
theorem Gg {e x:aw}(h:Je e=PD x):∃ p,e=.UnaryOp .Not x p:=ak h λq e1 h=>iteE h λho h=>(un_is e1).elim λp e2=>⟨p,by rw[e2,ho,ac h]⟩
def Lx (k:Wk)(w:aB)(V:Vm)(Os:List SO)(b:List aS):Option (af×Str×List Prop):=(EZ b).bind λq=>if q.2.2.isEmpty=PG then(Je q.1).bind λn=>(hC1 n).bind λr=>(ldF w k.f V Os r.1).bind λu=>u.val?.bind λv=>(evF k w V Os r.2).bind λa=>if a.2.1.isEmpty=PG then a.1.str?.map λt=>(v,t,a.2.2) else PF else PF
theorem Run.gcI (x:Bool)(he:Lx k c.w V Os b=PD (.ref a,t,C))(hC:Al C)(hcl:∀ s,k.Ok (c.at s)->gU c (.ref a))(hh:c.hv=PF)(hg:∃ s,c.gs=gR s)(K:ConY gR ZT c.w a kk PH [] [.s t] (.v (.bool x)) [] [])(hk:kk<=c.k)(h1:x=PH->Run k c V Os (thn b :: b.tail :: bs))(h2:x=PG->Run k c V Os (b.tail :: bs)):Run k c V Os (b :: bs):=
 ak he λq0 e1 he=>iteE he λe0 he=>ak he λn e2 he=>ak he λr e3 he=>ak he λu e4 he=>ak he λv e5 he=>ak he λal e6 he=>iteE he λe7 he=>aZ he λt' e8 eq=>(pN e1).elim λpos e9=>(Gg e2).elim λpx e2=>by
  obtain⟨py,pz,e3⟩:=pO e3;have ev:v=.ref a:=(congrArg (·.1) eq).symm;have ea:al=(.s t,[],C):=gz ((PV.str_is e8).trans (congrArg PV.s (congrArg (·.2.1) eq).symm)) (gz (aX.mp e7) (congrArg (·.2.2) eq).symm);rw[PV.val_is e5,ev] at e4;rw[ea] at e6;rw[thn,e1] at h1;rw[e2,e3,aX.mp e0] at e9;rw[e9];refine .of λ{s} O as h3 tk m i=>bc (rl (wpAny_isTrue_Not (rm (uO O i e4 e6 hC (hcl s O) hh hg K hk λv h4 tk2 s2 O2 hv i2=>?_))));rw[show v=.bool x from hv];refine cK ?_;cases x with
  | true=>exact gy ((h2 rfl).at O2 i2)
  | false=>exact aU ((h1 rfl).at O2 i2) (λfl s q=>by cases fl<;>exact q) λU U q=>q
end
theorem Hw (w:aB):dN w 129:=by kernel_rfl
theorem Hv (w:aB):dN w 136:=by kernel_rfl
theorem r6 {k:Wk}{w:aB}{a:aj}(hw:c.w=w)(h:dN w a)(s:ai)(O:k.Ok (c.at s)):gU c (.ref a):=by subst hw; exact dk (c:=c.at s) O.o h rfl
abbrev vC (t:Str)(n:Int)(r:Vm):Vm:=nm "addr" (.s t) :: nm "opens" (.i n) :: r
noncomputable abbrev xsC:List Str:=[aa "addr",aa "opens"]
theorem Ei (w:aB)(t:Str)(h:TxOk t):ConY gR ZT w 136 5 PH [] [.s t] (.v (.bool (checkT t))) [] []:=by
 obtain⟨a1,l1,a2,l2⟩:=h;refine tf (k:=4) (T:=tbS) (ext:=ex0) 0 [nm "addr" (.s t)] ZT.gs (by kernel_rfl) (to λu=>by kernel_rfl) (by kernel_rfl) fG (λc U U U O=>K6 O) λcx hw hn hP hN hq=>?_;obtain⟨_,_,hk,htb,hF⟩:=hq;obtain⟨hh,hg⟩:=hF.t;subst hw;refine Run.gcN (a:=129) (t:=t) (C:=[]) (q:=.s (stripT t)) (V':=[nm "addr" (.s (stripT t))]) (Os':=[]) (aa "addr") (by kernel_rfl) PI (r6 rfl (Hw _)) hh hg (Eg _ t a1 l1) (hk▸by decide) (by kernel_rfl) ?_;refine Run.blk 1 (vC (stripT t) 0 []) [] [] (by kernel_rfl) PI ?_;have fin:∀ x,checkT t=x->cx.P (.v (.bool x)) []:=λx e=>hP _ _ [] (by rw[e]; rfl);have e0:checkT t=match cRun (Mine.items (stripT t)) 0 with | none=>PH | some n=>decide (n=0):=rfl
 generalize stripT t=u at a2 e0⊢;refine Run.lpN (α:=Int) (.tup [aa "pos",aa "ch"]) u [] (λU n=>vC u n []) (λU U=>[]) (λj n=>cRun ((Mine.items u).drop j) n=cRun (Mine.items u) 0) (λU U=>False) 0 hh htb hg a2 (qr _) (BE _) (Fk _) (EE _) (EN _) (Fq _) (by kernel_rfl) (λU U j U e U=>by cases j<;>cases e) rfl (by rw[hn]; rfl) rfl rfl rfl (λj p ch n c' w' n' P' N' B' ex hs=>?_) (λn hs=>?_) λU U q=>q.elim
 ·obtain⟨hj,ex⟩:=fX.mp ex;rw[List.drop_eq_getElem_cons hj,show(Mine.items u)[j]=(p,ch) from ex] at hs
  have fin':∀ n',cRun ((Mine.items u).drop (j+1)) n'=cRun (Mine.items u) 0->Run (wkAt cx.w 136 0 tbS ex0) c' (vC u n' [nm "pos" (.i (p:Int)),nm "ch" (.s ch)]) [] [(yz ((bn cx.w 136).drop 2)).tail]:=λn' e=>
   Run.ns xsC (vC u n' []) (by kernel_rfl) (Run.fe (by kernel_rfl) (N' n' e) rfl rfl)
  refine⟨vC u n [nm "pos" (.i (p:Int)),nm "ch" (.s ch)],[],by kernel_rfl,?_⟩;refine Run.if (ch == LP) [] [] (by kernel_rfl) PI (λhc=>?_) λhc=>?_
  ·refine Run.blk 1 (vC u (n+1) [nm "pos" (.i (p:Int)),nm "ch" (.s ch)]) [] [] (by kernel_rfl) PI ?_;exact Run.nl (by kernel_rfl) (fin' (n+1) ((if_pos hc).symm.trans hs)) λq=>nomatch q
  ·have hs:=(if_neg (by show ¬ (ch == LP)=PG; rw[hc]; exact aP)).symm.trans hs;refine Run.ifN (ch == Lg) [] (by kernel_rfl) PI (λhd=>?_) λhd=>?_
   ·have hs:=(if_pos hd).symm.trans hs;refine Run.blk 1 (vC u (n - 1) [nm "pos" (.i (p:Int)),nm "ch" (.s ch)]) [] [] (by kernel_rfl) PI ?_;refine Run.ifN (decide (n - 1<0)) [] (by kernel_rfl) PI (λhe=>?_) λhe=>?_
    ·have hs:=(if_pos (of_decide_eq_true he)).symm.trans hs;exact Run.rt (.v (.bool PH)) [] [] (by kernel_rfl) PI (P' _ _ (fin PH (by rw[e0,<- hs])))
    ·have hs:=(if_neg (of_decide_eq_false he)).symm.trans hs;exact Run.nl (by kernel_rfl) (Run.nl (by kernel_rfl) (fin' (n - 1) hs) λq=>nomatch q) λq=>nomatch q
   ·have hs:=(if_neg (by show ¬ (ch == Lg)=PG; rw[hd]; exact aP)).symm.trans hs;exact Run.nl (by kernel_rfl) (fin' n hs) λq=>nomatch q
 ·rw[oH] at hs;refine Run.rt (.v (.bool (n == 0))) [] [] (by kernel_rfl) PI (fin _ (by rw[e0,<- hs]; rfl))
noncomputable abbrev oP (xs ys:List Str):List SO:=[.G (.L (xs.map .s)),.L (ys.map .s)]
abbrev vP (r:Vm):Vm:=nm "email_header_fields" (.r 0) :: nm "accepted_values" (.r 1) :: r
theorem EF (σ:Nat->Option Nat):∀ l:List Str,tD σ (l.map .s)=PD (l.map .s)
 | []=>rfl
 | a :: r=>by show((PD (PV.s a)).bind λp=>_)=_; rw[ei,EF σ r]; rfl
theorem Km (w:aB)(xs:List Str)(hx:xs.length<=1000)(ok:∀ x∈xs,TxOk x):ConY gR ZT w 143 9 PH [.G (.L (xs.map .s))] [.r 0] (.r 1) [] [.L ((xs.map preT).map .s)]:=by
 refine tf (k:=8) (T:=tbS) (ext:=ex0) 0 [nm "email_header_fields" (.r 0)] ZT.gs (by kernel_rfl) (to λu=>by kernel_rfl) (by kernel_rfl) (λj y e hw=>(no_one j y e hw).elim) (λc U U U O=>K6 O) λcx hw hn hP hN hq=>?_;obtain⟨_,_,hk,htb,hF⟩:=hq;obtain⟨hh,hg⟩:=hF.t;subst hw;refine Run.blk 1 (vP []) (oP xs []) [] (by kernel_rfl) PI ?_;refine Run.lpG (α:=Unit) [] (.one (aa "v")) ((xs.map PV.s).map .one) [] [] [0] [0,1] (λU U=>vP []) (λn U=>oP xs ((xs.take n).map preT)) (λU U=>True) (λU U=>False) () (by kernel_rfl) PI rfl (λU U=>rfl) rfl (by rw[hn]; rfl) rfl rfl PI (λn x U os c' w' n' P' N' B' ex U hc=>?_) (λU U=>?_) λU U q=>q.elim
 ·obtain⟨hg',hh',hs⟩:=hc;rw[c8,aG] at ex;refine aZ ex λu eu eq=>?_;subst eq;have hu:=ok u (dr eu);have hl:(((xs.take n).map preT).map PV.s).length<=1000:=by rw[aA,aA,oG]; exact ar (qL _ _) hx
  have hN:=N' () PI;rw[d5,eu,eZ] at hN;generalize (xs.take n).map preT=ys at hN hl⊢;have hC:Al [(ys.map PV.s).length<=1000]:=⟨hl,PI⟩
  have fin:∀ y,preT u=y->Run (wkAt cx.w 143 1 tbS ex0) c' (vP [nm "v" (.s y)]) (oP xs ys) [(yz ((bn cx.w 143).drop 1)).drop 1]:=λy e=>by
   refine Run.blk 1 (vP [nm "v" (.s y)]) [.G (.L (xs.map .s)),.L (ys.map .s++[.s y])] _ (by kernel_rfl) hC ?_;refine Run.ns [aa "email_header_fields",aa "accepted_values"] (vP []) (by kernel_rfl) (Run.fe (by kernel_rfl) hN rfl ?_);rw[<- e];refine(?_:[SO.G (.L (xs.map .s)),SO.L ((ys++[preT u]).map .s)]=_);rw[eZ]; rfl
  refine⟨vP [nm "v" (.s u)],oP xs ys,rfl,by kernel_rfl,?_⟩;have hp:preT u=if checkT u=PG then u else aa "('', '')":=rfl
  refine Run.gcI (a:=136) (kk:=5) (t:=u) (C:=[]) (checkT u) (by rw[w']; kernel_rfl) PI (r6 w' (Hv _)) (hh'.trans hh) (hg'▸hg) (by rw[w']; exact Ei _ u hu) (by rw[hs.k,hk]; decide) (λhc=>?_) λhc=>fin u (by rw[hp,if_pos hc]);refine Run.blk 1 (vP [nm "v" (.s (aa "('', '')"))]) (oP xs ys) [] (by kernel_rfl) PI ?_;exact Run.nl (by kernel_rfl) (fin _ (by rw[hp,if_neg (by rw[hc]; exact aP)])) λq=>nomatch q
 ·rw[aA,aA,dK];refine Run.rt (.r 1) [] [] (by kernel_rfl) PI (hP _ _ [1] ?_);refine(?_:(((SO.L ((xs.map preT).map .s)).rn _).bind λy=>PD [y]).map _=_);refine(?_:(((tD _ ((xs.map preT).map .s)).map SO.L).bind λy=>PD [y]).map _=_);rw[EF]; rfl
end Nw
end
section
open PySem PySem.W PySem.Calls PySem.Spec PyProof.Rows
namespace Mine
variable {P C L:aj}{h₀:aL}{K:wE}{m':yW}{w:aB}{A:be}{s:ai}{prog:cj}{fs:Array af}{m:Str->Option af}{E:af->ai->Prop}
theorem zF:PlainAttrs "re.Pattern":=
 ⟨⟨"object.__getattribute__",by rw[uT,mF]; kernel_rfl,by decide +kernel⟩,by rw[uT,mF]; kernel_rfl⟩
theorem wW:Slot "re.Pattern" "search" "re.Pattern.search":=
 .of (owner:="re.Pattern") (n:="search") (by rw[uT,mF]; kernel_rfl) (by decide +kernel) (by decide +kernel) (by decide +kernel)
  (by first | exact .inl (by decide +kernel) | exact .inr (by decide +kernel)) (by rw[isSubtype_type]; kernel_rfl)
theorem CP:typeOf (.builtin "re.Pattern.search")=pure (.type "method_descriptor"):=by show builtinType _=_; rw[builtinType_eq_fast]; kernel_rfl
theorem zH:entryFor table "re.Pattern.search"=PD u6.«re.Pattern.search»:=entryFor_of_tree (by kernel_rfl)
theorem zG:Manifest.owners.lookup (String.ofList ['n','r','e','t','t','a','P','.','e','r'].reverse)=PD Manifest.sig_re_Pattern:=by kernel_rfl
theorem CS (a b:af):argsOk "re.Pattern.search" ⟨[a,b],[]⟩:=by
 unfold argsOk; rw[signature?_of (id:="re.Pattern.search") (n:=['h','c','r','a','e','s']) (o:=['n','r','e','t','t','a','P','.','e','r']) (by kernel_rfl) zG]; kernel_rfl
open Builtin.Re in
noncomputable def jD:Nat->yW->Option yW
 | 0,_=>PF
 | k+1,m=>if(m.runFor reTurnSteps).outcome.isSome then PD (m.runFor reTurnSteps) else jD k (m.runFor reTurnSteps)
section
variable {M:nk}{A:be}{E:af->ai->Prop}{s:ai}
open Builtin.Re
theorem zJ {Q:yW->ai->Prop}(k n:Nat)(m:yW)(hk:k<=n)(h:jD k m=PD m')(hq:Q m' s):wpAny M A (reDrive n m) Q E s:=by
 induction k generalizing n m with
 | zero=>exact nomatch (h:PF=PD m')
 | succ k ih=>
  cases n with
  | zero=>exact absurd hk (Nat.not_succ_le_zero _)
  | succ n=>
   show wpAny M A (if(m.runFor reTurnSteps).outcome.isSome=PG then pure (m.runFor reTurnSteps) else(do rule "sre.turn"; reDrive n (m.runFor reTurnSteps))) Q E s
   by_cases hs:(m.runFor reTurnSteps).outcome.isSome=PG
   ·rw[if_pos hs];exact aD (ac ((if_pos hs:jD (k+1) m=_).symm.trans h)▸hq)
   ·rw[if_neg hs];exact ab (eF (ih n _ (Nat.le_of_succ_le_succ hk) ((if_neg hs:jD (k+1) m=_).symm.trans h)))
theorem o5 {c:Nat->Bool}{r:Nat->String}{Q:PUnit->ai->Prop}:∀ (l:List Nat),Q ⟨⟩ s->wpAny M A (forIn l y4 λi U=>if c i=PG then(do rule (r i); pure (fR y4)) else pure (fR y4)) Q E s
 | [],h=>aD h
 | i :: l,h=>by
  rw[kA]
  by_cases hc:c i=PG
  ·rw[if_pos hc];exact ab (ab (eF (aD (o5 l h))))
  ·rw[if_neg hc];exact ab (aD (o5 l h))
theorem FR {Q:Option yW->ai->Prop}{m:yW}(h:jD 200 m=PD m')(ho:m'.outcome=PD .failed)(hq:Q PF s):wpAny M A (reRunToEnd m) Q E s:=by
 unfold reRunToEnd;refine ab (zJ 200 _ m (by decide) h ?_);refine ab (o5 _ ?_);rw[ho];exact aD hq
end
theorem CQ {items:Array af}{x:Str}{t:Tok}{Q:af->ai->Prop}
  (hP:s.heap.get? P=PD { cls:=.type "re.Pattern",data:=.fields fs }) (h5:fs.getD 5 .none=.ref C) (h6:dX (fs.getD 6 .none)=0)
  (hC:s.heap.get? C=PD { cls:=.type "tuple",data:=.seq items })
  (hrun:jD 200 (uU ((items.map Builtin.Re.reRawOf).map (·.toNat)) x.cps (dX (fs.getD 2 .none)) (min (0:Int).toNat x.cps.size) (min ((2 ^ 63 - 1:Int)).toNat x.cps.size) PH)=PD m') (ho:m'.outcome=PD .failed)
  (hq:Q .none s):wpAny (model prog w) A (call (.builtin "re.Pattern.search") [.ref P,.str x t]) Q E s:=by
 have hT:s.TypeIs (.ref P) "re.Pattern":=⟨_,hP,rfl⟩;refine bZ wW hT zH ?_ (CS _ _);refine(?_:wpAny _ A.in1 (Builtin.Re.reTarget "re.Pattern.search" "search" ⟨[.ref P,.str x t],[]⟩ >>= λt=>j1 t (uU t.code t.text t.groups t.pos t.lim PH)) _ _ s);refine ab ?_;unfold Builtin.Re.reTarget;refine(?_:wpAny _ A.in1 (fieldsOf (.ref P) >>= _) _ _ s);refine ab (wpAny_fieldsOf hP rfl ?_);refine ab (m:=Builtin.Re.reTextOf (.str x t)) (iM (a:=(x.cps,0)) rfl ?_);dsimp only;rw[h6,h5];refine(?_:wpAny _ A.in1 (Builtin.Re.reNoCollectionInside (.str x t) 0 >>= _) _ _ s);refine ab (iM (a:=()) rfl ?_);refine(?_:wpAny _ A.in1 (jz (.ref C) >>= _) _ _ s);refine ab (m:=jz (.ref C)) ?_;unfold jz;refine ab (dc hC rfl (aD (aD ?_)));refine(?_:wpAny _ A.in1 (j1 _ _) _ _ s);unfold j1;refine ab (FR hrun ho ?_);exact aD ⟨_,rfl,hq⟩
noncomputable def OJ:Option Sre.Outcome->Bool
 | some .failed=>PG
 | _=>PH
theorem OD {o:Option Sre.Outcome}(h:OJ o=PG):o=PD .failed:=by
 cases o with
 | none=>exact nomatch h
 | some o=>cases o<;>first | rfl | exact nomatch h
theorem OW {α:Type _}{o:Option α}{f:α->Bool}{P:Prop}(h:o.elim PH f=PG)(k:∀ a,o=PD a->f a=PG->P):P:=by
 cases o with
 | none=>exact nomatch h
 | some a=>exact k a rfl h
def sB (items:Array af)(g:Nat)(a:Str):Bool:=
 (jD 200 (uU ((items.map Builtin.Re.reRawOf).map (·.toNat)) a.cps g (min (0:Int).toNat a.cps.size) (min ((2 ^ 63 - 1:Int)).toNat a.cps.size) PH)).elim PH λm=>OJ m.outcome
theorem CR {items:Array af}{x:Str}{t:Tok}{Q:af->ai->Prop}
  (F:Fr h₀ L s.heap m) (X:K.In h₀) (e:K.lookup P=PD { cls:=.type "re.Pattern",data:=.fields fs }) (h5:fs.getD 5 .none=.ref C) (e2:K.lookup C=PD { cls:=.type "tuple",data:=.seq items })
  (h6:dX (fs.getD 6 .none)=0) (hr:sB items (dX (fs.getD 2 .none)) x=PG) (hq:Q .none s):wpAny (model prog w) A (call (.builtin "re.Pattern.search") [.ref P,.str x t]) Q E s:=by
 exact OW hr λm' hm ho=>CQ ((X.keeps F.keep) _ _ e) h5 h6 ((X.keeps F.keep) _ _ e2) hm (OD ho) hq
theorem yi {pl:Sem Bool}{Q:af×List af->ai->Prop}
  (F:Fr h₀ L s.heap m) (X:K.In h₀) (e:K.lookup P=PD { cls:=.type "re.Pattern",data:=.fields fs }) (h:Q (.builtin "re.Pattern.search",[.ref P]) s):wpAny (model prog w) A (getMethod (.ref P) (aa "search") pl) Q E s:=
 rp ⟨_,(X.keeps F.keep) _ _ e,rfl⟩ zF wW CP (λa q=>by cases q; exact⟨_,(X.keeps F.keep) _ _ e,rfl⟩) h
theorem KX {M:nk}{x f:aj}{ox:Obj}{od:Option Obj}{i:af}{Q:Unit->ai->Prop}(F:Fr h₀ L s.heap m)(X₀:K.In h₀)(I:InstAt s.heap x ox C od)(hq:noSeq K C=PG)
  (hs:findIn K (.ref C) "__delitem__"=PD (PD (.ref f))) (hf:isFn K (.ref f)=PG)
  (h:wpAny M A (call (.ref f) [.ref x,i]) (λU s'=>Q () s') E s):wpAny M A (delItem (.ref x) i) Q E s:=by
 have X:=X₀.keeps F.keep;unfold delItem sequenceKey;refine bI (ab (ab (I.type.here ?_)));refine ab ((anyM_none X hq).here ?_);rw[if_pos (show(!PH)=PG from rfl)];exact aD (ab (special_fn X I hs (beq_iff_eq.mp hf) (aU h (λU U z=>aD z) λU U z=>z)))
end Mine
end
section
open PySem PySem.W PySem.Calls PySem.Spec PyProof.Rows Mine
namespace Nw
variable {u:Su}{ev:EV}{c c':Cx}{y y':SO}{pos p px pa ps py:Pos}{env:Env}{x name:Str}{tk j k n kk:Nat}{e a0:aw}{b b':Bool}{X la d a:aj}{h2 h3:aL}{w:aB}{A:be}{s:ai}{Os Os₀:List SO}{ds ts:List Nat}{as₀:List aj}{vs:List af}{its new:Array af}{kws:List jq}{E Q:af->ai->Prop}{ld:List SO->Str->Option PV}
section
variable {fs:Fs}{c:Cx}{V:Vm}{m:Str->Option af}{T:Tab}
noncomputable def Mo (c:zd):Option Bool:=match c with | .bool b=>PD b | _=>PF
def Vw.bool? (v:Vw):Option Bool:=v.con?.bind Mo
theorem xW (h:(vw e).bool?=PD b):∃ k p,e=.Constant (.bool b) k p:=ak h λc e1 h=>by
 obtain⟨k,p,e2⟩:=con_is e1;cases c<;>cases h
 exact⟨k,p,e2⟩
def Iu:List jq->Option (List (Str×Bool))
 | []=>PD []
 | k :: r=>k.arg.bind λn=>(vw k.value).bool?.bind λb=>(Iu r).map λl=>(n,b) :: l
theorem Jv:∀ {l:List (Str×Bool)},Iu kws=PD l->(backToKw pos (keywordEach kws env)).all (·.1.isSome)=PG/\(backToKw pos (keywordEach kws env)).any (·.1.isNone)=PH/\(backToKw pos (keywordEach kws env)).filterMap (·.1)=l.map (·.1)/\
  ∀ {A:be} {E:af->ai->Prop} {Q:List af->ai->Prop} {s:ai},Q (l.map λq=>.bool q.2) s->wpAny (MP w) A (evalAll ((backToKw pos (keywordEach kws env)).map (·.2))) Q E s:=by
 induction kws with
 | nil=>exact λ{l} h=>ac h▸⟨rfl,rfl,rfl,λh=>kwAll_nil h⟩
 | cons k r ih=>
  obtain⟨a,e,p⟩:=k
  exact λ{l} h=>ak h λn e1 h=>ak h λb e2 h=>aZ h λl e3 eq=>have z:=ih e3
   (xW e2).elim λkk y=>y.elim λpp y=>by rw[eq,show a=PD n from e1,show e=_ from y]; exact⟨z.1,z.2.1,congrArg (n :: ·) z.2.2.1,λ{A E Q s} h=>kwAll_cons (gg (z.2.2.2 h))⟩
theorem AE:∀ l:List (Str×Bool),(l.map (·.1)).zip (l.map λq=>rq q.2)=l.map λq=>(q.1,rq q.2)
 | []=>rfl
 | q :: r=>congrArg ((q.1,rq q.2) :: ·) (AE r)
theorem qY {o:aw}{ap:Pos}{as:List aw}{M:nk}(hs:ud o=PG)(hl:(ap.endLine == p.line)=PG)(hn:as.length+kws.length+1<30)(hp:(backTo p (starEach as env)).any (·.1)=PH)(hk:(backToKw p (keywordEach kws env)).all (·.1.isSome)=PG)
  (h:∀ pl,wpAny M A (eval o env) (λov s₁=>wpAny M A (getMethod ov x pl) (λfx s₂=>wpAny M A (callWith p fx.1 fx.2 (backTo p (starEach as env)) (backToKw p (keywordEach kws env))) Q E s₂) E s₁) E s):wpAny M A (eval (.Call (.Attribute o x ap) as kws p) env) Q E s:=by
 have few:methodCallForm (as.length+kws.length) (backTo p (starEach as env)) (backToKw p (keywordEach kws env))=PG:=by
  have all:∀ (l:List (Bool×Sem af)),l.any (·.1)=PH->l.all (!·.1)=PG:=λl=>by
   induction l with
   | nil=>intro U; rfl
   | cons a r ih=>intro h; rw[tH,ll] at h; rw[fu,h.1,ih h.2]; rfl
  unfold methodCallForm;rw[all _ hp,hk,f6,f6];refine decide_eq_true ?_
  split
  ·exact Oh hn
  ·exact hn
 rw[arm_eval_Call,tw hs];refine ab (aU (h (do return (<- importBound o env).getD PG)) (λov s₁ h₁=>ab (da ?_)) λU U x=>x);unfold methodCall;rw[few];refine ab (bI (aU h₁ (λfx s₂ h₂=>?_) λU U x=>x));refine ab ?_;unfold methodCallPos;rw[hl];exact aD h₂
structure Mth where
 v:af
 name:Str
 fn:af
 kws:List (Str×Bool)
 f:List SO->List PV->PE
structure MthOk (fs:Fs)(c:Cx)(r:Mth):Prop where
 kp:∀ h,(hd.heap_39 c.w.params).In h->∃ k,(k=Keeper.frame\/k=Keeper.machine\/k=Keeper.boundFrame)/\Looks (MP c.w) h (keeperOf r.fn) k
 gm:∀ {Os ys:List SO} {ps:List PV} {q:nb},r.f (Os++ys) ps=PD q->Al q.2.2->∀ {V:Vm} {m:Str->Option af} {as:List aj} {h:aL},Inv fs c V m as Os h->∀ {pl:Sem Bool} {E:af->ai->Prop} {Q:af×List af->ai->Prop} {k:Nat},Q (r.fn,[r.v]) (sh c.s₀ h k)->wpAny (MP c.w) (c.A fs) (getMethod r.v r.name pl) Q E (sh c.s₀ h k)
 cl:∀ {Os:List SO} {ps:List PV} {q:nb},r.f Os ps=PD q->Al q.2.2->∀ {V:Vm} {m:Str->Option af} {as:List aj} {h:aL} {vs:List af},Inv fs c V m as Os h->IsAll as ps vs->
  ∀ {E Q:af->ai->Prop} {k:Nat},lg fs c V m as Os h q Q->wpAny (MP c.w) (c.A fs) (call r.fn (r.v :: vs) (r.kws.map λq=>(q.1,.bool q.2))) Q E (sh c.s₀ h k)
def LO (e:aw):Option (Str×Str×List aw×List (Str×Bool)):=(vw e).cll?.bind λq=>(vw q.1).att?.bind λr=>(lB r.1).bind λx=>q.2.1.head?.bind λU=>if(r.2.2.endLine == q.2.2.2.line&&decide (q.2.1.length+q.2.2.1.length+1<30))=PG then(Iu q.2.2.1).map λl=>(x,r.2.1,q.2.1,l) else PF
theorem As {q:Str×Str×List aw×List (Str×Bool)}(h:LO e=PD q):∃ a r kws px pa p,q.2.2.1=a :: r/\Iu kws=PD q.2.2.2/\(pa.endLine == p.line)=PG/\(a :: r).length+kws.length+1<30/\e=.Call (.Attribute (.Name q.1 px) q.2.1 pa) (a :: r) kws p:=ak h λq0 e1 h=>ak h λr e2 h=>ak h λx e3 h=>ak h λa e4 h=>iteE h λe6 h=>aZ h λl e5 eq=>(nam_is e3).elim λpx hx=>by
 rw[eq];obtain⟨g1,g2⟩:=d9.mp e6;exact⟨a,q0.2.1.tail,q0.2.2.1,px,r.2.2,q0.2.2.2,sZ e4,e5,g1,by rw[<- sZ e4]; exact of_decide_eq_true g2,(cll_is e1).trans (ow ((att_is e2).trans (by rw[hx])) (sZ e4) rfl)⟩
def Bf (rs:List Mth)(ld:List SO->Str->Option PV):EV->EV:=λev Os e=>
 (LO e).bind λq=>(ld Os q.1).bind λu=>u.val?.bind λv=>(rZ ev Os q.2.2.1).bind λa=>(rs.findSome? λr=>if r.name=q.2.1/\r.kws=q.2.2.2 then(r.f (Os++a.2.1) a.1).map λy=>(y,v=r.v) else PF).map λy=>(y.1.1,a.2.1++y.1.2.1,y.2 :: (a.2.2++y.1.2.2))
theorem rK (U:u.Ok)(O:u.c.Ok u.f)(D:ri u ld)(H:fj u ev){v0 fn:af}{l:List aw}{kl:List (Str×Bool)}{a:AnsL}(e2:ld Os x=PD (.v v0))(e4:rZ ev Os (a0 :: l)=PD a)
  (q2:Iu kws=PD kl) (q4:(pa.endLine == p.line)=PG) (q5:(a0 :: l).length+kws.length+1<30) (hC:Al a.2.2) (kp:∀ h,(hd.heap_39 u.c.w.params).In h->∃ k,(k=Keeper.frame\/k=Keeper.machine\/k=Keeper.boundFrame)/\Looks (MP u.c.w) h (keeperOf fn) k)
  {ads:List aj} {h:aL}   (i:u.I ads Os h) (gm:∀ {V:Vm} {m:Str->Option af} {as:List aj} {h:aL},Inv u.f u.c V m as Os h->∀ {pl:Sem Bool} {E:af->ai->Prop} {Q:af×List af->ai->Prop} {k:Nat},Q (fn,[v0]) (sh u.c.s₀ h k)->wpAny (MP u.c.w) (u.c.A u.f) (getMethod v0 name pl) Q E (sh u.c.s₀ h k))
  (cl:∀ vs bs h' tk',IsAll (ads++bs) a.1 vs->u.I (ads++bs) (Os++a.2.1) h'->Kp u.c h h'->wpAny (MP u.c.w) (u.c.A u.f) (call fn (v0 :: vs) (kl.map λq=>(q.1,.bool q.2))) Q E (sh u.c.s₀ h' tk')):wpAny (MP u.c.w) (u.c.A u.f) (eval (.Call (.Attribute (.Name x px) name pa) (a0 :: l) kws p) u.env) Q E (sh u.c.s₀ h tk):=by
 have K:=Jv (pos:=p) (env:=u.env) (w:=u.c.w) q2;have P:=iB H p u.env _ _ e4;refine qY rfl q4 q5 P K.1 λpl=>(D _ _ _ e2 px PI _ _ _ _ _ i λv1 bs1 h1 t1 hv1 i1 kp1=>?_);have i1:u.I (ads++bs1) Os h1:=ao Os▸i1;rw[show v1=v0 from hv1];refine(U.i _ _ _ i1).elim λV j=>j.elim λm j=>gm j.1 (ak e4 λz e8 J=>callWith_of (P:=(hd.heap_39 u.c.w.params).In) (by rw[P,K.2.1]; rfl) kp (evalArgs_kw2 K.1 (lF H p _ _ e4 hC _ _ _ _ _ i1 λvs bs2 h2 t2 hvs i2 kp2=>K.2.2.2 ?_) ((H _ _ _ e8).1 _ _)));refine(U.i _ _ _ i2).elim λV2 j2=>j2.elim λm2 j2=>⟨O.x.keeps j2.1.F.keep,?_⟩;refine(?_:wpAny _ _ (call fn (v0 :: vs) (((backToKw p (keywordEach kws u.env)).filterMap (·.1)).zip _)) _ _ _);rw[K.2.2.1,AE];rw[au] at hvs i2;exact cl vs _ h2 t2 hvs i2 (kp1.trans kp2)
theorem v5 (U:u.Ok)(O:u.c.Ok u.f)(D:ri u ld)(H:fj u ev){r:Mth}(R:MthOk u.f u.c r){u0:PV}{v:af}{l:List aw}{a:AnsL}{y0:nb}(e2:ld Os x=PD u0)(e3:u0.val?=PD v)(e4:rZ ev Os (a0 :: l)=PD a)(e7:r.f (Os++a.2.1) a.1=PD y0)
  (q2:Iu kws=PD r.kws) (q4:(pa.endLine == p.line)=PG) (q5:(a0 :: l).length+kws.length+1<30):u.Tells (eval (.Call (.Attribute (.Name x px) r.name pa) (a0 :: l) kws p) u.env) Os (y0.1,a.2.1++y0.2.1,(v=r.v) :: (a.2.2++y0.2.2)):=λhC ads h tk E Q i hq=>
 rK U O D H (e2.trans (congrArg PD ((PV.val_is e3).trans (congrArg PV.v hC.1)))) e4 q2 q4 q5 hC.2.left R.kp i (λj=>R.gm e7 hC.2.right j) λvs bs h2 t2 hvs i2 kp=>(U.i _ _ _ i2).elim λV2 j2=>j2.elim λm2 j2=>R.cl e7 hC.2.right j2.1 hvs λx' bs3 h3 t3 hx i3 kp3=>hq x' (bs++bs3) h3 t3 (by rw[<- au]; exact hx) (by
  show u.I (ads++(bs++bs3)) (Os++(a.2.1++y0.2.1)) h3;rw[<- au,<- au]; exact j2.2 _ _ _ i3 kp3) (kp.trans kp3)
theorem uC (U:u.Ok)(O:u.c.Ok u.f)(D:ri u ld){rs:List Mth}(R:∀ r∈rs,MthOk u.f u.c r):ie u (Bf rs ld):=λev H Os e q he=>ak he λq0 e1 he=>ak he λu0 e2 he=>ak he λv e3 he=>ak he λa e4 he=>aZ he λy e5 eq=>
 bU λG hG=>(br e5).elim λr z=>iteE z.2 λhc e6=>aZ e6 λy0 e7 eq2=>(As e1).elim λa0 w=>w.elim λl w=>w.elim λkws w=>w.elim λpx w=>w.elim λpa w=>w.elim λp w=>
  hG (by rw[eq,eq2,w.2.2.2.2,<- hc.1]; exact v5 U O D H (R r z.1) e2 e3 (w.1▸e4) e7 (hc.2▸w.2.1) w.2.2.1 w.2.2.2.1)
theorem Cx.Ok.su (O:c.Ok fs):Su.Ok ⟨fs,c,c.env fs,Inv fs c V m⟩:=⟨λU U U i=>⟨V,m,i,λU U U i' U=>i'⟩,O.h,O.u2⟩
abbrev extMt (rs:List Mth)(f:Fs)(T:Tab)(w:aB)(V:Vm):EV->EV:=Bf rs (ldF w f V)
theorem mB (O:c.Ok fs){rs:List Mth}(R:∀ r∈rs,MthOk fs c r):ie ⟨fs,c,c.env fs,Inv fs c V m⟩ (extMt rs fs T c.w V):=uC O.su O (fL O) R
end
section
variable {fs:Fs}{c:Cx}
def zl:CallR:=⟨.type "type",λOs ps=>(one ps).bind λp=>(p.str?.map λU=>(.v (.type "str"),[],[])).or ((iS Os p).map λU=>(.v (.type "list"),[],[]))⟩
theorem oO:b8 fs c zl:=⟨.inr (.inl ⟨_,rfl⟩),λe hC V m as h vs i hv E Q k hq=>ak e λp e1 e=>by
 rw[one_is e1] at hv;obtain⟨u,_,rfl,hu,h0⟩:=hv;cases h0;refine orE e (λe=>aZ e λx e2 eq=>?_) λe=>aZ e λl e2 eq=>?_
 ·subst eq;obtain⟨t,rfl⟩:=PV.isStr e2 hu;exact call_type_of (Ie _ _ _) (by decide +kernel) (ic i hq rfl)
 ·subst eq;obtain⟨D,us,n,rfl,h1,h2⟩:=ga i e2 hu;exact call_type_of ⟨_,h1,rfl⟩ (by decide +kernel) (ic i hq rfl)⟩
def zK (w:aB)(P:aj):Array af:=match(nC w P).data with | .fields v=>v | _=>#[]
def Le (w:aB)(P:aj):aj:=match(zK w P).getD 5 .none with | .ref C=>C | _=>0
def IN (w:aB)(P:aj):Array af:=match(nC w (Le w P)).data with | .seq xs _=>xs | _=>#[]
def Ik (w:aB)(P:aj)(s:Str):Bool:=sB (IN w P) (dX ((zK w P).getD 2 .none)) s
structure RxAt (w:aB)(P:aj):Prop where
 e:(hd.heap_39 w.params).lookup P=PD { cls:=.type "re.Pattern",data:=.fields (zK w P) }
 h5:(zK w P).getD 5 .none=.ref (Le w P)
 e2:(hd.heap_39 w.params).lookup (Le w P)=PD { cls:=.type "tuple",data:=.seq (IN w P) }
 h6:dX ((zK w P).getD 6 .none)=0
def rxM (w:aB)(P:aj):Mth:=⟨.ref P,aa "search",.builtin "re.Pattern.search",[],λU ps=>(one ps).bind λp=>p.str?.map λs=>(.v .none,[],[Ik w P s=PG])⟩
theorem FS (O:c.Ok fs){P:aj}(R:RxAt c.w P):MthOk fs c (rxM c.w P) where
 kp:=λh U=>⟨.machine,.inr (.inl rfl),.now⟩
 gm:=λU U U U U U i U U U U hq=>yi i.F O.x R.e hq
 cl:=λe hC U U U U vs i hv E Q k hq=>ak e λp e1 e=>aZ e λs e2 eq=>by
  subst eq;rw[one_is e1] at hv;obtain⟨u,_,rfl,hu,h0⟩:=hv;cases h0;obtain⟨t,rfl⟩:=PV.isStr e2 hu;exact CR i.F O.x R.e R.h5 R.e2 R.h6 hC.1 (ic i hq rfl)
theorem IQ (w:aB):RxAt w 153:=⟨by kernel_rfl,by kernel_rfl,by kernel_rfl,by kernel_rfl⟩
theorem IP (w:aB):RxAt w 158:=⟨by kernel_rfl,by kernel_rfl,by kernel_rfl,by kernel_rfl⟩
def hdOk (w:aB)(s:Str):Prop:=Ik w 153 s=PG/\Ik w 158 s=PG
def tbK:Tab:=⟨[],[],[],[zl]⟩
theorem okK (b:Bool){fs:Fs}{c:Cx}(hw:c.w=w)(O:c.Ok fs):Wk.Okc ⟨fs,tbK,extMt [rxM w (bif b then 153 else 158)]⟩ c:=by
 subst hw;exact⟨O,⟨aW oO cE,dz⟩,λU U=>mB (T:=tbK) O (am.mpr ⟨FS O (by cases b; exact IP _; exact IQ _),λU h=>nomatch h⟩)⟩
theorem BT (w:aB)(X:aj)(s:Str)(b:Bool)(ok:hdOk w s):Ent Eq (λU U U=>True) w 188 (pS (fdAt w 188)) 2 PH [] [nm "self" (.v (.ref X)),nm "value" (.s s),nm "name" (.v (.bool b))] (.s s) [] []:=by
 refine jJ (k:=1) (T:=tbK) (ext:=extMt [rxM w (bif b then 153 else 158)]) 0 _ (λU U U U=>rfl) (by kernel_rfl) (by kernel_rfl) fG (λc hw U U O=>okK b hw O) λcx hw hn hP hN U=>?_;subst hw;refine Run.if PG [] [] (by kernel_rfl) PI (λU=>?_) λq=>nomatch q
 have fin:Run (wkAt cx.w 188 0 tbK (extMt [rxM cx.w (bif b then 153 else 158)])) cx [nm "self" (.v (.ref X)),nm "value" (.s s),nm "name" (.v (.bool b)),nm "regex" (.v (.ref (bif b then 153 else 158)))] [] [(thn (bn cx.w 188)).drop 1,(bn cx.w 188).drop 1]:=by
  refine Run.ifN PH [bl (bif b then 153 else 158)=.ref (bif b then 153 else 158),Ik cx.w (bif b then 153 else 158) s=PG] (by kernel_rfl) ⟨rfl,by cases b; exact ok.2; exact ok.1,PI⟩ (λq=>nomatch q) λU=>?_;exact Run.rt (.s s) [] [] (by kernel_rfl) PI (hP _ _ [] (by kernel_rfl))
 refine Run.asI b [] (by cases b<;>kernel_rfl) PI (λh=>?_) λh=>?_
 ·subst h;exact⟨_,[],[],by kernel_rfl,PI,fin⟩
 ·subst h;exact⟨_,[],[],by kernel_rfl,PI,fin⟩
end
noncomputable abbrev ue (s:String)(v:af):Str×af:=(aa s,v)
def Ax:MetR:=oV (aa "lower") "str.lower" @GM.lower
def Gl:MetR:=oV (aa "upper") "str.upper" @GM.upper
def Fm (id:String)(g:Str->Str):CallR:=⟨.builtin id,λU ps=>(one ps).bind λp=>p.str?.map λx=>(.s (g x),[],[x.length<=5592405])⟩
def vF:CallR:=Fm "str.lower" bX
def zj:CallR:=Fm "str.upper" qK
section
variable {fs:Fs}{c:Cx}
theorem mT:b8 fs c vF:=⟨bi,λe hC V m as h vs i hv E Q k hq=>ak e λp e1 e=>aZ e λx e2 eq=>by
 subst eq;rw[one_is e1] at hv;obtain⟨u,_,rfl,hu,h0⟩:=hv;cases h0;obtain⟨t,rfl⟩:=PV.isStr e2 hu;exact SCL.lower hC.1 λU=>ic i hq (k:=k+1) ⟨_,rfl⟩⟩
theorem ya:b8 fs c zj:=⟨bi,λe hC V m as h vs i hv E Q k hq=>ak e λp e1 e=>aZ e λx e2 eq=>by
 subst eq;rw[one_is e1] at hv;obtain⟨u,_,rfl,hu,h0⟩:=hv;cases h0;obtain⟨t,rfl⟩:=PV.isStr e2 hu;exact SCL.upper hC.1 λU=>ic i hq (k:=k+1) ⟨_,rfl⟩⟩
end
noncomputable abbrev hdE (w:aB)(la:aj)(t:Tok):List tC:=[{ hash:=PyData.keyHash w.params (aa "_headers"),key:=.str (aa "_headers") t,val:=.ref la }]
def InsAt (w:aB)(h:aL)(X la d:aj):Prop:=∃ t n,h.get? X=PD (instObj 289 d)/\h.get? d=PD (dictOf (hdE w la t) n)
theorem InsAt.inst {h:aL}(I:InsAt w h X la d):∃ t n,InstAt h X (instObj 289 d) 289 (PD (dictOf (hdE w la t) n)):=I.elim λt z=>z.elim λn z=>⟨t,n,z.1,rfl,rfl,z.2⟩
structure InsC (c:Cx)(X:aj)(j:Nat):Prop where
 ex:∃ la d t n,(c.h₀.get? X=PD (instObj 289 d)\/(X,instObj 289 d)∈c.pn)/\(c.h₀.get? d=PD (dictOf (hdE c.w la t) n)\/(d,dictOf (hdE c.w la t) n)∈c.pn)/\(j,la)∈c.pre
theorem InsC.sub (I:InsC c X j)(s:c.Sub c'):InsC c' X j:=
 have up:∀ b o,c.h₀.get? b=PD o\/(b,o)∈c.pn->c'.h₀.get? b=PD o\/(b,o)∈c'.pn:=λb o e=>e.imp (λq=>s.h₀▸q) (s.pn _)
 ⟨I.ex.elim λla z=>z.elim λd z=>z.elim λt z=>z.elim λn z=>⟨la,d,t,n,up _ _ z.1,up _ _ (s.w▸z.2.1),s.pre _ z.2.2⟩⟩
def x7 (X:aj)(Os₀:List SO)(c:Cx)(as₀:List aj)(h:aL):Prop:=∃ la d,InsAt c.w h X la d/\as₀[0]?=PD la/\Apart as₀ Os₀ X/\Apart as₀ Os₀ d
theorem Frm.ins (F:Frm Eq (x7 X Os₀) PH Os₀ c):InsC c X 0:=by
 refine bU λG1 hG1=>?_;obtain⟨c₀,as₀,h,⟨la,d,⟨t,n,h1,h2⟩,h3,h4,h5⟩,_,_,hp,hk,hw⟩:=F.ex;refine hG1 ?_;exact⟨la,d,t,n,.inl (hk _ _ h4 (λz=>nomatch z) h1),.inl (hk _ _ h5 (λz=>nomatch z) (hw▸h2)),hp▸jl h3⟩
section
variable {f:Fs}{c:Cx}{V:Vm}{m:Str->Option af}{as:List aj}{Os:List SO}{h:aL}{T:Tab}{X:aj}{j:Nat}
theorem InsC.get (I:InsC c X j)(i:Inv f c V m as Os h):∃ la d,InsAt c.w h X la d/\as[j]?=PD la:=
 I.ex.elim λla z=>z.elim λd z=>z.elim λt z=>z.elim λn z=>⟨la,d,⟨t,n,i.stay _ _ z.1,i.stay _ _ z.2.1⟩,i.pf _ z.2.2⟩
theorem u8 (i:Inv f c V m as Os h)(I:InsC c X j)(gv:Giv as Os h as₀ Os₀)(h0:∀ a,as[j]?=PD a->as₀[0]?=PD a):x7 X Os₀ c as₀ h:=by
 refine bU λG1 hG1=>?_;obtain⟨la,d,t,n,h1,h2,h3⟩:=I.ex
 have ap:∀ b o,c.h₀.get? b=PD o\/(b,o)∈c.pn->Apart as₀ Os₀ b:=λb o hb t y e1 e2 hw=>by
  obtain⟨j',x,g1,g2,lv,g3⟩:=gv.own t b y e1 e2;rcases hb with hb | hb
  ·obtain⟨_,_,_,g4,_⟩:=i.ob _ _ _ g1 g2 lv;rw[(g4 (g3 hw)).2] at hb; cases hb
  ·exact(i.pn _ hb).2.2.1 j' x g1 g2 (g3 hw)
 refine hG1 ?_;exact⟨la,d,⟨t,n,i.stay _ _ h1,i.stay _ _ h2⟩,h0 _ (i.pf _ h3),ap _ _ h1,ap _ _ h2⟩
theorem vU (w:aB):plainGet (hd.heap_39 w.params) 289 (aa "_headers")=PG/\hasDictIn (hd.heap_39 w.params) 289=PG/\findIn (hd.heap_39 w.params) (.ref 289) (aa "_headers")=PD PF:=⟨by kernel_rfl,by kernel_rfl,by kernel_rfl⟩
def DT (X:aj)(j:Nat)(f:Fs)(T:Tab)(w:aB)(V:Vm):EV->EV:=λev Os e=>
 (vw e).att?.bind λq=>(lB q.1).bind λx=>(ldF w f V Os x).bind λu=>u.val?.bind λv=>if q.2.1=aa "_headers" then PD (.r j,[],[v=.ref X]) else PF
theorem s8 (O:c.Ok f)(I:InsC c X j):ie ⟨f,c,c.env f,Inv f c V m⟩ (DT X j f T c.w V):=λev H Os e q he=>ak he λq0 e1 he=>ak he λx e2 he=>ak he λu e3 he=>ak he λv e4 he=>iteE he λe5 he=>by
 cases he;rintro ⟨hv0,hC⟩ as h tk E Q i hq;have hv0:v=.ref X:=hv0;obtain⟨px,e2⟩:=nam_is e2;rw[att_is e1,e2,e5];refine Attribute_name (fL O _ _ _ e3 px PI _ _ _ _ _ i λv1 bs1 h1 t1 hv1 i1 kp1=>?_);rw[PV.val_is e4] at hv1;have hv1:v1=v:=hv1;subst hv1; subst hv0;have i1:Inv f c V m (as++bs1) (Os++[]) h1:=i1;refine bU λG1 hG1=>?_;obtain⟨la,d,A,ea⟩:=I.get i1;obtain⟨t,n,IA⟩:=A.inst;obtain⟨g1,g2,g3⟩:=vU c.w;refine hG1 ?_;exact get_own (attr:=PF) i1.F O.x IA g1 g2 g3 rfl (by kernel_rfl) rfl (hq (.ref la) bs1 h1 (t1+1) ⟨la,ea,rfl⟩ i1 kp1)
theorem vT (O:c.Ok f)(I:InsC c X j){fn:aj}(hf:findIn (hd.heap_39 c.w.params) (.ref 289) name=PD (PD (.ref fn))/\isFn (hd.heap_39 c.w.params) (.ref fn)=PG)(hl:∀ la t,getL name (hdE c.w la t)=PD PF)(i:Inv f c V m as Os h){pl:Sem Bool}{Q:af×List af->ai->Prop}(hq:Q (.ref fn,[.ref X]) (sh c.s₀ h k)):
  wpAny (MP c.w) (c.A f) (getMethod (.ref X) name pl) Q E (sh c.s₀ h k):=by
 refine bU λG1 hG1=>?_;obtain⟨la,d,A,_⟩:=I.get i;obtain⟨t,n,IA⟩:=A.inst;refine hG1 ?_;exact method_inst i.F O.x IA (vU c.w).1 hf.1 hf.2 (hl la t) hq
def KY (w:aB)(X:aj)(b:Bool):Mth:=⟨.ref X,aa "_convert_string_type",.ref 188,[(aa "name",b)],λU ps=>(one ps).bind λp=>p.str?.map λs=>(.s s,[],[hdOk w s])⟩
theorem we (O:c.Ok f)(hk:2<=c.k)(I:InsC c X j):MthOk f c (KY c.w X b) where
 kp:=Cc (by kernel_rfl)
 gm:=λU U U U U U i U U U U hq=>vT O I ⟨by kernel_rfl,by kernel_rfl⟩ (λU U=>by kernel_rfl) i hq
 cl:=λe hC V m as h vs i hv E Q k hq=>ak e λp e1 e=>aZ e λs e2 eq=>by
  subst eq;rw[one_is e1] at hv;obtain⟨u,_,rfl,hu,h0⟩:=hv;cases h0;obtain⟨t,rfl⟩:=PV.isStr e2 hu;refine iG (BT c.w X s b hC.1 f c V m as _ h rfl hk (λz=>nomatch z) O i [] Giv.nil PI [ue "self" (.ref X),ue "value" (.str s t),ue "name" (.bool b)] (by kernel_rfl) ⟨_,_,rfl,rfl,_,_,rfl,⟨t,rfl⟩,_,_,rfl,rfl,rfl⟩ (sh c.s₀ h k) ⟨[.ref X,.str s t],[(aa "name",.bool b)]⟩ k (O.x.keeps i.F.keep) (fZ (by kernel_rfl) :) _ λv bs h2 tk2 s2 es hv A=>?_);subst es;have hb:bs=[]:=bE.mp A.nw.len;subst hb;exact nB i hq hv.up λb o e=>A.kp b o (λj y e1 U=>by cases j<;>cases e1) (λz=>nomatch z) e
end
abbrev Kv:=Str×Str
noncomputable def nP:Nat->List Kv->List PV
 | _,[]=>[]
 | n,_ :: r=>.r n :: nP (n+1) r
theorem w8:∀ {l:List Kv} {n t:Nat},(nP n l)[t]?=(l[t]?).map λU=>.r (n+t)
 | [],n,t=>by cases t<;>rfl
 | _ :: _,n,0=>rfl
 | _ :: r,n,t+1=>by
  refine(?_:(nP (n+1) r)[t]?=_);rw[w8,gj]; rfl
theorem tV:∀ {l:List Kv} {n:Nat},(nP n l).length=l.length
 | [],_=>rfl
 | _ :: r,n=>congrArg fq (tV (l:=r))
noncomputable abbrev tE (q:Kv):SO:=.T [.s q.1,.s q.2]
abbrev EW (q:Kv):SO:=.G (tE q)
abbrev uX (l:List Kv):List SO:=.G (.L (nP 1 l)) :: l.map EW
noncomputable def rY:List Kv->Str->Option Str
 | [],_=>PF
 | q :: r,n=>if(bX q.1 == n)=PG then PD q.2 else rY r n
theorem uy:∀ {l:List Kv} {i:Nat} {q:Kv} {n:Str},l[i]?=PD q->(∀ q∈l.take i,(bX q.1 == n)=PH)->(bX q.1 == n)=PG->rY l n=PD q.2
 | [],i,_,_,e,_,_=>by cases i<;>cases e
 | _ :: _,0,_,_,e,_,h=>by cases e; exact if_pos h
 | q :: r,i+1,_,_,e,hs,h=>(if_neg (by rw[hs q (.head _)]; exact aP)).trans (uy (l:=r) e (λq hq=>hs q (.tail _ hq)) h)
theorem pU:∀ {l:List Kv} {n:Str},(∀ q∈l,(bX q.1 == n)=PH)->rY l n=PF
 | [],_,_=>rfl
 | q :: _,_,hs=>(if_neg (by rw[hs q (.head _)]; exact aP)).trans (pU λq hq=>hs q (.tail _ hq))
noncomputable def Jc (o:Option Str):PV:=o.elim (.v .none) .s
theorem xh {os:Nat->Obj}:∀ {l:List SO} {n:Nat},1<=n->pinF os [0] n l=l
 | [],_,_=>rfl
 | x :: r,n,h=>by
  have e:([0]:List Nat).contains n=PH:=by
   cases n with
   | zero=>cases h
   | succ n=>rfl
  refine(?_:(bif ([0]:List Nat).contains n then yu (os n) x else x) :: pinF os [0] (n+1) r=_);rw[e,xh (cq h)]; rfl
theorem zU {os:Nat->Obj}{l:List Kv}:pinF os [0] 0 (uX l)=uX l:=by
 refine(?_:SO.G (.L (nP 1 l)) :: pinF os [0] 1 (l.map EW)=_);rw[xh (aI 1)]
theorem AF {l:List Kv}{t:Nat}{q:Kv}(e:l[t]?=PD q):items (uX l) (t+1)=PD [.s q.1,.s q.2]:=by
 unfold items;rw[gl,aG,e]; rfl
def KE:Tab:=⟨[],[],[Ax],[vF]⟩
abbrev ND (w:aB)(X:aj)(j:Nat):=xL (DT X j) (extMt [KY w X PG])
section
variable {f:Fs}{c:Cx}{X:aj}{j:Nat}
theorem Nl (O:c.Ok f)(I:InsC c X j)(hk:2<=c.k):Wk.Okc ⟨f,KE,ND c.w X j⟩ c:=
 ⟨O,⟨aW mT cE,dz⟩,λU U=>pW (w:=c.w) (s8 (T:=KE) O I) (mB (T:=KE) O (am.mpr ⟨we O hk I,λU h=>nomatch h⟩))⟩
end
theorem Wk.ok0 {f:Fs}(O:c.Ok f):Wk.Okc ⟨f,⟨[],[],[],[]⟩,ex0⟩ c:=⟨O,⟨cE,dz⟩,λU U=>kK⟩
abbrev vG (X:aj)(n:Str)(r:Vm):Vm:=nm "self" (.v (.ref X)) :: nm "name" (.s n) :: nm "default" (.v .none) :: r
theorem CU:((bz (n+1)).contains 0)=PG:=bM.mpr (dm.mpr (fT _))
theorem Kq (w:aB)(X:aj)(kvs:List Kv)(a:Str)(ha:a.length<=5592405)(hok:hdOk w (bX a))(hl:∀ q∈kvs,q.1.length<=5592405):
  ConZ (x7 X (uX kvs)) w 236 6 PH (uX kvs) [.v (.ref X),.s a] (Jc (rY kvs (bX a))) [] []:=by
 refine Ent.con (Va:=[nm "self" (.v (.ref X)),nm "name" (.s a),nm "default" (.v .none)]) (fd:=pS (fdAt w 236)) (jJ (k:=5) (T:=⟨[],[],[],[]⟩) (ext:=ex0) 0 _ (λU U U U=>rfl) (by kernel_rfl) (by kernel_rfl) (λj y e hw=>?_) (λc U U U O=>Wk.ok0 O) λcx hw hn hP hN hq=>?_) λas₀ vs hv=>?_
 ·cases j with
  | zero=>cases e; exact hw.elim
  | succ j=>
   rw[gl,aG] at e;exact aZ e λU U eq=>by subst eq; exact hw.elim
 ·obtain⟨_,_,hk,_,hF⟩:=hq;have I:=hF.ins;subst hw
  refine Run.wk (T:=KE) (ext:=ND cx.w X 0) (λ{s} O=>⟨Nl (c:=cx.at s) O.o (I.sub (Cx.at_sub _ _)) (show 2<=cx.k from OF hk (by decide)),λc2 s2 o2=>by
   have hw2:c2.w=cx.w:=s2.w;have:=Nl o2 ((I.sub (Cx.at_sub cx s)).sub s2) (by rw[s2.k]; exact(show 2<=cx.k from OF hk (by decide)));rwa [hw2] at this⟩) ?_
  refine Run.cast (uX kvs) ((congrArg (uX kvs++·) (by kernel_rfl:rg (oM (um (fdAt cx.w 236).scope) [nm "self" (.v (.ref X)),nm "name" (.s a),nm "default" (.v .none)] []) (r5 (fdAt cx.w 236).scope)=[])).trans (ao _)) ?_;refine Run.blk 1 (vG X (bX a) []) (uX kvs++[]) [bl X=.ref X,a.length<=5592405,hdOk cx.w (bX a)] (by kernel_rfl) ⟨rfl,ha,hok,PI⟩ ?_;refine Run.cast (uX kvs) (ao _) ?_;generalize bX a=n at hP⊢;have hC:Al [bl X=.ref X]:=⟨rfl,PI⟩;refine Run.lp (α:=Unit) [] (.tup [aa "k",aa "v"]) ((nP 1 kvs).map .one) [] _ [0] (bz (kvs.length+1)) (λU U=>vG X n []) (λU U=>uX kvs) (λi U=>∀ q∈kvs.take i,(bX q.1 == n)=PH) (λU U=>False) () (by kernel_rfl) hC (by rw[fu,CU]; rfl) (λU U=>rfl) (aR.mpr λi hi=>decide_eq_true (by rw[ao,cV,aA]; exact dm.mp hi)) (by rw[hn,cV,aA]; exact aR.mpr λi hi=>bM.mpr hi) rfl (ao _).symm (λq hq=>nomatch hq) (λi x U os c' w' n' P' N' B' ex hs=>?_) (λU hs=>?_) λU U q=>q.elim
  ·rw[aG,w8] at ex;refine aZ ex λp e1 eq=>aZ e1 λq e2 eq2=>?_;subst eq; subst eq2;have hi:i<kvs.length:=lt_of_get e2;have hq:=dr e2;refine⟨vG X n [nm "k" (.s q.1),nm "v" (.s q.2)],uX kvs,bM.mpr (dm.mpr (by rw[NZ]; exact Nat.succ_lt_succ hi)),?_,?_⟩
   ·rw[zU,NZ 1 i];refine(?_:(items (uX kvs) (i+1)).bind _=_);rw[AF e2]
    kernel_rfl
   ·have hC:Al [q.1.length<=5592405]:=⟨hl q hq,PI⟩;refine Run.ifN (bX q.1 == n) _ (by kernel_rfl) hC (λh=>?_) λh=>?_
    ·refine Run.rt (.s q.2) [] [] (by kernel_rfl) PI (P' _ _ (hP _ _ [] ?_));have e3:=uy e2 hs h;rw[e3]; rfl
    ·refine Run.ns [aa "self",aa "name",aa "default"] (vG X n []) (by kernel_rfl) (Run.fe (by kernel_rfl) (N' () λq' hq'=>?_) rfl zU);rw[d5,e2] at hq';rcases bf.mp hq' with z | z
     ·exact hs _ z
     ·rw[ay.mp z]; exact h
  ·rw[aA,tV,dK] at hs;have e3:=pU hs;exact Run.rt (.v .none) [] [] (by kernel_rfl) PI (hP _ _ [] (by rw[e3]; rfl))
 ·obtain⟨_,_,rfl,h1,_,_,rfl,h2,h3⟩:=hv;cases h3;exact⟨[ue "self" _,ue "name" _,ue "default" .none],λs K=>kp_binds K λU=>by kernel_rfl,by kernel_rfl,_,_,rfl,h1,_,_,rfl,h2,_,_,rfl,rfl,rfl⟩
def Nq (Os:List SO):List PV->Option (List Nat×List Kv)
 | []=>PD ([],[])
 | p :: r=>p.ref?.bind λi=>(Os[i]?).bind λx=>x.core.tup?.bind λt=>(t[0]?).bind λa=>(t[1]?).bind λb=>a.str?.bind λa=>b.str?.bind λb=>(Nq Os r).map λq=>(i :: q.1,(a,b) :: q.2)
def LS (Os:List SO)(j:Nat):Option (List Nat×List Kv):=(Os[j]?).bind λx=>x.core.lst?.bind (Nq Os)
def okK1:List Kv->Prop
 | []=>True
 | q :: r=>q.1.length<=5592405/\okK1 r
theorem xo {l:List Kv}(h:okK1 l):∀ q∈l,q.1.length<=5592405:=by
 induction l with
 | nil=>exact λq hq=>nomatch hq
 | cons a l ih=>exact λq hq=>(aQ.mp hq).elim (λe=>e▸h.1) (ih h.2 q)
def L7 (w:aB)(X:aj)(j:Nat):Mth:=⟨.ref X,aa "get",.ref 236,[],λOs ps=>(one ps).bind λp=>p.str?.bind λa=>(LS Os j).map λq=>
 (Jc (rY q.2 (bX a)),[],[a.length<=5592405,hdOk w (bX a),okK1 q.2,dy (j :: q.1)=PG,gvL (gvS ((j :: q.1).map λi=>(i,PH))) Os ((j :: q.1).map λi=>(i,PH))=PD (uX q.2)])⟩
section
variable {f:Fs}{c:Cx}{X:aj}{j:Nat}
theorem Gd (σ:Nat->Option Nat)(o:Option Str):(Jc o).rn σ=PD (Jc o):=by cases o<;>rfl
theorem AT (O:c.Ok f)(hk:6<=c.k)(I:InsC c X j):MthOk f c (L7 c.w X j) where
 kp:=Cc (by kernel_rfl)
 gm:=λU U U U U U i U U U U hq=>vT O I ⟨by kernel_rfl,by kernel_rfl⟩ (λU U=>by kernel_rfl) i hq
 cl:=λ{Os ps q} e hC V m as h vs i hv E Q k hq=>ak e λp e1 e=>ak e λa e2 e=>aZ e λl e3 eq=>by
  subst eq;rw[one_is e1] at hv;obtain⟨u,_,rfl,hu,h0⟩:=hv;cases h0;rw[PV.str_is e2] at hu;obtain⟨c1,c2,c3,c4,c5,_⟩:=hC;obtain⟨as₀,gv,hg1,_⟩:=Giv.ofs i ((j :: l.1).map λi=>(i,PH)) (by rw[c8]; exact(eM (j :: l.1)).symm▸c4) c5;have h0:∀ a,as[j]?=PD a->as₀[0]?=PD a:=λa ea=>hg1 0 (j,PH) a rfl ea;refine ConZ.call (Kq c.w X l.2 a c1 c2 (xo c3)) rfl hk (λz=>nomatch z) O i gv (u8 i I gv h0) (λt y e hw=>?_) (vs:=[.ref X,u]) ⟨_,_,rfl,rfl,_,_,rfl,by obtain⟨t,rfl⟩:=hu; exact⟨t,rfl⟩,rfl⟩ (q:=(Jc (rY l.2 (bX a)),[],[])) (Gd _ _) rfl hq;cases t with
  | zero=>cases e; exact hw.elim
  | succ t=>
   rw[gl,aG] at e;exact aZ e λU U eq=>by subst eq; exact hw.elim
end
theorem OC (its new:Array af):its.extract 0 (0:Int).toNat++new++its.extract (max (0:Int) (its.size:Int)).toNat=new:=by
 have e:(max (0:Int) (its.size:Int)).toNat=its.size:=(congrArg bw (ia (dR _))).trans (fF _);rw[e];apply Array.ext';simp
theorem OG {l D S:aj}{os:Obj}{Q:Unit->ai->Prop}(hl:s.heap.get? l=PD { cls:=.type "list",data:=.seq its n })(hD:s.heap.get? D=PD { cls:=.type "list",data:=.seq new k })(hos:s.heap.get? S=PD os)(hcs:os.cls=.type "slice")(hdt:os.data=.fields #[.none,.none,.none])
  (hDl:Builtin.List.listSameRef (bl l) (bl D)=PH) (hs1:its.size+new.size<=1000)
  (fin:Q () { s with heap:=s.heap.update l (Obj.mapSeq λxs=>xs.extract 0 (0:Int).toNat++new++xs.extract (max (0:Int) (its.size:Int)).toNat) }):
  wpAny (MP w) A (setItem (.ref l) (.ref S) (.ref D)) Q E s:=by
 have hT:s.TypeIs (.ref l) "list":=⟨_,hl,rfl⟩;have hTs:s.TypeIs (.ref S) "slice":=⟨os,hos,hcs⟩;have b1000:its.size+new.size<=sizeLine:=ar hs1 (by decide);unfold setItem;refine bI (ab (wpAny_sequenceKey hT (by decide) ?_))
 refine ab (bA (name:=aa "__setitem__") hT slot_list_setitem
  (bZ slot_list_setitem hT entry_list_setitem ?_ (args_list_setitem _ _ _)))
 refine(?_:wpAny _ _ (Builtin.List.listSubscript? (.ref S) >>= _) _ _ _);refine ab ?_;unfold Builtin.List.listSubscript?;refine ab (uS hTs slice_no_index ?_);rw[if_pos (show Option.isNone PF=PG from rfl)];refine aD ?_;refine(?_:wpAny _ _ (typeOf (.ref S) >>= _) _ _ _);refine ab (Ca hTs ?_);rw[if_neg (by decide),listSliceParts_eq];refine ab (ab (bg hos hdt (x:=.none) rfl (ab (wt .none ?_))));rw[if_neg (by exact aP)];refine ab (bg hos hdt (x:=.none) rfl (ab (wt .none ?_)));refine ab (bg hos hdt (x:=.none) rfl (ab (wt .none (aD ?_))));dsimp only;rw[hDl,if_neg aP];refine ab (m:=Builtin.List.listAllItems _ _) ?_;unfold Builtin.List.listAllItems;refine ab (Ca ⟨_,hD,rfl⟩ ?_);rw[if_pos (show(_||_)=PG from rfl)];unfold Builtin.List.listItems;refine ab (dc hD rfl (aD ?_));refine ab (ab (dc hl rfl (aD ?_)));refine ab (iM ((sliceIndices_raw PF PF PF its.size (by simp)).trans (congrArg pure (show sliceBounds PF PF PF its.size=(0,(its.size:Int),1) from rfl))) ?_);refine(?_:wpAny _ _ (if((1:Int) == 1)=PG then _ else _) _ _ _);rw[if_pos (show((1:Int) == 1)=PG from rfl)];refine ab (eF ?_);rw[if_neg (λq:Builtin.List.listTooLong (its.size+new.size)=PG=>Nat.not_le_of_lt (of_decide_eq_true q) b1000)];unfold Builtin.List.listUpdate;refine ab (wpAny_updateSeq hl rfl ?_ (ar (a8 _ _) b1000) (by rw[OC]; exact cq (ar (dZ _ _) b1000)));exact ab (nf (aD ⟨.none,rfl,aD fin⟩))
theorem FO {l D:aj}{Q:Unit->ai->Prop}(hl:s.heap.get? l=PD { cls:=.type "list",data:=.seq its n })(hD:s.heap.get? D=PD { cls:=.type "list",data:=.seq new k })(hDl:l≠D)(hs1:its.size+new.size<=1000)
  (h:∀ h' n2,KpB l s.heap h'->h'.get? l=PD { cls:=.type "list",data:=.seq new n2 }->Q () { s with heap:=h' }):
  wpAny (MP w) A (setItem (.ref l) (.ref s.heap.objs.size) (.ref D)) Q E { s with heap:=s.heap.push { cls:=.type "slice",data:=.fields #[.none,.none,.none] } }:=
 (Heap.IsSliceOf.new s.heap .none .none .none).elim λU z=>OG (s:={ s with heap:=s.heap.push { cls:=.type "slice",data:=.fields #[.none,.none,.none] } }) (ag _ hl) (ag _ hD) z.1 z.2.1 z.2.2 (by simp[Builtin.List.listSameRef,hDl]) hs1
  (h _ (if new.size == its.size then n else n+1) (λb o hb e=>((fw ..).2 b hb).trans (ag _ e)) (by
   rw[df _ (ag _ hl) (by rfl)];exact congrArg (λxs=>PD ({ cls:=dL "list",data:=x9 xs (if xs.size == its.size then n else n+1) }:Obj)) (OC its new)))
section
variable {k:Wk}{c:Cx}{V:Vm}{Os Os':List SO}{b:List aS}{bs:List (List aS)}{C:List Prop}
noncomputable def Af (q:Option aw×Option aw×Option aw):Bool:=q.1.isNone&&(q.2.1.isNone&&q.2.2.isNone)
def Lp (k:Wk)(w:aB)(V:Vm)(Os:List SO)(b:List aS):Option (List SO×List Prop):=(nV b).bind λq=>(zy q.1).bind λr=>(vw r.2).sli?.bind λz=>if Af z=PG then(evF k w V Os q.2).bind λa=>(evF k w V (Os++a.2.1) r.1).bind λo=>if o.2.1.isEmpty=PG then
 (sJ (Os++a.2.1) o.1).bind λl=>(sJ (Os++a.2.1) a.1).bind λd=>if l.1≠d.1 then PD ((Os++a.2.1).set l.1 (.L d.2),a.2.2++(o.2.2++[l.2.length+d.2.length<=1000])) else PF else PF else PF
theorem Cw {o i:aw}(l:Nat)(env:Env):swapsWith e (PD (.Subscript o i p)) l env=pure PH:=by cases e<;>rfl
theorem yw {z:Option aw×Option aw×Option aw}(h:Af z=PG):z=(PF,PF,PF):=by
 have h:=(aq _ _).mp h;have h1:=(aq _ _).mp h.2;exact gz (iW.mp h.1) (gz (iW.mp h1.1) (iW.mp h1.2))
theorem zE {ed el:aw}{a o:nb}{l d:Nat×List PV}{pz:Pos}(e9:b=.Assign [.Subscript el (.Slice PF PF PF pz) ps] ed pos :: b.tail)(e5:evF k c.w V Os ed=PD a)(e6:evF k c.w V (Os++a.2.1) el=PD o)(e7:o.2.1=[])(e8:sJ (Os++a.2.1) o.1=PD l)(e10:sJ (Os++a.2.1) a.1=PD d)(hne:l.1≠d.1)(hC:Al (a.2.2++(o.2.2++[l.2.length+d.2.length<=1000])))
  (h:Run k c V ((Os++a.2.1).set l.1 (.L d.2)) (b.tail :: bs)):Run k c V Os (b :: bs):=by
 rw[e9];refine .one (λ{s₁} O as hp tk m i Q hq U=>lI ((b7 O.toOkc _ _ _ e5).2 hC.left _ _ _ _ _ i λv bs1 h1 k1 hv i1 U=>(b7 O.toOkc _ _ _ e6).2 hC.right.left _ _ _ _ _ i1 λov bs2 h2 k2 hov i2 U=>wpAny_Slice (aD (aD (aD ?_)))) (Cw _ _)) h;have i2:Inv k.f (c.at s₁) V m (as++bs1++bs2) (Os++a.2.1++o.2.1) h2:=i2;rw[e7,ao] at i2;have g:=mP e8;have g':=mP e10;refine((g.1▸hov:(PV.r l.1).is (as++bs1++bs2) ov)).elim λDl w=>((g'.1▸hv.up:(PV.r d.1).is (as++bs1++bs2) v)).elim λDd w'=>(kH i2 w.1 g.2).elim λus u=>u.elim λn u=>(kH i2 w'.1 g'.2).elim λvs u'=>u'.elim λn' u'=>?_;rw[w.2,w'.2];exact FO (s:=sh s₁ h2 k2) u.1 u'.1 (λq=>hne (i2.nd _ _ _ _ _ w.1 (q▸w'.1) g.2 g'.2 PI PI)) (by rw[aK,aK,u.2.len,u'.2.len]; exact hC.right.right.1) λh' n2 kp hl=>hq _ _ _ _ (i2.objK w.1 g.2 PI PI kp hl ⟨vs,n2,rfl,u'.2⟩)
theorem Run.slA (he:Lp k c.w V Os b=PD (Os',C))(hC:Al C)(h:Run k c V Os' (b.tail :: bs)):Run k c V Os (b :: bs):=
 ak he λq e1 he=>ak he λr e2 he=>ak he λz e3 he=>iteE he λe4 he=>ak he λa e5 he=>ak he λo e6 he=>iteE he λe7 he=>ak he λl e8 he=>ak he λd e9 he=>iteE he λe10 he=>
  have E:=ac he;have q1:a.2.2++(o.2.2++[l.2.length+d.2.length<=1000])=C:=congrArg sd E;have q2:(Os++a.2.1).set l.1 (.L d.2)=Os':=congrArg nJ E
  (gM e1).elim λpos hb=>(sub_is e2).elim λps e2=>(sli_is e3).elim λpz e3=>have e3:r.2=.Slice PF PF PF pz:=e3.trans (by rw[yw e4]); zE (pz:=pz) (ps:=ps) (pos:=pos) (hb.trans (by rw[e2,e3])) e5 e6 (aX.mp e7) e8 e9 e10 (q1▸hC) (q2▸h)
end
abbrev vO (l:List Kv):List SO:=.L (nP 1 l) :: l.map EW
noncomputable abbrev S' (s:String):Str:=aa s
abbrev n0 (b:Bool):Str:=bif b then S' "r" else S' "R"
abbrev n1 (b:Bool):Str:=bif b then S' "g" else S' "G"
abbrev n2 (b:Bool):Str:=bif b then S' "b" else S' "B"
abbrev uY (b:Bool):List Kv:=[(S' "b",S' "rgb"),(n0 b,S' "rgr"),(S' "B",S' "bgb")]
abbrev Ch (b:Bool):List Kv:=[(n0 b,S' "rgr"),(n2 b,S' "brb")]
abbrev y9 (b:Bool):List Kv:=[(n0 b,S' "rgr"),(n2 b,S' "brb"),(n1 b,S' "gbg")]
theorem oj {l:List Kv}(e:(vO l)[j]?=PD y)(hw:y.own):j<1:=by
 cases j with
 | zero=>exact fT 0
 | succ j=>
  rw[gl,aG] at e;exact aZ e λU U eq=>by subst eq; exact hw.elim
def tbH:Tab:=⟨[ln],[],[Ax,Ay],[vF,xz,zl]⟩
abbrev Ma (w:aB)(X:aj):=xL (DT X 0) (xL (extMt [KY w X PG,KY w X PH,L7 w X 0]) (Bg (DT X 0) []))
theorem Nk {f:Fs}{j:Nat}(O:c.Ok f)(I:InsC c X 0)(hk:6<=c.k):Wk.Okc ⟨f,tbH,Ma c.w X⟩ c:=
 have G:CtOk f c tbH:=⟨aW mT (aW mo (aW oO cE)),am.mpr ⟨PI,dz⟩⟩;have h2:2<=c.k:=ar (by decide) hk
 ⟨O,G,λU U=>pW (w:=c.w) (s8 (T:=tbH) O I) (pW (w:=c.w) (mB (T:=tbH) O (am.mpr ⟨we O h2 I,am.mpr ⟨we O h2 I,am.mpr ⟨AT O hk I,λU h=>nomatch h⟩⟩⟩)) (uD O G λU U=>s8 O I))⟩
section
variable {k:Wk}{c:Cx}{V:Vm}{Os Os':List SO}{b:List aS}{bs:List (List aS)}{C:List Prop}
theorem Run.inH (I:InsC c X 0)(hk:6<=c.k)(h:Run (wkAt c.w a n tbH (Ma c.w X)) c V Os bs):Run (wkAt c.w a n ⟨[],[],[],[]⟩ ex0) c V Os bs:=
 Run.wk (T:=tbH) (ext:=Ma c.w X) (λ{s} O=>⟨Nk (j:=0) (c:=c.at s) O.o (I.sub (Cx.at_sub _ _)) hk,λc2 s2 o2=>by
  have hw2:c2.w=c.w:=s2.w;have:=Nk (j:=0) o2 ((I.sub (Cx.at_sub c s)).sub s2) (by rw[s2.k]; exact hk);rwa [hw2] at this⟩) h
end
abbrev Nv:List Str:=[S' "b",S' "r",S' "g",S' "R",S' "G",S' "B",S' "rgr",S' "gbg",S' "brb",S' "bgb",S' "rgb"]
theorem GT (w:aB):(Nv.all λs=>Ik w 153 s&&Ik w 158 s)=PG:=by kernel_rfl
theorem hdT (w:aB){s:Str}(h:Nv.contains s=PG):hdOk w s:=by
 have:=aR.mp (GT w) s (bM.mp h);rw[aq] at this; exact this
theorem LZ (w:aB)(b:Bool):hdOk w (n0 b)/\hdOk w (n1 b)/\hdOk w (n2 b):=by cases b<;>exact⟨hdT w (by decide +kernel),hdT w (by decide +kernel),hdT w (by decide +kernel)⟩
theorem AB (b:Bool):bX (n0 b)=S' "r"/\bX (n1 b)=S' "g"/\bX (n2 b)=S' "b":=by cases b<;>exact⟨by decide +kernel,by decide +kernel,by decide +kernel⟩
theorem j7 (b:Bool):(n0 b).length<=5592405/\(n1 b).length<=5592405/\(n2 b).length<=5592405:=by cases b<;>exact⟨by decide +kernel,by decide +kernel,by decide +kernel⟩
theorem Kr (w:aB)(X:aj)(b:Bool):ConZ (x7 X (vO (uY b))) w 207 7 PH (vO (uY b)) [.v (.ref X),.s (n2 b)] (.v .none) [.L [.r 2]] []:=by
 refine Ent.con (Va:=[nm "self" (.v (.ref X)),nm "name" (.s (n2 b))]) (fd:=pS (fdAt w 207)) (jJ (k:=6) (T:=⟨[],[],[],[]⟩) (ext:=ex0) 1 _ (λU U U U=>rfl) (by kernel_rfl) (by kernel_rfl) (λU U=>oj) (λc U U U O=>Wk.ok0 O) λcx hw hn hP hN hq=>?_) λas₀ vs hv=>?_
 ·obtain⟨_,_,hk,_,hF⟩:=hq;have I:=hF.ins;subst hw;refine Run.inH I (OF hk (by decide)) ?_;have hC:Al [bl X=.ref X,(n2 b).length<=5592405,hdOk cx.w (bX (n2 b))]:=⟨rfl,(j7 b).2.2,(AB b).2.2▸hdT _ (by decide +kernel),PI⟩;refine Run.blk 1 [nm "self" (.v (.ref X))] (vO (uY b)++[.C (PD (.s (bX (n2 b))))]) _ (by kernel_rfl) hC ?_
  have hD:Al [bl X=.ref X,-((2:Nat):Int)<=0,(0:Int)<((2:Nat):Int),(S' "b").length<=5592405,-((2:Nat):Int)<=0,(0:Int)<((2:Nat):Int),(n0 b).length<=5592405,-((2:Nat):Int)<=0,(0:Int)<((2:Nat):Int),(S' "B").length<=5592405,bl X=.ref X,3+1<=1000]:=
   ⟨rfl,by decide,by decide,by decide +kernel,by decide,by decide,(j7 b).1,by decide,by decide,by decide +kernel,rfl,by decide,PI⟩
  refine Run.slA (Os':=.L [.r 2] :: (uY b).map EW++[.C (PD (.s (bX (n2 b)))),.L [.r 2]]) (by cases b<;>kernel_rfl) hD ?_;exact Run.fe (by kernel_rfl) (hN _ _ (hP _ _ [] (by kernel_rfl))) rfl rfl
 ·obtain⟨_,_,rfl,h1,_,_,rfl,h2,h3⟩:=hv;cases h3;exact⟨[ue "self" _,ue "name" _],λs K=>(fZ (by kernel_rfl) :),by kernel_rfl,_,_,rfl,h1,_,_,rfl,h2,rfl⟩
section
variable {f:Fs}{c:Cx}{V:Vm}{m:Str->Option af}{as:List aj}{Os:List SO}{h:aL}{k:Wk}{b:List aS}{bs:List (List aS)}
theorem sY {ps ps₀:List PV}{p p':PV}{ys zs:List SO}(K:ConZ (x7 X Os₀) c.w a kk PH Os₀ ps₀ p [y'] ys)(hk:kk<=c.k)(O:c.Ok f)(i:Inv f c V m as Os h)(I:InsC c X j)(hn:dy (j :: ds)=PG)
  (hg:gvL (gvS ((j,PG) :: ds.map λi=>(i,PH))) Os ((j,PG) :: ds.map λi=>(i,PH))=PD Os₀) (hp:tD (gvS ((j,PG) :: ds.map λi=>(i,PH))) ps=PD ps₀)  (hvs:IsAll as ps vs) (hp':p.rn (sigF Os.length (j :: ds))=PD p') (hy:y'.rn (sigF Os.length (j :: ds))=PD y) (hys:uW (sigF Os.length (j :: ds)) ys=PD zs)
    (hq:∀ v bs h' tk',p'.is (as++bs) v->Inv f c V m (as++bs) ((Os++zs).set j y) h'->Q v (sh c.s₀ h' tk')):wpAny (MP c.w) (c.A f) (call (.ref a) vs) Q E (sh c.s₀ h tk):=
 conz_eff K hk O i hn hg (λas₀ gv h0=>u8 i I gv λa ea=>h0 0 j a rfl ea) hp hvs hp' hy hys hq
theorem Run.dl {n:Str}(K:ConZ (x7 X Os₀) c.w 207 kk PH Os₀ [.v (.ref X),.s n] (.v .none) [y'] [])(hk:kk<=c.k)(I:InsC c X j){pd:Pos}(hb:b.head?=PD (.Delete [.Subscript (.Name (S' "self") px) (.Name (S' "name") py) ps] pd))
  (hx:ldF c.w k.f V Os (S' "self")=PD (.v (.ref X))) (hz:ldF c.w k.f V Os (S' "name")=PD (.s n)) (hn:dy (j :: ds)=PG) (hg:gvL (gvS ((j,PG) :: ds.map λi=>(i,PH))) Os ((j,PG) :: ds.map λi=>(i,PH))=PD Os₀) (hy:y'.rn (sigF Os.length (j :: ds))=PD y)
  (h:Run k c V (Os.set j y) (b.tail :: bs)):Run k c V Os (b :: bs):=by
 rw[dU hb];refine .one (λ{s₁} O as hp tk m i Q hq U=>wpAny_Delete (wpAny_deleteEach_cons (PySem.wpAny_delete_Subscript (fL O.o _ _ _ hx px PI _ _ _ _ _ i λu bs1 h1 k1 hu i1 U=>fL O.o _ _ _ (by rw[ao]; exact hz) py PI _ _ _ _ _ i1 λv bs2 h2 k2 hv i2 U=>?_)))) h;have hu:u=.ref X:=hu;subst hu;obtain⟨t,rfl⟩:=hv;have i2:Inv k.f (c.at s₁) V m (as++bs1++bs2) (Os++[]++[]) h2:=i2;rw[ao,ao] at i2;have I2:InsC (c.at s₁) X j:=I.sub (Cx.at_sub c s₁);refine bU λG1 hG1=>?_;obtain⟨la,d,A,_⟩:=I2.get i2;obtain⟨t',n',IA⟩:=A.inst;refine hG1 ?_;refine Mine.KX i2.F O.o.x IA (by kernel_rfl) (f:=207) (by kernel_rfl) (by kernel_rfl) (sY (c:=c.at s₁) K hk O.o i2 I2 hn hg (ps:=[.v (.ref X),.s n]) rfl ⟨_,_,rfl,rfl,_,_,rfl,⟨t,rfl⟩,rfl⟩ (p':=.v .none) rfl hy (zs:=[]) rfl λv bs h' tk' U i3=>wpAny_deleteEach_nil (hq (as++bs1++bs2++bs) h' tk' m ?_));rw[ao] at i3; exact i3
end
theorem MH {y z:Str}{p q r:PV}(hb:∀ u v t,bindArgs (pS (fdAt w a)) ⟨[u,v,t],[]⟩=pure [(x,u),(y,v),(z,t)])(hk:∀ u v t:af,([(x,u),(y,v),(z,t)].all λq=>(fdAt w a).scope.names.lookup q.1 == PD .local||(fdAt w a).scope.names.lookup q.1 == PD .cell)=PG)(hv:IsAll as₀ [p,q,r] vs):
  ∃ binds,(∀ s:ai,(hd.heap_39 w.params).In s.heap->Iz s (pS (fdAt w a)) ⟨vs,[]⟩ binds)/\(binds.all λy=>(pS (fdAt w a)).scope.names.lookup y.1 == PD .local||(pS (fdAt w a)).scope.names.lookup y.1 == PD .cell)=PG/\B9 as₀ [(x,p),(y,q),(z,r)] binds:=by
 refine bU λG1 hG1=>?_;obtain⟨u,_,rfl,h1,v,_,rfl,h2,t,_,rfl,h3,h4⟩:=hv;refine hG1 ?_;cases h4;exact⟨_,λU U=>fZ (hb u v t),hk u v t,_,_,rfl,h1,_,_,rfl,h2,_,_,rfl,h3,rfl⟩
abbrev vH (X:aj)(x y:String)(s t:Str)(r:Vm):Vm:=nm "self" (.v (.ref X)) :: nm x (.s s) :: nm y (.s t) :: r
theorem Kj (w:aB)(X:aj)(b:Bool):ConZ (x7 X (vO (uY b))) w 202 9 PH (vO (uY b)) [.v (.ref X),.s (n2 b),.s (S' "brb")] (.v .none) [.L [.r 2,.r 4]] [tE (n2 b,S' "brb")]:=by
 refine Ent.con (Va:=vH X "name" "val" (n2 b) (S' "brb") []) (jJ (k:=8) (T:=⟨[],[],[],[]⟩) (ext:=ex0) 1 _ (λU U U U=>rfl) (by kernel_rfl) (by kernel_rfl) (λU U=>oj) (λc U U U O=>Wk.ok0 O) λcx hw hn hP hN hq=>?_) λas₀ vs hv=>MH (λU U U=>by kernel_rfl) (λU U U=>by kernel_rfl) hv;refine bU λG1 hG1=>?_;obtain⟨_,_,hk,_,hF⟩:=hq;have I:=hF.ins;subst hw;refine hG1 ?_;refine Run.inH I (OF hk (by decide)) ?_;refine Run.dl (ds:=[1,2,3]) (Kr _ X b) (OF hk (by decide)) I (by with_unfolding_all rfl) (by kernel_rfl) (by kernel_rfl) (by kernel_rfl) (y:=.L [.r 2]) (by kernel_rfl) (by kernel_rfl) ?_;have hC:Al [bl X=.ref X,bl X=.ref X,hdOk cx.w (n2 b),bl X=.ref X,hdOk cx.w (S' "brb"),1<=1000]:=⟨rfl,rfl,(LZ _ b).2.2,rfl,hdT _ (by decide +kernel),by decide,PI⟩;refine Run.blk 1 (vH X "name" "val" (n2 b) (S' "brb") []) (.L [.r 2,.r 4] :: (uY b).map EW++[tE (n2 b,S' "brb")]) _ (by kernel_rfl) hC ?_;exact Run.fe (by kernel_rfl) (hN _ _ (hP _ _ [4] (by kernel_rfl))) rfl rfl
theorem Kl (w:aB)(X:aj)(b:Bool):ConZ (x7 X (vO (Ch b))) w 279 9 PH (vO (Ch b)) [.v (.ref X),.s (n1 b),.s (S' "gbg")] (.s (S' "gbg")) [.L [.r 1,.r 2,.r 3]] [tE (n1 b,S' "gbg")]:=by
 refine Ent.con (Va:=vH X "name" "value" (n1 b) (S' "gbg") []) (jJ (k:=8) (T:=⟨[],[],[],[]⟩) (ext:=ex0) 1 _ (λU U U U=>rfl) (by kernel_rfl) (by kernel_rfl) (λU U=>oj) (λc U U U O=>Wk.ok0 O) λcx hw hn hP hN hq=>?_) λas₀ vs hv=>MH (λU U U=>by kernel_rfl) (λU U U=>by kernel_rfl) hv;obtain⟨_,_,hk,_,hF⟩:=hq;have I:=hF.ins;subst hw;refine Run.inH I (OF hk (by decide)) ?_;have hC:Al [bl X=.ref X,(n1 b).length<=5592405,hdOk cx.w (bX (n1 b)),okK1 (Ch b),dy [0,1,2]=PG,gvL (gvS ([0,1,2].map λi=>(i,PH))) (vO (Ch b)) ([0,1,2].map λi=>(i,PH))=PD (uX (Ch b))]:=⟨rfl,(j7 b).2.1,(AB b).2.1▸hdT _ (by decide +kernel),⟨(j7 b).1,(j7 b).2.2,PI⟩,rfl,by kernel_rfl,PI⟩;refine Run.blk 1 (vH X "name" "value" (n1 b) (S' "gbg") [nm "result" (.v .none)]) (vO (Ch b)) _ (by cases b<;>kernel_rfl) hC ?_;refine Run.if PG [] [] (by kernel_rfl) PI (λU=>?_) λq=>nomatch q;have hD:Al [bl X=.ref X,bl X=.ref X,hdOk cx.w (n1 b),bl X=.ref X,hdOk cx.w (S' "gbg"),2<=1000]:=⟨rfl,rfl,(LZ _ b).2.1,rfl,hdT _ (by decide +kernel),by decide,PI⟩;refine Run.blk 1 (vH X "name" "value" (n1 b) (S' "gbg") [nm "result" (.v .none)]) (.L [.r 1,.r 2,.r 3] :: (Ch b).map EW++[tE (n1 b,S' "gbg")]) _ (by kernel_rfl) hD ?_;exact Run.rt (.s (S' "gbg")) [] [] (by kernel_rfl) PI (hP _ _ [3] (by kernel_rfl))
theorem Kk (w:aB)(X:aj)(b:Bool):ConZ (x7 X (vO (y9 b))) w 279 9 PH (vO (y9 b)) [.v (.ref X),.s (S' "r"),.s (S' "gbg")] (.s (S' "rgr")) [.L [.r 1,.r 2,.r 3]] []:=by
 refine Ent.con (Va:=vH X "name" "value" (S' "r") (S' "gbg") []) (jJ (k:=8) (T:=⟨[],[],[],[]⟩) (ext:=ex0) 1 _ (λU U U U=>rfl) (by kernel_rfl) (by kernel_rfl) (λU U=>oj) (λc U U U O=>Wk.ok0 O) λcx hw hn hP hN hq=>?_) λas₀ vs hv=>MH (λU U U=>by kernel_rfl) (λU U U=>by kernel_rfl) hv;obtain⟨_,_,hk,_,hF⟩:=hq;have I:=hF.ins;subst hw;refine Run.inH I (OF hk (by decide)) ?_;have hC:Al [bl X=.ref X,(S' "r").length<=5592405,hdOk cx.w (bX (S' "r")),okK1 (y9 b),dy [0,1,2,3]=PG,gvL (gvS ([0,1,2,3].map λi=>(i,PH))) (vO (y9 b)) ([0,1,2,3].map λi=>(i,PH))=PD (uX (y9 b))]:=⟨rfl,by decide +kernel,(AB PG).1▸hdT _ (by decide +kernel),⟨(j7 b).1,(j7 b).2.2,(j7 b).2.1,PI⟩,rfl,by kernel_rfl,PI⟩;refine Run.blk 1 (vH X "name" "value" (S' "r") (S' "gbg") [nm "result" (.s (S' "rgr"))]) (vO (y9 b)) _ (by cases b<;>kernel_rfl) hC ?_;refine Run.if PH [] [] (by kernel_rfl) PI (λq=>nomatch q) λU=>?_;exact Run.rt (.s (S' "rgr")) [] [] (by kernel_rfl) PI (hP _ _ [] (by kernel_rfl))
def jn (o:Obj):Prop:=o=emptyDict
section
variable {k:Wk}{c:Cx}{V:Vm}{Os:List SO}{b:List aS}{bs:List (List aS)}
theorem Run.it0 {xk xv:Str}{pk pv pt:Pos}{body:List aS}(hb:b.head?=PD (.For (.Tuple [.Name xk pk,.Name xv pv] n pt) (.Call (.Attribute (.Name x px) (S' "items") pa) [] [] p) body [] pos))(hl:(pa.endLine == p.line)=PG)(hx:ldF c.w k.f V Os x=PD (.r j))(he:Os[j]?=PD (.G (.P jn)))(hh:c.hv=PF)(hs:∃ a,(j,a)∈c.pre/\(a == sysModules)=PH)
  (hk:k.f.sc.names.lookup xk=PD .local) (hv:k.f.sc.names.lookup xv=PD .local) (h:Run k c V Os (b.tail :: bs)):Run k c V Os (b :: bs):=by
 rw[dU hb];refine .of λ{s₁} O as hp tk m i=>bc (For_pair_inv c.h₀ (iC rfl hl (by decide) rfl λpl=>(fL O.o _ _ _ hx px PI _ _ _ _ _ i λu bs1 h1 k1 hu i1 U=>?_)));have i1:Inv k.f (c.at s₁) V m (as++bs1) (Os++[]) h1:=i1;rw[ao] at i1;obtain⟨d,hp1,hs⟩:=hs;obtain⟨d3,ed,e1⟩:=hu;rw[show(as++bs1)[j]?=PD d from i1.pf _ hp1] at ed;cases ed; subst e1;obtain⟨o,h0,ho,_,hg0⟩:=i1.ob _ _ _ (i1.pf _ hp1) he PI;have hg0:=hg0 λz=>z;have h0:o=emptyDict:=h0.1;subst h0;refine rp ⟨_,ho,rfl⟩ PySem.F.plainAttrs_dict PySem.F.slot_dict_items PySem.F.type_dict_items (λa q=>by cases q; exact⟨_,ho,rfl⟩) (i7 ?_);have hat:∀ {h2:aL},h2.get? d=PD emptyDict->h2.DictAt (lP aH.row.prog c.w) d [] 0:=λe=>⟨_,#[],e,⟨rfl,rfl,rfl⟩,rfl,(λU h=>by simp at h),.nil,.nil⟩;have hd0:(sh s₁ h1 k1).heap.DictOf (lP aH.row.prog c.w) d []:=⟨_,#[],0,ho,⟨rfl,rfl,rfl⟩,rfl,λU he=>by simp at he,Pairs.nil,sf⟩;refine call_meetsIn PySem.F.slot_dict_items hd0.typeIs PySem.F.entry_dict_items (PySem.F.args_dict_items_1 _) (meets_dict_items (lP aH.row.prog c.w) d hs) ⟨⟨[],hd0⟩,?_⟩;have kp:∀ {h2:aL} {o2:Obj} b o,h2.get? b=PD o->(h2.push o2).get? b=PD o:=λb o e=>ag _ e;have hLs:=i1.F.ns.lt;refine(?_:wpAny _ _ (pyIter (.ref h1.objs.size)) _ _ (sh s₁ (h1.push { cls:=.type "dict_items",data:=.fields #[.ref d] }) k1));refine wpAny_pyIter_items (d:=d) (ep:=0) (s:=sh s₁ (h1.push { cls:=.type "dict_items",data:=.fields #[.ref d] }) k1) ⟨_,aE _ rfl,rfl,rfl⟩ (hat (kp _ _ ho)) ?_;intro pk pv pt x1;obtain⟨N,NN,hN⟩:=gf c.h₀ ((h1.push { cls:=.type "dict_items",data:=.fields #[.ref d] })) c.L;have Fp:Fr c.h₀ c.L (h1.push { cls:=.type "dict_items",data:=.fields #[.ref d] }) m:=i1.F.keeps kp;have dlt:d<(h1.push { cls:=.type "dict_items",data:=.fields #[.ref d] }).objs.size:=aO (kp _ _ ho)
 refine codeAny_forLoop_items_fr (knd:=lP aH.row.prog c.w) (h₀:=c.h₀) (news:=N) (kvs:=[]) (d:=d) (ep:=0) hh hk hv (by show(k.f.sc.kind == .class||(k.f.sc.kind == .module&&c.L != mainGlobals))=PH; rw[O.o.kd]; rfl) (cL Fp.ns.lt) (λe=>?_) (aY dlt) (next_is_new Fp)
  (λp hp=>aY (aO (NN p hp).1)) (aE _ rfl) (hat (kp _ _ (kp _ _ ho))) (Fp.push _) (λp hp=>⟨ag _ (NN p hp).1,(NN p hp).2⟩) (λU m'=>m'=m) rfl (λi k v key m₁ s₁ own hx=>nomatch hx) λh' tk m' F' N' e=>?_
 ·have e:d=c.L:=e;have e0:c.h₀.get? c.L=PF:=i1.L0;have hg0:c.h₀.get? d=PD emptyDict:=hg0;rw[e,e0] at hg0; cases hg0
 ·subst e;exact h.at O (i1.keep F' (λb o hb e=>lf hN Fp F' N' b o hb (kp b o e)))
end
theorem Frm.imp {gs:ai->ai->Prop}{Z Z':Cx->List aj->aL->Prop}{tb:Bool}(F:Frm gs Z tb Os₀ c)(h:∀ c as h,Z c as h->Z' c as h):Frm gs Z' tb Os₀ c:=⟨F.ex.elim λc₀ q=>q.elim λas₀ q=>q.elim λh₀ q=>⟨c₀,as₀,h₀,h _ _ _ q.1,q.2⟩⟩
def ZAdd (X:aj)(Os₀:List SO)(c:Cx)(as₀:List aj)(h:aL):Prop:=x7 X Os₀ c as₀ h/\c.hv=PF/\∃ D,as₀[4]?=PD D/\(D == sysModules)=PH
abbrev oAdd (b:Bool):List SO:=vO (y9 b)++[.G (.P jn)]
theorem Jy:jV (S' "; ") [S' "bgb"]=S' "bgb":=by decide +kernel
abbrev vA (X:aj)(r:Vm):Vm:=nm "self" (.v (.ref X)) :: nm "_name" (.s (S' "g")) :: nm "_value" (.s (S' "bgb")) :: nm "_params" (.r 4) :: r
theorem Ks (w:aB)(X:aj)(b:Bool):Ent Eq (ZAdd X (oAdd b)) w 286 (pS (fdAt w 286)) 9 PH (oAdd b) (vA X []) (.v .none) [.L [.r 1,.r 2,.r 3,.r 5]] [tE (S' "g",S' "bgb")]:=by
 refine jJ (k:=8) (T:=⟨[],[],[],[]⟩) (ext:=ex0) 1 _ (λU U U U=>rfl) (by kernel_rfl) (by kernel_rfl) (λj y e hw=>?_) (λc U U U O=>Wk.ok0 O) λcx hw hn hP hN hq=>?_
 ·rcases j with _ | _ | _ | _ | _ | j<;>first | exact fT 0 | (cases e; exact hw.elim) | (cases e)
 refine bU λG1 hG1=>?_;obtain⟨_,_,hk,_,hF⟩:=hq;have I:=(hF.imp λU U U z=>z.1).ins;obtain⟨c₀,as₀,h₀,⟨_,hh,D,e4,hs⟩,hhv,_,hpre,_⟩:=hF.ex;subst hw;refine hG1 ?_;refine Run.inH I (OF hk (by decide)) ?_;refine Run.blk 1 (vA X [nm "parts" (.r 5)]) (oAdd b++[.L []]) [] (by kernel_rfl) PI ?_;refine Run.if PG [] [] (by kernel_rfl) PI (λU=>?_) λq=>nomatch q;have hC:Al [bl X=.ref X,hdOk cx.w (S' "bgb"),0<=1000]:=⟨rfl,hdT _ (by decide +kernel),by decide,PI⟩;refine Run.blk 2 (vA X [nm "parts" (.r 5)]) (oAdd b++[.L [.s (S' "bgb")]]) _ (by kernel_rfl) hC (Run.nl (by kernel_rfl) ?_ λq=>nomatch q);refine Run.it0 (j:=4) (by with_unfolding_all rfl) (by kernel_rfl) (by kernel_rfl) (by kernel_rfl) (hhv.trans hh) ⟨D,hpre▸jl e4,hs⟩ (by kernel_rfl) (by kernel_rfl) ?_;have hD:Al [bl X=.ref X,bl X=.ref X,hdOk cx.w (S' "g"),[PV.s (S' "bgb")]=[S' "bgb"].map .s,([S' "bgb"].map (·.length)).sum+[S' "bgb"].length*(S' "; ").length<=16777216,3<=1000]:=⟨rfl,rfl,hdT _ (by decide +kernel),rfl,by decide +kernel,by decide,PI⟩;refine Run.blk 1 (vA X [nm "parts" (.r 5)]) (.L [.r 1,.r 2,.r 3,.r 6] :: (y9 b).map EW++[.G (.P jn),.L [.s (S' "bgb")],.T [.s (S' "g"),.s (jV (S' "; ") [S' "bgb"])]]) _ (by kernel_rfl) hD ?_;rw[Jy];exact Run.fe (by kernel_rfl) (hN _ _ (hP _ _ [6] (by kernel_rfl))) rfl rfl
section
variable {k:Wk}{c:Cx}{V:Vm}{Os Os':List SO}{b:List aS}{bs:List (List aS)}{C:List Prop}
def JB (b:List aS):Option aw:=b.head?.bind λs=>(y8 s).exp?.bind λe=>(vw e).cll?.map λU=>e
def pEx (k:Wk)(w:aB)(V:Vm)(Os:List SO)(b:List aS):Option (List SO×List Prop):=(JB b).bind λe=>(evF k w V Os e).map λa=>(Os++a.2.1,a.2.2)
theorem Run.ex (he:pEx k c.w V Os b=PD (Os',C))(hC:Al C)(h:Run k c V Os' (b.tail :: bs)):Run k c V Os (b :: bs):=
 ak he λe e1 he=>aZ he λa e2 eq=>by
  cases eq;refine ak e1 λs e3 e4=>ak e4 λe' e5 e6=>aZ e6 λq e7 eq=>?_;subst eq;obtain⟨pos,rfl⟩:=td e5;rw[dU e3];refine .one (λ{s₁} O as hp tk m i Q hq U=>jM ((b7 O.toOkc _ _ _ e2).2 hC _ _ _ _ _ i λv bs1 h1 k1 U i1 U=>hq _ _ _ _ i1) (j9 (c:=c.at s₁) O.o) (by rw[cll_is e7]; rfl)) h
def Ly (b:List aS):Option Bool:=(EZ b).bind λq=>(vw q.1).bool?
theorem Run.dbg (he:Ly b=PD PG)(h:Run k c V Os (thn b :: b.tail :: bs)):Run k c V Os (b :: bs):=
 ak he λq e1 e2=>by
  unfold thn at h;rw[e1] at h;obtain⟨p,hb⟩:=pN e1;obtain⟨kk,px,e3⟩:=xW e2;rw[hb,e3];refine .of λ{s₁} O as hp tk m i=>bc (rl (rm (gg (cK (aU (h.at O i) (λfl s q=>by cases fl<;>exact q) λU U q=>q)))))
def DQ (w:aB)(la:aj)(o:Obj):Prop:=∃ t n,o=dictOf (hdE w la t) n
theorem DQ.nr {o:Obj}(h:DQ w la o):¬ IsRec o:=by
 obtain⟨t,n,rfl⟩:=h;rintro ⟨_,_,_,e,_⟩; cases e
structure IniC (c:Cx)(X la d:aj):Prop where
 x:c.h₀.get? X=PD (instObj 289 d)
 p0:(0,d)∈c.pre
 p1:(1,la)∈c.pre
theorem IniC.sub {c:Cx}(I:IniC c X la d)(s:c.Sub c'):IniC c' X la d:=⟨s.h₀▸I.x,s.pre _ I.p0,s.pre _ I.p1⟩
theorem Run.sa (I:IniC c X la d)(hb:b.head?=PD (.Assign [.Attribute (.Name (S' "self") px) (S' "_headers") pa] (.Name (S' "headers") py) pos))(hx:ldF c.w k.f V Os (S' "self")=PD (.v (.ref X)))(hy:ldF c.w k.f V Os (S' "headers")=PD (.r 1))(h0:Os[0]?=PD (.P jn))
  (h:Run k c V (Os.set 0 (.P (DQ c.w la))) (b.tail :: bs)):Run k c V Os (b :: bs):=by
 rw[dU hb];refine .one (λ{s₁} O as hp tk m i Q hq U=>plainObj_wpAny_Assign_Attribute (fL O.o _ _ _ hy py PI _ _ _ _ _ i λv bs1 h1 k1 hv i1 U=>fL O.o _ _ _ (by rw[ao]; exact hx) px PI _ _ _ _ _ i1 λu bs2 h2 k2 hu i2 U=>?_)) h;have hu:u=.ref X:=hu;subst hu;have i2:Inv k.f (c.at s₁) V m (as++bs1++bs2) (Os++[]++[]) h2:=i2;rw[ao,ao] at i2;have hv:=hv.up (bs:=bs2);refine bU λG1 hG1=>?_;obtain⟨la',ea,rfl⟩:=hv;refine hG1 ?_;rw[show(as++bs1++bs2)[1]?=PD la from i2.pf _ I.p1] at ea;cases ea;have ed:(as++bs1++bs2)[0]?=PD d:=i2.pf _ I.p0;refine bU λG2 hG2=>?_;obtain⟨o,⟨q1,q2⟩,g1,g2,_⟩:=i2.ob _ _ _ ed h0 PI;have q1:o=emptyDict:=q1;subst q1;obtain⟨N,NN,hN⟩:=gf c.h₀ h2 c.L
 have N2:gY c.h₀ c.L h2 ((d,dictOf [] 0) :: N.filter λq=>q.1 != d):=λq hq=>by
  rcases aQ.mp hq with rfl | hq
  ·exact⟨g1,g2 PI⟩
  ·exact NN q (qS.mp hq).1
 refine hG2 ?_;refine set_dict (K:=hd.heap_39 c.w.params) (ox:=instObj 289 d) (es:=[]) (n:=0) (es':=hdE c.w la (k2+1)) (n':=1) i2.F O.o.x N2 ⟨i2.F.keep _ _ I.x,rfl,rfl,g1⟩ rfl (by kernel_rfl) (by kernel_rfl) (by kernel_rfl) (by kernel_rfl) rfl rfl (Upd.head λp hp=>bne_iff_ne.mp (qS.mp hp).2) (ci rfl) λh' F' N'=>?_;have hd':=(N' _ (.head _)).1;have g3:(h2.update d λU=>dictOf (hdE c.w la (k2+1)) 1).get? d=PD (dictOf (hdE c.w la (k2+1)) 1):=df _ g1 rfl;have g4:∀ b,b≠d->(h2.update d λU=>dictOf (hdE c.w la (k2+1)) 1).get? b=h2.get? b:=λb hb=>Heap.get?_update_ne _ _ _ _ hb;refine hq _ _ _ _ ((i2.objK ed h0 PI PI (y:=.P (DQ c.w la)) (λb o hb e=>(g4 b hb).trans e) g3 ⟨⟨_,_,rfl⟩,DQ.nr ⟨_,_,rfl⟩⟩).keep F' λb o hL e=>?_)
 by_cases hb:b=d
 ·subst hb; rw[g3] at e; cases e; exact hd'
 ·rw[g4 b hb] at e;cases e0:c.h₀.get? b with
  | none=>exact(N' _ (.tail _ (qS.mpr ⟨hN b o e hL e0,bne_iff_ne.mpr hb⟩))).1
  | some o'=>
   have:=i2.F.keep _ _ e0;rw[e] at this; cases this;exact F'.keep _ _ e0
end
section
variable {f:Fs}{c:Cx}{T:Tab}{X la d:aj}{V:Vm}{m:Str->Option af}
def Mn (w:aB)(X la:aj)(b:Bool):Mth:=⟨.ref X,aa "_convert_string_type",.ref 188,[(aa "name",b)],λOs ps=>(one ps).bind λp=>p.str?.map λs=>(.s s,[],[hdOk w s,Os[0]?=PD (.P (DQ w la)),∃ x,Os[0]?=PD x])⟩
theorem BF (O:c.Ok f)(hk:2<=c.k)(I:IniC c X la d):MthOk f c (Mn c.w X la b) where
 kp:=Cc (by kernel_rfl)
 gm:=λ{Os ys ps q} e hC V m as h i U U U U hq=>ak e λp e1 e=>aZ e λs e2 eq=>by
  subst eq;obtain⟨_,e0,_⟩:=hC;have ed:as[0]?=PD d:=i.pf _ I.p0
  have e0:Os[0]?=PD (.P (DQ c.w la)):=by
   have hl:0<Os.length:=i.len▸lt_of_get ed;rwa [dW hl] at e0
  obtain⟨o,⟨⟨t,n,q1⟩,_⟩,g1,_⟩:=i.ob _ _ _ ed e0 PI;subst q1;exact method_inst (C:=289) (f:=188) (es:=hdE c.w la t) (n:=n) i.F O.x ⟨i.F.keep _ _ I.x,rfl,rfl,g1⟩ (vU c.w).1 (by kernel_rfl) (by kernel_rfl) (by kernel_rfl) hq
 cl:=λe hC V m as h vs i hv E Q k hq=>ak e λp e1 e=>aZ e λs e2 eq=>by
  subst eq;rw[one_is e1] at hv;obtain⟨u,_,rfl,hu,h0⟩:=hv;cases h0;obtain⟨t,rfl⟩:=PV.isStr e2 hu;refine iG (BT c.w X s b hC.1 f c V m as _ h rfl hk (λz=>nomatch z) O i [] Giv.nil PI [ue "self" (.ref X),ue "value" (.str s t),ue "name" (.bool b)] (by kernel_rfl) ⟨_,_,rfl,rfl,_,_,rfl,⟨t,rfl⟩,_,_,rfl,rfl,rfl⟩ (sh c.s₀ h k) ⟨[.ref X,.str s t],[(aa "name",.bool b)]⟩ k (O.x.keeps i.F.keep) (fZ (by kernel_rfl) :) _ λv bs h2 tk2 s2 es hv A=>?_);subst es;have hb:bs=[]:=bE.mp A.nw.len;subst hb;exact nB i hq hv.up λb o e=>A.kp b o (λj y e1 U=>by cases j<;>cases e1) (λz=>nomatch z) e
abbrev JM (w:aB)(X la:aj):=extMt [Mn w X la PG,Mn w X la PH]
theorem Nj (O:c.Ok f)(I:IniC c X la d)(hk:2<=c.k):Wk.Okc ⟨f,tbH,JM c.w X la⟩ c:=
 have G:CtOk f c tbH:=⟨aW mT (aW mo (aW oO cE)),am.mpr ⟨PI,dz⟩⟩
 ⟨O,G,λU U=>mB (T:=tbH) O (am.mpr ⟨BF O hk I,am.mpr ⟨BF O hk I,λU h=>nomatch h⟩⟩)⟩
end
def ML (X la:aj)(Os₀:List SO)(_:Cx)(as₀:List aj)(h:aL):Prop:=∃ d,h.get? X=PD (instObj 289 d)/\as₀[0]?=PD d/\as₀[1]?=PD la/\Apart as₀ Os₀ X
abbrev oI (q:SO)(b:Bool):List SO:=q :: .G (.L (nP 2 (uY b))) :: (uY b).map EW
abbrev vI (X:aj)(r:Vm):Vm:=nm "self" (.v (.ref X)) :: nm "headers" (.r 1) :: r
theorem c_init (w:aB)(X la:aj)(b:Bool):Ent Eq (ML X la (oI (.P jn) b)) w 181 (pS (fdAt w 181)) 5 PH (oI (.P jn) b) (vI X []) (.v .none) [.P (DQ w la)] []:=by
 refine jJ (k:=4) (T:=⟨[],[],[],[]⟩) (ext:=ex0) 1 _ (λU U U U=>rfl) (by kernel_rfl) (by kernel_rfl) (λj y e hw=>?_) (λc U U U O=>Wk.ok0 O) λcx hw hn hP hN hq=>?_
 ·rcases j with _ | _ | _ | _ | _ | j<;>first | exact fT 0 | (cases e; exact hw.elim) | (cases e)
 refine bU λG1 hG1=>?_;obtain⟨_,_,hk,_,hF⟩:=hq;obtain⟨c₀,as₀,h₀,⟨d,z1,z2,z3,z4⟩,_,_,hpre,hkp,_⟩:=hF.ex;have I:IniC cx X la d:=⟨hkp _ _ z4 (λz=>nomatch z) z1,hpre▸jl z2,hpre▸jl z3⟩;subst hw;refine hG1 ?_
 refine Run.wk (T:=tbH) (ext:=JM cx.w X la) (λ{s} O=>⟨Nj (d:=d) (c:=cx.at s) O.o (I.sub (Cx.at_sub _ _)) (show 2<=cx.k from OF hk (by decide)),λc2 s2 o2=>by
  have hw2:c2.w=cx.w:=s2.w;have:=Nj (d:=d) o2 ((I.sub (Cx.at_sub cx s)).sub s2) (by rw[s2.k]; exact(show 2<=cx.k from OF hk (by decide)));rwa [hw2] at this⟩) ?_
 refine Run.asI PG [] (by kernel_rfl) PI (λU=>⟨vI X [],oI (.P jn) b,[],by kernel_rfl,PI,?_⟩) λq=>nomatch q;refine Run.ifN PH [] (by kernel_rfl) PI (λq=>nomatch q) λU=>?_;refine Run.sa I (by with_unfolding_all rfl) (by kernel_rfl) (by kernel_rfl) (by kernel_rfl) ?_;refine Run.dbg (by kernel_rfl) ?_;refine Run.lp (α:=Unit) [] (.tup [S' "k",S' "v"]) ((nP 2 (uY b)).map .one) [] [] [1] [0,1,2,3,4] (λU U=>vI X []) (λU U=>oI (.P (DQ cx.w la)) b) (λU U=>True) (λU U=>False) () (by kernel_rfl) PI rfl (λU U=>rfl) rfl (by rw[hn]; rfl) rfl rfl PI (λi x U os c' w' n' P' N' B' ex U=>?_) (λU U=>?_) λU U q=>q.elim
 ·have turn:∀ (q:Kv) (j:Nat),hdOk cx.w q.1->hdOk cx.w q.2->sA (wkAt cx.w 181 5 tbH (JM cx.w X la)).f (vI X []) (oI (.P (DQ cx.w la)) b) (.tup [S' "k",S' "v"]) (.one (.r j))=PD (vI X [nm "k" (.s q.1),nm "v" (.s q.2)],oI (.P (DQ cx.w la)) b)->EX [0,1,2,3,4] (.one (.r j))=PG->
    ∃ V₁ Os₁,EX [0,1,2,3,4] (.one (.r j))=PG/\sA (wkAt cx.w 181 5 tbH (JM cx.w X la)).f (vI X []) (pinF os [1] 0 (oI (.P (DQ cx.w la)) b)) (.tup [S' "k",S' "v"]) (.one (.r j))=PD (V₁,Os₁)/\Run (wkAt cx.w 181 5 tbH (JM cx.w X la)) c' V₁ Os₁ [yz (thn ((bn cx.w 181).drop 3))]:=λq j h1 h2 h3 h4=>by
   refine⟨vI X [nm "k" (.s q.1),nm "v" (.s q.2)],oI (.P (DQ cx.w la)) b,h4,h3,?_⟩;have hC:∀ {s},hdOk cx.w s->Al [bl X=.ref X,hdOk cx.w s,(oI (.P (DQ cx.w la)) b)[0]?=PD (.P (DQ cx.w la)),∃ x,(oI (.P (DQ cx.w la)) b)[0]?=PD x]:=λh=>⟨rfl,h,rfl,⟨_,rfl⟩,PI⟩;refine Run.ex (Os':=oI (.P (DQ cx.w la)) b) (by rw[w']; kernel_rfl) (hC h1) ?_;refine Run.ex (Os':=oI (.P (DQ cx.w la)) b) (by rw[w']; kernel_rfl) (hC h2) ?_;exact Run.ns [S' "self",S' "headers"] (vI X []) (by kernel_rfl) (Run.fe (by kernel_rfl) (N' () PI) rfl rfl)
  rcases i with _ | _ | _ | i
  ·cases ex; exact turn (S' "b",S' "rgb") 2 (hdT _ (by decide +kernel)) (hdT (s:=S' "rgb") _ (by decide +kernel)) (by kernel_rfl) rfl
  ·cases ex; exact turn (n0 b,S' "rgr") 3 (LZ _ b).1 (hdT (s:=S' "rgr") _ (by decide +kernel)) (by kernel_rfl) rfl
  ·cases ex; exact turn (S' "B",S' "bgb") 4 (hdT _ (by decide +kernel)) (hdT (s:=S' "bgb") _ (by decide +kernel)) (by kernel_rfl) rfl
  ·cases ex
 ·exact Run.nl (by kernel_rfl) (Run.fe (by kernel_rfl) (hN _ _ (hP _ _ [] (by kernel_rfl))) rfl rfl) λq=>nomatch q
theorem zk {hv:Option af}{dp un:Nat}{gd:Option (List MZ)}{cn:Str}{cs:dC}{L:aj}{cd:af}{cl:List (Str×aj)}{outer:List Env}{C:aj}{v:af}:(GD hv dp un gd cn cs L a cd cl outer).under (.builtin "type.__call__" ⟨[.ref C,v],[]⟩)=GD hv (dp+1) (un+1) gd cn cs L a cd cl outer:=by
 kernel_rfl
noncomputable abbrev Cx.ins (c:Cx)(pn:List (aj×Obj))(j:Nat)(la:aj):Cx:={ c with pn:=pn++c.pn,pre:=(j,la) :: c.pre,np:=j :: c.np }
section
variable {f:Fs}{c:Cx}{V V':Vm}{m:Str->Option af}{as:List aj}{Os Os':List SO}{h h':aL}{k:Wk}{b:List aS}{bs:List (List aS)}{pn:List (aj×Obj)}{j:Nat}{la:aj}{C:List Prop}
theorem Cx.ins_sub:c.Sub (c.ins pn j la):=⟨rfl,rfl,rfl,rfl,rfl,λq hq=>aN _ hq,λq hq=>.tail _ hq⟩
theorem Inv.unins (i:Inv f (c.ins pn j la) V m as Os h):Inv f c V m as Os h:=⟨i.F,i.M,i.C,i.len,i.ob,i.nd,i.t1,i.t2,λq hq=>i.pf q (.tail _ hq),λq hq=>i.pn q (aN _ hq)⟩
theorem Inv.ins (i:Inv f c V m as Os h)(hj:as[j]?=PD la)(hp:∀ q∈pn,h.get? q.1=PD q.2/\q.1≠c.L/\Apart as Os q.1/\(c.tb=PG->q.1≠54/\q.1≠61)):Inv f (c.ins pn j la) V m as Os h:=
 ⟨i.F,i.M,i.C,i.len,i.ob,i.nd,i.t1,i.t2,λq hq=>(aQ.mp hq).elim (λe=>e▸hj) (i.pf q),λq hq=>(bf.mp hq).elim (hp q) (i.pn q)⟩
theorem Cx.Ok.ins (O:c.Ok f):(c.ins pn j la).Ok f:=⟨O.kd,O.b,O.x,O.t,O.h.mono rfl rfl λU h=>aN _ h,congrArg (j :: ·) O.hp,O.rd,O.ru,O.pe,O.g0,λs V m as Os h v p tk g i hp hP=>O.ret s V m as Os h v p tk g (Inv.unins (c:=c.at s) i) hp hP,λs V m as Os h tk g i hN=>O.nxt s V m as Os h tk g (Inv.unins (c:=c.at s) i) hN,λs V m as Os h tk g i hB=>O.brk s V m as Os h tk g (Inv.unins (c:=c.at s) i) hB⟩
theorem Wk.Ok.ins (O:k.Ok c):k.Ok (c.ins pn j la):=⟨O.gd _ Cx.ins_sub O.o.ins,λc2 s o2=>O.gd c2 (Cx.ins_sub.trans s) o2⟩
theorem cont_ins:∀ bs,cont f (c.ins pn j la) bs=cont f c bs
 | []=>rfl
 | b :: bs=>congrArg (OK f c b) (cont_ins bs)
def Nx (b:List aS):Option (Str×Str×aw):=(nV b).bind λq=>(lB q.1).bind λx=>(hC1 q.2).map λr=>(x,r)
theorem GW {q:Str×Str×aw}(h:Nx b=PD q):∃ px py p pos,b=.Assign [.Name q.1 px] (.Call (.Name q.2.1 py) [q.2.2] [] p) pos :: b.tail:=ak h λq0 e1 h=>ak h λx e2 h=>aZ h λr e3 eq=>by
 subst eq;refine bU λG1 hG1=>?_;obtain⟨pos,e9⟩:=gM e1;obtain⟨px,e2⟩:=nam_is e2;obtain⟨py,p,e3⟩:=pO e3;refine hG1 ?_;rw[e2,e3] at e9;exact⟨px,py,p,pos,e9⟩
noncomputable def Cx.mk1 (c:Cx):Cx:={ c with dp:=c.dp+1,un:=c.un+1,k:=5,gs:=Eq c.s₀,E:=λU U=>False,R:=λU U=>True,P:=λU U=>False,N:=λU U=>False,B:=λU U=>False,tb:=PH,pre:=[],np:=[] }
theorem Cx.Ok.mk1 (O:c.Ok f)(hk:6<=c.k):c.mk1.Ok f:=⟨O.kd,O.b,O.x,O.t,O.h,rfl,cS (NR hk c.dp) O.rd,cS (cX (NR (ar (by decide:1+20*5<=20*6) (NQ 20 hk)) c.un) 2) O.ru,nj,rfl,λU U U U U U U U U U U U U=>trivial,λU U U U U U U U U q=>q.elim,λU U U U U U U U U q=>q.elim⟩
theorem Inv.mk1 (i:Inv f c V m as Os h):Inv f c.mk1 V m as Os h:=⟨i.F,i.M,i.C,i.len,i.ob,i.nd,λz=>(nomatch z),λz=>(nomatch z),λU h=>(nomatch h),λq hq=>let ⟨h1,h2,h3,_⟩:=i.pn q hq; ⟨h1,h2,h3,λz=>nomatch z⟩⟩
theorem sP (w:aB):makesIn (hd.heap_39 w.params) 289=PG/\findIn (hd.heap_39 w.params) (.ref 289) "__init__"=PD (PD (.ref 181))/\typeIn (hd.heap_39 w.params) (.ref 181)=PD (.type "function"):=⟨by kernel_rfl,by kernel_rfl,by kernel_rfl⟩
theorem pX:¬ IsRec emptyDict:=λ⟨_,_,_,e,_⟩=>nomatch e
def LB (k:Wk)(w:aB)(V:Vm)(Os:List SO)(b:List aS):Option (Str×PV×PV×List SO×List Prop):=(Nx b).bind λq=>(ldF w k.f V Os q.2.1).bind λv=>(evF k w V Os q.2.2).map λa=>(q.1,v,a)
theorem Ed {la:aj}{Dd:Obj}{h4:aL}(O:k.Ok (c.at s))(i2:Inv k.f (c.at s) V m as Os h2)(ela:as[j]?=PD la)(f1:h2.get? d=PF)(f2:h2.get? X=PF)(F3:Fr c.h₀ c.L h3 m)(kp3:∀ b o,b≠c.L->h2.get? b=PD o->h3.get? b=PD o)(x1:h3.get? X=PD (instObj 289 d))(nd:X≠d)(y3:c.h₀.get? d=PF)
  (kp4:∀ b o,b≠d->h3.get? b=PD o->h4.get? b=PD o) (m3:h4.get? d=PD Dd) (hs:nO k.f V Os x (.v (.ref X))=PD (V',Os')) (h:Run k (c.ins [(X,instObj 289 d),(d,Dd)] j la) V' Os' (b :: bs)):
  wpAny (MP c.w) (c.A k.f) (storeName (c.env k.f) x (.ref X)) (λU s''=>wpAny (MP c.w) (c.A k.f) (execs b (c.env k.f)) (cont k.f c bs) c.E s'') c.E (sh s h4 tk):=
 have F4:Fr c.h₀ c.L h4 m:=⟨F3.ns.at' λo e=>kp4 _ o (λq=>(i2.fresh f1).1 q.symm) e,λb o e=>kp4 b o (λq=>nomatch (q▸e).symm.trans y3) (F3.keep b o e),F3.above⟩;have i4:Inv k.f (c.at s) V m as Os h4:=i2.keep F4 λb o hL e=>kp4 b o (λq=>nomatch (q▸e).symm.trans f1) (kp3 b o hL e);have i5:=i4.ins (pn:=[(X,instObj 289 d),(d,Dd)]) ela (am.mpr ⟨⟨kp4 _ _ nd x1,i2.fresh f2⟩,List.forall_mem_singleton.mpr ⟨m3,i2.fresh f1⟩⟩)
 setN_ok (c:=(c.at s).ins [(X,instObj 289 d),(d,Dd)] j la) O.o.ins hs i5 (v:=.ref X) rfl λh6 tk6 m6 i6=>(cont_ins bs▸h.at O.ins i6 :)
theorem H7 {s:ai}(i:Inv f c V m as Os h)(f2:h.get? X=PF)(gv:Giv (as++[d]) (Os++[y]) h' as₀ Os₀)(nd:X≠d):Apart as₀ Os₀ X:=λt z e1 e2 hw=>
 (gv.own t X z e1 e2).elim λj' q=>q.elim λx' q=>(i.fresh f2).2.1.snoc i.len nd.symm j' x' q.1 q.2.1 (q.2.2.2 hw)
theorem HE {la:aj}{as:List aj}{o:Obj}{P:Prop}(e:SO.P (DQ w la)=y')(h:y'.is as o)(K:∀ t n,o=dictOf (hdE w la t) n->P):P:=by
 cases e;obtain⟨⟨t,n,hq⟩,_⟩:=h;exact K t n hq
theorem BK {la:aj}{V1:aj->Vm}{Os1:aj->List SO}{N:List (aj×Obj)}{tk3:Nat}{R:lK->ai->Prop}(O:k.Ok (c.at s))(i2:Inv k.f (c.at s) V m as Os h2)(ela:as[j]?=PD la)(hk:6<=c.k)(hN:∀ b o,h2.get? b=PD o->b≠c.L->c.h₀.get? b=PF->(b,o)∈N)(F3:Fr c.h₀ c.L h3 m)(N3:gY c.h₀ c.L h3 ((X,instObj 289 d) :: (d,emptyDict) :: N))(l1:∀ p∈N,p.1<d)(l2:d<X)
  (hn:dy (Os.length :: j :: ts)=PG) (hg:gvL (gvS ((Os.length,PG) :: (j :: ts).map λi=>(i,PH))) (Os++[.P jn]) ((Os.length,PG) :: (j :: ts).map λi=>(i,PH))=PD (oI (.P jn) b'))
  (hs:∀ X,nO k.f V Os x (.v (.ref X))=PD (V1 X,Os1 X)) (h:∀ X pn la,InsC (c.ins pn j la) X j->Run k (c.ins pn j la) (V1 X) (Os1 X) (b :: bs))
  (hR:∀ s,wpAny (MP c.w) (c.A k.f) (storeName (c.env k.f) x (.ref X)) (λU s''=>wpAny (MP c.w) (c.A k.f) (execs b (c.env k.f)) (cont k.f c bs) c.E s'') c.E s->R (.ok (.ret .none)) s):
  codeAny (MP c.w) (c.mk1.A k.f) (.call (.ref 181) ⟨[.ref X,.ref la],[]⟩) R (sh s h3 tk3):=
 have x3:=N3 _ (.head _);have y3:=N3 _ (.tail _ (.head _));have fresh:∀ b,(∀ p∈N,p.1<b)->b≠c.L->c.h₀.get? b=PF->h2.get? b=PF:=λb hb hL h0=>cU.mpr λo e=>bY _ (hb _ (hN b o e hL h0));have kp3:∀ b o,b≠c.L->h2.get? b=PD o->h3.get? b=PD o:=lf hN i2.F F3 λq hq=>N3 q (.tail _ (.tail _ hq));have f1:h2.get? d=PF:=fresh d l1 y3.2.1 y3.2.2;have f2:h2.get? X=PF:=fresh X (λp hp=>iP (l1 p hp) l2) x3.2.1 x3.2.2;have i3:Inv k.f (c.at s) V m (as++[d]) (Os++[.P jn]) h3:=i2.made F3 kp3 (NewAll.cons (y:=.P jn) f1 y3.1 (show jn emptyDict/\¬ IsRec emptyDict from⟨rfl,pX⟩) PI di NewAll.nil);have nd:X≠d:=λq=>bY _ (q▸l2:d<d);have hl2:(as++[d])[Os.length]?=PD d:=by rw[<- i2.len,aM (aI _),b9]; rfl
 have hmap:((Os.length,PG) :: (j :: ts).map λi=>(i,PH)).map (·.1)=Os.length :: j :: ts:=congrArg (Os.length :: ·) ((c8 ..).trans (eM (j :: ts)))
 (Giv.ofs i3.mk1 ((Os.length,PG) :: (j :: ts).map λi=>(i,PH)) (hmap.symm▸hn) hg).elim λas₀ z=>
  have g0:as₀[0]?=PD d:=z.2.1 0 (Os.length,PG) d rfl hl2;have g1:as₀[1]?=PD la:=z.2.1 1 (j,PH) la rfl (f4 ela);have X3:(hd.heap_39 c.w.params).In h3:=O.o.x.keeps i3.F.keep
  c_init c.w X la b' k.f (c.at s).mk1 V m _ _ h3 rfl (aI 5) (λz=>nomatch z) (O.o.mk1 hk) i3.mk1 as₀ z.1 ⟨d,x3.1,g0,g1,H7 (s:=s) i2 f2 z.1 nd⟩ [ue "self" (.ref X),ue "headers" (.ref la)] (by kernel_rfl) ⟨_,_,rfl,rfl,_,_,rfl,⟨la,g1,rfl⟩,rfl⟩ (sh s h3 tk3) ⟨[.ref X,.ref la],[]⟩ tk3 X3 (kp_binds X3 λU=>by kernel_rfl) _ λv bs4 h4 tk4 s4 es hv4 A=>
   have kp4:∀ b o,b≠d->h3.get? b=PD o->h4.get? b=PD o:=λb o hb e=>A.kp b o (λt y e1 e2 hw=>by
    rcases t with _ | _ | _ | _ | _ | t<;>first | (rw[g0] at e1; cases e1; exact hb rfl) | (cases e2; exact hw.elim) | (cases e2)) (λz=>nomatch z) e
   (A.mu 0 d (.P jn) g0 rfl PI).elim λy' z=>z.elim λo m=>HE (ac m.1) m.2.2.2 λt n eo=>by
    have es:s=s4:=es;rw[<- es,show v=.none from hv4];exact hR _ (Ed O i2 ela f1 f2 F3 kp3 x3.1 nd y3.2.2 kp4 (m.2.2.1.trans (congrArg PD eo)) (hs X) (h X _ la ⟨la,d,t,n,.inr (.head _),.inr (.tail _ (.head _)),.head _⟩))
theorem Run.cls (V':aj->Vm)(Os':aj->List SO)(he:LB k c.w V Os b=PD (x,.v (.ref 289),.r j,[],[]))(hk:6<=c.k)(hn:dy (Os.length :: j :: ts)=PG)(hg:gvL (gvS ((Os.length,PG) :: (j :: ts).map λi=>(i,PH))) (Os++[.P jn]) ((Os.length,PG) :: (j :: ts).map λi=>(i,PH))=PD (oI (.P jn) b'))
  (hs:∀ X,nO k.f V Os x (.v (.ref X))=PD (V' X,Os' X)) (h:∀ X pn la,InsC (c.ins pn j la) X j->Run k (c.ins pn j la) (V' X) (Os' X) (b.tail :: bs)):Run k c V Os (b :: bs):=
 ak he λq q1 he=>ak he λv9 hy he=>aZ he λa9 hv q4=>(GW q1).elim λpx e=>e.elim λpy e=>e.elim λp e=>e.elim λpos hb=>by
 have hy:ldF c.w k.f V Os q.2.1=PD (.v (.ref 289)):=hy.trans (congrArg PD (congrArg (·.2.1) q4).symm);have hv:evF k c.w V Os q.2.2=PD (.r j,[],[]):=hv.trans (congrArg PD (congrArg (·.2.2) q4).symm);rw[hb,<- (congrArg (·.1) q4:x=q.1)];refine .of λ{s₁} O as hp tk m i=>bc (dH (Call_ (fL O.o _ _ _ hy py PI _ _ _ _ _ i λv bs1 h1 k1 hv1 i1 U=>?_)) rfl);have i1:Inv k.f (c.at s₁) V m (as++bs1) (Os++[]) h1:=i1;rw[ao] at i1;rw[show v=.ref 289 from hv1];have ev:=b7 (m:=m) O.toOkc _ _ _ hv;refine callWith_of (P:=(hd.heap_39 c.w.params).In) (by rw[ev.1]; rfl) (Cc (by kernel_rfl)) ?_;rw[ev.1];refine nh (Cb (ev.2 PI _ _ _ _ _ i1 λu bs2 h2 k2 hu i2 U=>spliced_nil ?_));have i2:Inv k.f (c.at s₁) V m (as++bs1++bs2) (Os++[]) h2:=i2;rw[ao] at i2;have X2:(hd.heap_39 c.w.params).In h2:=O.o.x.keeps i2.F.keep;refine⟨X2,bU λG hG=>Exists.elim hu λla hl=>(gf c.h₀ h2 c.L).elim λN z=>hG ?_⟩;rw[hl.2]
 exact iG (make_K (K:=hd.heap_39 c.w.params) (s:=sh s₁ h2 k2) (rest:=[.ref la]) (kw:=[]) i2.F z.1 X2 (sP c.w).1 (sP c.w).2.1 (sP c.w).2.2 λX d h3 F3 N3 l1 l2=>by
  refine(?_:codeAny (MP c.w) ((c.A k.f).under _) _ _ (sh s₁ h3 k2));rw[zk];exact BK (s:=s₁) O i2 hl.1 hk z.2 F3 N3 l1 l2 hn hg hs h λs z=>⟨rfl,z⟩)
end
end Nw
end
section
open PySem PySem.W PySem.Calls PySem.Spec PyProof.Rows Mine
open _root_.PySem.Float64 (add sub mul div isZero isFinite)
namespace Nw
theorem vz:(1024:Int)≠0:=by decide
theorem KL:(2:Int)≠0:=by decide
theorem KN:¬ 2 ^ 1024 - 2 ^ 970<=(6:Int).natAbs:=by decide +kernel
theorem LM:¬ 2 ^ 1024 - 2 ^ 970<=(1:Int).natAbs:=by decide +kernel
theorem vB:¬ 2 ^ 1024 - 2 ^ 970<=(2048:Int).natAbs:=by decide +kernel
theorem No (a:Int):aC a 6=PH:=bB (by decide)
theorem LK (a:Int):aC a 2=PH:=bB (by decide)
theorem A7 {x:UInt64}(h:isFinite x=PG):cI x=PH:=by
 cases e:cI x with
 | true=>exact(nF h e).elim
 | false=>rfl
theorem A8 {x:UInt64}(h:isFinite x=PG):bC x=PH:=by
 cases e:bC x with
 | true=>exact(nG h e).elim
 | false=>rfl
theorem Cv {t:UInt64×UInt64×UInt64}{X Y Z:Int}(h:ToldOk t X Y Z):Al [¬ 2 ^ 1024 - 2 ^ 970<=(2048:Int).natAbs,¬ 2 ^ 1024 - 2 ^ 970<=(1:Int).natAbs,cI (lE t.1)=PH,bC (lE t.1)=PH,(2:Int)≠0,aC (ce bH (lE t.1)) 2=PH,
  ¬ 2 ^ 1024 - 2 ^ 970<=(2048:Int).natAbs,¬ 2 ^ 1024 - 2 ^ 970<=(1:Int).natAbs,cI (lE t.2.1)=PH,bC (lE t.2.1)=PH,(2:Int)≠0,aC (ce bH (lE t.2.1)) 2=PH,
  ¬ 2 ^ 1024 - 2 ^ 970<=(2048:Int).natAbs,¬ 2 ^ 1024 - 2 ^ 970<=(1:Int).natAbs,cI (lE t.2.2)=PH,bC (lE t.2.2)=PH,(2:Int)≠0,aC (ce bH (lE t.2.2)) 2=PH]:=
 ⟨vB,LM,A7 h.f1,A8 h.f1,KL,LK _,vB,LM,A7 h.f2,A8 h.f2,KL,LK _,vB,LM,A7 h.f3,A8 h.f3,KL,LK _,PI⟩
theorem JA {h o:UInt64}(h1:isFinite (uA h)=PG)(g1:isFinite (uA o)=PG):Al [¬ 2 ^ 1024 - 2 ^ 970<=(6:Int).natAbs,¬ 2 ^ 1024 - 2 ^ 970<=(6:Int).natAbs,cI (uA h)=PH,bC (uA h)=PH,(6:Int)≠0,aC (ce bH (uA h)) 6=PH,
  ¬ 2 ^ 1024 - 2 ^ 970<=(6:Int).natAbs,¬ 2 ^ 1024 - 2 ^ 970<=(6:Int).natAbs,cI (uA o)=PH,bC (uA o)=PH,(6:Int)≠0,aC (ce bH (uA o)) 6=PH]:=
 ⟨KN,KN,A7 h1,A8 h1,Jf,No _,KN,KN,A7 g1,A8 g1,Jf,No _,PI⟩
theorem BR (w:aB)(x y z sx wh way X Y Z:Int)(ok:TurnOk x y z sx wh X Y Z):Con w 303 5 PH [.G (sL3 x y z)] [.r 0,.i sx,.i wh,.i way] (.r 1) [] [sL3 X Y Z]:=by
 refine f5 (k:=4) (T:=tbT) (ext:=extC []) 0 [(aa "parts",.r 0),(aa "sixths",.i sx),(aa "white",.i wh),(aa "way",.i way)] (by kernel_rfl) (BW λu v t s=>by kernel_rfl) (by kernel_rfl) (λj y e hw=>(no_one j y e hw).elim) (λc U hk U O=>wkT (hk▸by decide) O) λc hw hn hP hN U=>?_;obtain⟨ix,iy,iz,z1,z2,z3,z4,h1,h2,g1,g2,is,v1,v2,odd,even⟩:=ok;refine Run.asT [(aa "parts",.r 0),(aa "sixths",.i sx),(aa "way",.i way),(aa "red",.f (fC x wh)),(aa "green",.f (fC y wh)),(aa "blue",.f (fC z wh))] [.G (sL3 x y z),.C (PD (.i wh)),.L [.f (fC x wh),.f (fC y wh),.f (fC z wh)]] [_,_,_,_,_,_] (by kernel_rfl) ⟨vz,ix,vz,iy,vz,iz,PI⟩ ?_;clear ix iy iz;generalize fC x wh=r at*;generalize fC y wh=g at*;generalize fC z wh=b at*;generalize fQuo sx 6=qu at*;refine Run.asT [(aa "parts",.r 0),(aa "sixths",.i sx),(aa "way",.i way),(aa "red",.f r),(aa "green",.f g),(aa "blue",.f b),(aa "hue",.f (fHls r g b).1),(aa "light",.f (fHls r g b).2.1),(aa "full",.f (fHls r g b).2.2)] [.G (sL3 x y z),.C (PD (.i wh)),.L [.f r,.f g,.f b],kU (fHls r g b)] (HV r g b) (by kernel_rfl) ⟨z1,z2,z3,PI⟩ ?_;generalize fHls r g b=h3 at*;obtain⟨h,l,s⟩:=h3;dsimp only at*;refine Run.asT [(aa "parts",.r 0),(aa "sixths",.i sx),(aa "way",.i way),(aa "red",.f r),(aa "green",.f g),(aa "blue",.f b),(aa "hue",.f h),(aa "light",.f l),(aa "full",.f s),(aa "other",.f (fHsv r g b).1),(aa "share",.f (fHsv r g b).2.1),(aa "value",.f (fHsv r g b).2.2)] [.G (sL3 x y z),.C (PD (.i wh)),.L [.f r,.f g,.f b],kU (h,l,s),kU (fHsv r g b)] (HU r g b) (by kernel_rfl) ⟨z1,z4,PI⟩ ?_;generalize fHsv r g b=g3 at*;obtain⟨o,a,v⟩:=g3;dsimp only at*;let W3:Vm->Vm:=λV=>[(aa "parts",.r 0),(aa "sixths",.i sx),(aa "way",.i way),(aa "red",.f r),(aa "green",.f g),(aa "blue",.f b),(aa "hue",.f h),(aa "light",.f l),(aa "full",.f s),(aa "other",.f o),(aa "share",.f a),(aa "value",.f v)]++V;let Q:List SO->List SO:=λO=>[.G (sL3 x y z),.C (PD (.i wh)),.L [.f r,.f g,.f b],kU (h,l,s),kU (o,a,v)]++O;refine Run.ifN (((ce bH (uA h)).fdiv 6 != 1)||((ce bH (uA o)).fdiv 6 != 1||false)) _ (by kernel_rfl) (JA h1 g1) (λq=>by rw[h2,g2] at q; cases q) (λU=>?_);clear h1 h2 g1 g2
 have fin:∀ t:UInt64×UInt64×UInt64,ToldOk t X Y Z->retE 1 0 [7] (.r 7) (Q [kU t]++[sL3 (gQ t.1) (gQ t.2.1) (gQ t.2.2),lft (gQ t.1) (gQ t.2.1) (gQ t.2.2)])=PD (.r 1,[],[sL3 X Y Z]):=λt h=>by
  rw[<- h.e1,<- h.e2,<- h.e3]; kernel_rfl
 have last:∀ t:UInt64×UInt64×UInt64,ToldOk t X Y Z->Run (wkAt w 303 1 tbT (extC [])) c (W3 [(aa "told",.r 5)]) (Q [kU t]) [(bn w 303).drop 5]:=λt ht=>Run.rt (.r 7) [sL3 (gQ t.1) (gQ t.2.1) (gQ t.2.2),lft (gQ t.1) (gQ t.2.1) (gQ t.2.2)] _ (by kernel_rfl) (Cv ht) (hP _ _ [7] (fin t ht));refine Run.asI (way.fmod 2 != 0) [_] (by kernel_rfl) ⟨KL,PI⟩ (λU=>⟨W3 [(aa "told",.r 5)],Q [kU (fHls2 (add o qu) l s)],[_,_],by kernel_rfl,⟨Jf,is,PI⟩,last _ odd⟩) (λU=>⟨W3 [(aa "told",.r 5)],Q [kU (fHsv2 (add h qu) a v)],[_,_,_,_],by kernel_rfl,⟨Jf,is,v1,v2,PI⟩,last _ even⟩)
end Nw
end
section
open PySem PySem.W PySem.Calls PySem.Spec PyProof.Rows
namespace Mine
variable {lt f n:Int}
noncomputable abbrev o6:List (PyData×PyData):=[(.str (aa "r"),.str (aa "rgr")),(.str (aa "g"),.str (aa "gbg")),(.str (aa "b"),.str (aa "brb"))]
noncomputable def oN:Nat->Int
 | 1=>1 | 3=>1 | 4=>2 | 5=>1 | 7=>1 | _=>0
def pG (lt f:Int):Int:=(lt+oN f.toNat) % 3
def cT:Nat->Int->Int
 | 0,_=>0
 | f+1,d=>cT f d+(if oN f=d then 1 else 0)
def cN (lt f k:Int):Int:=cT f.toNat ((k - lt) % 3)
noncomputable def BV:Nat->Bool
 | 0=>PG | 2=>PG | 3=>PG | 6=>PG | _=>PH
noncomputable def bT (lt:Int):Str:=if lt=0 then aa "rgrgbgrgr" else if lt=1 then aa "gbgbrbgbg" else aa "brbrgrbrb"
noncomputable abbrev ltr (c:Int):Str:=fk (aa "rgb") c
noncomputable abbrev cR:Str:={ cps:=#[(jg 'r'.val.toNat).toNat] }
noncomputable abbrev cG:Str:={ cps:=#[(jg 'g'.val.toNat).toNat] }
noncomputable abbrev cB:Str:={ cps:=#[(jg 'b'.val.toNat).toNat] }
abbrev wo (lt f:Int)(ch:Str):Int:=uZ (ba (bT lt) PF (PD f)) ch
noncomputable def nU (k:Int):Str:=if k=0 then aa "" else if k=1 then aa "\\)" else if k=2 then aa "\")\"" else aa "\\\""
noncomputable def Fo (b:Bool):Str:=if b then aa "(" else aa ")"
def dx (sh:Int)(row:Str):Nat->Str
 | 0=>row
 | j+1=>dx sh row j++nU ((sh+(0+(j:Int))).fmod 4)++Fo (BV j)
theorem lt_cases {P:Int->Prop}(a:0<=lt)(b:lt<=2)(h0:P 0)(h1:P 1)(h2:P 2):P lt:=by
 rcases OR a b with e | e | e<;>subst e<;>assumption
theorem gN {P:Int->Prop}(a:0<=f)(b:f<=8)(h:∀ k:Fin 9,P (k.val:Int)):P f:=by
 have e:f=((f.toNat:Nat):Int):=(dG a).symm;rw[e]; exact h ⟨f.toNat,OQ (by decide) (NJ b (by decide))⟩
theorem HA (a:0<=lt)(b:lt<=2)(c:0<=f)(d:f<=8):wo lt f cR=cN lt f 0/\wo lt f cG=cN lt f 1/\wo lt f cB=cN lt f 2:=by
 refine lt_cases (P:=λlt=>wo lt f cR=cN lt f 0/\wo lt f cG=cN lt f 1/\wo lt f cB=cN lt f 2) a b ?_ ?_ ?_
 ·exact gN (P:=λf=>wo 0 f cR=cN 0 f 0/\wo 0 f cG=cN 0 f 1/\wo 0 f cB=cN 0 f 2) c d (by decide +kernel)
 ·exact gN (P:=λf=>wo 1 f cR=cN 1 f 0/\wo 1 f cG=cN 1 f 1/\wo 1 f cB=cN 1 f 2) c d (by decide +kernel)
 ·exact gN (P:=λf=>wo 2 f cR=cN 2 f 0/\wo 2 f cG=cN 2 f 1/\wo 2 f cB=cN 2 f 2) c d (by decide +kernel)
theorem Du (a:0<=lt)(b:lt<=2)(c:0<=f)(d:f<=8):fk (bT lt) f=ltr (pG lt f):=by
 refine lt_cases (P:=λlt=>fk (bT lt) f=ltr (pG lt f)) a b ?_ ?_ ?_
 ·exact gN (P:=λf=>fk (bT 0) f=ltr (pG 0 f)) c d (by decide +kernel)
 ·exact gN (P:=λf=>fk (bT 1) f=ltr (pG 1 f)) c d (by decide +kernel)
 ·exact gN (P:=λf=>fk (bT 2) f=ltr (pG 2 f)) c d (by decide +kernel)
theorem HY {j:Nat}(a:0<=lt)(b:lt<=2)(d:j<8):
  (aT (aa "rgbr") (ba (bT lt) (PD (0+(j:Int))) (PD (0+(j:Int)+2))) 0 (aa "rgbr").length 1).isEmpty=!BV j:=by
 refine lt_cases (P:=λlt=>(aT (aa "rgbr") (ba (bT lt) (PD (0+(j:Int))) (PD (0+(j:Int)+2))) 0 (aa "rgbr").length 1).isEmpty=!BV j) a b ?_ ?_ ?_
 ·exact(show ∀ k:Fin 8,(aT (aa "rgbr") (ba (bT 0) (PD (0+(k.val:Int))) (PD (0+(k.val:Int)+2))) 0 (aa "rgbr").length 1).isEmpty=!BV k.val by decide +kernel) ⟨j,d⟩
 ·exact(show ∀ k:Fin 8,(aT (aa "rgbr") (ba (bT 1) (PD (0+(k.val:Int))) (PD (0+(k.val:Int)+2))) 0 (aa "rgbr").length 1).isEmpty=!BV k.val by decide +kernel) ⟨j,d⟩
 ·exact(show ∀ k:Fin 8,(aT (aa "rgbr") (ba (bT 2) (PD (0+(k.val:Int))) (PD (0+(k.val:Int)+2))) 0 (aa "rgbr").length 1).isEmpty=!BV k.val by decide +kernel) ⟨j,d⟩
theorem ee (a b:Str):(a++b).length=a.length+b.length:=by
 refine(?_:(a.cps++b.cps).size=a.cps.size+b.cps.size);simp
theorem uq (k:Int):(nU k).length<=3:=by
 unfold nU
 split
 ·decide
 ·split
  ·decide
  ·split<;>decide
theorem xV (b:Bool):(Fo b).length=1:=by cases b<;>decide
theorem o8 (sh:Int)(row:Str)(j:Nat):(dx sh row j).length<=row.length+4*j:=by
 induction j with
 | zero=>exact aI _
 | succ j ih=>
  refine(?_:(dx sh row j++nU _++Fo _).length<=_);rw[ee,ee,xV];exact ar (du (du ih (uq ((sh+(0+(j:Int))).fmod 4))) (aI 1)) (aI _)
structure Num where
 x:Int
 y:Int
 z:Int
 lt:Int
deriving DecidableEq
noncomputable def Num.mx (p:Num):Int:=max p.x (max p.y p.z)
noncomputable def lift3 (a b c lt:Int):Num:=⟨a - min a (min b c),b - min a (min b c),c - min a (min b c),lt⟩
def nStep (p:Num)(f:Int):Num:=
 lift3 (3*(max p.x (max p.y p.z) - p.y)+cN p.lt f 0) (3*(max p.x (max p.y p.z) - p.z)+cN p.lt f 1) (3*(max p.x (max p.y p.z) - p.x)+cN p.lt f 2) (pG p.lt f)
def plStep (sh:Int)(p:Num×Str)(f:Int):Num×Str:=(nStep p.1 f,dx sh p.2 f.toNat)
theorem lr (sh:Int):∀ (l:List Int) (p:Num×Str),(l.foldl (plStep sh) p).1=l.foldl nStep p.1
 | [],_=>rfl
 | f :: l,p=>lr sh l (plStep sh p f)
def nOk (p:Num):Bool:=decide (0<=p.x)&&decide (0<=p.y)&&decide (0<=p.z)&&decide (p.mx<=30)&&(decide (p.mx<=10)||decide ((p.x+p.y+p.z) % 3=0))&&(decide (p.x=0)||decide (p.y=0)||decide (p.z=0))&&decide (0<=p.lt)&&decide (p.lt<=2)
def allOk:List Int->Num->Bool
 | [],p=>decide (0<=p.lt)&&decide (p.lt<=2)
 | f :: l,p=>nOk p&&decide (0<=f)&&decide (f<=8)&&allOk l (nStep p f)
theorem qt:∀ (l:List Int) (p:Num),allOk l p=PG->∀ (i:Nat) (f:Int),l[i]?=PD f->nOk ((l.take i).foldl nStep p)=PG/\0<=f/\f<=8
 | [],_,_,i,_,e=>by cases i<;>cases e
 | g :: l,p,h,i,f,e=>by
  have h:(nOk p&&decide (0<=g)&&decide (g<=8)&&allOk l (nStep p g))=PG:=h;simp only[aq,decide_eq_true_eq] at h;cases i with
  | zero=>cases e; exact⟨h.1.1.1,h.1.1.2,h.1.2⟩
  | succ i=>exact qt l (nStep p g) h.2 i f e
noncomputable def pStep (p:Int×List Int):Int×List Int:=if p.1=0\/p.1=-1 then p else(p.1.fdiv 9,p.2++[p.1.fmod 9])
def pRun (n:Int):Nat->Int×List Int
 | 0=>(n,[])
 | i+1=>pStep (pRun n i)
noncomputable abbrev plP (c N:Int)(k:Int):Int:=if c=k then N else 0
def nInit (N c:Int):Num:=lift3 (plP c N 0) (plP c N 1) (plP c N 2) c
def plFigs (n:Int):List Int:=(pRun n 8).2.reverse
def plInit (n c:Int):Num:=nInit (pRun n 8).1 c
def qW (n c:Int):Bool:=allOk (plFigs n) (plInit n c)
def plNum (n c:Int):Num:=(plFigs n).foldl nStep (plInit n c)
def plRow (n sh:Int):Str:=(plFigs n).foldl (λrow f=>dx sh row f.toNat) (aa "")
theorem lq (sh:Int):∀ (l:List Int) (p:Num×Str),(l.foldl (plStep sh) p).2=l.foldl (λrow f=>dx sh row f.toNat) p.2
 | [],_=>rfl
 | f :: l,p=>lq sh l (plStep sh p f)
theorem sD (sh:Int):∀ (l:List Int) (p:Num×Str),(∀ f∈l,f<=8)->((l.foldl (plStep sh) p).2).length<=p.2.length+32*l.length
 | [],_,_=>aI _
 | f :: l,p,h=>by
  have h1:=sD sh l (plStep sh p f) λg hg=>h g (.tail _ hg);have h2:=o8 sh p.2 f.toNat;have h3:=h f (.head _);have h4:(plStep sh p f).2=dx sh p.2 f.toNat:=rfl;rw[h4] at h1;have h5:f.toNat<=8:=N5.mpr h3;exact ar h1 (ar (cX (ar h2 (NR (NQ 4 h5) _)) _) (bq (by rw[N8,NZ (4*8)]; rfl)))
theorem pE (n:Int)(i:Nat):(pRun n i).2.length<=i:=by
 induction i with
 | zero=>exact aI _
 | succ i ih=>
  refine(?_:(pStep _).2.length<=_);unfold pStep
  split
  ·exact cq ih
  ·exact ar (bq aJ) (fU ih)
theorem De (h0:-1024<=n)(h1:n<1024)(i:Nat):-1024<=(pRun n i).1/\(pRun n i).1<1024:=by
 induction i with
 | zero=>exact⟨h0,h1⟩
 | succ i ih=>
  refine(?_:-1024<=(pStep _).1/\(pStep _).1<1024);unfold pStep
  split
  ·exact ih
  ·exact⟨O4 (by decide) (dj (by decide) ih.1),O1 (by decide) (kD ih.2 (by decide))⟩
theorem yv {i:Nat}(h:(pRun n i).1=0\/(pRun n i).1=-1):∀ k,pRun n (i+k)=pRun n i:=by
 intro k
 induction k with
 | zero=>rfl
 | succ k ih=>
  refine(?_:pStep (pRun n (i+k))=_);rw[ih]; unfold pStep; rw[if_pos h]
theorem z8 {i:Nat}(h:(pRun n i).1=0\/(pRun n i).1=-1)(hi:i<=8):pRun n 8=pRun n i:=by
 have:=yv h (8 - i);rwa [Nat.add_sub_cancel' hi] at this
theorem ji {c:Int}(c0:0<=c)(c2:c<=2):(({ cps:=#[(jg 'r'.val.toNat).toNat] }:Str) == ltr c)=decide (c=0)/\(({ cps:=#[(jg 'g'.val.toNat).toNat] }:Str) == ltr c)=decide (c=1)/\(({ cps:=#[(jg 'b'.val.toNat).toNat] }:Str) == ltr c)=decide (c=2):=by
 rcases OR c0 c2 with e | e | e<;>subst e<;>decide +kernel
end Mine
end
section
open PySem PySem.W PySem.Calls PySem.Spec PyProof.Rows Mine
namespace Nw
noncomputable def SO.prd?:SO->Option (Obj->Prop) | .L _=>PF | .T _=>PF | .C _=>PF | .P q=>PD q | .Z _ _=>PF | .G _=>PF | .N=>PF
theorem SO.prd_is {x:SO}{q:Obj->Prop}(h:x.prd?=PD q):x=.P q:=by cases x<;>cases h<;>rfl
def cu (w:aB)(o:Obj):Prop:=∃ kvs,o.IsDictOf (strKind aH.row.prog w) kvs/\cY gO kvs o6
noncomputable abbrev cr:Str:=⟨#[114]⟩
noncomputable abbrev cg:Str:=⟨#[103]⟩
noncomputable abbrev cb:Str:=⟨#[98]⟩
def ruleT (x:Str):Str:=if x=cr then aa "rgr" else if x=cg then aa "gbg" else aa "brb"
def my (x:Str):Prop:=x=cr\/x=cg\/x=cb
theorem vK {x:Str}(h:my x):lookup (.str x) o6=PD (.str (ruleT x)):=by rcases h with rfl | rfl | rfl<;>rfl
def wS (w:aB):SubR where
 wd:=λw'=>w'=w
 f:=λOs a b=>a.ref?.bind λj=>(Os[j]?).bind λx=>x.core.prd?.bind λq=>b.str?.map λs=>(.s (ruleT s),[],[q=cu w,my s])
 ok:=λe hC fs c V m as h hw i H u v hu hv E Q k hq=>ak e λj e1 e=>ak e λx e2 e=>ak e λq e3 e=>aZ e λs e4 eq=>by
  subst eq;obtain⟨t,rfl⟩:=PV.isStr e4 hv;have lv:x.live:=by cases x<;>first | trivial | exact av e3
  rw[PV.ref_is e1] at hu;refine bU λG1 hG1=>?_;obtain⟨a,o,rfl,h1,h2⟩:=i.get e2 lv hu;refine hG1 ?_;rw[SO.prd_is e3] at h2;obtain⟨h2,_⟩:=h2;rw[hC.1,<- hw] at h2;refine bU λG2 hG2=>?_;obtain⟨kvs,hd,hf⟩:=h2;obtain⟨v,g1,g2⟩:=hf.of_lookup PyProof.V.same_str (vK hC.2.1);have hm:h.DictOf (strKind aH.row.prog c.w) a kvs:=ir.mpr ⟨o,h1,hd⟩;have hT:(sh c.s₀ h k).TypeIs (.ref a) "dict":=⟨o,h1,hd.choose_spec.choose_spec.1.1⟩;refine hG2 ?_;refine⟨"dict",_,F.slot_dict_getitem.lookup,hT,wpAny_getItem_of (strKind_is _ _ s t) hm.mapOf g1 ?_⟩;obtain⟨u,rfl⟩:=g2.str_inv;exact ic i hq ⟨u,rfl⟩
noncomputable def rz (sx x y z:Int):Int×Int×Int:=if sx=1 then(max x (max y z) - y,max x (max y z) - z,max x (max y z) - x) else(y,z,x)
def JJ {α:Type _}(l:List α):Option (α×α×α×α):=(l[0]?).bind λa=>(jS l.tail).map λq=>(a,q)
theorem DL {α:Type}{l:List α}{q:α×α×α×α}(e:JJ l=PD q):l=[q.1,q.2.1,q.2.2.1,q.2.2.2]:=ak e λa e1 e=>aZ e λr e2 eq=>by
 subst eq;cases l with
 | nil=>cases e1
 | cons b l=>cases e1; exact congrArg (a :: ·) (f9 e2)
def zq:CallR:=⟨.ref 303,λOs ps=>(JJ ps).bind λp=>p.1.ref?.bind λj=>(Os[j]?).bind λx=>x.core.lst?.bind λl=>(Ci l).bind λz=>(jS z).bind λq=>p.2.1.int?.bind λsx=>p.2.2.1.int?.bind λwh=>p.2.2.2.int?.map λway=>
 (.r Os.length,[sL3 (rz sx q.1 q.2.1 q.2.2).1 (rz sx q.1 q.2.1 q.2.2).2.1 (rz sx q.1 q.2.1 q.2.2).2.2],[TurnOk q.1 q.2.1 q.2.2 sx wh (rz sx q.1 q.2.1 q.2.2).1 (rz sx q.1 q.2.1 q.2.2).2.1 (rz sx q.1 q.2.1 q.2.2).2.2])⟩
theorem tM {fs:Fs}{c:Cx}(hk:5<=c.k)(O:c.Ok fs):b8 fs c zq:=⟨dk O (show dN c.w 303 by kernel_rfl) rfl,λ{Os ps q} e hC V m as h vs i hv E Q t hq=>ak e λp e1 e=>ak e λj e2 e=>ak e λx e3 e=>ak e λl e4 e=>ak e λz e5 e=>ak e λr e6 e=>ak e λsx e7 e=>ak e λwh e8 e=>aZ e λway e9 eq=>by
 subst eq;have lv:x.live:=by cases x<;>first | trivial | exact av e4
 have e4:=SO.lst_is e4;rw[mz e5,f9 e6] at e4;rw[DL e1,PV.ref_is e2,PV.int_is e7,PV.int_is e8,PV.int_is e9] at hv;refine bU λG1 hG1=>?_;obtain⟨u,s,rfl,hu,h0⟩:=hv;obtain⟨D,rfl,g⟩:=Giv.one (y:=sL3 r.1 r.2.1 r.2.2) i e3 lv (by rw[e4]; rfl) hu;refine hG1 ?_;exact Con.call (BR c.w _ _ _ _ _ way _ _ _ hC.1) rfl hk (λz=>nomatch z) O i g no_one ⟨_,_,rfl,⟨D,rfl,rfl⟩,kG (fi:=[]) (as:=as) (bs:=[D]) (λU q=>nomatch q) rfl h0⟩ rfl rfl hq⟩
structure DvOk (a b:Int):Prop where
 h:(b=9/\-1024<=a/\a<1024)\/(b=-9/\-1024<a/\a<=1024)\/(b=3/\0<=a/\a<64)
def KV:CallR:=⟨.ref 80,λOs ps=>(yb ps).bind λp=>mR PV.int? PV.int? (λa b=>(PV.r Os.length,[.T [.i (a.fdiv b),.i (a.fmod b)]],[DvOk a b])) p.1 p.2⟩
end Nw
end
section
open PySem PySem.Float64
namespace Mine
variable {t n k X Y Z:Nat}{q σ l T:Rat}{sx:Int}
section
variable {α:Type}
noncomputable def fN (n:Nat)(f:Nat->α):α:=PL (f 0) (λk U=>f k.succ) n
def fI (n:Int)(f:Int->α):α:=Int.rec (λa=>fN a λa=>f (.ofNat a)) (λa=>fN a λa=>f (.negSucc a)) n
theorem Pa (n:Nat)(f:Nat->α):fN n f=f n:=by cases n<;>rfl
theorem jF (n:Int)(f:Int->α):fI n f=f n:=by cases n<;>exact Pa _ λa=>f _
noncomputable def fo (x:UInt64)(f:UInt64->α):α:=match x.toNat with | 0=>f 0 | k+1=>f (UInt64.ofNat (k+1))
theorem pR (x:UInt64)(f:UInt64->α):fo x f=f x:=by
 have e:=UInt64.ofNat_toNat (x:=x);unfold fo;cases h:x.toNat with
 | zero=>rw[h] at e; exact e▸rfl
 | succ k=>rw[h] at e; exact e▸rfl
def dF (x:UInt64)(f:Bool->Nat->Int->α)(z:α):α:=Float64.Num.rec z (λU=>z) (λa m e=>fN m λm=>fI e λe=>f a m e) (decode x)
theorem Pi (x:UInt64)(f:Bool->Nat->Int->α)(z:α):dF x f z=Float64.Num.rec z (λU=>z) f (decode x):=by
 unfold dF;cases decode x with
 | nan=>rfl
 | inf _=>rfl
 | fin a m e=>exact(Pa _ _).trans (jF _ _)
end
def lgG (n:Nat):Nat:=fN (List.rec (λU a=>a) (λk U r n a=>bif fW (2 ^ k) n then r (n / 2 ^ k) (a+k) else r n a) [1024,512,256,128,64,32,16,8,4,2,1] n 0) λl=>bif fW (2 ^ l) n&&Pv n (2 ^ (l+1)) then l else n.log2
theorem PJ (n l:Nat):(bif fW (2 ^ l) n&&Pv n (2 ^ (l+1)) then l else n.log2)=n.log2:=by
 cases h:fW (2 ^ l) n&&Pv n (2 ^ (l+1))
 ·rfl
 ·have h:=(aq _ _).mp h;exact((Nat.log2_eq_iff (cL (eX (Nat.pow_pos (by decide)) (ci h.1)))).mpr ⟨ci h.1,ci h.2⟩).symm
theorem Pu (n:Nat):lgG n=n.log2:=(Pa _ _).trans (PJ n _)
def PC (a:Bool)(m:Nat)(e:Int):UInt64:=
 pack a (fN (shift m 1 e).1 λn=>fN (shift m 1 e).2 λd=>if n == 0 then 0 else fI ((lgG n:Int) - (lgG d:Int)) λl=>fN (shift n d (-l)).1 λa=>fN (shift n d (-l)).2 λb=>fI (max (if a≥b then l - 52 else l - 53) (-1074)) λe=>fN (shift n d (-e)).1 λa=>fN (shift n d (-e)).2 λb=>min infMag ((e+1074).toNat*2 ^ 52+halfEven a b))
theorem Pn (a m e):PC a m e=ofBin a m e:=by unfold PC; rw[Pa,Pa,Pu,Pu,jF,Pa,Pa,jF,Pa,Pa]; with_unfolding_all rfl
def Pw (x y:UInt64):UInt64:=dF x (λa m e=>dF y (λb k f=>fN (m*k) λm=>fI (e+f) λe=>PC (a != b) m e) (mul x y)) (mul x y)
def Pg (x y:UInt64):UInt64:=dF x (λa m e=>dF y (λb k f=>fI (min e f) λg=>fI (sgn a (m*2 ^ (e - g).toNat)+sgn b (k*2 ^ (f - g).toNat)) λp=>if p == 0 then zero (a&&b) else PC (p<0) p.natAbs g) (add x y)) (add x y)
def PN (x y:UInt64):UInt64:=dF x (λa m e=>dF y (λU k f=>if k == 0 then nan else fI (min e f) λg=>fN ((m*2 ^ (e - g).toNat:Nat) % (k*2 ^ (f - g).toNat)) λm=>PC a m g) (fmod x y)) (fmod x y)
theorem Pq (x y):Pw x y=mul x y:=by
 unfold Pw mul; rw[Pi]; simp only[Pi];generalize decode x=X; generalize decode y=Y;cases X<;>cases Y<;>try rfl
 dsimp only; rw[Pa,jF,Pn]
theorem O9 (x y):Pg x y=add x y:=by
 unfold Pg add; rw[Pi]; simp only[Pi];generalize decode x=X; generalize decode y=Y;cases X<;>cases Y<;>try rfl
 dsimp only; rw[jF,jF,Pn]; rfl
theorem PA (x y):PN x y=fmod x y:=by
 unfold PN fmod; rw[Pi]; simp only[Pi];generalize decode x=X; generalize decode y=Y;cases X<;>cases Y<;>try rfl
 dsimp only; rw[jF,Pa,Pn]; rfl
def Pk (x y:UInt64):UInt64:=fo (neg y) (Pg x)
theorem Pb (x y):Pk x y=sub x y:=by unfold Pk; rw[pR,O9]; with_unfolding_all rfl
def PM (x:UInt64):UInt64:=fo (PN x 4607182418800017408) λm=>if isZero m then copysign (zero PH) 4607182418800017408 else if lt 4607182418800017408 (zero PH) != lt m (zero PH) then Pg m 4607182418800017408 else m
theorem Pt (x):PM x=(bD x 4607182418800017408).2:=by
 unfold PM;rw[pR,PA,O9];unfold bD;dsimp only;generalize isZero (fmod x 4607182418800017408)=b; cases b
 ·generalize (lt 4607182418800017408 (zero PH) != lt (fmod x 4607182418800017408) (zero PH))=b; cases b<;>rfl
 ·rfl
noncomputable def qf (n:Nat):UInt64:=ofFrac PH n 1024
noncomputable def nr (t:UInt64)(a R:Nat):Bool:=isFinite t&&fW (val t*a - (R*2 ^ 1074:Nat)).natAbs (2 ^ 1044)
def NI (u:UInt64)(k R:Nat):Bool:=
 bif cmp u 4595172819793696085 == PD c7 then nr u (6*k) R else bif cmp u 4602678819172646912 == PD c7 then dS R k else
 bif cmp u 4604180019048437077 == PD c7 then nr (Pk 4604180019048437077 u) (6*k) R else dS R 0
def J4 (z:UInt64)(k R:Nat):Bool:=fo z λz=>fo (PM z) λu=>NI u k R
noncomputable def sixC (h:UInt64):Int:=ce truncOf (mul h 4618441417868443648)
def Mz (i:Int)(f:UInt64)(k X Y Z:Nat):Bool:=
 if i=0 then dS X k&&dS Z 0&&nr f k Y else if i=1 then dS Y k&&dS Z 0&&nr f k (k - X) else if i=2 then dS X 0&&dS Y k&&nr f k Z else
 if i=3 then dS X 0&&dS Z k&&nr f k (k - Y) else if i=4 then dS Y 0&&dS Z k&&nr f k X else dS X k&&dS Y 0&&nr f k (k - Z)
def KZ (a:UInt64)(k X Y Z:Nat):Bool:=fo a λa=>fo (Pw a 4618441417868443648) λb=>isFinite b&&fW (ce truncOf b).natAbs 12&&J4 (Pg a 4599676419421066581) k X&&J4 a k Y&&J4 (Pk a 4599676419421066581) k Z&&
 fo (Pk b (ofInt (ce truncOf b))) λf=>Mz ((ce truncOf b).fmod 6) f k X Y Z
def hqf (d:Nat->UInt64)(k x y z:Nat):UInt64:=PM (div (if x=k then Pk (d (k - z)) (d (k - y)) else if y=k then Pk (Pg 4611686018427387904 (d (k - x))) (d (k - z)) else Pk (Pg 4616189618054758400 (d (k - y))) (d (k - x))) 4618441417868443648)
def hqq (k n:Nat):UInt64:=div (qf n) (qf k)
def HG (k x y z:Nat):Bool:=(Pv 10 k&&!dS (Nat.mod (x+y+z) 3) 0)||fo (hqf (hqq k) k x y z) λh=>fo (Pg (Pw 4618441417868443648 h) 4618441417868443648) λi=>isFinite i&&decide ((ce truncOf i).fdiv 6=1)&&KZ (Pg h 4595172819793696085) k (k - y) (k - z) (k - x)&&KZ (Pg h 4604180019048437077) k y z x
def MA (k p:Nat):Bool:=HG k k p 0&&HG k k 0 p&&HG k p k 0&&HG k 0 k p&&HG k p 0 k&&HG k 0 p k
noncomputable def Er (f:Nat->Bool):Nat->Bool | 0=>PG | n+1=>f n&&Er f n
def kX (x:UInt64):Prop:=∃ a m e,decode x=.fin a m e
noncomputable def KK:Rat:=((2 ^ 1074:Nat):Rat)
noncomputable def dl:Rat:=1 / 1099511627776
def rv (x:UInt64):Rat:=(val x:Rat) / KK
def Ab (a e:Rat):Prop:=-e<=a/\a<=e
theorem KW:0<dl:=by unfold dl; decide +kernel
theorem ku:0<KK:=fm.mpr (cy _)
theorem l8 (x:UInt64):rv x*KK=(val x:Rat):=jb (iN ku)
section
variable {a b e f:Rat}
theorem Ft {c d:Rat}(h:a<=b)(k:c<=d):a+c<=b+d:=n5 (Rat.add_le_add_right.mpr h) (Rat.add_le_add_left.mpr k)
theorem Ab.add (h:Ab a e)(k:Ab b f):Ab (a+b) (e+f):=⟨Rat.neg_add▸Ft h.1 k.1,Ft h.2 k.2⟩
theorem Ab.neg (h:Ab a e):Ab (-a) e:=⟨gJ h.2,by have:=gJ h.1; rwa [Rat.neg_neg] at this⟩
theorem Ab.mono (h:Ab a e)(k:e<=f):Ab a f:=⟨n5 (gJ k) h.1,n5 h.2 k⟩
theorem Ab.mul (h:Ab a e)(k:Ab b f):Ab (a*b) (e*f):=by
 have h1:=i9 (show 0<=e - a by have:=h.2; grind) (show 0<=f+b by have:=k.1; grind);have h2:=i9 (show 0<=e+a by have:=h.1; grind) (show 0<=f - b by have:=k.2; grind);have h3:=i9 (show 0<=e - a by have:=h.2; grind) (show 0<=f - b by have:=k.2; grind);have h4:=i9 (show 0<=e+a by have:=h.1; grind) (show 0<=f+b by have:=k.1; grind)
 constructor<;>grind
theorem Ab.self (h:0<=a):Ab a a:=⟨n5 (gJ h) h,Rat.le_refl⟩
theorem Ab.div {P:Rat}(hP:0<P)(h:Ab (a*P) (e*P)):Ab a e:=⟨ja (yX ..▸h.1) hP,ja h.2 hP⟩
theorem Ab.of (h:a<=b+e)(k:b<=a+e):Ab (a - b) e:=⟨by grind,by grind⟩
theorem Ab.sgn {n:Bool}{v w c:Nat}(h:(v:Rat)<=w+c)(k:(w:Rat)<=v+c):Ab ((nK n v:Int) - (nK n w:Int):Rat) c:=by
 unfold nK;cases n
 ·exact .of h k
 ·rw[if_pos rfl,if_pos rfl,iH,iH,gh,<- Rat.neg_add,<- gh]; exact(Ab.of h k).neg
end
theorem vj:∀ (j n:Nat),n<2 ^ 53->∃ t,V t=n*2 ^ j
 | 0,n,h=>⟨0*2 ^ 52+n,V_at (bN h) (.inr rfl)⟩
 | j+1,n,h=>(wA n (2 ^ 52)).elim (λq=>(vj j (2*n) (jd q (by decide))).imp λt e=>by rw[e,Nat.pow_succ,gK 2 n,uV,gK 2]) λq=>⟨_,V_at (bN h) (.inl q)⟩
section
variable {r:UInt64}{neg:Bool}{W D:Nat}
theorem wZ (h:Right r neg W D)(hD:0<D)(hW:W<=D*2 ^ 1086):∃ t,r=pack neg t/\t<infMag/\∀ t',dist W (D*V t)<=dist W (D*V t'):=
 h.elim λt z=>have lt:t<infMag:=Nat.lt_of_le_of_ne z.2.1 λe=>absurd (z.2.2.1.mp e) (Nat.not_le.mpr (cS (NQ 2 hW) (jx 2 D _▸jd (by decide +kernel) hD)))
  ⟨t,z.1,lt,λt'=>(z.2.2.2 lt t').1⟩
theorem z7 (neg:Bool)(h:t<infMag):kX (pack neg t):=(decode_pack neg h).elim λm z=>z.elim λe z=>⟨neg,m,e,z.1⟩
theorem Kx {s:Nat}(h:V s=V t):s=t:=(Nat.lt_trichotomy s t).elim (λq=>absurd h (aY (V_lt q))) λq=>q.elim id λq=>absurd h.symm (aY (V_lt q))
theorem tj {a b c:Nat}(h:dist a b<=c):a<=b+c/\b<=a+c:=⟨Nat.sub_le_iff_le_add'.mp (ar (a8 _ _) h),Nat.sub_le_iff_le_add'.mp (ar (dZ _ _) h)⟩
theorem Hu {a b:Nat}(h:dist a b<=0):a=b:=f7 (tj h).1 (tj h).2
theorem uI (a b:Nat):dist (a+b) a=b:=by unfold Float64.dist; rw[eH,Nat.sub_eq_zero_of_le (a8 ..),wB]
theorem wY (h:Right r neg W D)(hD:0<D)(hW:W<=D*2 ^ 1086)(e:W=D*V t):r=pack neg t/\t<infMag:=
 (wZ h hD hW).elim λs z=>(Kx (Nat.eq_of_mul_eq_mul_left hD ((Hu (ar (z.2.2 t) (bq (e▸uI _ 0)))).symm.trans e)):s=t)▸⟨z.1,z.2.1⟩
theorem CV (hD:0<D)(hW:W<=D*2 ^ 1086):∃ t,dist W (D*V t)<=D*2 ^ 1034:=
 have hP:=y5 hD (cy 1034)
 (vj 1034 (W / (D*2 ^ 1034)) ((Nat.div_lt_iff_lt_mul hP).mpr (cS hW (by rw[jx]; exact jd (by decide +kernel) hD)))).imp λt e=>by
  rw[e,jx,gK (W / _)];have:=uI (D*2 ^ 1034*(W / (D*2 ^ 1034))) (W % (D*2 ^ 1034));rw[Nat.div_add_mod] at this;exact this▸bN (Nat.mod_lt W hP)
theorem pA (h:Right r neg W D)(hD:0<D)(hq:q*((D:Rat)*KK)=((sgn neg W:Int):Rat))(b:Ab q 4096):kX r/\Ab (rv r - q) dl:=by
 have hDr:(0:Rat)<(D:Rat):=fm.mpr hD;have hDK:(0:Rat)<(D:Rat)*KK:=Rat.mul_pos hDr ku
 have e1:((D*2 ^ 1086:Nat):Rat)=4096*((D:Rat)*KK):=by
  unfold KK;rw[bx,show(1086:Nat)=12+1074 from rfl,io,bx]; generalize ((2 ^ 1074:Nat):Rat)=z; grind
 have e2:((D*2 ^ 1034:Nat):Rat)=dl*((D:Rat)*KK):=by
  have:((2 ^ 1034:Nat):Rat)=dl*KK:=by
   unfold KK; rw[show(1074:Nat)=40+1034 from rfl,io,bx]; generalize ((2 ^ 1034:Nat):Rat)=z; unfold dl; grind
  rw[bx,this]; grind
 have hb:=b.mul (Ab.self (iO hDK));rw[hq,<- e1] at hb
 have hW:W<=D*2 ^ 1086:=bj.mp (by
  unfold nK at hb;cases neg
  ·exact hb.2
  ·rw[if_pos rfl,iH] at hb; exact Rat.neg_le_neg_iff.mp hb.1)
 refine(wZ h hD hW).elim λt z=>z.1▸⟨z7 neg z.2.1,?_⟩;refine(CV hD hW).elim λt' z'=>.div hDK ?_;have d:=tj (ar (z.2.2 t') z');have d1:=bj.mpr d.1;have d2:=bj.mpr d.2;rw[bo] at d1 d2;have S:=Ab.sgn (n:=neg) d2 d1;rw[e2] at S;refine gh ..▸?_;rw[qQ,yX,hq,<- jP,Rat.mul_comm (rv _),jP,l8,val_pack neg z.2.1,<- gh];have e3:((D:Rat)*((sgn neg (V t):Int):Rat))=((sgn neg (D*V t):Int):Rat):=by rw[gK,sgn_mul,rr,Rat.mul_comm]; rfl
 rw[e3]; exact S
end
section
variable {x y:UInt64}
theorem v4 (h:kX x):isFinite x=PG:=h.elim λa z=>z.elim λm z=>z.elim λe h=>by unfold isFinite; rw[h]
theorem DO (h:kX x):isInf x=PH:=h.elim λa z=>z.elim λm z=>z.elim λe h=>by unfold isInf; rw[h]
theorem vZ (h:isFinite x=PG):kX x:=by
 unfold isFinite at h;cases hd:decode x with
 | nan=>rw[hd] at h; cases h
 | inf n=>rw[hd] at h; cases h
 | fin a m e=>exact⟨a,m,e,hd⟩
theorem wI {a:Bool}{m:Nat}{e:Int}(h:decode x=.fin a m e):sgn a (val x).natAbs=val x:=by rw[val_natAbs h,val_eq h]
theorem BI (hx:kX x)(hy:kX y):cmp x y=PD (compare (val x) (val y)):=hx.elim λU z=>z.elim λU z=>z.elim λU hx=>hy.elim λU z=>z.elim λU z=>z.elim λU hy=>cmp_right hx hy
theorem tJ (a:Bool):kX (zero a)/\val (zero a)=0:=by cases a<;>exact⟨⟨_,_,_,by with_unfolding_all rfl⟩,by decide +kernel⟩
theorem Ab.zero {e:Rat}(h:0<=e):Ab 0 e:=⟨by have:=gJ h; rwa [Rat.neg_zero] at this,h⟩
structure Lb (x:UInt64)(q:Rat)(n B:Nat):Prop where
 f:kX x
 e:Ab (rv x - q) (n*dl)
 b:Ab q B
def Nr (r:UInt64)(p:Rat):Prop:=kX r/\Ab (rv r - p) dl
theorem CK (S:Int):sgn (decide (S<0)) S.natAbs=S:=(cJ (S<0)).elim (λh=>by rw[decide_eq_true h]; exact(congrArg KC (Int.ofNat_natAbs_of_nonpos (c9 h))).trans (y7 S)) λh=>by rw[decide_eq_false h]; exact Int.natAbs_of_nonneg (dQ.mp h)
theorem Ia (hx:kX x)(hy:kX y)(b:Ab (rv x+rv y) 4096):Nr (add x y) (rv x+rv y):=
 hx.elim λU z=>z.elim λU z=>z.elim λU hx=>hy.elim λU z=>z.elim λU z=>z.elim λU hy=>by
  have hs:(rv x+rv y)*KK=((val x+val y:Int):Rat):=by rw[qQ,l8,l8,Rat.intCast_add]
  have R:=add_right hx hy
  by_cases h0:val x+val y=0
  ·rw[R.1 h0];rw[h0] at hs;refine⟨(tJ _).1,?_⟩;rw[(Rat.mul_eq_zero.mp hs).resolve_right (iN ku),(Rat.mul_eq_zero.mp ((l8 _).trans (congrArg _ (tJ _).2))).resolve_right (iN ku)];rw[Rat.sub_self]; exact .zero (iO KW)
  ·exact pA (R.2 h0) (by decide) (by rw[show((1:Nat):Rat)=1 from rfl,il,hs,CK]) b
theorem CJ (a b:Bool)(m k:Nat):sgn (a != b) (m*k)=sgn a m*sgn b k:=by
 unfold sgn;cases a<;>cases b
 ·exact fv ..
 ·exact(congrArg KC (fv ..)).trans (Int.mul_neg ..).symm
 ·exact(congrArg KC (fv ..)).trans (OA ..).symm
 ·exact(fv ..).trans (Int.neg_mul_neg ..).symm
theorem Gi (hx:kX x)(hy:kX y)(b:Ab (rv x*rv y) 4096):Nr (mul x y) (rv x*rv y):=
 hx.elim λU z=>z.elim λU z=>z.elim λU hx=>hy.elim λU z=>z.elim λU z=>z.elim λU hy=>pA (mul_right hx hy) (cy _) (by
  rw[CJ,wI hx,wI hy,rr,<- l8,<- l8]; show _*(KK*KK)=_; generalize KK=K; grind) b
end
section
variable {x y r:UInt64}{p q s:Rat}{n m N B C D:Nat}
theorem lA (h:n<=N):(n:Rat)*dl<=N*dl:=gX (bj.mpr h) (iO KW)
theorem wb:((1099511627776:Nat):Rat)*dl=1:=by unfold dl; decide +kernel
theorem EU (h:Nr r p)(e:Ab (p - q) (n*dl))(b:Ab q B)(hn:n+1<=N)(hB:B<=C):Lb r q N C:=
 ⟨h.1,by
  have:=(h.2.add e).mono (f:=N*dl) (by have:=lA hn; rw[bo,qQ,show((1:Nat):Rat)=1 from rfl,il,wx] at this; exact this);rwa [show rv r - p+(p - q)=rv r - q from by grind] at this,b.mono (bj.mpr hB)⟩
noncomputable def okA (n m B C N D:Nat):Bool:=fW (n+m+1) N&&fW (B+C) D&&fW D 4000&&fW N 1099511627776
theorem pH (hx:Lb x q n B)(hy:Lb y s m C)(h:okA n m B C N D=PG):Lb (add x y) (q+s) N D:=by
 unfold okA at h;simp only[aq,Nat.ble_eq] at h;have e:=hx.e.add hy.e;rw[<- qQ,<- bo,show rv x - q+(rv y - s)=(rv x+rv y) - (q+s) from by grind] at e;have b:=hx.b.add hy.b;rw[<- bo] at b;have bb:=b.add (e.mono (lA (ar (n6 h.1.1.1) h.2)));rw[wb,show q+s+(rv x+rv y - (q+s))=rv x+rv y from by grind] at bb;exact EU (Ia hx.f hy.f (bb.mono (by have:=bj.mpr (ar (cX (ar h.1.1.2 h.1.2) 1) (by decide:4000+1<=4096)); rwa [bo] at this))) e b h.1.1.1 h.1.1.2
theorem Lb.neg (h:Lb x q n B):Lb (neg x) (-q) n B:=
 h.f.elim λU z=>z.elim λU z=>z.elim λU hx=>⟨⟨_,_,_,neg_decode hx⟩,by
  have e:rv (Float64.neg x)=-rv x:=by unfold rv; rw[neg_val hx,iH,yY,yY,yX]
  have:=h.e.neg;rwa [e,show -rv x - -q=-(rv x - q) from by grind],h.b.neg⟩
theorem mW (hx:Lb x q n B)(hy:Lb y s m C)(h:okA n m B C N D=PG):Lb (sub x y) (q - s) N D:=by
 have:=pH hx hy.neg h;rw[<- gh] at this; with_unfolding_all exact this
noncomputable def Ni (n m B C N D:Nat):Bool:=fW (n*C+B*m+2) N&&fW (n*m) 1099511627776&&fW (B*C) D&&fW D 4000&&fW N 1099511627776
theorem jH (hx:Lb x q n B)(hy:Lb y s m C)(h:Ni n m B C N D=PG):Lb (mul x y) (q*s) N D:=by
 unfold Ni at h;simp only[aq,Nat.ble_eq] at h
 have s2:(n:Rat)*dl*(m*dl)<=dl:=by
  have:=gX (lA h.1.1.1.2) (iO KW);rw[wb,il,bx] at this;generalize dl=d at *; grind
 have e:=((hx.e.mul hy.e).mono s2).add ((hx.e.mul hy.b).add (hx.b.mul hy.e));rw[show(rv x - q)*(rv y - s)+((rv x - q)*s+q*(rv y - s))=rv x*rv y - q*s from by grind] at e
 have e:=e.mono (f:=((n*C+B*m+1:Nat):Rat)*dl) (by
  rw[bo,bo,bx,bx,show((1:Nat):Rat)=1 from rfl]; generalize dl=d at *; grind)
 have b:=hx.b.mul hy.b;rw[<- bx] at b;have bb:=b.add (e.mono (lA (ar (n6 h.1.1.1.1) h.2)));rw[wb,show q*s+(rv x*rv y - q*s)=rv x*rv y from by grind] at bb;exact EU (Gi hx.f hy.f (bb.mono (by have:=bj.mpr (ar (cX (ar h.1.1.2 h.1.2) 1) (by decide:4000+1<=4096)); rwa [bo] at this))) e b h.1.1.1.1 h.1.1.2
theorem Lb.eq (h:Lb x q n B)(e:q=s):Lb x s n B:=e▸h
end
section
variable {a b n:Nat}
theorem FY (h:n<2 ^ 22):∃ t,qf n=pack PH t/\t<infMag/\V t=n*2 ^ 1064:=
 have hW:n*2 ^ 1074<=1024*2 ^ 1086:=ar (lM _ (bN h)) (by decide +kernel);have R:Right (qf n) PH (n*2 ^ 1074) 1024:=ofFrac_right (by decide) rfl (by decide)
 (vj 1064 n (iP h (by decide))).imp λt e=>have q:=wY R (by decide) hW (t:=t) (by rw[e,jx,<- io 2 10 1064]); ⟨q.1,q.2,e⟩
theorem jQ (h:n<2 ^ 22):val (qf n)=((n*2 ^ 1064:Nat):Int):=(FY h).elim λt z=>by rw[z.1,val_pack PH z.2.1,z.2.2]; rfl
theorem nI (h:n<2 ^ 22):∃ m e,decode (qf n)=.fin PH m e:=(FY h).elim λt z=>(decode_pack PH z.2.1).imp λm w=>w.imp λe w=>z.1▸w.1
theorem uz (h:n<2 ^ 22):kX (qf n):=⟨PH,nI h⟩
theorem Lf (h:n<2 ^ 22):rv (qf n)*1024=n:=by
 have e:=l8 (qf n);rw[jQ h,iJ,show KK=1024*((2 ^ 1064:Nat):Rat) from by unfold KK; rw[show(1074:Nat)=10+1064 from rfl,io,bx]; rfl,bx,<- jP] at e;have hp:(0:Rat)<((2 ^ 1064:Nat):Rat):=fm.mpr (cy _);have e2:=congrArg (·*((2 ^ 1064:Nat):Rat)⁻¹) e
 simpa only[jP,Rat.mul_inv_cancel _ (iN hp),Rat.mul_one] using e2
theorem uk {B:Nat}(h:fW n (1024*B)=PG)(h2:n<2 ^ 22):Lb (qf n) (n / 1024) 0 B:=by
 have e:=Lf h2;have h:=bj.mpr (ci h);rw[bx] at h;have h0:(0:Rat)<=n:=gi;refine⟨uz h2,?_,?_⟩
 ·rw[show rv (qf n) - n / 1024=0 from by grind,show((0:Nat):Rat)*dl=0 from Rat.zero_mul _]; exact .zero Rat.le_refl
 ·exact⟨by grind,by grind⟩
theorem IW {r:UInt64}{S:Int}(h:(S=0->r=zero PH)/\(S≠0->Right r (decide (S<0)) S.natAbs 1))(hn:n<2 ^ 22)(e:S=((n*2 ^ 1064:Nat):Int)):r=qf n:=by
 subst e
 by_cases h0:((n*2 ^ 1064:Nat):Int)=0
 ·rw[h.1 h0,(Nat.mul_eq_zero.mp (Int.natCast_eq_zero.mp h0)).resolve_right (cL (cy _))]; decide +kernel
 ·have R:=h.2 h0;rw[decide_eq_false (dQ.mpr (dR _)),je] at R;exact(FY hn).elim λt z=>(wY R (by decide) (by rw[Oy]; exact ar (lM _ (bN hn)) (by decide +kernel)) (t:=t) (by rw[z.2.2,Oy])).1.trans z.1.symm
theorem wR (h:b<=a)(ha:a<2 ^ 22):sub (qf a) (qf b)=qf (a - b):=
 have hb:=cS h ha
 (nI ha).elim λU z=>z.elim λU z=>(nI hb).elim λU y=>y.elim λU y=>IW (sub_right z y) (cS (gZ ..) ha) (by rw[jQ ha,jQ hb,Nat.sub_mul,mJ (lM _ h)])
theorem Kw (h:a+b<2 ^ 22):add (qf a) (qf b)=qf (a+b):=
 have ha:=cS (a8 ..) h;have hb:=cS (dZ ..) h
 (nI ha).elim λU z=>z.elim λU z=>(nI hb).elim λU y=>y.elim λU y=>IW (add_right z y) h (by rw[jQ ha,jQ hb,Nat.add_mul,Oa])
theorem Fj (ha:a<2 ^ 22)(hb:b<2 ^ 22):cmp (qf a) (qf b)=PD (compare a b):=by
 rw[BI (uz ha) (uz hb),jQ ha,jQ hb];have P:=cy 1064;rcases Nat.lt_trichotomy a b with h | h | h
 ·rw[Int.compare_eq_lt.mpr (n9.mpr (Nat.mul_lt_mul_of_pos_right h P)),n7.mpr h]
 ·rw[h,Int.compare_eq_eq.mpr rfl,n8.mpr rfl]
 ·rw[Int.compare_eq_gt.mpr (n9.mpr (Nat.mul_lt_mul_of_pos_right h P)),Nat.compare_eq_gt.mpr h]
end
theorem jT (h:n<=4096):n<2 ^ 22:=cS h (by decide)
theorem Hj (x w:Nat):fC x w=qf (x+w):=by
 show ofFrac (decide (((x+w:Nat):Int)<0) != decide ((1024:Int)<0)) (x+w) 1024=_;rw[decide_eq_false (dQ.mpr (dR _))]; rfl
section
variable {a b c m:Nat}
theorem rW (ha:a<=4096)(hb:b<=4096):Cj (qf a) (qf b)=decide (a<b):=by
 unfold Cj; rw[Fj (jT ha) (jT hb)]
 by_cases h:a<b
 ·rw[n7.mpr h,decide_eq_true h]; rfl
 ·rw[decide_eq_false h]; cases e:compare a b
  ·exact absurd (n7.mp e) h
  ·rfl
  ·rfl
theorem pV (ha:a<=4096)(hb:b<=4096):feq (qf a) (qf b)=decide (a=b):=by
 unfold feq; rw[Fj (jT ha) (jT hb)]
 by_cases h:a=b
 ·rw[n8.mpr h,decide_eq_true h]; rfl
 ·rw[decide_eq_false h]; cases e:compare a b
  ·rfl
  ·exact absurd (n8.mp e) h
  ·rfl
theorem Jj (h:m<=4096)(ha:a<=m)(hb:b<=m)(hc:c<=m)(e:a=m\/b=m\/c=m):fmax3 (qf a) (qf b) (qf c)=qf m:=by
 have h1:=ar ha h; have h2:=ar hb h; have h3:=ar hc h;have K:∀ {n},n<=m->a<=n->b<=n->c<=n->qf n=qf m:=λh p q r=>congrArg qf (f7 h (e.elim (λe=>e▸p) λe=>e.elim (λe=>e▸q) λe=>e▸r));unfold fmax3; rw[rW h1 h2,rW h2 h3,rW h1 h3]
 by_cases p:a<b
 ·rw[if_pos (decide_eq_true p)]
  by_cases q:b<c
  ·rw[if_pos (decide_eq_true q)]; exact K hc (bN (iP p q)) (bN q) (aI c)
  ·rw[if_neg (λh=>q (of_decide_eq_true h))]; exact K hb (bN p) (aI b) (cP.mp q)
 ·rw[if_neg (λh=>p (of_decide_eq_true h))]
  by_cases q:a<c
  ·rw[if_pos (decide_eq_true q)]; exact K hc (bN q) (ar (cP.mp p) (bN q)) (aI c)
  ·rw[if_neg (λh=>q (of_decide_eq_true h))]; exact K ha (aI a) (cP.mp p) (cP.mp q)
theorem Jh (h:c<=4096)(hb:b<=4096)(ha:a<=4096)(h1:m<=a)(h2:m<=b)(h3:m<=c)(e:a=m\/b=m\/c=m):fmin3 (qf a) (qf b) (qf c)=qf m:=by
 have K:∀ {n},m<=n->n<=a->n<=b->n<=c->qf n=qf m:=λh p q r=>congrArg qf (f7 (e.elim (λe=>e▸p) λe=>e.elim (λe=>e▸q) λe=>e▸r) h);unfold fmin3; rw[rW hb ha,rW h hb,rW h ha]
 by_cases p:b<a
 ·rw[if_pos (decide_eq_true p)]
  by_cases q:c<b
  ·rw[if_pos (decide_eq_true q)]; exact K h3 (bN (iP q p)) (bN q) (aI c)
  ·rw[if_neg (λh=>q (of_decide_eq_true h))]; exact K h2 (bN p) (aI b) (cP.mp q)
 ·rw[if_neg (λh=>p (of_decide_eq_true h))]
  by_cases q:c<a
  ·rw[if_pos (decide_eq_true q)]; exact K h3 (bN q) (ar (bN q) (cP.mp p)) (aI c)
  ·rw[if_neg (λh=>q (of_decide_eq_true h))]; exact K h1 (aI a) (cP.mp p) (cP.mp q)
theorem mw (ha:a<=4096)(h:isZero (qf a)=PG):a=0:=by
 have v:=jQ (jT ha)
 have h0:val (qf a)=0:=(nI (jT ha)).elim λm z=>z.elim λe z=>by
  unfold isZero at h; rw[z] at h; rw[val_eq z];cases m with
  | zero=>rw[wz]; rfl
  | succ n=>cases h
 exact(Nat.mul_eq_zero.mp (Int.natCast_eq_zero.mp (v.symm.trans h0))).resolve_right (cL (cy _))
theorem vN (hb:0<b)(hb2:b<=4096)(hab:a<=b)(hq:q*b=a):Lb (div (qf a) (qf b)) q 1 1:=
 have bp:(0:Rat)<b:=fm.mpr hb;have hA:Ab q 1:=.div bp (by rw[hq,il]; exact(Ab.self gi).mono (bj.mpr hab));have ha22:=jT (ar hab hb2)
 (nI ha22).elim λm z=>z.elim λe z=>(nI (jT hb2)).elim λk y=>y.elim λf y=>by
  have hv:=val_natAbs y;rw[jQ (jT hb2),je] at hv;have R:=div_right z y (λh=>cL (y5 hb (cy 1064)) (by rw[hv,h,wz]));rw[jQ ha22,jQ (jT hb2),je,je] at R
  have N:=pA (q:=q) R (y5 hb (cy _)) (by
   show _=((_:Nat):Rat);rw[bx,bx,bx,<- hq]; unfold KK; generalize ((2 ^ 1074:Nat):Rat)=K; grind) (hA.mono (by decide +kernel))
  exact⟨N.1,by rw[show((1:Nat):Rat)=1 from rfl,il]; exact N.2,hA⟩
theorem q0:(0:UInt64)=qf 0:=by decide +kernel
theorem ne0 {S:UInt64}{B:Nat}(L:Lb S σ n B)(hn:n<=1000)(h:1 / 2048<=σ):feq S 0=PH:=by
 unfold feq;rw[q0,BI L.f (uz (by decide)),(jQ (n:=0) (by decide)).trans (congrArg tA (wz _))]
 have:val S≠0:=λe=>by
  have h1:=(L.e.mono (lA hn)).1;have h2:rv S=0:=by unfold rv; rw[e,yY]; exact Rat.zero_mul _
  have h3:(1000:Nat)*dl<1 / 2048:=by unfold dl; decide +kernel
  rw[h2] at h1; grind
 show(PD (compare (val S) 0) == PD tG)=PH;cases hc:compare (val S) 0
 ·rfl
 ·exact absurd (Int.compare_eq_eq.mp hc) this
 ·rfl
theorem BB {E:Nat}(hk:1<=k)(h:k<=E)(hE:E<=2048):∃ σ:Rat,σ*E=k/\Lb (div (qf k) (qf E)) σ 1 1/\feq (div (qf k) (qf E)) 0=PH:=
 have e:(k:Rat) / E*E=k:=jb (iN (fm.mpr (ar hk h)));have L:=vN (ar hk h) (ar hE (by decide)) h e
 ⟨_,e,L,ne0 L (by decide) (by
  have k1:(1:Rat)<=k:=bj.mpr hk;have E1:(E:Rat)<=2048:=bj.mpr hE;have E0:(0:Rat)<E:=fm.mpr (ar hk h);refine ja (c:=(E:Rat)) ?_ E0;rw[e]; grind)⟩
end
structure Col (x y z k w:Nat):Prop where
 x1:x<=k
 y1:y<=k
 z1:z<=k
 w1:w<=700
 k0:k<=30
 mx:x=k\/y=k\/z=k
 mn:x=0\/y=0\/z=0
section
variable {x y z k w:Nat}
theorem Col.kw (C:Col x y z k w):k+w<=1000:=ar (du C.k0 C.w1) (by decide)
theorem Col.max (C:Col x y z k w):fmax3 (qf (x+w)) (qf (y+w)) (qf (z+w))=qf (k+w):=
 Jj (ar C.kw (by decide)) (cX C.x1 w) (cX C.y1 w) (cX C.z1 w) (C.mx.imp (congrArg (·+w)) λh=>h.imp (congrArg (·+w)) (congrArg (·+w)))
theorem Col.le (C:Col x y z k w)(h:n<=k):n+w<=4096:=ar (ar (cX h w) C.kw) (by decide)
theorem Col.min (C:Col x y z k w):fmin3 (qf (x+w)) (qf (y+w)) (qf (z+w))=qf w:=
 have e:∀ {n:Nat},n=0->n+w=w:=λh=>by rw[h,cA]
 Jh (C.le C.z1) (C.le C.y1) (C.le C.x1) (dZ ..) (dZ ..) (dZ ..) (C.mn.imp e λh=>h.imp e e)
theorem Col.sub (C:Col x y z k w)(h:n<=k):eB (qf (k+w)) (qf (n+w))=qf (k - n):=by
 rw[wR (cX h w) (jT (C.le (aI k))),Nat.add_sub_add_right]
theorem Col.rng (C:Col x y z k w):eB (qf (k+w)) (qf w)=qf k:=by
 rw[wR (dZ w k) (jT (C.le (aI k))),N6]
theorem Col.sum (C:Col x y z k w):add (qf (k+w)) (qf w)=qf (k+w+w):=Kw (jT (ar (du C.kw C.w1) (by decide)))
theorem q2:(4611686018427387904:UInt64)=qf 2048:=by decide +kernel
theorem q1:(4607182418800017408:UInt64)=qf 1024:=by decide +kernel
theorem q6:(4618441417868443648:UInt64)=qf 6144:=by decide +kernel
theorem Col.dif (C:Col x y z k w):eB (eB 4611686018427387904 (qf (k+w))) (qf w)=qf (2048 - (k+w+w)):=by
 have h:w+(k+w)<=2048:=ar (du C.w1 C.kw) (by decide);rw[q2,wR (ar (dZ ..) h) (by decide),wR (Nat.le_sub_of_add_le h) (jT (ar (gZ ..) (by decide))),Ox]
theorem Col.hue (C:Col x y z k w):uB (qf (x+w)) (qf (y+w)) (qf (z+w))=hqf (hqq k) k x y z:=by
 unfold uB hqf hqq;rw[Pt,O9,O9,Pb,Pb,Pb];rw[C.max,C.min,C.rng,C.sub C.x1,C.sub C.y1,C.sub C.z1,pV (C.le C.x1) (C.le (aI k)),pV (C.le C.y1) (C.le (aI k))];simp only[decide_eq_true_eq,Nat.add_right_cancel_iff]
theorem Col.light (C:Col x y z k w):iF (qf (x+w)) (qf (y+w)) (qf (z+w))=div (qf (k+w+w)) (qf 2048):=by unfold iF; rw[C.max,C.min,C.sum,q2]
theorem sK:Lb 4607182418800017408 1 0 1:=q1▸(uk (n:=1024) rfl (by decide)).eq (by decide +kernel)
theorem FA:Lb 4611686018427387904 2 0 2:=q2▸(uk (n:=2048) rfl (by decide)).eq (by decide +kernel)
theorem FL:Lb 4618441417868443648 6 0 6:=q6▸(uk (n:=6144) rfl (by decide)).eq (by decide +kernel)
theorem MK {k w:Rat}(hl:l*2048=T)(hs:σ*T=k)(hT:T=k+w+w):l*(1+σ)=(w+k) / 1024:=by grind
theorem MJ {E k w:Rat}(hl:l*2048=T)(hs:σ*E=k)(hE:E+T=2048)(hT:T=k+w+w):l+σ - l*σ=(w+k) / 1024:=by grind
theorem MI {k w:Rat}(hl:l*2048=T)(hT:T=k+w+w):2*l - (w+k) / 1024=w / 1024:=by grind
theorem Col.full (C:Col x y z k w)(hk:1<=k):∃ S l,fHls (qf (x+w)) (qf (y+w)) (qf (z+w))=(hqf (hqq k) k x y z,l,S)/\feq S 0=PH/\Lb (fM2 l S) (((w:Rat)+k) / 1024) 8 3/\Lb (DP l S) ((w:Rat) / 1024) 13 5:=by
 have hT:k+w+w<=1700:=du C.kw C.w1;have hT2:k+w+w<=2048:=ar hT (by decide);have kT:((k+w+w:Nat):Rat)=(k:Rat)+w+w:=by rw[bo,bo]
 have e:((k+w+w:Nat):Rat) / 2048*2048=((k+w+w:Nat):Rat):=jb (by decide +kernel);have Ll:=vN (a:=k+w+w) (b:=2048) (by decide) (by decide) hT2 e
 have K:∀ S,feq S 0=PH/\Lb (fM2 (div (qf (k+w+w)) (qf 2048)) S) (((w:Rat)+k) / 1024) 8 3->fHls (qf (x+w)) (qf (y+w)) (qf (z+w))=(hqf (hqq k) k x y z,div (qf (k+w+w)) (qf 2048),S)->∃ S l,fHls (qf (x+w)) (qf (y+w)) (qf (z+w))=(hqf (hqq k) k x y z,l,S)/\feq S 0=PH/\Lb (fM2 l S) (((w:Rat)+k) / 1024) 8 3/\Lb (DP l S) ((w:Rat) / 1024) 13 5:=
  λS hS q=>⟨S,_,q,hS.1,hS.2,(mW (N:=13) (D:=5) (jH (N:=4) (D:=2) FA Ll rfl) hS.2 rfl).eq (MI e kT)⟩
 refine K _ ?_ (by unfold fHls; rw[C.hue,C.light,C.max,C.min,C.rng,C.sum,C.dif,pV (ar C.w1 (by decide)) (C.le (aI k)),if_neg (λh=>aY (Nat.lt_add_of_pos_left hk) (of_decide_eq_true h))]);unfold fM2;cases E9 (div (qf (k+w+w)) (qf 2048)) 4602678819172646912
 ·rw[if_neg (by decide),if_neg (by decide)];refine(BB hk (show k<=2048 - (k+w+w) from Nat.le_sub_of_add_le (ar (du C.k0 hT) (by decide))) (gZ ..)).elim λσ z=>⟨z.2.2,?_⟩;exact(mW (N:=8) (D:=3) (pH (N:=3) (D:=2) Ll z.2.1 rfl) (jH (N:=4) (D:=1) Ll z.2.1 rfl) rfl).eq (MJ e z.1 ((bo ..).symm.trans (congrArg tA (cO hT2))) kT)
 ·rw[if_pos rfl,if_pos rfl];refine(BB hk (N8 k w w▸a8 k (w+w)) hT2).elim λσ z=>⟨z.2.2,?_⟩;have L:=(jH (N:=8) (D:=2) Ll (pH (N:=2) (D:=2) sK z.2.1 rfl) rfl).eq (MK e z.1 kT);exact⟨L.f,L.e,L.b.mono (by decide +kernel)⟩
theorem Col.hsv (C:Col x y z k w)(hk:1<=k):∃ S σ,fHsv (qf (x+w)) (qf (y+w)) (qf (z+w))=(hqf (hqq k) k x y z,S,qf (k+w))/\feq S 0=PH/\Lb S σ 1 1/\σ*(k+w)=k:=
 (BB hk (a8 k w) (ar C.kw (by decide))).elim λσ s=>⟨_,σ,by
  unfold fHsv; rw[C.hue,C.max,C.min,C.rng,pV (ar C.w1 (by decide)) (C.le (aI k)),if_neg (λh=>aY (Nat.lt_add_of_pos_left hk) (of_decide_eq_true h))],s.2.2,s.2.1,by have:=s.1; rwa [bo] at this⟩
end
section
variable {t u z m1 m2 f S V c:UInt64}{k w R n B N p:Nat}{ρ σ:Rat}
theorem Ab.int {i:Int}{j:Nat}(h:i.natAbs<=j):Ab (i:Rat) j:=
 have g:∀ {i:Int},i.natAbs<=j->(i:Rat)<=j:=λh=>iJ j▸Rat.intCast_le_intCast.mpr (dj Int.le_natAbs (dJ.mpr h))
 ⟨by have:=g (i:=-i) (by rw[Int.natAbs_neg]; exact h); rw[iH] at this; have:=gJ this; rwa [Rat.neg_neg] at this,g h⟩
theorem Gf {r p R K v:Rat}(hq:q*p=R)(hv:r*K=v):(r - q)*p*K=v*p - R*K:=by grind
theorem Aa (h:nr t p R=PG)(hp:1<=p)(hR:R<=p):∃ ρ:Rat,ρ*p=R/\Lb t ρ 1024 1:=by
 unfold nr at h;rw[aq] at h;have pp:(0:Rat)<p:=fm.mpr hp;have e:(R:Rat) / p*p=R:=jb (iN pp);have hA:Ab ((R:Rat) / p) 1:=.div pp (by rw[e,il]; exact(Ab.self gi).mono (bj.mpr hR));refine⟨_,e,vZ h.1,.div pp ((?_:Ab _ ((1024:Nat)*dl)).mono ?_),hA⟩
 ·refine .div ku ?_
  have h3:((1024:Nat):Rat)*dl*KK=((2 ^ 1044:Nat):Rat):=by
   unfold KK; rw[show(1074:Nat)=30+1044 from rfl,io,bx,<- jP,show((1024:Nat):Rat)*dl*((2 ^ 30:Nat):Rat)=1 from by unfold dl; decide +kernel,il]
  rw[h3,Gf e (l8 t),show(R:Rat)*KK=((R*2 ^ 1074:Nat):Rat) from(bx ..).symm,<- iJ p,<- rr,<- iJ (R*2 ^ 1074),<- Rat.intCast_sub];exact .int (ci h.2)
 ·have:=Rat.mul_le_mul_of_nonneg_left (bj.mpr hp) (i9 (gi (a:=1024)) (iO KW));rwa [show((1:Nat):Rat)=1 from rfl,Rat.mul_one] at this
theorem Np (h1:Lb m1 ((w:Rat) / 1024) 13 5)(h2:Lb m2 (((w:Rat)+k) / 1024) 8 3)(hk:1<=k)(hR:R<=k)(h:nr t (6*k) R=PG):Lb (add m1 (mul (mul (sub m2 m1) t) 4618441417868443648)) (((w:Rat)+R) / 1024) 50000 60:=
 (Aa h (by lia) (by lia)).elim λρ z=>(pH (N:=50000) (D:=60) h1 (jH (N:=49298) (D:=48) (jH (N:=8216) (D:=8) (mW (N:=22) (D:=8) h2 h1 rfl) z.2 rfl) FL rfl) rfl).eq (by
  have:=z.1; rw[bx] at this; have e6:((6:Nat):Rat)=6:=rfl; grind)
theorem Lb.up (h:Lb t ρ n B)(hn:fW n N=PG)(hB:fW B 60=PG):Lb t ρ N 60:=⟨h.f,h.e.mono (lA (ci hn)),h.b.mono (bj.mpr (ci hB))⟩
theorem Be (h1:Lb m1 ((w:Rat) / 1024) 13 5)(h2:Lb m2 (((w:Rat)+k) / 1024) 8 3)(hk:1<=k)(hR:R<=k)(h:J4 z k R=PG):Lb (fV m1 m2 z) (((w:Rat)+R) / 1024) 50000 60:=by
 unfold J4 at h;rw[pR,pR,Pt] at h;unfold NI at h;rw[Pb] at h;unfold fV;revert h;cases (cmp (bD z 4607182418800017408).2 4595172819793696085 == PD c7)
 ·rw[if_neg (by decide)];cases (cmp (bD z 4607182418800017408).2 4602678819172646912 == PD c7)
  ·rw[if_neg (by decide)];cases (cmp (bD z 4607182418800017408).2 4604180019048437077 == PD c7)
   ·intro h; rw[if_neg (by decide)]; exact(k6 h)▸(h1.up rfl rfl).eq (by have e0:((0:Nat):Rat)=0:=rfl; grind)
   ·intro h; rw[if_pos rfl]; exact Np h1 h2 hk hR h
  ·intro h; rw[if_pos rfl]; exact(k6 h)▸h2.up rfl rfl
 ·intro h; rw[if_pos rfl]; exact Np h1 h2 hk hR h
theorem hv (hV:Lb V (((w:Rat)+k) / 1024) 0 1)(hS:Lb S σ 1 1)(hσ:σ*(k+w)=k)(h:Lb f ρ 1025 2)(e:ρ*k=R):Lb (mul V (sub 4607182418800017408 (mul S f))) (((w:Rat)+(k - R)) / 1024) 50000 60:=
 ((jH (N:=50000) (D:=3) hV (mW (N:=1030) (D:=3) sK (jH (N:=1029) (D:=2) hS h rfl) rfl) rfl).up rfl rfl).eq (by grind)
theorem hp (hV:Lb V (((w:Rat)+k) / 1024) 0 1)(hS:Lb S σ 1 1)(hσ:σ*(k+w)=k):Lb (mul V (sub 4607182418800017408 S)) (((w:Rat)+(0:Nat)) / 1024) 50000 60:=
 ((jH (N:=50000) (D:=2) hV (mW (N:=2) (D:=2) sK hS rfl) rfl).up rfl rfl).eq (by have e0:((0:Nat):Rat)=0:=rfl; grind)
theorem hq (hV:Lb V (((w:Rat)+k) / 1024) 0 1)(hS:Lb S σ 1 1)(hσ:σ*(k+w)=k)(hk:1<=k)(hR:R<=k)(h:nr f k (k - R)=PG):Lb (mul V (sub 4607182418800017408 (mul S f))) (((w:Rat)+R) / 1024) 50000 60:=
 (Aa h hk (gZ ..)).elim λρ z=>(hv hV hS hσ ⟨z.2.f,z.2.e.mono (lA (by decide)),z.2.b.mono (by decide +kernel)⟩ z.1).eq (by have:=congrArg (tA:Nat->Rat) (cO hR); rw[bo] at this; grind)
theorem ht (hV:Lb V (((w:Rat)+k) / 1024) 0 1)(hS:Lb S σ 1 1)(hσ:σ*(k+w)=k)(hk:1<=k)(hR:R<=k)(h:nr f k R=PG):Lb (mul V (sub 4607182418800017408 (mul S (sub 4607182418800017408 f)))) (((w:Rat)+R) / 1024) 50000 60:=
 (Aa h hk hR).elim λρ z=>have L:=mW (N:=1025) (D:=2) sK z.2 rfl
  (hv (R:=k - R) hV hS hσ L (by have:=z.1; have:=congrArg (tA:Nat->Rat) (cO hR); rw[bo] at this; grind)).eq (by have:=congrArg (tA:Nat->Rat) (cO hR); rw[bo] at this; grind)
def L3 (t:UInt64×UInt64×UInt64)(w X Y Z:Nat):Prop:=Lb t.1 (((w:Rat)+X) / 1024) 50000 60/\Lb t.2.1 (((w:Rat)+Y) / 1024) 50000 60/\Lb t.2.2 (((w:Rat)+Z) / 1024) 50000 60
theorem Dy {a:UInt64}(hV:Lb V (((w:Rat)+k) / 1024) 0 1)(hS:Lb S σ 1 1)(hσ:σ*(k+w)=k)(hk:1<=k)(hX:X<=k)(hY:Y<=k)(hZ:Z<=k)(h0:feq S 0=PH)(h:Mz ((sixC a).fmod 6) (sub (mul a 4618441417868443648) (ofInt (sixC a))) k X Y Z=PG):L3 (fHsv2 a S V) w X Y Z:=by
 have vk:=hV.up (N:=50000) rfl rfl;have q0:=hp hV hS hσ;have bt:∀ {b:Bool} {m n:Nat},(dS m n&&b)=PG->m=n/\b=PG:=λh=>(aq _ _▸h).imp k6 id;have bs:∀ {b:Bool} {m n p q:Nat},(dS m n&&dS p q&&b)=PG->m=n/\p=q/\b=PG:=λh=>have h:=bt (Pc ..▸h); ⟨h.1,bt h.2⟩;unfold Mz at h;unfold fHsv2;rw[if_neg (by rw[h0]; decide)];show L3 (if(sixC a).fmod 6=0 then _ else if(sixC a).fmod 6=1 then _ else if(sixC a).fmod 6=2 then _ else if(sixC a).fmod 6=3 then _ else if(sixC a).fmod 6=4 then _ else _) w X Y Z;generalize (sixC a).fmod 6=i at*
 by_cases c:i=0
 ·rw[if_pos c] at h ⊢; have h:=bs h; exact⟨h.1▸vk,ht hV hS hσ hk hY h.2.2,h.2.1▸q0⟩
 rw[if_neg c] at h⊢
 by_cases c:i=1
 ·rw[if_pos c] at h ⊢; have h:=bs h; exact⟨hq hV hS hσ hk hX h.2.2,h.1▸vk,h.2.1▸q0⟩
 rw[if_neg c] at h⊢
 by_cases c:i=2
 ·rw[if_pos c] at h ⊢; have h:=bs h; exact⟨h.1▸q0,h.2.1▸vk,ht hV hS hσ hk hZ h.2.2⟩
 rw[if_neg c] at h⊢
 by_cases c:i=3
 ·rw[if_pos c] at h ⊢; have h:=bs h; exact⟨h.1▸q0,hq hV hS hσ hk hY h.2.2,h.2.1▸vk⟩
 rw[if_neg c] at h⊢
 by_cases c:i=4
 ·rw[if_pos c] at h ⊢; have h:=bs h; exact⟨ht hV hS hσ hk hX h.2.2,h.1▸q0,h.2.1▸vk⟩
 rw[if_neg c] at h⊢;have h:=bs h; exact⟨h.1▸vk,h.2.1▸q0,hq hV hS hσ hk hZ h.2.2⟩
theorem AQ (hf:kX t)(h0:(2*n:Nat)*KK<=rv t*KK)(h1:rv t*KK<(2*n+2:Nat)*KK)(hp:0<rv t*KK):(ce truncOf t).fdiv 2=n:=by
 refine hf.elim λa z=>z.elim λm z=>z.elim λe z=>?_;rw[l8,val_eq z] at h0 h1 hp;cases a with
 | true=>exact absurd (Rat.intCast_pos.mp hp) (dQ.mpr (Int.neg_nonpos_of_nonneg (dR _)))
 | false=>
  unfold KK at h0 h1;rw[<- bx] at h0 h1;have h0:2*n*2 ^ 1074<=m*2 ^ (e+1074).toNat:=bj.mp h0;have h1:m*2 ^ (e+1074).toNat<(2*n+2)*2 ^ 1074:=Rat.natCast_lt_natCast.mp h1;have he:=decode_ge z;rw[Flt.toInt_fin z];suffices H:∃ j:Nat,truncOf PH m e=j/\2*n<=j/\j<2*n+2 from H.elim λj q=>by rw[q.1,show(2:Int)=((2:Nat):Int) from rfl,<- Int.ofNat_fdiv,Nat.div_eq_of_lt_le (gK 2 n▸q.2.1) (by rw[Nat.succ_mul,gK]; exact q.2.2)]
  by_cases c:e≥0
  ·rw[Int.toNat_add c (by decide),io,<- uV] at h0 h1;exact⟨m*2 ^ e.toNat,by unfold truncOf floorOf sgn; rw[if_neg (by decide),if_pos c,fv,N9]; rfl,Nat.le_of_mul_le_mul_right h0 (cy _),Nat.lt_of_mul_lt_mul_right h1⟩
  ·have ne:0<=-e:=Int.neg_nonneg_of_nonpos (c9 (nq.mp c));have pe:0<=e+1074:=by have:=lN he 1074; rwa [show(-1074:Int)+1074=0 from rfl] at this
   have E:(1074:Nat)=(-e).toNat+(e+1074).toNat:=by rw[<- Int.toNat_add ne pe,Int.neg_add_cancel_left]; rfl
   rw[E,io,<- uV] at h0 h1;have P:=cy (-e).toNat;exact⟨m / 2 ^ (-e).toNat,by unfold truncOf floorOf sgn; rw[if_neg (by decide),if_neg c,Int.ofNat_fdiv,N9]; rfl,(Nat.le_div_iff_mul_le P).mpr (Nat.le_of_mul_le_mul_right h0 (cy _)),(Nat.div_lt_iff_lt_mul P).mpr (Nat.lt_of_mul_lt_mul_right h1)⟩
theorem Dg {v t:Rat}(h:Ab (v - (t+1)) (1 / 4))(h0:0<=t):t<=v/\v<t+2/\0<v:=by have:=h.1; have:=h.2; exact⟨by grind,by grind,by grind⟩
theorem Df (h:Lb c ((n:Rat) / 1024) 50000 60)(hn:n<=1000):isFinite (lE c)=PG/\gQ c=n:=by
 have h2:Lb (ofInt 2048) 2048 0 2048:=(show qf 2097152=ofInt 2048 by decide +kernel)▸(uk (n:=2097152) rfl (by decide)).eq (by decide +kernel);have h1:Lb (ofInt 1) 1 0 1:=(show qf 1024=ofInt 1 by decide +kernel)▸(uk (n:=1024) rfl (by decide)).eq (by decide +kernel);have b:=(uk (n:=n) (B:=1) (k8 (ar hn (by decide))) (jT (ar hn (by decide)))).b;have L:=(pH (N:=102400003) (D:=2049) (jH (N:=102400002) (D:=2048) h2 ⟨h.f,h.e,b⟩ rfl) h1 rfl).eq (s:=((2*n:Nat):Rat)+1) (by rw[bx]; have e2:((2:Nat):Rat)=2:=rfl; grind);have o:=Dg (L.e.mono (by unfold dl; decide +kernel)) gi;exact⟨v4 L.f,AQ L.f (gX o.1 (iO ku)) ((Rat.mul_lt_mul_right ku).mpr (by rw[bo]; exact o.2.1)) (Rat.mul_pos o.2.2 ku)⟩
theorem wL {t:UInt64×UInt64×UInt64}(h:L3 t w X Y Z)(w1:w<=700)(a1:X<=30)(b1:Y<=30)(c1:Z<=30)(m:X=0\/Y=0\/Z=0):ToldOk t X Y Z:=by
 have o:∀ {c:UInt64} {X:Nat},Lb c (((w:Rat)+X) / 1024) 50000 60->X<=30->isFinite (lE c)=PG/\gQ c=(w+X:Nat):=λh b=>Df (h.eq (by rw[bo])) (ar (du w1 b) (by decide));have h1:=o h.1 a1; have h2:=o h.2.1 b1; have h3:=o h.2.2 c1;have le:∀ X:Nat,((w:Nat):Int)<=((w+X:Nat):Int):=λX=>dJ.mpr (a8 w X)
 have e:min ((w+X:Nat):Int) (min ((w+Y:Nat):Int) ((w+Z:Nat):Int))=(w:Nat):=Op
  (m.elim (λm=>m▸kR ..) λm=>m.elim (λm=>dj (fY ..) (m▸kR ..)) λm=>dj (fY ..) (m▸fY ..)) (nt.mpr ⟨le X,nt.mpr ⟨le Y,le Z⟩⟩)
 have s:∀ X:Nat,((w+X:Nat):Int) - (w:Nat)=X:=λX=>by rw[Oa,N1,NX]
 exact⟨h1.1,h2.1,h3.1,by rw[h1.2,h2.2,h3.2,e,s],by rw[h1.2,h2.2,h3.2,e,s],by rw[h1.2,h2.2,h3.2,e,s]⟩
end
def B7 (x y z k sx X Y Z:Int):Prop:=(sx=1/\X=k - y/\Y=k - z/\Z=k - x)\/(sx=4/\X=y/\Y=z/\Z=x)
def InOk (h:UInt64):Prop:=isFinite (uA h)=PG/\(ce truncOf (uA h)).fdiv 6=1
def Ky (a:UInt64):Prop:=isFinite (mul a 4618441417868443648)=PG/\(sixC a).natAbs<=12
section
variable {x y z k w X Y Z:Nat}{sx:Int}
theorem wJ (C:Col x y z k w){h l S S' V:UInt64}(e1:fHls (qf (x+w)) (qf (y+w)) (qf (z+w))=(h,l,S))(e2:fHsv (qf (x+w)) (qf (y+w)) (qf (z+w))=(h,S',V))(hi:InOk h)(hs:isInf (fQuo sx 6)=PH)(ha:Ky (add h (fQuo sx 6)))
  (o1:L3 (fHls2 (add h (fQuo sx 6)) l S) w X Y Z) (o2:L3 (fHsv2 (add h (fQuo sx 6)) S' V) w X Y Z) (a1:X<=30) (b1:Y<=30) (c1:Z<=30) (m:X=0\/Y=0\/Z=0):TurnOk x y z sx w X Y Z:=by
 have K:k=0->feq (qf w) (qf (k+w))=PG:=λe=>by rw[pV (ar C.w1 (by decide)) (C.le (aI k)),e,cA]; exact decide_eq_true rfl
 have kw:k+w+w<=4096:=ar (du C.kw C.w1) (by decide);have f:=λ{n:Nat} (h:n<=k)=>DO (uz (jT (C.le h)));unfold TurnOk;rw[Hj,Hj,Hj,C.max,C.min,e1,e2]
 exact⟨f C.x1,f C.y1,f C.z1,λq=>K (mw (ar C.k0 (by decide)) (C.rng▸q)),λq=>K (mG.mp (mG.mp (mw kw (C.sum▸q))).1).1,
  λq=>absurd (ar (Nat.sub_eq_zero_iff_le.mp (mw (a:=2048 - (k+w+w)) (ar (gZ ..) (by decide:2048<=4096)) (C.dif▸q))) (du C.kw C.w1)) (by decide:¬ 2048<=1000+700),λq=>K (mG.mp (mw (C.le (aI k)) q)).1,
  hi.1,hi.2,hi.1,hi.2,hs,ha.1,λq=>absurd (ar q ha.2) (by decide +kernel),wL o1 C.w1 a1 b1 c1 m,wL o2 C.w1 a1 b1 c1 m⟩
theorem zo (C:Col x y z k w)(hk:1<=k)(hi:InOk (hqf (hqq k) k x y z))(hs:isInf (fQuo sx 6)=PH)(h:KZ (add (hqf (hqq k) k x y z) (fQuo sx 6)) k X Y Z=PG)(hX:X<=k)(hY:Y<=k)(hZ:Z<=k)(m:X=0\/Y=0\/Z=0):TurnOk x y z sx w X Y Z:=by
 unfold KZ at h;rw[pR,pR,pR,Pq,O9,Pb,Pb] at h;simp only[aq] at h
 refine(C.full hk).elim λS f=>f.elim λl f=>(C.hsv hk).elim λS' g=>g.elim λσ g=>wJ C f.1 g.1 hi hs ⟨h.1.1.1.1.1,ci h.1.1.1.1.2⟩ ?_
  (Dy (((uk (n:=k+w) (B:=1) (k8 (ar C.kw (by decide))) (jT (C.le (aI k)))).eq (by rw[bo,wx]))) g.2.2.1 g.2.2.2 hk hX hY hZ g.2.1 h.2) (ar hX C.k0) (ar hY C.k0) (ar hZ C.k0) m
 unfold fHls2;rw[if_neg (by rw[f.2.1]; decide)];exact⟨Be f.2.2.2 f.2.2.1 hk hX h.1.1.1.2,Be f.2.2.2 f.2.2.1 hk hY h.1.1.2,Be f.2.2.2 f.2.2.1 hk hZ h.1.2⟩
theorem zp (C:Col 0 0 0 0 w)(hs:isInf (fQuo sx 6)=PH)(ha:Ky (add 0 (fQuo sx 6))):TurnOk (0:Nat) (0:Nat) (0:Nat) sx w (0:Nat) (0:Nat) (0:Nat):=by
 have w4:w<=4096:=ar C.w1 (by decide);have e:feq (qf w) (qf (0+w))=PG:=by rw[pV w4 (by rw[cA]; exact w4),cA]; exact decide_eq_true rfl
 have Ll:=vN (a:=0+w+w) (b:=2048) (q:=((w:Rat)+(0:Nat)) / 1024) (by decide) (by decide) (by have:=C.w1; lia) (by rw[bo,bo]; have e0:((0:Nat):Rat)=0:=rfl; have e1:((2048:Nat):Rat)=2048:=rfl; grind);have LV:Lb (qf (0+w)) (((w:Rat)+(0:Nat)) / 1024) 0 1:=(uk (k8 (by have:=C.w1; lia)) (jT (by rw[cA]; exact w4))).eq (by rw[bo,wx]);have up:=LV.up (N:=50000) rfl rfl;have ul:=Ll.up (N:=50000) rfl rfl;have f0:feq 0 0=PG:=by rw[q0,pV (by decide) (by decide)]; rfl
 exact wJ C (h:=0) (by unfold fHls; rw[C.max,C.min,C.light,if_pos e]) (by unfold fHsv; rw[C.max,C.min,if_pos e]) ⟨by decide +kernel,by decide +kernel⟩ hs ha (by unfold fHls2; rw[if_pos f0]; exact⟨ul,ul,ul⟩) (by unfold fHsv2; rw[if_pos f0]; exact⟨up,up,up⟩) (by decide) (by decide) (by decide) (.inl rfl)
end
theorem allN_at {f:Nat->Bool}:∀ {n:Nat},Er f n=PG->∀ i,i<n->f i=PG
 | n+1,h,i,hi=>have h:=(aq _ _).mp h; (Nat.lt_or_eq_of_le (Nat.le_of_lt_succ hi)).elim (allN_at h.2 i) λe=>e▸h.1
theorem HF:∀ k∈[1,2,3,4,5,6,7,8,9,10,11,12,13,14,15,16,17,18,19,20,21,22,23,24,25,26,27,28,29,30],Er (MA k) (k+1)=PG:=by
 repeat (first | exact List.forall_mem_nil _ | refine am.mpr ⟨by decide +kernel,?_⟩)
theorem Ms {p:Nat}(h:1<=k)(h2:k<=30)(hp:p<=k):MA k p=PG:=
 allN_at (HF k ((by decide +kernel:∀ k,k<31->1<=k->k∈[1,2,3,4,5,6,7,8,9,10,11,12,13,14,15,16,17,18,19,20,21,22,23,24,25,26,27,28,29,30]) k (Nat.lt_succ_of_le h2) h)) p (Nat.lt_succ_of_le hp)
theorem Col.ck {x y z w:Nat}(C:Col x y z k w)(h:1<=k):HG k x y z=PG:=by
 have P:∀ p,p<=k->_:=λp hp=>by have:=Ms h C.k0 hp; unfold MA at this; simpa only[aq,and_assoc] using this
 have N:∀ {n:Nat},n=k->n=0->False:=λa b=>by lia
 have hx:=C.x1; have hy:=C.y1; have hz:=C.z1;rcases C.mx with rfl | rfl | rfl<;>rcases C.mn with e | e | e
 ·exact(N rfl e).elim
 ·rw[e]; exact(P z hz).2.1
 ·rw[e]; exact(P y hy).1
 ·rw[e]; exact(P z hz).2.2.2.1
 ·exact(N rfl e).elim
 ·rw[e]; exact(P x hx).2.2.1
 ·rw[e]; exact(P y hy).2.2.2.2.2
 ·rw[e]; exact(P x hx).2.2.2.2.1
 ·exact(N rfl e).elim
theorem zn {x y z w:Nat}(C:Col x y z k w)(D:k<=10\/(x+y+z) % 3=0)(T:(sx=1/\X=k - y/\Y=k - z/\Z=k - x)\/(sx=4/\X=y/\Y=z/\Z=x)):TurnOk x y z sx w X Y Z:=by
 have s1:fQuo 1 6=4595172819793696085:=by decide +kernel
 have s4:fQuo 4 6=4604180019048437077:=by decide +kernel
 have i6:ofInt 6=4618441417868443648:=by decide +kernel
 rcases Nat.eq_zero_or_pos k with h | h
 ·have ex:=y6.mp (h▸C.x1);have ey:=y6.mp (h▸C.y1);have ez:=y6.mp (h▸C.z1);subst h; subst ex; subst ey; subst ez;rcases T with ⟨rfl,rfl,rfl,rfl⟩ | ⟨rfl,rfl,rfl,rfl⟩
  ·exact zp C (by decide +kernel) (by rw[s1]; exact⟨by decide +kernel,by decide +kernel⟩)
  ·exact zp C (by decide +kernel) (by rw[s4]; exact⟨by decide +kernel,by decide +kernel⟩)
 ·have c:=((fh _ _).mp (C.ck h)).resolve_left λq=>(D.elim (λd=>nomatch (decide_eq_false (cP.mpr d):decide (10<k)=PH).symm.trans (decide_eq_true (ci (aq _ _▸q).1))) λd=>nomatch (show dS (Nat.mod (x+y+z) 3) 0=PG from congrArg (dS · 0) d)▸(aq _ _▸q).2);rw[pR,pR,Pq,O9,O9,O9] at c;simp only[aq,decide_eq_true_eq] at c;have I:InOk (hqf (hqq k) k x y z):=by unfold InOk uA; rw[i6]; exact⟨c.1.1.1,c.1.1.2⟩
  rcases T with ⟨rfl,rfl,rfl,rfl⟩ | ⟨rfl,rfl,rfl,rfl⟩
  ·exact zo C h I (by decide +kernel) (by rw[s1]; exact c.1.2) (gZ ..) (gZ ..) (gZ ..) (C.mx.elim (λe=>.inr (.inr (e▸b9 _))) λe=>e.elim (λe=>.inl (e▸b9 _)) λe=>.inr (.inl (e▸b9 _)))
  ·exact zo C h I (by decide +kernel) (by rw[s4]; exact c.2) C.y1 C.z1 C.x1 (C.mn.elim (λe=>.inr (.inr e)) λe=>e.elim .inl λe=>.inr (.inl e))
theorem Ct {x y z k w X Y Z:Int}(x0:0<=x)(y0:0<=y)(z0:0<=z)(x1:x<=k)(y1:y<=k)(z1:z<=k)(w0:0<=w)(w1:w<=700)(k0:k<=30)(D:k<=10\/(x+y+z) % 3=0)(mx:x=k\/y=k\/z=k)(mn:x=0\/y=0\/z=0)(T:B7 x y z k sx X Y Z):TurnOk x y z sx w X Y Z:=by
 have n:∀ {i:Int},0<=i->∃ n:Nat,i=n:=jY;refine(n x0).elim λx' ex=>(n y0).elim λy' ey=>(n z0).elim λz' ez=>(n w0).elim λw' ew=>(n (dj x0 x1)).elim λk' ek=>?_;subst ex; subst ey; subst ez; subst ew; subst ek;have C:Col x' y' z' k' w':=⟨dJ.mp x1,dJ.mp y1,dJ.mp z1,dJ.mp w1,dJ.mp k0,mx.imp eK λh=>h.imp eK eK,mn.imp eK λh=>h.imp eK eK⟩;have D':=D.imp dJ.mp (eK:((x'+y'+z') % 3:Nat)=((0:Nat):Int)->_);rcases T with ⟨e,rfl,rfl,rfl⟩ | ⟨e,rfl,rfl,rfl⟩
 ·rw[<- mJ C.x1,<- mJ C.y1,<- mJ C.z1]; exact zn C D' (.inl ⟨e,rfl,rfl,rfl⟩)
 ·exact zn C D' (.inr ⟨e,rfl,rfl,rfl⟩)
end Mine
end
section
open PySem PySem.W PySem.Calls PySem.Spec PyProof.Rows Mine
namespace Nw
variable {c:Cx}{i:Nat}{p:Num}{wh f lt:Int}{row:Str}{w:aB}{fg:List Int}{wd:Option Str}
def tbP (w:aB):Tab:=⟨[ln,l5,wS w],[zC,oY],[Az,Ay],[j6,zq,KV,wf,xz]⟩
abbrev Ev (w:aB):Prop:=∀ (fs:Fs) (c:Cx),c.w=w->8<=c.k->c.tb=PG->c.Ok fs->b8 fs c KV
theorem wkP (HD:Ev w){fs:Fs}(hw:c.w=w)(hk:8<=c.k)(ht:c.tb=PG)(O:c.Ok fs):Wk.Okc ⟨fs,tbP w,extC [mC,fy,lU]⟩ c:=
 have G:CtOk fs c (tbP w):=⟨aW (jj (ar (by decide) hk) O) (aW (tM (ar (by decide) hk) O) (aW (HD fs c hw hk ht O) (aW r4 (aW mo cE)))),am.mpr ⟨PI,am.mpr ⟨PI,am.mpr ⟨hw,dz⟩⟩⟩⟩
 ⟨O,G,λU U=>eY O G⟩
abbrev wkPl (w:aB):Wk:=wkAt w 308 1 (tbP w) (extC [mC,fy,lU])
theorem HZ {fd:iQ}{q r s t v:Str×PV}(h:∀ u1 u2 u3 u4 u5,bindArgs (pS fd) ⟨[u1,u2,u3,u4,u5],[]⟩=pure [(q.1,u1),(r.1,u2),(s.1,u3),(t.1,u4),(v.1,u5)]):jL fd [q,r,s,t,v]:=λvs e0=>by
 refine bU λG1 hG1=>?_;obtain⟨u,l0,d0,e1⟩:=vc (show vs.length=4+1 from e0);obtain⟨v,l1,d1,e2⟩:=vc (show l0.length=3+1 from e1);obtain⟨x,l2,d2,e3⟩:=vc (show l1.length=2+1 from e2);obtain⟨y,l3,d3,e4⟩:=vc (show l2.length=1+1 from e3);obtain⟨z,l4,d4,e5⟩:=vc (show l3.length=0+1 from e4);have dn:=bE.mp e5;refine hG1 ?_;rw[d0,d1,d2,d3,d4,dn]; exact h u v x y z
noncomputable abbrev LY:SO:=.T [.s (aa ""),.s (aa "\\)"),.s (aa "\")\""),.s (aa "\\\"")]
theorem L8 (gs:List Nat)(o:Option Int):gcX gs (.C (o.map .i))=PD (.C (o.map .i)):=by cases o<;>rfl
abbrev Lm (w:aB)(wd lt:Option Str)(lo:Option Int)(N:Int)(fg:List PV)(O:List SO):List SO:=[.G (.P (cu w)),.C (wd.map .s),.C (lt.map .s),.C (lo.map .i),.C (PD (.r 0)),.C (PD (.i N)),LY,.L fg]++O
abbrev yt (w:aB)(wd lt:Option Str)(lo:Option Int)(N:Int)(fg:List Int)(O:List SO):List SO:=Lm w wd lt lo N (fg.map .i) O
abbrev yr (c wh sh:Int)(V:Vm):Vm:=[nm "third" (.i c),nm "white" (.i wh),nm "shift" (.i sh),nm "hidden" (.r 6),nm "figures" (.r 7)]++V
theorem rg8:Al [0<=(8:Int),(8:Int)<2 ^ 62]:=⟨by decide,by decide,PI⟩
theorem Gp {c:Int}(a:0<=c)(b:c<=2):Al [fitsSsize c=PG,(bR (aa "rgb") c).isSome=PG]:=
 lt_cases (P:=λc=>Al [fitsSsize c=PG,(bR (aa "rgb") c).isSome=PG]) a b ⟨by decide +kernel,by decide +kernel,PI⟩ ⟨by decide +kernel,by decide +kernel,PI⟩ ⟨by decide +kernel,by decide +kernel,PI⟩
theorem ij {p:Prop}[Decidable p]{b:Bool}(h:b=decide p)(x y:Int):(if b=PG then x else y)=if p then x else y:=by
 subst h
 by_cases hp:p
 ·rw[if_pos hp,if_pos (decide_eq_true hp)]
 ·rw[if_neg hp,if_neg (λq=>hp (of_decide_eq_true q))]
theorem Bu {l:List Int}{x:It}(e:(nH 0 (l.map PV.i))[i]?=PD x):∃ f,x=.tup [.i (i:Nat),.i f]/\l[i]?=PD f:=by
 cases h:l[i]? with
 | some f=>
  rw[uF (p:=.i f) (by rw[aG,h]; rfl),cA] at e;cases e; exact⟨f,rfl,rfl⟩
 | none=>
  have:=lt_of_get e;rw[kL,aA] at this;rw[aF this] at h; cases h
abbrev Cq (w:aB)(x s1 s2 s3:Str):List Prop:=[cu w=cu w,my x,cu w=cu w,my s1,cu w=cu w,my s2,cu w=cu w,my s3,[PV.s (ruleT s1),.s (ruleT s2),.s (ruleT s3)]=[ruleT s1,ruleT s2,ruleT s3].map .s,([ruleT s1,ruleT s2,ruleT s3].map (·.length)).sum+[ruleT s1,ruleT s2,ruleT s3].length*(aa "").length<=16777216]
theorem l9 (x:Str):(ruleT x).length=3:=by unfold ruleT; split; decide; split<;>decide
theorem zi {x s1 s2 s3:Str}(h:my x)(h1:my s1)(h2:my s2)(h3:my s3):Al (Cq w x s1 s2 s3):=⟨rfl,h,rfl,h1,rfl,h2,rfl,h3,rfl,by
 refine(?_:((ruleT s1).length+((ruleT s2).length+((ruleT s3).length+0)))+3*0<=_);rw[l9,l9,l9]; decide,PI⟩
theorem sR {c:Int}(a:0<=c)(b:c<=2):my (ltr c):=lt_cases (P:=λc=>my (ltr c)) a b (.inl rfl) (.inr (.inl rfl)) (.inr (.inr rfl))
theorem xt (h:nOk p=PG):(0<=p.x/\0<=p.y/\0<=p.z)/\p.mx<=30/\(p.x=0\/p.y=0\/p.z=0)/\(0<=p.lt/\p.lt<=2)/\(p.mx<=10\/(p.x+p.y+p.z) % 3=0):=by
 unfold nOk at h;simp only[aq,fh,decide_eq_true_eq] at h;exact⟨⟨h.1.1.1.1.1.1.1,h.1.1.1.1.1.1.2,h.1.1.1.1.1.2⟩,h.1.1.1.1.2,or_assoc.mp h.1.1.2,⟨h.1.2,h.2⟩,h.1.1.1.2⟩
theorem Jg (p:Num):p.x=p.mx\/p.y=p.mx\/p.z=p.mx:=
 (Ol (max p.y p.z) p.x).elim (λh=>.inl (Ob h).symm) λh=>.inr ((Ol p.z p.y).elim (λq=>.inl ((Ob q).symm.trans (ia h).symm)) λq=>.inr ((ia q).symm.trans (ia h).symm))
theorem zm {sx X Y Z:Int}(h:nOk p=PG)(w0:0<=wh)(w1:wh<=700)(T:B7 p.x p.y p.z p.mx sx X Y Z):TurnOk p.x p.y p.z sx wh X Y Z:=
 have q:=xt h
 Ct q.1.1 q.1.2.1 q.1.2.2 (Int.le_max_left ..) (dj (Int.le_max_left ..) (qN ..)) (dj (qN ..) (qN ..)) w0 w1 q.2.1 q.2.2.2.2 (Jg p) q.2.2.1 T
abbrev plV1 (wh sh:Int)(r:PV)(rw:Str)(V:Vm):Vm:=[nm "white" (.i wh),nm "shift" (.i sh),nm "hidden" (.r 6),nm "figures" (.r 7),nm "parts" r,nm "row" (.s rw)]++V
abbrev mf (w:aB)(wd:Option Str)(lt:Str)(f N:Int)(fg:List Int)(o:Obj)(p:SO)(O:List SO):List SO:=yt w wd (PD lt) (PD f) N fg ([p,.Z o (.L (fg.map .i).reverse)]++O)
abbrev sN (p:Num):SO:=sL3 p.x p.y p.z
abbrev KI (w:aB):List aS:=yz ((bn w 308).drop 6)
theorem C6 {sh N:Int}{o:Obj}{p:SO}(h0:0<=lt)(h2:lt<=2):∃ C l,qX (wkPl w) c.w 1 (plV1 wh sh (.r 8) row [nm "turn" (.i (i:Nat))]) (mf w wd (ltr lt) f N fg o p []) (KI w)=PD (plV1 wh sh (.r 8) row [nm "turn" (.i (i:Nat))],mf w (PD (bT lt)) (ltr lt) f N fg o p [.L l],C)/\Al C:=
 lt_cases (P:=λlt=>∃ C l,qX (wkPl w) c.w 1 (plV1 wh sh (.r 8) row [nm "turn" (.i (i:Nat))]) (mf w wd (ltr lt) f N fg o p []) (KI w)=PD (plV1 wh sh (.r 8) row [nm "turn" (.i (i:Nat))],mf w (PD (bT lt)) (ltr lt) f N fg o p [.L l],C)/\Al C) h0 h2
    ⟨Cq w (ltr 0) cr cg cr,[.s (ruleT cr),.s (ruleT cg),.s (ruleT cr)],by kernel_rfl,zi (sR (by decide) (by decide)) (.inl rfl) (.inr (.inl rfl)) (.inl rfl)⟩
    ⟨Cq w (ltr 1) cg cb cg,[.s (ruleT cg),.s (ruleT cb),.s (ruleT cg)],by kernel_rfl,zi (sR (by decide) (by decide)) (.inr (.inl rfl)) (.inr (.inr rfl)) (.inr (.inl rfl))⟩
    ⟨Cq w (ltr 2) cb cr cb,[.s (ruleT cb),.s (ruleT cr),.s (ruleT cb)],by kernel_rfl,zi (sR (by decide) (by decide)) (.inr (.inr rfl)) (.inl rfl) (.inr (.inr rfl))⟩
noncomputable abbrev Ln (x:Int)(wd:Str):List Prop:=[IntMulOk 3 x,wd.length<=sizeLine]
theorem jA (lt:Int):(bT lt).length<=sizeLine:=by unfold bT; split; decide +kernel; split<;>decide +kernel
theorem IY (x y z:Int)(lt:Int):Al (Ln x (bT lt)++(Ln y (bT lt)++(Ln z (bT lt)++[]))):=⟨Dk _,jA _,Dk _,jA _,Dk _,jA _,PI⟩
abbrev hidG (z:Int):Str:=[aa "",aa "\\)",aa "\")\"",aa "\\\""].getD (ixN z 4) ⟨#[]⟩
theorem E8 (a:Int):a.fmod 4=0\/a.fmod 4=1\/a.fmod 4=2\/a.fmod 4=3:=by
 have h:=bu a (show(0:Int)<4 by decide);have h2:=bJ a (show(0:Int)<4 by decide);exact c4 h h2
theorem xE (a:Int):hidG (a.fmod 4)=nU (a.fmod 4):=by rcases E8 a with e | e | e | e<;>rw[e]<;>rfl
abbrev brG (lt:Int)(j:Nat):Bool:=!(aT (aa "rgbr") (ba (bT lt) (PD (j:Int)) (PD ((j:Int)+2))) 0 (aa "rgbr").length 1).isEmpty
theorem FT {sh:Int}{j:Nat}(a:0<=lt)(b:lt<=2)(d:j<8):dx sh row j++hidG ((sh+(j:Int)).fmod 4)++(if brG lt j then aa "(" else aa ")")=dx sh row (j+1):=by
 have h:=HY a b d;rw[kB] at h;rw[xE];refine(?_:_++_++(if(!(aT _ _ _ _ _).isEmpty)=PG then _ else _)=dx sh row j++nU ((sh+(0+(j:Int))).fmod 4)++Fo (BV j));rw[h,u7,kB]; rfl
theorem FU {sh:Int}{j:Nat}(h:row.length<=400)(d:j<8):Al [(4:Int)≠0,-((4:Nat):Int)<=(sh+(j:Int)).fmod 4,(sh+(j:Int)).fmod 4<((4:Nat):Int),(dx sh row j).length+(hidG ((sh+(j:Int)).fmod 4)).length<=sizeLine,(bT lt).length<=sizeLine,
  (dx sh row j++hidG ((sh+(j:Int)).fmod 4)).length+(if brG lt j then aa "(" else aa ")").length<=sizeLine]:=by
 have h1:=o8 sh row j;have h2:(hidG ((sh+(j:Int)).fmod 4)).length<=3:=by rw[xE]; exact uq _
 have h3:(if brG lt j then aa "(" else aa ")").length=1:=xV _;have h6:=ar h1 (du h (NQ 4 (bN d)));refine⟨by decide,dj (by decide) (bu _ (by decide)),bJ _ (by decide),ar (du h6 h2) (by decide),jA _,?_,PI⟩;rw[ee,h3]; exact ar (cX (du h6 h2) 1) (by decide)
theorem Dv (a:0<=lt)(b:lt<=2)(c:0<=f)(d:f<=8):Al [fitsSsize f=PG,(bR (bT lt) f).isSome=PG]:=by
 have h1:fitsSsize f=PG:=gN (P:=λf=>fitsSsize f=PG) c d (by decide +kernel);refine⟨h1,?_,PI⟩;refine lt_cases (P:=λlt=>(bR (bT lt) f).isSome=PG) a b ?_ ?_ ?_
 ·exact gN (P:=λf=>(bR (bT 0) f).isSome=PG) c d (by decide +kernel)
 ·exact gN (P:=λf=>(bR (bT 1) f).isSome=PG) c d (by decide +kernel)
 ·exact gN (P:=λf=>(bR (bT 2) f).isSome=PG) c d (by decide +kernel)
theorem C7 {sh N:Int}{o:Obj}(hn:c.np=[0,9])(ok:nOk p=PG)(f0:0<=f)(f8:f<=8)(w0:0<=wh)(w1:wh<=700)(hrow:row.length<=400)
  (hN:c.N (plV1 wh sh (.r 8) (dx sh row f.toNat) []) (mf w (PD (bT p.lt)) (ltr (nStep p f).lt) f N fg o (sN (nStep p f)) [])):
  Run (wkPl w) c (plV1 wh sh (.r 8) row [nm "turn" (.i (i:Nat))]) (mf w wd (ltr p.lt) f N fg o (sN p) []) [KI w]:=by
 have okp:=xt ok;obtain⟨C,l,hA,hC⟩:=C6 (w:=w) (c:=c) (wh:=wh) (sh:=sh) (f:=f) (N:=N) (row:=row) (i:=i) (wd:=wd) (fg:=fg) (o:=o) (p:=sN p) okp.2.2.2.1.1 okp.2.2.2.1.2;refine Run.blk 1 _ _ C hA hC ?_;clear hA hC C;have t1:TurnOk p.x p.y p.z 1 wh (p.mx - p.y) (p.mx - p.z) (p.mx - p.x):=zm ok w0 w1 (.inl ⟨rfl,rfl,rfl,rfl⟩)
 have e1:nStep p f=lift3 (3*(p.mx - p.y)+occ (ba (bT p.lt) PF (PD f)) cr) (3*(p.mx - p.z)+occ (ba (bT p.lt) PF (PD f)) cg) (3*(p.mx - p.x)+occ (ba (bT p.lt) PF (PD f)) cb) (pG p.lt f):=by
  obtain⟨h1,h2,h3⟩:=HA okp.2.2.2.1.1 okp.2.2.2.1.2 f0 f8;unfold nStep;rw[<- h1,<- h2,<- h3]; rfl
 have e2:=Du okp.2.2.2.1.1 okp.2.2.2.1.2 f0 f8;refine Run.blk 2 (plV1 wh sh (.r 13) row [nm "turn" (.i (i:Nat))]) (mf w (PD (bT p.lt)) (ltr p.lt) f N fg o (sN p) [.L l,sL3 (p.mx - p.y) (p.mx - p.z) (p.mx - p.x),sL3 (3*(p.mx - p.y)+occ (ba (bT p.lt) PF (PD f)) cr) (3*(p.mx - p.z)+occ (ba (bT p.lt) PF (PD f)) cg) (3*(p.mx - p.x)+occ (ba (bT p.lt) PF (PD f)) cb),sN (nStep p f)]) (TurnOk p.x p.y p.z 1 wh (p.mx - p.y) (p.mx - p.z) (p.mx - p.x) :: _) (by rw[e1]; kernel_rfl) ⟨t1,IY (p.mx - p.y) (p.mx - p.z) (p.mx - p.x) p.lt⟩ ?_;clear t1 e1;generalize hq:sN (nStep p f)=q at*;have hqg:gcX [0,1,2,3,4,5,6,7,13,9] q=PD q:=by rw[<- hq]; kernel_rfl
 refine Run.gc [0,1,2,3,4,5,6,7,13,9] [] [aa "white",aa "shift",aa "hidden",aa "figures",aa "parts",aa "row"] [0,9] (plV1 wh sh (.r 8) row []) (mf w (PD (bT p.lt)) (ltr p.lt) f N fg o q []) hn (by kernel_rfl) (by kernel_rfl)
    (km rfl (by kernel_rfl) (km rfl (by kernel_rfl) (km rfl (by kernel_rfl) (km rfl (by kernel_rfl) (km rfl (by kernel_rfl) (km rfl (by kernel_rfl) (km rfl (by kernel_rfl) (km rfl (yF _ _) (km rfl hqg (km rfl (JD _ _ _) JF)))))))))) ?_
 clear hqg hq;refine Run.lp (α:=Unit) [mC,fy,lU] (.one (aa "place")) ((bz f.toNat).map λi=>.one (.i (i:Nat))) [] [0<=f,f<2 ^ 62] [] [0,9] (λj U=>plV1 wh sh (.r 8) (dx sh row j) []) (λU U=>mf w (PD (bT p.lt)) (ltr p.lt) f N fg o q []) (λU U=>True) (λU U=>False) () (by kernel_rfl) ⟨f0,NJ f8 (by decide),PI⟩ rfl (λU U=>rfl) rfl (by rw[hn]; rfl) rfl rfl PI (λj x U os2 c2 w2 n2 P2 N2 B2 ex U=>?_) (λU U=>?_) (λU U q=>q.elim)
 ·obtain⟨rfl,hj⟩:=o9 ex;refine⟨plV1 wh sh (.r 8) (dx sh row j) [nm "place" (.i (j:Nat))],mf w (PD (bT p.lt)) (ltr p.lt) f N fg o q [],rfl,by kernel_rfl,?_⟩;have hj8:j<8:=eX hj (N5.mpr f8);refine Run.blk 1 (plV1 wh sh (.r 8) (dx sh row j++hidG ((sh+(j:Int)).fmod 4)++(if brG p.lt j then aa "(" else aa ")")) [nm "place" (.i (j:Nat))]) (mf w (PD (bT p.lt)) (ltr p.lt) f N fg o q []) _ (by kernel_rfl) (FU (lt:=p.lt) (sh:=sh) hrow hj8) ?_;rw[FT okp.2.2.2.1.1 okp.2.2.2.1.2 hj8];exact Run.ns [aa "white",aa "shift",aa "hidden",aa "figures",aa "parts",aa "row"] (plV1 wh sh (.r 8) (dx sh row (j+1)) []) (by kernel_rfl) (Run.fe (by kernel_rfl) (N2 () PI) rfl (by kernel_rfl))
 ·rw[aA,gC];refine Run.blk 1 (plV1 wh sh (.r 8) (dx sh row f.toNat) []) (mf w (PD (bT p.lt)) (fk (bT p.lt) f) f N fg o q []) _ (by kernel_rfl) (Dv okp.2.2.2.1.1 okp.2.2.2.1.2 f0 f8) ?_;rw[e2];exact Run.fe (by kernel_rfl) hN rfl rfl
end Nw
end
section
open PySem PySem.W PySem.Calls PySem.Spec PyProof.Rows
namespace Mine
noncomputable def tU (lt:Int):Str:=if lt=0 then aa "rgr" else if lt=1 then aa "gbg" else aa "brb"
noncomputable def rdLt (lt f:Int):Int:=(lt+(if f=1 then 2 else 0)) % 3
noncomputable def Im (l f k:Int):Int:=(if 1<=f/\l=k then 1 else 0)+(if f=2/\(l+1) % 3=k then 1 else 0)
structure Rds where
 p:Num
 N:Int
 W:Int
def vl (p:Num)(f l:Int):Num:=lift3 (p.x - Im l f 0) (p.y - Im l f 1) (p.z - Im l f 2) l
noncomputable def rdFig (p:Num):Int:=(p.x+p.y+p.z) % 3
def rdR (s:Rds):Num:=vl s.p (rdFig s.p) (rdLt s.p.lt (rdFig s.p))
def rdB (r:Num):Num:=lift3 (2*r.x+r.y) (2*r.y+r.z) (2*r.z+r.x) r.lt
def rdNext (s:Rds):Rds:=⟨⟨(rdB (rdR s)).x / 3,(rdB (rdR s)).y / 3,(rdB (rdR s)).z / 3,(rdR s).lt⟩,s.N+rdFig s.p*s.W,3*s.W⟩
def mM (p:Num):Bool:=decide (p.mx=0)
noncomputable def pB (p:Num):Bool:=decide (p.x=(if p.lt=0 then 0 else 1))&&decide (p.y=(if p.lt=1 then 0 else 1))&&decide (p.z=(if p.lt=2 then 0 else 1))
def rdRes:Nat->Rds->Int×Int
 | 0,_=>(0,0)
 | k+1,s=>if mM s.p then(s.N,s.p.lt) else if pB s.p then(s.N - s.W,s.p.lt) else rdRes k (rdNext s)
noncomputable def FP (p:Num):Bool:=decide (0<=p.x)&&decide (0<=p.y)&&decide (0<=p.z)&&decide (p.x+p.y+p.z<=63)&&decide (0<=p.lt)&&decide (p.lt<=2)
def kW:Nat->Rds->Bool
 | 0,_=>PH
 | k+1,s=>FP s.p&&decide (0<=s.W)&&decide (s.W<=100000)&&decide (-100000<=s.N)&&decide (s.N<=100000)&&(mM s.p||pB s.p||(nOk (rdR s)&&kW k (rdNext s)))
theorem C3 (lt f:Int):0<=rdLt lt f/\rdLt lt f<=2:=by unfold rdLt; split<;>exact⟨Int.emod_nonneg _ (by decide),de (Int.emod_lt_of_pos _ (by decide))⟩
theorem zP {l f:Int}(a:0<=l)(b:l<=2)(c:0<=f)(d:f<=2):uZ (ba (tU l) PF (PD f)) cR=Im l f 0/\uZ (ba (tU l) PF (PD f)) cG=Im l f 1/\uZ (ba (tU l) PF (PD f)) cB=Im l f 2:=by
 rcases OR a b with e | e | e<;>rcases OR c d with e' | e' | e'<;>subst e<;>subst e'<;>decide +kernel
end Mine
end
section
open PySem PySem.W PySem.Calls PySem.Spec PyProof.Rows Mine
namespace Nw
variable {c:Cx}{wh t:Int}{p0:Num}{s:Rds}{w:aB}{Os:List SO}{fg:Option Int}{σ:Nat->Option Nat}
def tbR (w:aB):Tab:=⟨[ln,l5,wS w],[oY],[Az,Gm],[ES,II,j6,zq,KV,wf,AP]⟩
theorem wkR (HD:Ev w){fs:Fs}(hw:c.w=w)(hk:8<=c.k)(ht:c.tb=PG)(O:c.Ok fs):Wk.Okc ⟨fs,tbR w,extC [fy,lU]⟩ c:=
 have G:CtOk fs c (tbR w):=⟨aW (Au O) (aW (CA O) (aW (jj (ar (by decide) hk) O) (aW (tM (ar (by decide) hk) O) (aW (HD fs c hw hk ht O) (aW r4 (aW yE cE)))))),am.mpr ⟨PI,am.mpr ⟨PI,am.mpr ⟨hw,dz⟩⟩⟩⟩
 ⟨O,G,λU U=>eY O G⟩
abbrev tK (w:aB):Wk:=wkAt w 313 2 (tbR w) (extC [fy,lU])
abbrev qV (w:aB):List aS:=yz ((bn w 313).drop 1)
abbrev og (r:PV)(wh:Int)(N W:Int)(V:Vm):Vm:=[nm "parts" r,nm "white" (.i wh),nm "number" (.i N),nm "worth" (.i W)]++V
abbrev oh (w:aB)(p0:Num)(fg:Option Int)(lt:Str)(O:List SO):List SO:=[.G (sN p0),.G (.P (cu w)),.C (fg.map .i),.C (PD (.r 1)),.C (PD (.s lt))]++O
theorem Dp {c:Int}(a:0<=c)(b:c<=2):fst (aa "rgb") (ltr c)≠PF/\(((fst (aa "rgb") (ltr c)).getD 0:Nat):Int)=c:=
 lt_cases (P:=λc=>fst (aa "rgb") (ltr c)≠PF/\(((fst (aa "rgb") (ltr c)).getD 0:Nat):Int)=c) a b ⟨by decide +kernel,by decide +kernel⟩ ⟨by decide +kernel,by decide +kernel⟩ ⟨by decide +kernel,by decide +kernel⟩
noncomputable abbrev rd1 (lt:Str)(s:Str):Int:=if s == lt then 0 else 1
theorem CZ {b:Bool}{res:Int×Int}(hb:b=PH->p0=s.p)(lt0:0<=s.p.lt)(lt2:s.p.lt<=2)
  (hR:∀ p' Os' gs,retE 2 0 gs p' Os'=PD (.r 2,[],[.T [.i res.1,.i res.2]])->c.P p' Os') (h0:mM s.p=PG->res=(s.N,s.p.lt)) (h1:mM s.p=PH->pB s.p=PG->res=(s.N - s.W,s.p.lt))
  (h:mM s.p=PH->pB s.p=PH->Run (tK w) c (og (.r (bif b then 5 else 0)) wh s.N s.W [nm "turn" (.i t)]) (oh w p0 fg (ltr s.p.lt) [bif b then sN s.p else .N,.L [.i (rd1 (ltr s.p.lt) cr),.i (rd1 (ltr s.p.lt) cg),.i (rd1 (ltr s.p.lt) cb)]]) [(qV w).drop 2]):
  Run (tK w) c (og (.r (bif b then 5 else 0)) wh s.N s.W [nm "turn" (.i t)]) (oh w p0 fg (ltr s.p.lt) [bif b then sN s.p else .N]) [qV w]:=by
 obtain⟨hi,hx⟩:=Dp lt0 lt2;have e0:(max s.p.x (max s.p.y s.p.z) == 0)=mM s.p:=by unfold mM Num.mx; by_cases q:max s.p.x (max s.p.y s.p.z)=0<;>simp[q]
 have e1:(s.p.x == rd1 (ltr s.p.lt) cr&&(s.p.y == rd1 (ltr s.p.lt) cg&&(s.p.z == rd1 (ltr s.p.lt) cb&&PG)))=pB s.p:=by
  obtain⟨q1,q2,q3⟩:=ji lt0 lt2;unfold pB rd1;rw[show(cr == ltr s.p.lt)=_ from q1,show(cg == ltr s.p.lt)=_ from q2,show(cb == ltr s.p.lt)=_ from q3,ij rfl,ij rfl,ij rfl,mH,Pc]
  rfl
 refine Run.ifN (max s.p.x (max s.p.y s.p.z) == 0) [] (by cases b with
  | true=>kernel_rfl
  | false=>rw[hb rfl]; kernel_rfl) PI (λq=>?_) (λq=>?_)
 ·rw[h0 (e0▸q)] at hR;refine Run.rt (.r 6) [.T [.i s.N,.i (((fst (aa "rgb") (ltr s.p.lt)).getD 0:Nat):Int)]] [_] (by kernel_rfl) ⟨hi,PI⟩ (hR _ _ [6] ?_);rw[hx]; cases b<;>kernel_rfl
 ·refine Run.if (s.p.x == rd1 (ltr s.p.lt) cr&&(s.p.y == rd1 (ltr s.p.lt) cg&&(s.p.z == rd1 (ltr s.p.lt) cb&&PG))) [.L [.i (rd1 (ltr s.p.lt) cr),.i (rd1 (ltr s.p.lt) cg),.i (rd1 (ltr s.p.lt) cb)]] [] (by cases b with
   | true=>kernel_rfl
   | false=>rw[hb rfl]; kernel_rfl) PI (λq'=>?_) (λq'=>?_)
  ·rw[h1 (e0▸q) (e1▸q')] at hR;refine Run.rt (.r 7) [.T [.i (s.N - s.W),.i (((fst (aa "rgb") (ltr s.p.lt)).getD 0:Nat):Int)]] [_] (by kernel_rfl) ⟨hi,PI⟩ (hR _ _ [7] ?_);rw[hx]; cases b<;>kernel_rfl
  ·refine Run.nl (by kernel_rfl) (Run.cb ((qV w).drop 2) (by kernel_rfl) (h (e0▸q) (e1▸q'))) λq=>nomatch q
abbrev FX (w:aB)(f:Int)(x:Str):List Prop:=[cu w=cu w,my x,fitsSsize f=PG,(bR (ruleT x) f).isSome=PG]
abbrev Il (w:aB)(f:Int):List Prop:=FX w f cr++(FX w f cg++(FX w f cb++[-((1:Nat):Int)<=0,(0:Int)<((1:Nat):Int)]))
theorem FW {f:Int}(a:0<=f)(b:f<=2):Al (Il w f):=
 have h:=lt_cases (P:=λf=>fitsSsize f=PG/\(bR (ruleT cr) f).isSome=PG/\(bR (ruleT cg) f).isSome=PG/\(bR (ruleT cb) f).isSome=PG) a b (by decide +kernel) (by decide +kernel) (by decide +kernel)
 ⟨rfl,.inl rfl,h.1,h.2.1,rfl,.inr (.inl rfl),h.1,h.2.2.1,rfl,.inr (.inr rfl),h.1,h.2.2.2,by decide,by decide,PI⟩
theorem IT {r:PV}{N W f lt:Int}{q5 q6 q7:SO}(a:0<=lt)(b:lt<=2)(d:0<=f)(e:f<=2):∃ l,qX (tK w) c.w 1 (og r wh N W [nm "turn" (.i t)]) (oh w p0 (PD f) (ltr lt) [q5,q6,q7]) ((qV w).drop 3)=PD (og r wh N W [nm "turn" (.i t)],oh w p0 (PD f) (ltr (rdLt lt f)) [q5,q6,q7,.L l],Il w f):=
 lt_cases (P:=λlt=>∃ l,qX (tK w) c.w 1 (og r wh N W [nm "turn" (.i t)]) (oh w p0 (PD f) (ltr lt) [q5,q6,q7]) ((qV w).drop 3)=PD (og r wh N W [nm "turn" (.i t)],oh w p0 (PD f) (ltr (rdLt lt f)) [q5,q6,q7,.L l],Il w f)) a b
  (lt_cases (P:=λf=>∃ l,qX (tK w) c.w 1 (og r wh N W [nm "turn" (.i t)]) (oh w p0 (PD f) (ltr 0) [q5,q6,q7]) ((qV w).drop 3)=PD (og r wh N W [nm "turn" (.i t)],oh w p0 (PD f) (ltr (rdLt 0 f)) [q5,q6,q7,.L l],Il w f)) d e ⟨[.s (ltr 0)],by kernel_rfl⟩ ⟨[.s (ltr 2)],by kernel_rfl⟩ ⟨[.s (ltr 0)],by kernel_rfl⟩)
  (lt_cases (P:=λf=>∃ l,qX (tK w) c.w 1 (og r wh N W [nm "turn" (.i t)]) (oh w p0 (PD f) (ltr 1) [q5,q6,q7]) ((qV w).drop 3)=PD (og r wh N W [nm "turn" (.i t)],oh w p0 (PD f) (ltr (rdLt 1 f)) [q5,q6,q7,.L l],Il w f)) d e ⟨[.s (ltr 1)],by kernel_rfl⟩ ⟨[.s (ltr 0)],by kernel_rfl⟩ ⟨[.s (ltr 1)],by kernel_rfl⟩)
  (lt_cases (P:=λf=>∃ l,qX (tK w) c.w 1 (og r wh N W [nm "turn" (.i t)]) (oh w p0 (PD f) (ltr 2) [q5,q6,q7]) ((qV w).drop 3)=PD (og r wh N W [nm "turn" (.i t)],oh w p0 (PD f) (ltr (rdLt 2 f)) [q5,q6,q7,.L l],Il w f)) d e ⟨[.s (ltr 2)],by kernel_rfl⟩ ⟨[.s (ltr 1)],by kernel_rfl⟩ ⟨[.s (ltr 2)],by kernel_rfl⟩)
theorem CT {l:Int}(a:0<=l)(b:l<=2):ruleT (ltr l)=tU l:=lt_cases (P:=λl=>ruleT (ltr l)=tU l) a b (by decide +kernel) (by decide +kernel) (by decide +kernel)
theorem CX {b:Bool}(hn:c.np=[0,1])(hb:b=PH->p0=s.p)(ok:FP s.p=PG)(ok2:nOk (rdR s)=PG)(w0:0<=wh)(w1:wh<=700)
  (hN:c.N (og (.r 5) wh (rdNext s).N (rdNext s).W []) (oh w p0 (PD (rdFig s.p)) (ltr (rdNext s).p.lt) [sN (rdNext s).p])) {q6:SO}:
  Run (tK w) c (og (.r (bif b then 5 else 0)) wh s.N s.W [nm "turn" (.i t)]) (oh w p0 fg (ltr s.p.lt) [bif b then sN s.p else .N,q6]) [(qV w).drop 2]:=by
 have okp:0<=s.p.x/\0<=s.p.y/\0<=s.p.z/\s.p.x+s.p.y+s.p.z<=63/\0<=s.p.lt/\s.p.lt<=2:=by
  unfold FP at ok;simp only[aq,decide_eq_true_eq] at ok;exact⟨ok.1.1.1.1.1,ok.1.1.1.1.2,ok.1.1.1.2,ok.1.1.2,ok.1.2,ok.2⟩
 have hf:0<=rdFig s.p/\rdFig s.p<=2:=⟨Int.emod_nonneg _ (by decide),de (Int.emod_lt_of_pos _ (by decide))⟩;have e0:(s.p.x+(s.p.y+(s.p.z+0))).fmod 3=rdFig s.p:=by rw[Aj _ (by decide),gL,<- mK]; rfl
 have dv:DvOk (s.p.x+(s.p.y+(s.p.z+0))) 3:=⟨.inr (.inr ⟨rfl,NU okp.1 (NU okp.2.1 (NU okp.2.2.1 (ip 0))),NJ (dj (NT (by rw[gL,<- mK])) okp.2.2.2.1) (by decide)⟩)⟩
 refine Run.blk 1 (og (.r (bif b then 5 else 0)) wh s.N s.W [nm "turn" (.i t)]) (oh w p0 (PD (rdFig s.p)) (ltr s.p.lt) [bif b then sN s.p else .N,q6,.T [.i ((s.p.x+(s.p.y+(s.p.z+0))).fdiv 3),.i (rdFig s.p)]]) [DvOk (s.p.x+(s.p.y+(s.p.z+0))) 3,-((2:Nat):Int)<=1,(1:Int)<((2:Nat):Int)] (by
  rw[<- e0];cases b with
  | true=>kernel_rfl
  | false=>rw[hb rfl]; kernel_rfl) ⟨dv,by decide,by decide,PI⟩ ?_
 clear dv e0;generalize SO.T [.i ((s.p.x+(s.p.y+(s.p.z+0))).fdiv 3),.i (rdFig s.p)]=q7;obtain⟨l,hl⟩:=IT (w:=w) (c:=c) (r:=.r (bif b then 5 else 0)) (wh:=wh) (N:=s.N) (W:=s.W) (t:=t) (p0:=p0) (q5:=bif b then sN s.p else .N) (q6:=q6) (q7:=q7) okp.2.2.2.2.1 okp.2.2.2.2.2 hf.1 hf.2;refine Run.blk 1 _ _ _ hl (FW hf.1 hf.2) ?_;clear hl;have eL:(rdR s).lt=rdLt s.p.lt (rdFig s.p):=rfl;have hL:=C3 s.p.lt (rdFig s.p)
 have eR:rdR s=lift3 (s.p.x - occ (ba (ruleT (ltr (rdLt s.p.lt (rdFig s.p)))) PF (PD (rdFig s.p))) cr) (s.p.y - occ (ba (ruleT (ltr (rdLt s.p.lt (rdFig s.p)))) PF (PD (rdFig s.p))) cg) (s.p.z - occ (ba (ruleT (ltr (rdLt s.p.lt (rdFig s.p)))) PF (PD (rdFig s.p))) cb) (rdLt s.p.lt (rdFig s.p)):=by
  refine bU λG1 hG1=>?_;obtain⟨h1,h2,h3⟩:=zP hL.1 hL.2 hf.1 hf.2;refine hG1 ?_;rw[CT hL.1 hL.2];unfold rdR vl;rw[<- h1,<- h2,<- h3]; rfl
 have t4:TurnOk (rdR s).x (rdR s).y (rdR s).z 4 wh (rdR s).y (rdR s).z (rdR s).x:=zm ok2 w0 w1 (.inr ⟨rfl,rfl,rfl,rfl⟩);let D:List Prop:=[cu w=cu w,my (ltr (rdLt s.p.lt (rdFig s.p))),(ruleT (ltr (rdLt s.p.lt (rdFig s.p)))).length<=sizeLine];have hD:∀ {r},Al r->Al (D++r):=λ{r} h=>⟨rfl,sR hL.1 hL.2,by rw[l9]; decide,h⟩;have eN:rdNext s=⟨⟨(rdB (rdR s)).x / 3,(rdB (rdR s)).y / 3,(rdB (rdR s)).z / 3,(rdR s).lt⟩,s.N+rdFig s.p*s.W,3*s.W⟩:=rfl
 have eN:rdNext s=⟨⟨(lift3 (2*(rdR s).x+(rdR s).y) (2*(rdR s).y+(rdR s).z) (2*(rdR s).z+(rdR s).x) (rdR s).lt).x.fdiv 3,(lift3 (2*(rdR s).x+(rdR s).y) (2*(rdR s).y+(rdR s).z) (2*(rdR s).z+(rdR s).x) (rdR s).lt).y.fdiv 3,(lift3 (2*(rdR s).x+(rdR s).y) (2*(rdR s).y+(rdR s).z) (2*(rdR s).z+(rdR s).x) (rdR s).lt).z.fdiv 3,(rdR s).lt⟩,s.N+rdFig s.p*s.W,3*s.W⟩:=by
  rw[eN,bK _ (by decide),bK _ (by decide),bK _ (by decide)]; rfl
 rw[eN] at hN;rw[<- eL] at eR⊢;generalize hRR:rdR s=R at*
 refine Run.blk 1 (og (.r (bif b then 5 else 0)) wh s.N s.W [nm "turn" (.i t),nm "rest" (.r 10)]) (oh w p0 (PD (rdFig s.p)) (ltr R.lt) [bif b then sN s.p else .N,q6,q7,.L l,.L [.i (s.p.x - occ (ba (ruleT (ltr R.lt)) PF (PD (rdFig s.p))) cr),.i (s.p.y - occ (ba (ruleT (ltr R.lt)) PF (PD (rdFig s.p))) cg),.i (s.p.z - occ (ba (ruleT (ltr R.lt)) PF (PD (rdFig s.p))) cb)],sN R]) (D++(D++(D++[]))) (by
  rw[eR];cases b with
  | true=>kernel_rfl
  | false=>rw[hb rfl]; kernel_rfl) (hD (hD (hD PI))) ?_
 clear hD eR;generalize hZ:lift3 (2*R.x+R.y) (2*R.y+R.z) (2*R.z+R.x) R.lt=Z at*;generalize SO.L [.i (s.p.x - occ (ba (ruleT (ltr R.lt)) PF (PD (rdFig s.p))) cr),.i (s.p.y - occ (ba (ruleT (ltr R.lt)) PF (PD (rdFig s.p))) cg),.i (s.p.z - occ (ba (ruleT (ltr R.lt)) PF (PD (rdFig s.p))) cb)]=q9;have hC:Al [IntMulOk 2 R.x,IntMulOk 2 R.y,IntMulOk 2 R.z,(3:Int)≠0,aC Z.x 3=PH,(3:Int)≠0,aC Z.y 3=PH,(3:Int)≠0,aC Z.z 3=PH]:=⟨yx _,yx _,yx _,Iq,KJ _,Iq,KJ _,Iq,KJ _,PI⟩;have hf2:Al [IntMulOk (rdFig s.p) s.W,IntMulOk 3 s.W]:=⟨lt_cases (P:=λf=>IntMulOk f s.W) hf.1 hf.2 (.of_left (by decide)) (.of_left (by decide)) (.of_left (by decide)),Dk _,PI⟩;refine Run.blk 1 (og (.r (bif b then 5 else 0)) wh s.N s.W [nm "turn" (.i t),nm "rest" (.r 10),nm "other" (.r 11)]) (oh w p0 (PD (rdFig s.p)) (ltr R.lt) [bif b then sN s.p else .N,q6,q7,.L l,q9,sN R,sL3 R.y R.z R.x]) [TurnOk R.x R.y R.z 4 wh R.y R.z R.x] (by kernel_rfl) ⟨t4,PI⟩ ?_;refine Run.asC [fy,lU] (og (.r 14) wh s.N s.W [nm "turn" (.i t),nm "rest" (.r 10),nm "other" (.r 11)]) (oh w p0 (PD (rdFig s.p)) (ltr R.lt) [bif b then sN s.p else .N,q6,q7,.L l,q9,sN R,sL3 R.y R.z R.x,sL3 (2*R.x+R.y) (2*R.y+R.z) (2*R.z+R.x),sN Z,sL3 (Z.x.fdiv 3) (Z.y.fdiv 3) (Z.z.fdiv 3)]) _ (by rw[<- hZ]; kernel_rfl) hC ?_;clear hC t4;refine Run.asS [aa "number",aa "worth"] (og (.r 14) wh (s.N+rdFig s.p*s.W) (3*s.W) [nm "turn" (.i t),nm "rest" (.r 10),nm "other" (.r 11)]) (oh w p0 (PD (rdFig s.p)) (ltr R.lt) [bif b then sN s.p else .N,q6,q7,.L l,q9,sN R,sL3 R.y R.z R.x,sL3 (2*R.x+R.y) (2*R.y+R.z) (2*R.z+R.x),sN Z,sL3 (Z.x.fdiv 3) (Z.y.fdiv 3) (Z.z.fdiv 3),.T [.i (s.N+rdFig s.p*s.W),.i (3*s.W)]]) _ (by kernel_rfl) (by kernel_rfl) hf2 ?_;refine Run.gc [0,1,2,3,4,14] [] [aa "parts",aa "white",aa "number",aa "worth"] [0,1] (og (.r 5) wh (s.N+rdFig s.p*s.W) (3*s.W) []) (oh w p0 (PD (rdFig s.p)) (ltr R.lt) [sL3 (Z.x.fdiv 3) (Z.y.fdiv 3) (Z.z.fdiv 3)]) hn (by kernel_rfl) (by kernel_rfl) (by kernel_rfl) ?_;exact Run.fe (by kernel_rfl) hN rfl rfl
theorem Lh:Al [0<=(24:Int),(24:Int)<2 ^ 62]:=⟨by decide,by decide,PI⟩
theorem Gh {x y:SO}(j:Nat)(z:SO)(e:[SO.G x,SO.G y][j]?=PD z):¬ z.own:=g_own no_one j z e
theorem IS {k:Nat}(h:kW (k+1) s=PG):FP s.p=PG/\(mM s.p=PH->pB s.p=PH->nOk (rdR s)=PG/\kW k (rdNext s)=PG):=
 have a:=d9.mp h
 ⟨(d9.mp (d9.mp (d9.mp (d9.mp a.1).1).1).1).1,λh0 h1=>d9.mp ((Oe.mp a.2).resolve_left λq=>(Oe.mp q).elim (λq=>nomatch h0.symm.trans q) λq=>nomatch h1.symm.trans q)⟩
theorem HN (w:aB)(HD:Ev w)(p:Num)(wh:Int)(hw0:0<=wh)(hw1:wh<=700)(ok:kW 24 ⟨p,0,1⟩=PG):
  Con w 313 9 PG [.G (sN p),.G (.P (cu w))] [.r 0,.s (ltr p.lt),.r 1,.i wh] (.r 2) [] [.T [.i (rdRes 24 ⟨p,0,1⟩).1,.i (rdRes 24 ⟨p,0,1⟩).2]]:=by
 generalize hres:rdRes 24 ⟨p,0,1⟩=res;refine f5 (k:=8) (T:=tbR w) (ext:=extC [fy,lU]) 0 [nm "parts" (.r 0),nm "letter" (.s (ltr p.lt)),nm "rules" (.r 1),nm "white" (.i wh)] (by kernel_rfl) (BW λU U U U=>by kernel_rfl) (by kernel_rfl) (λj y e hw=>(Gh j y e hw).elim) (λc hw hk ht O=>wkR HD hw (bq hk.symm) ht O) λcx hw hn hP hN U=>?_;refine Run.asU (og (.r 0) wh 0 1 []) (oh w p PF (ltr p.lt) [.T [.i 0,.i 1]]) [] (by kernel_rfl) (by kernel_rfl) PI ?_;refine Run.gc [0,1,2,3,4,5] [5] [aa "parts",aa "white",aa "number",aa "worth"] [0,1] (og (.r 0) wh 0 1 []) (oh w p PF (ltr p.lt) [.N]) hn (by kernel_rfl) (by kernel_rfl) (by kernel_rfl) ?_;refine Run.lp (α:=Rds×Bool×Option Int) [fy,lU] (.one (aa "turn")) ((bz 24).map λi=>.one (.i (i:Nat))) [] _ [] [0,1] (λU a=>og (.r (bif a.2.1 then 5 else 0)) wh a.1.N a.1.W []) (λU a=>oh w p a.2.2 (ltr a.1.p.lt) [bif a.2.1 then sN a.1.p else .N]) (λi a=>res=rdRes (24 - i) a.1/\kW (24 - i) a.1=PG/\(a.2.1=PH->p=a.1.p)) (λU U=>False) (⟨p,0,1⟩,PH,PF) (by kernel_rfl) Lh rfl (λU U=>rfl) rfl (by rw[hn]; rfl) rfl rfl ⟨hres.symm,ok,λU=>rfl⟩ (λi x a os c' w' n' P' N' B' ex ha=>?_) (λa ha=>?_) (λU U q=>q.elim)
 ·obtain⟨rfl,hi⟩:=o9 ex;obtain⟨s,b,fg⟩:=a;obtain⟨h1,h2,h3⟩:res=rdRes (24 - i) s/\kW (24 - i) s=PG/\(b=PH->p=s.p):=ha;refine⟨og (.r (bif b then 5 else 0)) wh s.N s.W [nm "turn" (.i (i:Nat))],oh w p fg (ltr s.p.lt) [bif b then sN s.p else .N],rfl,by kernel_rfl,?_⟩;rw[show 24 - i=(24 - (i+1))+1 from(cO (Og hi)).symm] at h1 h2;obtain⟨o1,o2⟩:=IS h2
  have ol:0<=s.p.lt/\s.p.lt<=2:=by
   unfold FP at o1;simp only[aq,decide_eq_true_eq] at o1;exact⟨o1.1.2,o1.2⟩
  have hR:=λp' Os' gs e=>P' p' Os' (hP p' Os' gs e);refine Run.cb (qV w) (by kernel_rfl) (CZ h3 ol.1 ol.2 hR (λe=>h1.trans (if_pos e)) (λe0 e=>h1.trans ((if_neg λq:mM s.p=PG=>nomatch e0.symm.trans q).trans (if_pos e))) (λe0 e1=>?_))
  ·obtain⟨k1,k2⟩:=o2 e0 e1;exact CX n' h3 o1 k1 hw0 hw1 (Eq.mp (by kernel_rfl) (N' (rdNext s,PG,PD (rdFig s.p)) ⟨h1.trans ((if_neg λq:mM s.p=PG=>nomatch e0.symm.trans q).trans (if_neg λq:pB s.p=PG=>nomatch e1.symm.trans q)),k2,λq=>nomatch q⟩))
 ·obtain⟨_,h,_⟩:=ha;cases h
theorem Ah (a:Int):(-a).fdiv (-9)=a.fdiv 9:=by rw[Int.neg_fdiv_neg]
theorem Ag (a:Int):-((-a).fmod (-9))=a.fmod 9:=by rw[Int.neg_fmod_neg,y7]
theorem LL:(2:Int)≠0:=by decide
theorem Eh (w:aB)(HD:Ev w)(n c wh sh:Int)(n0:-1024<=n)(n1:n<1024)(c0:0<=c)(cc2:c<=2)(hw0:0<=wh)(hw1:wh<=700)(okN:qW n c=PG):
  Con w 308 9 PG [.G (.P (cu w))] [.i n,.i c,.r 0,.i wh,.i sh] (.r 1) [] [.T [.r 2,.s (ltr (plNum n c).lt),.s (plRow n sh)],sL3 (plNum n c).x (plNum n c).y (plNum n c).z]:=by
 refine f5 (k:=8) (T:=tbP w) (ext:=extC [mC,fy,lU]) 0 [nm "number" (.i n),nm "third" (.i c),nm "rules" (.r 0),nm "white" (.i wh),nm "shift" (.i sh)] (by kernel_rfl) (HZ λU U U U U=>by kernel_rfl) (by kernel_rfl) (λj y e hw=>(no_one j y e hw).elim) (λc hw hk ht O=>wkP HD hw (bq hk.symm) ht O) λcx hw hn hP hN U=>?_;refine Run.blk 2 (yr c wh sh []) (yt w PF PF PF n [] []) [] (by kernel_rfl) PI ?_
 have rest:∀ lo:Option Int,Run (wkPl w) cx (yr c wh sh []) (yt w PF PF lo (pRun n 8).1 (pRun n 8).2 []) [(bn w 308).drop 3]:=λlo=>by
  have hfg:plFigs n=(pRun n 8).2.reverse:=rfl;have hin:plInit n c=nInit (pRun n 8).1 c:=rfl;have hl8:(pRun n 8).2.length<=8:=pE n 8;have hlen:((pRun n 8).2.map PV.i).length<=sizeLine:=by rw[aA]; exact ar (pE n 8) (by decide)
  generalize (pRun n 8).1=N at*;generalize (pRun n 8).2=fg at*;let A:Int->Str->Int:=λN s=>if s == ltr c then N else 0
  refine Run.blk 3 (yr c wh sh [nm "parts" (.r 9),nm "row" (.s (aa ""))]) (yt w PF (PD (ltr c)) lo N fg [sL3 (A N cr) (A N cg) (A N cb),lft (A N cr) (A N cg) (A N cb)]) _ (by kernel_rfl) (Gp c0 cc2) ?_;have eA:A N cr=plP c N 0/\A N cg=plP c N 1/\A N cb=plP c N 2:=⟨ij (ji c0 cc2).1 _ _,ij (ji c0 cc2).2.1 _ _,ij (ji c0 cc2).2.2 _ _⟩;rw[eA.1,eA.2.1,eA.2.2];clear eA A
  refine Run.gc [0,1,2,3,4,5,6,7,9] [] [aa "white",aa "shift",aa "hidden",aa "figures",aa "parts",aa "row"] [0] [nm "white" (.i wh),nm "shift" (.i sh),nm "hidden" (.r 6),nm "figures" (.r 7),nm "parts" (.r 8),nm "row" (.s (aa ""))] (yt w PF (PD (ltr c)) lo N fg [lft (plP c N 0) (plP c N 1) (plP c N 2)]) hn (by kernel_rfl) (by kernel_rfl)
    (km rfl (by kernel_rfl) (km rfl (by kernel_rfl) (km rfl (by kernel_rfl) (km rfl (L8 _ lo) (km rfl (by kernel_rfl) (km rfl (by kernel_rfl) (km rfl (by kernel_rfl) (km rfl (yF _ _) (km rfl (by kernel_rfl) JF))))))))) ?_
  let F:(Num×Str)×Option Str×Option Int->Vm->Vm:=λa V=>[nm "white" (.i wh),nm "shift" (.i sh),nm "hidden" (.r 6),nm "figures" (.r 7),nm "parts" (.r 8),nm "row" (.s a.1.2)]++V;let G:(Num×Str)×Option Str×Option Int->List SO:=λa=>yt w a.2.1 (PD (ltr a.1.1.lt)) a.2.2 N fg [sL3 a.1.1.x a.1.1.y a.1.1.z,.L (fg.map .i).reverse];refine Run.lp [mC,fy,lU] (.tup [aa "turn",aa "low"]) (nH 0 (fg.map .i).reverse) [.L (fg.map .i).reverse] [_] [9] [0,9] (λU a=>F a []) (λU a=>G a) (λi a=>a.1=(fg.reverse.take i).foldl (plStep sh) (nInit N c,aa "")) (λU U=>False) ((nInit N c,aa ""),PF,lo) (by kernel_rfl) ⟨hlen,PI⟩ rfl (λU U=>rfl) rfl (by rw[hn]; rfl) rfl rfl rfl (λi x a os c' w' n' P' N' B' ex ha=>?_) (λa ha=>?_) (λU U q=>q.elim)
  ·rw[<- gT] at ex;obtain⟨f,rfl,ef⟩:=Bu ex;obtain⟨⟨p,row⟩,wd,lo⟩:=a;have okA:allOk fg.reverse (nInit N c)=PG:=by rw[<- hfg,<- hin]; exact okN
   have ok:=qt fg.reverse (nInit N c) okA i f ef
   have hall:∀ g∈fg.reverse.take i,g<=8:=λg hg=>by
    obtain⟨k,hk,e⟩:=List.getElem_of_mem (List.mem_of_mem_take hg);exact(qt _ _ okA k g (by rw[<- e]; exact aF hk)).2.2
   have hrw:=sD sh (fg.reverse.take i) (nInit N c,aa "") hall;rw[<- lr sh (fg.reverse.take i) (nInit N c,aa ""),<- ha] at ok;obtain⟨ok,f0,f8⟩:=ok;have ha:(p,row)=_:=ha;rw[<- ha] at hrw;have hlt:(fg.reverse.take i).length<=8:=by rw[oG,bV]; exact ar (qL _ _) hl8
   have hrow:row.length<=400:=by
    have:row.length<=(aa "").length+32*(fg.reverse.take i).length:=hrw;exact ar this (ar (NR (NQ 32 hlt) _) (by decide))
   refine⟨F ((p,row),wd,lo) [nm "turn" (.i (i:Nat))],mf w wd (ltr p.lt) f N fg (os 9) (sN p) [],rfl,by kernel_rfl,?_⟩;have hx:=N' ((nStep p f,dx sh row f.toNat),PD (bT p.lt),PD f) (by rw[uw ef,<- ha]; rfl);have hx:c'.N (plV1 wh sh (.r 8) (dx sh row f.toNat) []) (mf w (PD (bT p.lt)) (ltr (nStep p f).lt) f N fg (os 9) (sN (nStep p f)) []):=Eq.mp (by kernel_rfl) hx;exact Run.cb (KI w) (by kernel_rfl) (C7 n' ok f0 f8 hw0 hw1 hrow hx)
  ·rw[kL,bV,aA,<- bV,dK] at ha;obtain⟨⟨p,row⟩,wd,lo⟩:=a;have ha:(p,row)=_:=ha
   have e1:plNum n c=p:=by
    unfold plNum; rw[hfg,hin,<- lr sh fg.reverse (nInit N c,aa ""),<- ha]
   have e2:plRow n sh=row:=by
    unfold plRow; rw[hfg,<- lq sh fg.reverse (nInit N c,aa ""),<- ha]
   rw[e1,e2] at hP;exact Run.rt (.r 10) [.T [.r 8,.s (ltr p.lt),.s row]] [] (by kernel_rfl) PI (hP _ _ [10,8] (by kernel_rfl))
 refine Run.lp (α:=Option Int) [mC,fy,lU] (.one (aa "turn")) ((bz 8).map λi=>.one (.i (i:Nat))) [] _ [] [0] (λU U=>yr c wh sh []) (λi lo=>yt w PF PF lo (pRun n i).1 (pRun n i).2 []) (λU U=>True) (λV Os=>∃ (lo:Option Int) (t:Int),V=yr c wh sh [nm "turn" (.i t)]/\Os=yt w PF PF lo (pRun n 8).1 (pRun n 8).2 []) PF (by kernel_rfl) rg8 rfl (λU U=>rfl) rfl (by rw[hn]; rfl) rfl rfl PI (λi x lo os c' w' n' P' N' B' ex U=>?_) (λlo U=>rest lo) (λV Os ⟨lo,t,e1,e2⟩=>?_)
 ·obtain⟨rfl,hi⟩:=o9 ex;have bd:=De n0 n1 i;have hlen:((pRun n i).2.map PV.i).length<=1000:=by rw[aA]; exact ar (pE n i) (ar (bN hi) (by decide))
  refine⟨yr c wh sh [nm "turn" (.i (i:Nat))],yt w PF PF lo (pRun n i).1 (pRun n i).2 [],rfl,by kernel_rfl,?_⟩
  have fin:∀ (p:Int×List Int) (lo:Int) (t:SO),pRun n (i+1)=p->Run (wkPl w) c' (yr c wh sh [nm "turn" (.i (i:Nat))]) (yt w PF PF (PD lo) p.1 p.2 [t]) [(yz ((bn w 308).drop 2)).tail.tail]:=λp lo t e=>
   Run.gc [0,1,2,3,4,5,6,7] [] [aa "third",aa "white",aa "shift",aa "hidden",aa "figures"] [0] (yr c wh sh []) (yt w PF PF (PD lo) p.1 p.2 []) n' (by kernel_rfl) (by kernel_rfl)
    (km rfl (by kernel_rfl) (km rfl (by kernel_rfl) (km rfl (by kernel_rfl) (km rfl (by kernel_rfl) (km rfl (by kernel_rfl) (km rfl (by kernel_rfl) (km rfl (by kernel_rfl) (km rfl (yF _ _) JF)))))))) (Run.fe (by kernel_rfl) (N' (PD lo) PI) rfl (by subst e; kernel_rfl))
  refine Run.ifN ((pRun n i).1 == 0||((pRun n i).1 == -1||false)) [] (by kernel_rfl) PI (λht=>?_) (λhf=>?_)
  ·have h01:(pRun n i).1=0\/(pRun n i).1=-1:=by rw[tI,fh,beq_iff_eq,beq_iff_eq] at ht; exact ht
   exact Run.fb (V₁:=[]) (Os₁:=[]) (by kernel_rfl) (B' _ _ ⟨lo,(i:Nat),rfl,rfl⟩) rfl (by rw[z8 h01 (bN hi)]; kernel_rfl)
  ·have h01:¬ ((pRun n i).1=0\/(pRun n i).1=-1):=λq=>by
    rw[tI,ll,beq_eq_false_iff_ne,beq_eq_false_iff_ne] at hf;exact q.elim hf.1 hf.2
   have es:pRun n (i+1)=((pRun n i).1.fdiv 9,(pRun n i).2++[(pRun n i).1.fmod 9]):=if_neg h01;have e5:∀ f:Int,(pRun n i).2.map PV.i++[.i f]=((pRun n i).2++[f]).map .i:=λf=>by rw[eZ]; rfl
   refine Run.if (((i:Nat):Int).fmod 2 != 0) [] [(2:Int)≠0] (by kernel_rfl) ⟨LL,PI⟩ (λU=>?_) (λU=>?_)
   ·refine Run.asT (yr c wh sh [nm "turn" (.i (i:Nat))]) (yt w PF PF (PD ((-(pRun n i).1).fmod (-9))) ((-(pRun n i).1).fdiv (-9)) (pRun n i).2 [.T [.i ((-(pRun n i).1).fdiv (-9)),.i ((-(pRun n i).1).fmod (-9))]]) [DvOk (-(pRun n i).1) (-9)] (by kernel_rfl) ⟨⟨.inr (.inl ⟨rfl,Int.neg_lt_neg bd.2,Int.neg_le_of_neg_le bd.1⟩)⟩,PI⟩ ?_;refine Run.blk 1 (yr c wh sh [nm "turn" (.i (i:Nat))]) (Lm w PF PF (PD ((-(pRun n i).1).fmod (-9))) ((-(pRun n i).1).fdiv (-9)) ((pRun n i).2.map .i++[.i (-((-(pRun n i).1).fmod (-9)))]) [.T [.i ((-(pRun n i).1).fdiv (-9)),.i ((-(pRun n i).1).fmod (-9))]]) [_] (by kernel_rfl) ⟨hlen,PI⟩ ?_;rw[e5,Ag,Ah];exact Run.nl (by kernel_rfl) (fin _ _ _ es) λq=>nomatch q
   ·refine Run.asT (yr c wh sh [nm "turn" (.i (i:Nat))]) (yt w PF PF (PD ((pRun n i).1.fmod 9)) ((pRun n i).1.fdiv 9) (pRun n i).2 [.T [.i ((pRun n i).1.fdiv 9),.i ((pRun n i).1.fmod 9)]]) [DvOk (pRun n i).1 9] (by kernel_rfl) ⟨⟨.inl ⟨rfl,bd⟩⟩,PI⟩ ?_;refine Run.blk 1 (yr c wh sh [nm "turn" (.i (i:Nat))]) (Lm w PF PF (PD ((pRun n i).1.fmod 9)) ((pRun n i).1.fdiv 9) ((pRun n i).2.map .i++[.i ((pRun n i).1.fmod 9)]) [.T [.i ((pRun n i).1.fdiv 9),.i ((pRun n i).1.fmod 9)]]) [_] (by kernel_rfl) ⟨hlen,PI⟩ ?_;rw[e5];exact Run.nl (by kernel_rfl) (fin _ _ _ es) λq=>nomatch q
 ·subst e1; subst e2;exact Run.ns [aa "third",aa "white",aa "shift",aa "hidden",aa "figures"] (yr c wh sh []) (by kernel_rfl) (rest lo)
theorem Run.rn {k:Wk}{V:Vm}{b:List aS}{bs:List (List aS)}(pos:Pos)(hb:b.head?=PD (.Return PF pos))(h:c.P (.v .none) Os):Run k c V Os (b :: bs):=by
 rw[dU hb];exact .of λO as hp tk m i=>bc (wpAny_Return_none (fH (c:=c) (fl:=.ret .none) (λq=>by cases q) (O.o.ret _ _ _ _ _ _ _ (p:=.v .none) _ O.o.g0 i rfl h) bs))
theorem Nb (σ:Nat->Option Nat):∀ l:List Int,tD σ (l.map .i)=PD (l.map .i)
 | []=>rfl
 | a :: r=>by show((PD (PV.i a)).bind λp=>_)=_; rw[ei,Nb σ r]; rfl
theorem Pj (σ:Nat->Option Nat)(l:List Int):(SO.L (l.map .i)).rn σ=PD (.L (l.map .i)):=by show(tD σ _).map SO.L=_; rw[Nb]; rfl
theorem w7 {n:Nat}{l:List Int}{r:List SO}:retE n 1 [] (.v .none) (.L (l.map .i) :: r)=PD (.v .none,[.L (l.map .i)],[]):=by
 refine(?_:(((SO.L (l.map .i)).rn (sigE n [])).bind λy=>PD [y]).bind (λo1=>PD (PV.v ca,o1,[]))=_);rw[Pj]; rfl
theorem uu {q:Nat×Bool}{r:List (Nat×Bool)}{x y:SO}{l:List SO}(e1:Os[q.1]?=PD x)(e2:gvX σ q.2 x=PD y)(e3:gvL σ Os r=PD l):gvL σ Os (q :: r)=PD (y :: l):=by
 refine(?_:((Os[q.1]?).bind _).bind _=_);rw[e1,ei,e2,ei,e3]; rfl
theorem L6 {j:Nat}{r:List (Nat×Bool)}{xs:List Int}{l:List SO}(e1:Os[j]?=PD (.L (xs.map .i)))(e3:gvL σ Os r=PD l):gvL σ Os ((j,PG) :: r)=PD (.L (xs.map .i) :: l):=uu e1 (Pj _ _) e3
noncomputable abbrev Ip:Str:=aa "inner"
abbrev J0:List (Str×Nat):=[(aa "n",1),(Ip,2),(aa "a_digits",3)]
noncomputable abbrev GQ (fa:aj)(n:Int)(ns:List Int):List SO:=[.L (ns.map .i),.G (.C (PD (.i n))),.G (.C (PD (.v (.ref fa)))),.G (.C (PD (.r 0)))]
theorem Fi (w:aB)(fa:aj)(n:Int)(hn:n=2\/n=4):∀ (k:Nat) (x lo hi:Int) (ns:List Int),0<=lo->lo<hi->hi - lo<=k->hi<=3->0<=x->x<4096->hi<=ns.length->ns.length<=3->
  ConZ (Ix fa Ip GK J0 (GQ fa n ns)) w fa k PH (GQ fa n ns) [.i x,.i lo,.i hi] (.v .none) [.L ((spl n k x lo hi ns).map .i)] []
 | 0,_,_,_,_,_,h2,h3,_,_,_,_,_=>absurd h2 (dQ.mpr (Int.le_of_sub_nonpos h3))
 | k+1,x,lo,hi,ns,hlo,hlh,hk3,hh3,hx,hx2,hle,hl3=>by
  have ih:=Fi w fa n hn k;refine Bv (T:=⟨[],[],[],[]⟩) (ext:=extC []) 1 [nm "x" (.i x),nm "L" (.i lo),nm "R" (.i hi)] ?hb rfl rfl rfl (by decide +kernel) ?hmu (λc U U U O=>have G:CtOk _ c ⟨[],[],[],[]⟩:=⟨cE,dz⟩; ⟨O,G,λU U=>eY O G⟩) λc hw hn' hk F hP hN=>?_
  case hb=>
   rintro q doc pm c' ctv cl as₀ vs ⟨u1,_,rfl,h1,u2,_,rfl,h2,u3,_,rfl,h3,rfl⟩;exact⟨[(aa "x",u1),(aa "L",u2),(aa "R",u3)],by kernel_rfl,am.mpr ⟨by kernel_rfl,am.mpr ⟨by kernel_rfl,am.mpr ⟨by kernel_rfl,λU q=>nomatch q⟩⟩⟩,u1,_,rfl,h1,u2,_,rfl,h2,u3,_,rfl,h3,rfl⟩
  case hmu=>exact l_own (g_own (g_own no_one))
  let V:Vm->Vm:=λr=>[nm "R" (.i hi),nm "L" (.i lo),nm "x" (.i x)]++r;refine Run.ifN (lo+1 == hi) [] (by kernel_rfl) PI (λe=>?_) (λe=>?_)
  ·have e:=eq_of_beq e;refine Run.blk 1 (V []) [.L ((ns.map .i).set lo.toNat (.i x)),.G (.C (PD (.i n))),.G (.C (PD (.v (.ref fa)))),.G (.C (PD (.r 0)))] _ (by kernel_rfl) (?_:Al [0<=lo,lo<((ns.map PV.i).length:Int),lo<2 ^ 63]) ?_
   ·rw[aA]; exact⟨hlo,NM hlh hle,NM hlh (dj hh3 (by decide)),PI⟩
   ·refine Run.rn ⟨39,12,39,18⟩ (by kernel_rfl) (hP _ _ [] ?_);rw[show spl _ (_+1) _ lo _ ns=_ from if_pos e,<- List.map_set];exact w7
  ·have e:=ne_of_beq_false e;obtain⟨hs1,hs2⟩:=EC hn hlo hlh hh3 e;obtain⟨hm1,hm2⟩:=pF hlo hlh e;have hf:=Bc hx (((lo+hi).fdiv (2 ^ bw 1) - lo)*n).toNat;have hxl:=Cp hx (((lo+hi).fdiv (2 ^ bw 1) - lo)*n).toNat;have hspl:spl n (k+1) x lo hi ns=spl n k (x.fdiv (2 ^ (((lo+hi).fdiv (2 ^ bw 1) - lo)*n).toNat)) ((lo+hi).fdiv (2 ^ bw 1)) hi (spl n k (x - x.fdiv (2 ^ (((lo+hi).fdiv (2 ^ bw 1) - lo)*n).toNat)*2 ^ (((lo+hi).fdiv (2 ^ bw 1) - lo)*n).toNat) lo ((lo+hi).fdiv (2 ^ bw 1)) ns):=if_neg e;rw[hspl] at hP;have hmul:IntMulOk ((lo+hi).fdiv (2 ^ bw 1) - lo) n:=.of_right (by rcases hn with rfl | rfl<;>decide);have hC:Al [0<=(1:Int),IntMulOk ((lo+hi).fdiv (2 ^ bw 1) - lo) n,0<=((lo+hi).fdiv (2 ^ bw 1) - lo)*n,0<=((lo+hi).fdiv (2 ^ bw 1) - lo)*n,((lo+hi).fdiv (2 ^ bw 1) - lo)*n<=1000000,(x.fdiv (2 ^ (((lo+hi).fdiv (2 ^ bw 1) - lo)*n).toNat)).natAbs<2 ^ 64]:=⟨by decide,hmul,hs1,hs1,hs2,OE hf.1 (NJ hf.2.1 (NM hx2 (by decide))),PI⟩;refine Run.blk 4 (V [nm "mid" (.i ((lo+hi).fdiv (2 ^ bw 1))),nm "shift" (.i (((lo+hi).fdiv (2 ^ bw 1) - lo)*n)),nm "upper" (.i (x.fdiv (2 ^ (((lo+hi).fdiv (2 ^ bw 1) - lo)*n).toNat))),nm "lower" (.i (qO x (x.fdiv (2 ^ (((lo+hi).fdiv (2 ^ bw 1) - lo)*n).toNat)*2 ^ (((lo+hi).fdiv (2 ^ bw 1) - lo)*n).toNat)))]) (GQ fa n ns) _ (by kernel_rfl) hC ?_;rw[hxl];clear hC hxl hmul hspl;generalize (lo+hi).fdiv (2 ^ bw 1)=mid at*;generalize (mid - lo)*n=shf at*;generalize x.fdiv (2 ^ shf.toNat)=up at*;generalize up*2 ^ shf.toNat=pr at*;let W:List Int->List SO:=λl=>GQ fa n l;have hl1:(spl n k (x - pr) lo mid ns).length=ns.length:=sy n k _ _ _ ns;refine Run.cs (j:=0) (y:=.L ((spl n k (x - pr) lo mid ns).map .i)) fa [.i (x - pr),.i lo,.i mid] [] [] [1,2,3] (GQ fa n ns) (by kernel_rfl) PI rfl (L6 rfl (by kernel_rfl)) (by kernel_rfl) (hw.symm▸ih (x - pr) lo mid ns hlo hm1 (OV hm2 hk3) (dj (c9 hm2) hh3) (NV hf.2.2.1) (NJ (NY x hf.2.2.2) hx2) (dj (c9 hm2) hle) hl3) (bq hk.symm) F (by kernel_rfl) (Pj _ _) ?_;refine Run.cs (j:=0) (y:=.L ((spl n k up mid hi (spl n k (x - pr) lo mid ns)).map .i)) fa [.i up,.i mid,.i hi] [] [] [1,2,3] (GQ fa n (spl n k (x - pr) lo mid ns)) (by kernel_rfl) PI rfl (L6 rfl (by kernel_rfl)) (by kernel_rfl) (hw.symm▸ih up mid hi _ (c9 (NJ hlo hm1)) hm2 (OU hm1 hk3) hh3 hf.1 (NJ hf.2.1 hx2) (by rw[hl1]; exact hle) (ar (bq hl1) hl3)) (bq hk.symm) F (by kernel_rfl) (Pj _ _) ?_;exact Run.fe (by kernel_rfl) (hN _ _ (hP _ _ [] w7)) rfl rfl
theorem FV {j:Nat}{l:List Int}(e:Os[j]?=PD (.L (l.map .i))):retE 0 0 [j] (.r j) Os=PD (.r 0,[],[.L (l.map .i)]):=by
 have h:sigE 0 [j] j=PD 0:=by unfold sigE; rw[if_neg (Nat.not_lt_zero _)]; unfold Iv; rw[if_pos rfl]; rfl
 unfold retE;rw[if_pos (by simp[dy])];refine(?_:((sigE 0 [j] j).map PV.r).bind (λq=>(PD []).bind λo1=>(((Os[j]?).bind λx=>x.rn (sigE 0 [j])).bind λy=>PD [y]).map λys=>(q,o1,ys))=_);rw[h,e];refine(?_:((((SO.L (l.map .i)).rn (sigE 0 [j])).bind λy=>PD [y]).map λys=>(PV.r 0,[],ys))=_);rw[Pj]; rfl
def tbI:Tab:=⟨[],[],[AA],[xY,Dr]⟩
theorem Mk (w:aB)(x n:Int)(hn:n=2\/n=4)(hx:0<=x)(hx2:x<4096)(hd3:dg x n<=3)(hd1:x≠0->0<dg x n)(hd0:0<=((az x:Int)+n - 1).fdiv n):
  Con w 59 4 PG [] [.i x,.i n] (.r 0) [] [.L ((digs n x).map .i)]:=by
 refine f5 (k:=3) (T:=tbI) (ext:=extM) 0 [nm "a" (.i x),nm "n" (.i n)] (by kernel_rfl) (p9 λU U=>by kernel_rfl) (by kernel_rfl) fG (λc U U U O=>have G:CtOk _ c tbI:=⟨aW p8 (aW sT cE),dz⟩; ⟨O,G,λU U=>DR (T:=tbI)⟩) λcx hw hn' hP hN hq=>?_;have hn0:n≠0:=Ov (OO hn).1
 have hC:Al [n≠0,aC ((az x:Int)+n - 1) n=PH,-(2 ^ 63:Int)<=((az x:Int)+n - 1).fdiv n,((az x:Int)+n - 1).fdiv n<2 ^ 63,([0]:List Int).length*(((az x:Int)+n - 1).fdiv n).toNat<=2 ^ 24]:=
  ⟨hn0,bB (by rcases hn with rfl | rfl<;>decide),dj (by decide) hd0,NJ (N5.mp hd3) (by decide),ar (bq (Oy _)) (ar hd3 (by decide)),PI⟩
 let V:Vm:=[nm "a" (.i x)];let Q:Option PV->List Int->List SO:=λp l=>[.C p,.C (PD (.r 4)),.C (PD (.i n)),.L [.i 0],.L (l.map .i)];refine Run.blk 1 V (Q PF (zeros (dg x n))) _ (by kernel_rfl) hC ?_;refine Run.fd (nm:=Ip) (cd:=58) GK (J0.map (·.1)) EH ⟨.inl ⟨rfl,rfl,rfl,rfl⟩⟩ GK.pos (λfa=>Q (PD (.v (.ref fa))) (zeros (dg x n))) (by kernel_rfl) ⟨by kernel_rfl,by kernel_rfl⟩ hq.2.2.2 ⟨by rw[hq.1]; kernel_rfl,hq.2.1.trans (by kernel_rfl)⟩ (by rw[hw]; kernel_rfl) rfl rfl (λU=>rfl) (by kernel_rfl) (by kernel_rfl) (λU=>by kernel_rfl) λfa pn F=>?_
 have fin:∀ l,l=digs n x->Run (wkAt w 59 0 tbI extM) (cx.pin pn) V (Q (PD (.v (.ref fa))) l) [((bn w 59).drop 3)]:=λl e=>
  Run.rt (.r 4) [] [] (by kernel_rfl) PI (hP _ _ [4] (by rw[<- e]; exact FV rfl))
 refine Run.ifN (x != 0) [] (by kernel_rfl) PI (λe=>?_) (λe=>?_)
 ·have hne:x≠0:=bne_iff_ne.mp e;have hl:((zeros (dg x n)).map PV.i).length=dg x n:=by rw[aA,List.length_flatten,List.map_replicate,List.length_singleton,List.sum_replicate_nat,Nat.mul_one]
  have hl':(zeros (dg x n)).length=dg x n:=(aA ..).symm.trans hl;have:=hd1 hne
  refine Run.cs (j:=4) (y:=.L ((spl n 3 x 0 (dg x n) (zeros (dg x n))).map .i)) fa [.i x,.i 0,.i (((zeros (dg x n)).map PV.i).length:Nat)] [] [(((zeros (dg x n)).map PV.i).length:Int)<2 ^ 63] [2,0,1] (GQ fa n (zeros (dg x n))) (by kernel_rfl) (by rw[hl]; exact⟨NJ (dJ.mpr hd3) (by decide),PI⟩) rfl (L6 rfl (by kernel_rfl)) (by kernel_rfl)
   (ps₀:=[.i x,.i 0,.i (((zeros (dg x n)).map PV.i).length:Nat)]) (by rw[hl]; exact hw.symm▸Fi w fa n hn 3 x 0 (dg x n) (zeros (dg x n)) (ip 0) (n9.mpr this) (dj (NY _ (ip 0)) (dJ.mpr hd3)) (dJ.mpr hd3) hx hx2 (dJ.mpr (bq hl'.symm)) (ar (bq hl') hd3)) (bq hq.2.2.1.symm) F (by kernel_rfl) (Pj _ _) ?_
  exact Run.nl (by kernel_rfl) (Run.cb ((bn w 59).drop 3) (by kernel_rfl) (fin _ (if_neg hne).symm)) λq=>nomatch q
 ·have hx0:x=0:=by rw[bne_eq_false_iff_eq] at e; exact e
  exact Run.cb ((bn w 59).drop 3) (by kernel_rfl) (fin _ (if_pos hx0).symm)
end Nw
end
section
open PySem PySem.W PySem.Calls PySem.Spec PyProof.Rows
namespace Mine
variable {n lo hi a:Int}{ns:List Int}
noncomputable def dval (n:Int)(ns:List Int):Nat->Int->Int->Int
 | 0,_,_=>0
 | k+1,lo,hi=>if lo+1=hi then ns.getD lo.toNat 0 else
  dval n ns k ((lo+hi).fdiv 2) hi*2 ^ (((lo+hi).fdiv 2 - lo)*n).toNat+dval n ns k lo ((lo+hi).fdiv 2)
theorem Bx {k:Nat}(h:¬ lo+1=hi):dval n ns (k+1) lo hi=dval n ns k ((lo+hi).fdiv (2 ^ bw 1)) hi*2 ^ (((lo+hi).fdiv (2 ^ bw 1) - lo)*n).toNat+dval n ns k lo ((lo+hi).fdiv (2 ^ bw 1)):=by
 have e:((2:Int) ^ bw 1)=2:=by decide
 rw[e];exact if_neg h
theorem two_is:((2:Int) ^ bw 1)=2:=by decide
theorem F1 {j:Nat}(h:j<=8):(2:Int) ^ j<=256/\0<(2:Int) ^ j:=by
 exact⟨OT (n:=2) (k:=8) (by decide) h,Int.pow_pos (by decide)⟩
theorem FN (hn:n=2\/n=4)(h0:0<=lo)(h:lo<hi)(h3:hi<=3)(hne:lo+1≠hi):(((lo+hi).fdiv 2 - lo)*n).toNat<=8:=by
 have:=pF h0 h hne;rw[two_is] at this;exact N5.mpr (OY hn h0 h3 this).2
theorem lH (hn:n=2\/n=4)(hb:∀ i,0<=ns.getD i 0/\ns.getD i 0<=4096)(k:Nat):∀ (lo hi:Int),0<=lo->lo<hi->hi<=3->0<=dval n ns k lo hi/\dval n ns k lo hi<=4096*257 ^ k:=by
 induction k with
 | zero=>exact λU U U U U=>(by decide:(0:Int)<=0/\(0:Int)<=4096*257 ^ 0)
 | succ k ih=>
  intro lo hi h0 h h3;have hp:(0:Int)<257 ^ k:=Int.pow_pos (by decide);rw[Int.pow_succ]
  by_cases hne:lo+1=hi
  ·rw[show dval n ns (k+1) lo hi=_ from if_pos hne];exact⟨(hb _).1,dj (hb _).2 (NW (a:=1) (b:=257 ^ k*257) (c:=4096) (Int.mul_pos hp (by decide)) (by decide))⟩
  ·rw[show dval n ns (k+1) lo hi=_ from if_neg hne];have hm:=pF h0 h hne;rw[two_is] at hm;have a:=ih ((lo+hi).fdiv 2) hi (dj h0 (c9 hm.1)) hm.2 h3;have b:=ih lo ((lo+hi).fdiv 2) h0 hm.1 (dj (c9 hm.2) h3);have p:=F1 (FN hn h0 h h3 hne);revert a b p;generalize (2:Int) ^ (((lo+hi).fdiv 2 - lo)*n).toNat=P;generalize dval n ns k ((lo+hi).fdiv 2) hi=A;intro a b p;have c1:0<=A*P:=Od a.1 (dj (by decide) p.2);have c2:A*P<=A*256:=NW p.1 a.1;exact⟨NU c1 b.1,dj (Oq (dj c2 (Int.mul_le_mul_of_nonneg_right a.2 (by decide))) b.2) (NT (by rw[<- Ot]; exact(congrArg (_+·) (On _).symm).trans (Int.mul_add _ 256 1).symm))⟩
theorem v8 (hn:n=2\/n=4)(hb:∀ i,0<=ns.getD i 0/\ns.getD i 0<=4096){k:Nat}(hk:k<=3)(h0:0<=lo)(h:lo<hi)(h3:hi<=3):(dval n ns k lo hi).natAbs<2 ^ 64:=by
 obtain⟨a,b⟩:=lH hn hb k lo hi h0 h h3;exact OE a (NJ (dj b (NW (OT (n:=257) (by decide) hk) (by decide))) (by decide))
def uJ (n:Int)(ns:List Int):Int:=if ns.length=0 then 0 else dval n ns 3 0 ns.length
theorem A5 {x b:Int}(h:0<b):0<=x.fmod b/\x.fmod b<b:=⟨bu x h,bJ x h⟩
set_option tactic.hygienic true in
theorem Ek {x:Int}(hn:0<=n)(h:x.natAbs<2 ^ 64):(az x:Int) - n<=4000:=by
 have:az x<=64:=by
  unfold az
  split
  ·exact jw _
  ·rename_i hh; exact(Nat.log2_lt (λq=>hh (beq_iff_eq.mpr (Int.natAbs_eq_zero.mp q))) (k:=64)).mpr h
 exact dj (NY _ hn) (dJ.mpr (ar this (by decide)))
noncomputable def uH (n r d:Int):Int:=r*2 ^ n.toNat+d
def dpRun (n b:Int):List Int->Int->List Int->List Int×Int
 | [],r,qs=>(qs,r)
 | d :: ds,r,qs=>dpRun n b ds ((uH n r d).fmod b) ((uH n r d).fdiv b :: qs)
structure DpOk (a b:Int):Prop where
 hn:(az b:Int)=2\/(az b:Int)=4
 hb:0<b
 ha:0<=a
 ha2:a<4096
 hb2:b<256
 h3:dg a (az b)<=3
 h1:a≠0->0<dg a (az b)
 h0:0<=((az a:Int)+(az b:Int) - 1).fdiv (az b)
 hdig:∀ d∈digs (az b) a,0<=d/\d<=4096
 hlen:(digs (az b) a).length<=3
 hqs:∀ i,0<=(dpRun (az b) b (digs (az b) a).reverse 0 []).1.getD i 0/\(dpRun (az b) b (digs (az b) a).reverse 0 []).1.getD i 0<=4096
 hq:uJ (az b) (dpRun (az b) b (digs (az b) a).reverse 0 []).1=a.fdiv b
 hr:(dpRun (az b) b (digs (az b) a).reverse 0 []).2=a.fmod b
def xR (b a:Int):Bool:=
 let n:Int:=az b;let ds:=digs n a;let qs:=dpRun n b ds.reverse 0 []
 decide (n=2\/n=4)&&decide (0<b)&&decide (0<=a)&&decide (a<4096)&&decide (b<256)&&decide (dg a n<=3)&&(decide (a=0)||decide (0<dg a n))&&decide (0<=((az a:Int)+n - 1).fdiv n)
  && ds.all (λd=>decide (0<=d)&&decide (d<=4096))&&decide (ds.length<=3)&&qs.1.all (λd=>decide (0<=d)&&decide (d<=4096))&&decide (uJ n qs.1=a.fdiv b)&&decide (qs.2=a.fmod b)
theorem AW {qs:List Int}(h:∀ d∈qs,0<=d/\d<=4096)(i:Nat):0<=qs.getD i 0/\qs.getD i 0<=4096:=by
 rw[iX];cases e:qs[i]? with
 | none=>decide
 | some v=>exact h v (dr e)
theorem xP {b:Int}(h:xR b a=PG):DpOk a b:=by
 unfold xR at h;simp only[aq,decide_eq_true_eq,aR,fh] at h;obtain⟨⟨⟨⟨⟨⟨⟨⟨⟨⟨⟨⟨h1,h2⟩,h3⟩,h4⟩,h5⟩,h6⟩,h7⟩,h8⟩,h9⟩,h10⟩,h11⟩,h12⟩,h13⟩:=h;exact⟨h1,h2,h3,h4,h5,h6,λq=>h7.resolve_left q,h8,h9,h10,AW h11,h12,h13⟩
theorem dm9:(bz 1024).all (λx=>xR 9 x)=PG:=by decide +kernel
theorem dm3:(bz 64).all (λx=>xR 3 x)=PG:=by decide +kernel
theorem BA (h0:0<=a)(h1:a<1024):DpOk a 9:=by
 have:=aR.mp dm9 a.toNat (dm.mpr (OQ (by decide) h1));rw[dG h0] at this;exact xP this
theorem JV (h0:0<=a)(h1:a<64):DpOk a 3:=by
 have:=aR.mp dm3 a.toNat (dm.mpr (OQ (by decide) h1));rw[dG h0] at this;exact xP this
theorem Iw (a:Int):bO a=-a - 1:=by cases a<;>rfl
end Mine
end
section
open PySem PySem.W PySem.Calls PySem.Spec PyProof.Rows Mine
namespace Nw
variable {c:Cx}{j:Nat}{w:aB}{Os:List SO}{ns:List Int}{as:List aj}
def K8 (ns:List Int):SubR where
 wd:=λU=>True
 f:=λOs a b=>a.ref?.bind λj=>(items Os j).bind λl=>b.int?.map λz=>(.i (ns.getD z.toNat 0),[],[l=ns.map .i,0<=z,z<(ns.length:Int),(ns.length:Int)<2 ^ 63])
 ok:=λe hC fs c V m as h U i H u v hu hv E Q k hq=>ak e λj e1 e=>ak e λl e2 e=>aZ e λz e3 eq=>by
  subst eq;rw[PV.ref_is e1] at hu;refine bU λG1 hG1=>?_;obtain⟨t,rfl⟩:=PV.isInt e3 hv;obtain⟨D,vs,rfl,hD,hvs⟩:=mr i e2 hu;obtain⟨hl,h0,h1,h2,_⟩:=hC;refine hG1 ?_;rw[hl] at hvs;have hn:z.toNat<ns.length:=(Oi h0).mpr h1;refine bU λG2 hG2=>?_;obtain⟨x,g1,g2⟩:=hvs.at (mm (by rw[aA]; exact hn));have sz:vs.toArray.size=ns.length:=by rw[aK,hvs.len,aA]
  have g1:vs.toArray[z.toNat]?=PD x:=by simpa using g1
  have q:=ic i hq g2 (k:=k);refine hG2 ?_;rcases hD with hD | hD
  ·exact⟨"list",_,jf,hD.typeIs,qD hD h0 (kD h1 h2) g1 q⟩
  ·exact⟨"tuple",_,F.slot_tuple_getitem.lookup,hD.typeIs,getItem_tuple hD (dj (by decide) h0) (kD h1 h2) (by rw[sz,ED (dj (Int.neg_nonpos_of_nonneg (dR _)) h0) h1]; unfold ixN; rw[if_pos h0]) g1 q⟩
theorem Ny {σ:Nat->Option Nat}{r:List (Nat×Bool)}{xs:List Int}{l:List SO}(e1:(Os[j]?).map SO.core=PD (.L (xs.map .i)))(e3:gvL σ Os r=PD l):gvL σ Os ((j,PH) :: r)=PD (.G (.L (xs.map .i)) :: l):=
 aZ e1 λy e2 e=>uu e2 (by show(y.core.rn σ).map SO.G=_; rw[<- e,Pj]; rfl) e3
abbrev J3:List (Str×Nat):=[(aa "n",1),(Ip,2),(aa "digits",3)]
noncomputable abbrev dO (fa:aj)(n:Int)(ns:List Int):List SO:=[.G (.L (ns.map .i)),.G (.C (PD (.i n))),.G (.C (PD (.v (.ref fa)))),.G (.C (PD (.r 0)))]
abbrev tbD (ns:List Int):Tab:=⟨[K8 ns],[],[],[]⟩
structure DOk (ns:List Int)(k:Nat)(a b:Int):Prop where
 h0:0<=a
 h1:a<b
 h2:b - a<=k
 h3:b<=ns.length
theorem Fh (w:aB)(fa:aj)(n:Int)(hn:n=2\/n=4)(ns:List Int)(hb:∀ i,0<=ns.getD i 0/\ns.getD i 0<=4096)(hl3:ns.length<=3):∀ (k:Nat) (lo hi:Int),k<=3->DOk ns k lo hi->
  ConZ (Ix fa Ip GL J3 (dO fa n ns)) w fa k PH (dO fa n ns) [.i lo,.i hi] (.i (dval n ns k lo hi)) [] []
 | 0,lo,hi,_,h=>absurd h.h1 (dQ.mpr (Int.le_of_sub_nonpos h.h2))
 | k+1,lo,hi,hk3,hd=>by
  obtain⟨hlo,hlh,hkl,hle⟩:=hd;have ih:=Fh w fa n hn ns hb hl3 k;refine Bv (T:=tbD ns) (ext:=DS fa [0,1,2,3] (dO fa n ns) (λa b=>dval n ns k a b) (DOk ns k)) 0 [nm "L" (.i lo),nm "R" (.i hi)] ?hb rfl rfl rfl (by decide +kernel) ?hmu (λc hw hk F O=>have G:CtOk _ c (tbD ns):=⟨cE,am.mpr ⟨PI,dz⟩⟩; ⟨O,G,λU U=>xM (T:=tbD ns) O F (bq hk.symm) rfl (by kernel_rfl) λa b h=>hw.symm▸ih a b (n6 hk3) h⟩) λc hw hn' hk F hP hN=>?_
  case hb=>
   rintro q doc pm c' ctv cl as₀ vs ⟨u1,_,rfl,h1,u2,_,rfl,h2,rfl⟩;exact⟨[(aa "L",u1),(aa "R",u2)],by kernel_rfl,am.mpr ⟨by kernel_rfl,am.mpr ⟨by kernel_rfl,λU q=>nomatch q⟩⟩,u1,_,rfl,h1,u2,_,rfl,h2,rfl⟩
  case hmu=>exact λj y e hw=>(g_own (g_own (g_own no_one)) j y e hw).elim
  refine Run.ifN (lo+1 == hi) [] (by kernel_rfl) PI (λe=>?_) (λe=>?_)
  ·have e:=eq_of_beq e;have hC:Al [ns.map PV.i=ns.map .i,0<=lo,lo<(ns.length:Int),(ns.length:Int)<2 ^ 63]:=⟨rfl,hlo,NM hlh hle,NJ (dJ.mpr hl3) (by decide),PI⟩;refine Run.rt (.i (ns.getD lo.toNat 0)) [] _ (by kernel_rfl) hC (hP _ _ [] ?_);rw[show dval n ns (_+1) lo hi=_ from if_pos e]
   kernel_rfl
  ·have e:=ne_of_beq_false e;obtain⟨hs1,hs2⟩:=EC hn hlo hlh (dj hle (dJ.mpr hl3)) e;obtain⟨hm1,hm2⟩:=pF hlo hlh e;have hmul:IntMulOk ((lo+hi).fdiv (2 ^ bw 1) - lo) n:=.of_right (by rcases hn with rfl | rfl<;>decide);have hC:Al [0<=(1:Int),IntMulOk ((lo+hi).fdiv (2 ^ bw 1) - lo) n]:=⟨by decide,hmul,PI⟩;refine Run.blk 2 [nm "R" (.i hi),nm "L" (.i lo),nm "mid" (.i ((lo+hi).fdiv (2 ^ bw 1))),nm "shift" (.i (((lo+hi).fdiv (2 ^ bw 1) - lo)*n))] (dO fa n ns) _ (by kernel_rfl) hC ?_;rw[Bx e] at hP;clear hC hmul;generalize (lo+hi).fdiv (2 ^ bw 1)=mid at*;generalize (mid - lo)*n=shf at*;have hsm:=v8 hn hb (k:=k) (n6 hk3) (lo:=mid) (hi:=hi) (c9 (NJ hlo hm1)) hm2 (dj hle (dJ.mpr hl3));have eg:gvL (gvS ([0,1,2,3].map λi=>(i,PH))) (dO fa n ns) ([0,1,2,3].map λi=>(i,PH))=PD (dO fa n ns):=Ny rfl (by kernel_rfl)
   have hC:Al [bl fa=.ref fa,gvL (gvS ([0,1,2,3].map λi=>(i,PH))) (dO fa n ns++[]) ([0,1,2,3].map λi=>(i,PH))=PD (dO fa n ns),DOk ns k mid hi,0<=shf,shf<=1000000,(dval n ns k mid hi).natAbs<2 ^ 64,bl fa=.ref fa,gvL (gvS ([0,1,2,3].map λi=>(i,PH))) (dO fa n ns++[]) ([0,1,2,3].map λi=>(i,PH))=PD (dO fa n ns),DOk ns k lo mid]:=
    ⟨rfl,eg,⟨c9 (NJ hlo hm1),hm2,OU hm1 hkl,hle⟩,hs1,hs2,hsm,rfl,eg,⟨hlo,hm1,OV hm2 hkl,dj (c9 hm2) hle⟩,PI⟩
   exact Run.rt (.i (dval n ns k mid hi*2 ^ shf.toNat+dval n ns k lo mid)) [] _ (by kernel_rfl) hC (hP _ _ [] (by kernel_rfl))
def EY (b:List aS):Option (aw×aw×aw):=(GU b).bind GO
theorem Run.rtI {k:Wk}{V:Vm}{b:List aS}{bs:List (List aS)}(z:Bool)(C:List Prop)(he:((EY b).bind λq=>Cg (evF k c.w V) Os q.1)=PD (z,[],C))(hC:Al C)
  (h:∃ p Os' C,((EY b).bind λq=>evF k c.w V Os (bif z then q.2.1 else q.2.2))=PD (p,Os',C)/\Al C/\c.P p (Os++Os')):Run k c V Os (b :: bs):=by
 refine bU λG1 hG1=>?_;obtain⟨p,Os',C',h1,h2,h3⟩:=h;refine hG1 ?_;refine ak he λq e1 e2=>ak h1 λq' e3 e4=>ak e1 λe e5 e6=>?_;rw[e1] at e3; cases e3;refine bU λG2 hG2=>?_;obtain⟨pos,hb⟩:=xG e5;obtain⟨px,hx⟩:=ift_is e6;refine hG2 ?_;rw[hb,hx];refine .of λ{s₁} O as hp tk m i=>bc (wpAny_Return_some (IfExp_ (oR ⟨IOk.inv,O.o.h,O.o.u2⟩ (b7 O.toOkc) e2 hC _ _ _ _ _ i λcs h' k' hi U=>?_)));rw[ao] at hi;have fin:∀ v cs' h'' k'',p.is (as++cs++cs') v->Inv k.f (c.at s₁) V m (as++cs++cs') (Os++Os') h''->cont k.f c bs (.ret v) (sh s₁ h'' k''):=λv cs' h'' k'' hv i'=>fH (c:=c) (fl:=.ret v) (λq=>by cases q) (O.o.ret _ _ _ _ _ _ _ _ _ O.o.g0 i' hv h3) bs;cases z with
 | true=>exact(b7 O.toOkc _ _ _ e4).2 h2 _ _ _ _ _ hi λv cs' h'' k'' hv i' U=>fin v cs' h'' k'' hv i'
 | false=>exact(b7 O.toOkc _ _ _ e4).2 h2 _ _ _ _ _ hi λv cs' h'' k'' hv i' U=>fin v cs' h'' k'' hv i'
def tbD2:Tab:=⟨[],[],[],[Dr]⟩
theorem Mm (w:aB)(n:Int)(ns:List Int)(hn:n=2\/n=4)(hb:∀ i,0<=ns.getD i 0/\ns.getD i 0<=4096)(hl3:ns.length<=3):Con w 66 4 PG [.G (.L (ns.map .i))] [.r 0,.i n] (.i (uJ n ns)) [] []:=by
 refine f5 (k:=3) (T:=tbD2) (ext:=extC []) 0 [nm "digits" (.r 0),nm "n" (.i n)] (by kernel_rfl) (p9 λU U=>by kernel_rfl) (by kernel_rfl) (λj y e hw=>(no_one j y e hw).elim) (λc U U U O=>have G:CtOk _ c tbD2:=⟨aW sT cE,dz⟩; ⟨O,G,λU U=>eY O G⟩) λcx hw hn' hP hN hq=>?_;let Q:Option PV->List SO:=λp=>[.G (.L (ns.map .i)),.C p,.C (PD (.i n)),.C (PD (.r 0))];refine Run.fd (nm:=Ip) (cd:=65) GL (J3.map (·.1)) EG ⟨.inr ⟨rfl,rfl,rfl,rfl⟩⟩ GL.pos (λfa=>Q (PD (.v (.ref fa)))) (by kernel_rfl) ⟨by kernel_rfl,by kernel_rfl⟩ hq.2.2.2 ⟨by rw[hq.1]; kernel_rfl,hq.2.1.trans (by kernel_rfl)⟩ (by rw[hw]; kernel_rfl) rfl rfl (λU=>rfl) (by kernel_rfl) (by kernel_rfl) (λU=>by kernel_rfl) λfa pn F=>?_
 have okL:∀ {c2:Cx},(cx.pin pn).Sub c2->c2.Ok (wkAt w 66 1 tbD2 (extC [])).f->∀ V m,ie ⟨(wkAt w 66 1 tbD2 (extC [])).f,c2,c2.env (wkAt w 66 1 tbD2 (extC [])).f,Inv (wkAt w 66 1 tbD2 (extC [])).f c2 V m⟩ (DS fa [0,2,1,3] (dO fa n ns) (λa b=>dval n ns 3 a b) (DOk ns 3) (wkAt w 66 1 tbD2 (extC [])).f tbD2 c2.w V):=λ{c2} s o2 V m=>
  xM o2 (F.sub s) (bq (s.k.trans hq.2.2.1).symm) rfl (by kernel_rfl) λa b h=>(s.w.trans hw).symm▸Fh w fa n hn ns hb hl3 3 a b (aI _) h
 refine Run.wk (T:=tbD2) (ext:=DS fa [0,2,1,3] (dO fa n ns) (λa b=>dval n ns 3 a b) (DOk ns 3)) (λO=>⟨⟨O.o,O.g,okL (Cx.at_sub _ _) O.o⟩,λc2 s o2=>⟨o2,(O.gd c2 s o2).g,okL ((Cx.at_sub _ _).trans s) o2⟩⟩) ?_;have hlen:Al [((ns.map PV.i).length:Int)<2 ^ 63]:=⟨NJ (dJ.mpr (ar (bq (aA _)) hl3)) (by decide),PI⟩;have eg:gvL (gvS ([0,2,1,3].map λi=>(i,PH))) (Q (PD (.v (.ref fa)))) ([0,2,1,3].map λi=>(i,PH))=PD (dO fa n ns):=Ny rfl (by kernel_rfl);refine Run.rtI (!(ns.map PV.i).isEmpty) _ (by kernel_rfl) hlen ?_;cases hns:ns with
 | nil=>exact⟨.i 0,[],[],by kernel_rfl,PI,hP _ _ [] (by rw[hns]; kernel_rfl)⟩
 | cons a r=>
  rw[<- hns];have hl:((ns.map PV.i).length:Int)=ns.length:=by rw[aA]
  have h1:0<ns.length:=by rw[hns]; exact fT _
  have hC:Al [bl fa=.ref fa,gvL (gvS ([0,2,1,3].map λi=>(i,PH))) (Q (PD (.v (.ref fa)))++[]) ([0,2,1,3].map λi=>(i,PH))=PD (dO fa n ns),DOk ns 3 0 ((ns.map PV.i).length:Nat),((ns.map PV.i).length:Int)<2 ^ 63]:=
   ⟨rfl,eg,⟨ip 0,by rw[hl]; exact n9.mpr h1,dj (NY _ (ip 0)) (by rw[hl]; exact dJ.mpr hl3),NT hl⟩,hlen.1,PI⟩
  refine⟨.i (dval n ns 3 0 ((ns.map PV.i).length:Nat)),[],_,?_,hC,hP _ _ [] ?_⟩
  ·rw[show(!(ns.map PV.i).isEmpty)=PG by rw[hns]; rfl]; kernel_rfl
  ·rw[show uJ n ns=dval n ns 3 0 ((ns.map PV.i).length:Nat) by rw[hl]; exact if_neg (cL h1)]
   kernel_rfl
def tbV2:Tab:=⟨[],[],[AA],[xY,xS]⟩
noncomputable abbrev T2 (a b:Int):SO:=.T [.i a,.i b]
theorem Hy (w:aB)(a b n:Int)(hb:b≠0)(hnp:aC a b=PH)(hs:(az a:Int) - n<=4000):Con w 45 1 PH [] [.i a,.i b,.i n] (.r 0) [] [T2 (a.fdiv b) (a.fmod b)]:=by
 refine f5 (k:=0) (T:=tbV2) (ext:=extC []) 0 [nm "a" (.i a),nm "b" (.i b),nm "n" (.i n)] (by kernel_rfl) (m7 λU U U=>by kernel_rfl) (by kernel_rfl) fG (λc U U U O=>have G:CtOk _ c tbV2:=⟨aW p8 (aW wc cE),dz⟩; ⟨O,G,λU U=>eY O G⟩) λcx hw hn' hP hN hq=>?_;refine Run.ifN (decide ((az a:Int) - n<=4000)) [] (by kernel_rfl) PI (λU=>?_) (λe=>absurd hs (of_decide_eq_false e));have hC:Al [b≠0,aC a b=PH]:=⟨hb,hnp,PI⟩;exact Run.rt (.r 0) [T2 (a.fdiv b) (a.fmod b)] _ (by kernel_rfl) hC (hP _ _ [0] (by kernel_rfl))
structure I2Ok (x n:Int):Prop where
 hn:n=2\/n=4
 hx:0<=x
 h2:x<4096
 h3:dg x n<=3
 h1:x≠0->0<dg x n
 h0:0<=((az x:Int)+n - 1).fdiv n
structure D2Ok (n:Int)(ns:List Int):Prop where
 hn:n=2\/n=4
 hb:∀ i,0<=ns.getD i 0/\ns.getD i 0<=4096
 hl:ns.length<=3
structure V2Ok (a b n:Int):Prop where
 hb:b≠0
 hp:aC a b=PH
 hs:(az a:Int) - n<=4000
def Nu:CallR:=⟨.ref 59,λOs ps=>(yb ps).bind λp=>mR PV.int? PV.int? (λx n=>(PV.r Os.length,[.L ((digs n x).map .i)],[I2Ok x n])) p.1 p.2⟩
def NH (ns:List Int):CallR:=⟨.ref 66,λOs ps=>(yb ps).bind λp=>p.1.ref?.bind λj=>(Os[j]?).bind λx=>x.core.lst?.bind λl=>p.2.int?.map λn=>(.i (uJ n ns),[],[l=ns.map .i,D2Ok n ns])⟩
def M7:CallR:=⟨.ref 45,λOs ps=>(jS ps).bind λp=>p.1.int?.bind λa=>p.2.1.int?.bind λb=>p.2.2.int?.map λn=>(.r Os.length,[T2 (a.fdiv b) (a.fmod b)],[V2Ok a b n])⟩
section
variable {fs:Fs}{c:Cx}
theorem GP (hk:4<=c.k)(ht:c.tb=PG)(O:c.Ok fs):b8 fs c Nu:=⟨dk O (show dN c.w 59 by kernel_rfl) rfl,λ{Os ps q} e hC V m as h vs i hv E Q t hq=>ak e λp e1 e=>vu e λx n e2 e3 eq=>by
 subst eq;obtain⟨⟨h1,h2,h3,h4,h5,h6⟩,_⟩:=hC;rw[two_is e1,PV.int_is e2,PV.int_is e3] at hv;obtain⟨u,v,rfl,⟨t1,rfl⟩,⟨t2,rfl⟩⟩:=hv.two;exact Con.call (Mk c.w x n h1 h2 h3 h4 h5 h6) rfl hk (λU=>ht) O i Giv.nil lw ⟨_,_,rfl,⟨t1,rfl⟩,_,_,rfl,⟨t2,rfl⟩,rfl⟩ rfl (by show((SO.L _).rn _).bind _=_; rw[Pj]; rfl) hq⟩
theorem Hz (hk:4<=c.k)(ht:c.tb=PG)(O:c.Ok fs):b8 fs c (NH ns):=⟨dk O (show dN c.w 66 by kernel_rfl) rfl,λ{Os ps q} e hC V m as h vs i hv E Q t hq=>ak e λp e1 e=>ak e λj e2 e=>ak e λx e3 e=>ak e λl e4 e=>aZ e λn e5 eq=>by
 subst eq;obtain⟨hl,⟨h1,h2,h3⟩,_⟩:=hC;rw[two_is e1,PV.ref_is e2,PV.int_is e5] at hv;obtain⟨u,v,rfl,hu,⟨t2,rfl⟩⟩:=hv.two;have lv:x.live:=by cases x<;>first | trivial | exact av e4
 have e4:=SO.lst_is e4;obtain⟨D,rfl,g⟩:=Giv.one (y:=.L (ns.map .i)) i e3 lv (by rw[e4,hl]; exact Pj _ _) hu;exact Con.call (Mm c.w n ns h1 h2 h3) rfl hk (λU=>ht) O i g no_one ⟨_,_,rfl,⟨D,rfl,rfl⟩,_,_,rfl,⟨t2,rfl⟩,rfl⟩ rfl rfl hq⟩
theorem Fy (hk:1<=c.k)(O:c.Ok fs):b8 fs c M7:=⟨dk O (show dN c.w 45 by kernel_rfl) rfl,λ{Os ps q} e hC V m as h vs i hv E Q t hq=>ak e λp e1 e=>ak e λa e2 e=>ak e λb e3 e=>aZ e λn e4 eq=>by
 subst eq;obtain⟨⟨h1,h2,h3⟩,_⟩:=hC;rw[f9 e1,PV.int_is e2,PV.int_is e3,PV.int_is e4] at hv;obtain⟨u,s,rfl,⟨t1,rfl⟩,hv⟩:=hv;obtain⟨v,x,rfl,⟨t2,rfl⟩,⟨t3,rfl⟩⟩:=hv.two;exact Con.call (Hy c.w a b n h1 h2 h3) rfl hk (λz=>nomatch z) O i Giv.nil lw ⟨_,_,rfl,⟨t1,rfl⟩,_,_,rfl,⟨t2,rfl⟩,_,_,rfl,⟨t3,rfl⟩,rfl⟩ rfl rfl hq⟩
end
def dpS (n b:Int)(p:List Int×Int)(d:Int):List Int×Int:=(p.1++[(uH n p.2 d).fdiv b],(uH n p.2 d).fmod b)
theorem pZ (n b:Int):∀ (l:List Int) (r:Int) (qs:List Int),dpRun n b l r qs=((l.foldl (dpS n b) (qs.reverse,r)).1.reverse,(l.foldl (dpS n b) (qs.reverse,r)).2)
 | [],r,qs=>by rw[List.foldl_nil,List.reverse_reverse]; rfl
 | d :: ds,r,qs=>by
  refine(?_:dpRun n b ds _ _=_);rw[pZ n b ds,jo]; rfl
theorem ti (n b:Int):∀ (l:List Int) (p:List Int×Int),(l.foldl (dpS n b) p).1.length=p.1.length+l.length
 | [],_=>rfl
 | d :: ds,p=>by
  rw[fc,ti n b ds];refine(?_:(p.1++[_]).length+_=_);rw[aJ,List.length_singleton,cV,N8,NZ 1]
theorem th {n b:Int}(hb:0<b):∀ (l:List Int) (p:List Int×Int),0<=p.2/\p.2<b->0<=(l.foldl (dpS n b) p).2/\(l.foldl (dpS n b) p).2<b
 | [],_,h=>h
 | d :: ds,p,_=>th hb ds _ (A5 hb)
theorem Hp {n b r d:Int}(hn:n=2\/n=4)(hb:0<b)(hb2:b<256)(r0:0<=r)(r1:r<b)(d0:0<=d)(d1:d<=4096):Al [0<=n,n<=1000000,r.natAbs<2 ^ 64,V2Ok (r*2 ^ n.toNat+d) b n]:=by
 have h:(r*2 ^ n.toNat+d).natAbs<2 ^ 64:=by
  have pw:0<=(2:Int) ^ n.toNat/\(2:Int) ^ n.toNat<=16:=by rcases hn with rfl | rfl<;>decide
  exact OE (NU (Od r0 pw.1) d0) (NJ (Oq (Int.mul_le_mul (c:=256) (d:=16) (c9 (kD r1 hb2)) pw.2 pw.1 (by decide)) d1) (by decide))
 exact⟨c9 (OO hn).1,dj (OO hn).2 (by decide),OE r0 (kD (kD r1 hb2) (by decide)),⟨Ov hb,bB (OE (c9 hb) (kD hb2 (by decide))),Ek (c9 (OO hn).1) h⟩,PI⟩
def tbDp (ns:List Int):Tab:=⟨[],[],[AA],[xY,Nu,M7,NH ns]⟩
abbrev Hq (a b n:Int)(r:Int)(V:Vm):Vm:=[nm "a" (.i a),nm "b" (.i b),nm "n" (.i n),nm "a_digits" (.r 0),nm "r" (.i r),nm "q_digits" (.r 1)]++V
theorem Ml (w:aB)(a b:Int)(ok:DpOk a b):Con w 73 5 PG [] [.i a,.i b] (.r 0) [] [T2 (a.fdiv b) (a.fmod b)]:=by
 obtain⟨hn,hb,ha,ha2,hb2,h3,h1,h0,hdig,hlen,hqs,hq,hr⟩:=ok
 refine f5 (k:=4) (T:=tbDp (dpRun (az b) b (digs (az b) a).reverse 0 []).1) (ext:=extC []) 0 [nm "a" (.i a),nm "b" (.i b)] (by kernel_rfl) (p9 λU U=>by kernel_rfl) (by kernel_rfl) fG
  (λc U hk ht O=>have G:CtOk _ c (tbDp (dpRun (az b) b (digs (az b) a).reverse 0 []).1):=⟨aW p8 (aW (GP (bq hk.symm) ht O) (aW (Fy (hk▸by decide) O) (aW (Hz (bq hk.symm) ht O) cE))),dz⟩; ⟨O,G,λU U=>eY O G⟩) λcx hw hn' hP hN U=>?_
 refine Run.blk 1 [nm "a" (.i a),nm "b" (.i b),nm "n" (.i (az b:Nat))] [] [] (by kernel_rfl) PI ?_;generalize ((az b:Nat):Int)=n at*;have hi:Al [I2Ok a n]:=⟨⟨hn,ha,ha2,h3,h1,h0⟩,PI⟩;refine Run.blk 3 (Hq a b n 0 []) [.L ((digs n a).map .i),.L []] _ (by kernel_rfl) hi ?_;clear hi;generalize hds:digs n a=ds at*;have eP:=pZ n b ds.reverse 0 [];have eL:=ti n b ds.reverse ([],0);have eR:=th (n:=n) hb ds.reverse ([],0) ⟨ip _,hb⟩;generalize dpRun n b ds.reverse 0 []=NS at*;subst eP;let P:Nat->List Int×Int:=λi=>(ds.reverse.take i).foldl (dpS n b) ([],0);have hl0:ds.reverse.length<=3:=by rw[bV]; exact hlen
 refine Run.lp (α:=Unit) [Lj] (.one (aa "a_digit")) ((ds.map .i).reverse.map .one) [] [] [0] [0,1] (λi U=>Hq a b n (P i).2 []) (λi U=>[.L (ds.map .i),.L ((P i).1.map .i)]) (λU U=>True) (λU U=>False) () (by kernel_rfl) PI rfl (λU U=>rfl) rfl (by rw[hn']; rfl) rfl rfl PI (λi x U os c' w' n' P' N' B' ex U=>?_) (λU U=>?_) (λU U q=>q.elim)
 ·rw[<- gT] at ex;obtain⟨d,rfl,ed⟩:=EL ex;refine⟨Hq a b n (P i).2 [nm "a_digit" (.i d)],[.Z (os 0) (.L (ds.map .i)),.L ((P i).1.map .i)],rfl,by kernel_rfl,?_⟩;have hN1:=N' () PI;have pl:=ti n b (ds.reverse.take i) ([],0);have pr:=th (n:=n) hb (ds.reverse.take i) ([],0) ⟨ip _,hb⟩;have pd:=hdig d (oF.mp (dr ed));have ps:P (i+1)=dpS n b (P i) d:=uw ed _;rw[ps] at hN1
  have pl:(P i).1.length<=3:=by
   have e:(P i).1.length=0+(ds.reverse.take i).length:=pl;rw[e,cA]; exact ar (List.length_take_le' ..) hl0
  have pr:0<=(P i).2/\(P i).2<b:=pr;clear ps ed;generalize P i=p at*;obtain⟨l,r⟩:=p;have hC:=Hp hn hb hb2 pr.1 pr.2 pd.1 pd.2;refine Run.asT (Hq a b n ((uH n r d).fmod b) [nm "a_digit" (.i d),nm "q_digit" (.i ((uH n r d).fdiv b))]) [.Z (os 0) (.L (ds.map .i)),.L (l.map .i),T2 ((uH n r d).fdiv b) ((uH n r d).fmod b)] _ (by kernel_rfl) hC ?_;have hA:Al [(l.map PV.i).length<=1000]:=⟨by rw[aA]; exact ar pl (by decide),PI⟩;refine Run.blk 1 (Hq a b n ((uH n r d).fmod b) [nm "a_digit" (.i d),nm "q_digit" (.i ((uH n r d).fdiv b))]) [.Z (os 0) (.L (ds.map .i)),.L (l.map .i++[.i ((uH n r d).fdiv b)]),T2 ((uH n r d).fdiv b) ((uH n r d).fmod b)] _ (by kernel_rfl) hA ?_;rw[show l.map PV.i++[.i ((uH n r d).fdiv b)]=(l++[(uH n r d).fdiv b]).map .i by rw[eZ]; rfl];refine Run.gc [0,1] [] [aa "a",aa "b",aa "n",aa "a_digits",aa "r",aa "q_digits"] [0,1] (Hq a b n ((uH n r d).fmod b) []) [.Z (os 0) (.L (ds.map .i)),.L ((l++[(uH n r d).fdiv b]).map .i)] n' (by kernel_rfl) (by kernel_rfl) (km rfl (JE _ _ _) (km rfl (yF _ _) JF)) ?_;exact Run.fe (by kernel_rfl) hN1 rfl (by kernel_rfl)
 ·have hP0:P ((ds.map PV.i).reverse.map It.one).length=ds.reverse.foldl (dpS n b) ([],0):=by
   refine(?_:(ds.reverse.take _).foldl _ _=_);rw[aA,bV,aA,<- bV,dK]
  rw[hP0];clear hP0;have eL:(ds.reverse.foldl (dpS n b) ([],0)).1.length<=3:=by rw[eL]; exact(cA _).symm▸hl0
  change ∀ i,0<=(ds.reverse.foldl (dpS n b) ([],0)).1.reverse.getD i 0/\(ds.reverse.foldl (dpS n b) ([],0)).1.reverse.getD i 0<=4096 at hqs;change uJ n (ds.reverse.foldl (dpS n b) ([],0)).1.reverse=a.fdiv b at hq;change (ds.reverse.foldl (dpS n b) ([],0)).2=a.fmod b at hr;refine(?_:Run (wkAt w 73 0 (tbDp (ds.reverse.foldl (dpS n b) ([],0)).1.reverse) (extC [])) _ _ _ _);generalize ds.reverse.foldl (dpS n b) ([],0)=p at*;obtain⟨l,r⟩:=p;have hr:r=_:=hr;rw[<- hq,<- hr] at hP;have hA:Al [(l.map PV.i).length<=sizeLine,(l.map PV.i).reverse=l.reverse.map .i,D2Ok n l.reverse]:=⟨by rw[aA]; exact ar eL (by decide),gT.symm,⟨hn,hqs,by rw[bV]; exact eL⟩,PI⟩;refine Run.blk 2 (Hq a b n r [nm "q" (.i (uJ n l.reverse))]) [.L (ds.map .i),.L (l.map .i).reverse] _ (by kernel_rfl) hA ?_;exact Run.rt (.r 2) [T2 (uJ n l.reverse) r] [] (by kernel_rfl) PI (hP _ _ [2] (by kernel_rfl))
def NG:CallR:=⟨.ref 73,λOs ps=>(yb ps).bind λp=>mR PV.int? PV.int? (λa b=>(PV.r Os.length,[T2 (a.fdiv b) (a.fmod b)],[DpOk a b])) p.1 p.2⟩
def Nc (D:Int->Int->Prop):CallR:=⟨.ref 80,λOs ps=>(yb ps).bind λp=>mR PV.int? PV.int? (λa b=>(PV.r Os.length,[T2 (a.fdiv b) (a.fmod b)],[D a b])) p.1 p.2⟩
section
variable {fs:Fs}{c:Cx}
theorem Hr (hk:5<=c.k)(ht:c.tb=PG)(O:c.Ok fs):b8 fs c NG:=⟨dk O (show dN c.w 73 by kernel_rfl) rfl,λ{Os ps q} e hC V m as h vs i hv E Q t hq=>ak e λp e1 e=>vu e λx n e2 e3 eq=>by
 subst eq;rw[two_is e1,PV.int_is e2,PV.int_is e3] at hv;obtain⟨u,v,rfl,⟨t1,rfl⟩,⟨t2,rfl⟩⟩:=hv.two;exact Con.call (Ml c.w x n hC.1) rfl hk (λU=>ht) O i Giv.nil lw ⟨_,_,rfl,⟨t1,rfl⟩,_,_,rfl,⟨t2,rfl⟩,rfl⟩ rfl rfl hq⟩
abbrev DmCon (w:aB)(k:Nat)(D:Int->Int->Prop):Prop:=∀ a b,D a b->Con w 80 k PG [] [.i a,.i b] (.r 0) [] [T2 (a.fdiv b) (a.fmod b)]
theorem zR {D:Int->Int->Prop}{k:Nat}(K:DmCon c.w k D)(hk:k<=c.k)(ht:c.tb=PG)(O:c.Ok fs):b8 fs c (Nc D):=⟨dk O (show dN c.w 80 by kernel_rfl) rfl,λ{Os ps q} e hC V m as h vs i hv E Q t hq=>ak e λp e1 e=>vu e λx n e2 e3 eq=>by
 subst eq;rw[two_is e1,PV.int_is e2,PV.int_is e3] at hv;obtain⟨u,v,rfl,⟨t1,rfl⟩,⟨t2,rfl⟩⟩:=hv.two;exact Con.call (K x n hC.1) rfl hk (λU=>ht) O i Giv.nil lw ⟨_,_,rfl,⟨t1,rfl⟩,_,_,rfl,⟨t2,rfl⟩,rfl⟩ rfl rfl hq⟩
end
def tbDm (D:Int->Int->Prop):Tab:=⟨[],[],[],[NG,Nc D]⟩
structure DmH (D:Int->Int->Prop)(a b:Int):Prop where
 h:(0<b/\0<=a/\DpOk a b)\/(b=9/\a<0/\D (bO a) 9)\/(b<0/\D (-a) (-b))
theorem Hx {k:Nat}{D:Int->Int->Prop}(hk5:5<=k)(K:DmCon w k D):DmCon w (k+1) (DmH D):=λa b ⟨hab⟩=>by
 refine f5 (k:=k) (T:=tbDm D) (ext:=extC []) 0 [nm "a" (.i a),nm "b" (.i b)] (by kernel_rfl) (p9 λU U=>by kernel_rfl) (by kernel_rfl) fG
  (λc hw hk ht O=>have G:CtOk _ c (tbDm D):=⟨aW (Hr (hk▸hk5) ht O) (aW (zR (hw.symm▸K) (bq hk.symm) ht O) cE),dz⟩; ⟨O,G,λU U=>eY O G⟩) λcx hw hn' hP hN U=>?_
 have hb0:(b == 0)=PH:=beq_eq_false_iff_ne.mpr (hab.elim (λh=>Ov h.1) λh=>h.elim (λh=>h.1.symm▸by decide) λh=>Int.ne_of_lt h.1);refine Run.if (b == 0) [] [] (by kernel_rfl) PI (λq=>by rw[hb0] at q; cases q) λU=>Run.if (decide (b<0)) [] [] (by kernel_rfl) PI (λq=>?_) λq=>Run.if (decide (a<0)) [] [] (by kernel_rfl) PI (λq'=>?_) λq'=>?_
 ·have q:=of_decide_eq_true q;obtain⟨_,hD⟩:=(hab.resolve_left λh=>Int.lt_asymm q h.1).resolve_left λh=>absurd (h.1▸q) (by decide);have hC:Al [D (-a) (-b)]:=⟨hD,PI⟩;refine Run.asT [nm "a" (.i a),nm "b" (.i b),nm "q" (.i ((-a).fdiv (-b))),nm "r" (.i ((-a).fmod (-b)))] [T2 ((-a).fdiv (-b)) ((-a).fmod (-b))] _ (by kernel_rfl) hC ?_;refine Run.rt (.r 1) [T2 ((-a).fdiv (-b)) (-((-a).fmod (-b)))] [] (by kernel_rfl) PI (hP _ _ [1] ?_);rw[<- Int.neg_fdiv_neg a b,show a.fmod b=-((-a).fmod (-b)) by rw[Int.neg_fmod_neg,y7]]
  kernel_rfl
 ·have q:=of_decide_eq_false q;have q':=of_decide_eq_true q';obtain⟨rfl,_,hD⟩:=(hab.resolve_left λh=>nq.mpr q' h.2.1).resolve_right λh=>q h.1;have hC:Al [D (bO a) 9]:=⟨hD,PI⟩;refine Run.asT [nm "a" (.i a),nm "b" (.i 9),nm "q" (.i ((bO a).fdiv 9)),nm "r" (.i ((bO a).fmod 9))] [T2 ((bO a).fdiv 9) ((bO a).fmod 9)] _ (by kernel_rfl) hC ?_;refine Run.rt (.r 1) [T2 (bO ((bO a).fdiv 9)) (9+bO ((bO a).fmod 9))] [] (by kernel_rfl) PI (hP _ _ [1] ?_)
  have e:a.fdiv 9=bO ((bO a).fdiv 9)/\a.fmod 9=9+bO ((bO a).fmod 9):=by
   rw[Mine.Iw,Mine.Iw,Mine.Iw,bK _ (by decide),bK _ (by decide),Aj _ (by decide),Aj _ (by decide)];lia
  rw[e.1,e.2]
  kernel_rfl
 ·have q:=of_decide_eq_false q;have q':=of_decide_eq_false q';obtain⟨_,_,ok⟩:=hab.resolve_right λh=>h.elim (λz=>q' z.2.1) λz=>q z.1;have hC:Al [DpOk a b]:=⟨ok,PI⟩;exact Run.rt (.r 0) [T2 (a.fdiv b) (a.fmod b)] _ (by kernel_rfl) hC (hP _ _ [0] (by kernel_rfl))
theorem Hs (w:aB):DmCon w 8 DvOk:=λa b ok=>
 have K0:DmCon w 5 λU U=>False:=λU U h=>h.elim
 Hx (by decide) (Hx (by decide) (Hx (by decide) K0)) a b (by
  have dp9:∀ {a:Int},0<=a->a<1024->DmH (λU U=>False) a 9:=λh0 h1=>⟨.inl ⟨by decide,h0,BA h0 h1⟩⟩
  have dm9:∀ {a:Int},-1024<=a->a<1024->DmH (DmH λU U=>False) a 9:=λ{a} h0 h1=>by
   by_cases h:0<=a
   ·exact⟨.inl ⟨by decide,h,BA h h1⟩⟩
   ·exact⟨.inr (.inl ⟨rfl,nq.mp h,dp9 (by rw[Mine.Iw]; exact O8 (nq.mp h)) (by rw[Mine.Iw]; exact O7 h0)⟩)⟩
  rcases ok.h with ⟨rfl,h1,h2⟩ | ⟨rfl,h1,h2⟩ | ⟨rfl,h1,h2⟩
  ·by_cases h:0<=a
   ·exact⟨.inl ⟨by decide,h,BA h h2⟩⟩
   ·exact⟨.inr (.inl ⟨rfl,nq.mp h,dm9 (by rw[Mine.Iw]; exact dj (by decide) (O8 (nq.mp h))) (by rw[Mine.Iw]; exact O7 h1)⟩)⟩
  ·exact⟨.inr (.inr ⟨by decide,dm9 (Int.neg_le_neg h2) (Int.neg_lt_of_neg_lt h1)⟩)⟩
  ·exact⟨.inl ⟨by decide,h1,JV h1 h2⟩⟩)
theorem Bz (w:aB)(fs:Fs)(c:Cx)(hw:c.w=w)(hk:8<=c.k)(ht:c.tb=PG)(O:c.Ok fs):b8 fs c KV:=zR (hw.symm▸Hs w) hk ht O
def ScrQ (ns:List Int)(o:Obj):Prop:=o.cls=.type "list"/\∃ vs n,o.data=.seq vs.toArray n/\jr vs ns
theorem ScrQ.nr {o:Obj}(h:ScrQ ns o):¬ IsRec o:=by
 obtain⟨_,vs,n,e,_⟩:=h;rintro ⟨_,_,_,q,_⟩;rw[e] at q; cases q
theorem AM {vs:List af}(h:jr vs ns):IsAll as (ns.map .i) vs:=by
 induction h with
 | nil=>rfl
 | cons _ _ _ ih=>exact⟨_,_,rfl,⟨_,rfl⟩,ih⟩
def IL (ns:List Int):SlR where
 f:=λOs a x y z=>a.ref?.bind λj=>(Os[j]?).bind λo=>o.core.prd?.bind λq=>(KG (ns.map .i) x y z).map λl=>(.r Os.length,[.L l],[q=ScrQ ns,ns.length<=63])
 ok:=λe hC fs c V m as h i H u l r t hu hl hr hz E Q k hq=>ak e λj e1 e=>ak e λx e2 e=>ak e λq e3 e=>aZ e λl' e4 eq=>by
  subst eq;have lv:x.live:=by cases x<;>first | trivial | exact av e3
  rw[PV.ref_is e1] at hu;refine bU λG1 hG1=>?_;obtain⟨D,o,rfl,h1,h2⟩:=i.get e2 lv hu;refine hG1 ?_;rw[SO.prd_is e3,hC.1] at h2;refine bU λG2 hG2=>?_;obtain⟨⟨g1,vs,n,g2,g3⟩,_⟩:=h2;have h3:IsAll as (ns.map .i) vs:=AM g3;obtain⟨z0,us,g4,g5⟩:=zD e4 h3;have L0:(sh c.s₀ (h.push (sliceO l r t)) k).heap.IsList D vs.toArray:=⟨_,ag _ h1,g1,n,g2⟩;refine hG2 ?_;refine⟨"list",_,jf,L0.typeIs,wpAny_getItem_list_slice (lo:=_) L0 ⟨_,aE _ rfl,rfl,rfl⟩ hl hr hz z0 ?_ (by rw[aK,h3.len,aA]; exact ar hC.2.1 (ci rfl))⟩;rw[g4];exact xd i (λb o e=>ag _ e) hq (o:={ cls:=.type "list",data:=.seq us.toArray }) ⟨us,_,rfl,g5.up⟩ PI rfl
def KB (g:aL)(L:aj)(s₀ s:ai):Prop:=∃ (s':ai) (h:aL) (tk:Nat) (m:Str->Option af),gR s₀ s'/\s=sh s' h tk/\Fr g L h m/\TabNow h 54 36 4 EH/\TabNow h 61 51 4 EG
def lwC (w:aB)(p:cj)(loose:List Str)(mean:j0->Option af)(mg mb:Str->Option af)(g:aL)(L fa:aj)(cd:af)(s₀:ai):Cx where
 w:=w
 hv:=PF
 dp:=2+claimMargin
 un:=7
 k:=9
 gd:=PD []
 q:=S' "law"
 fa:=fa
 cd:=cd
 cl:=cellsFrom (L+1) (fdAt w 323).scope.names []
 outer:=[]
 A₀:=callerA
 base:=g
 h₀:=g
 L:=L
 p:=p
 loose:=loose
 mean:=mean
 mg:=mg
 mb:=mb
 s₀:=s₀
 gs:=gR s₀
 E:=λU U=>False
 R:=λf s=>f=.ret (.bool PG)/\KB g L s₀ s
 P:=λp U=>p=.v (.bool PG)
 N:=λU U=>False
 B:=λU U=>False
 tb:=PG
 pre:=[]
 np:=[]
 pn:=[]
section
variable {w:aB}{p:cj}{loose:List Str}{mean:j0->Option af}{mg mb:Str->Option af}{g:aL}{L fa l:aj}{cd:af}{oA oB:Obj}{s₀:ai}{vs:List af}{ns:List Int}{T:Tab}{ext:Fs->Tab->aB->Vm->EV->EV}
theorem rB {L:aj}{h₀:aL}{h:aL}{P:aj}{line col:Nat}{q:Str}(T:TabAt L h₀ as Os h P line col q):TabNow h P line col q:=T.elim λo z=>⟨o,z.1,z.2.2.2.2⟩
theorem Go (B:ry callerA g [] g)(X:(hd.heap_39 w.params).In g)(Tp:Top p loose mean mg mb g)(HB:ju s₀.gens):(lwC w p loose mean mg mb g L fa cd s₀).Ok (wkAt w 323 1 T ext).f:=
 ⟨by kernel_rfl,B,X,Tp,(λU z=>nomatch z),rfl,by show(2+claimMargin)+9<recursionLimit; decide,by show 7+20*9+2<cLine; decide,nj,gR.rfl HB,
  λs V m as Os h v p tk g' i hp hP=>by
   have hP:p=.v (.bool PG):=hP;subst hP;exact⟨congrArg Flow.ret hp,s,h,tk,m,g',rfl,i.F,rB (i.t1 rfl),rB (i.t2 rfl)⟩,
  λU U U U U U U U U q=>q.elim,λU U U U U U U U U q=>q.elim⟩
noncomputable abbrev scO (ns:List Int):SO:=.G (.P (ScrQ ns))
theorem K3 {α β:Type _}{a b c x:α}{A B C y:β}(e1:[a,b,c][j]?=PD x)(e2:[A,B,C][j]?=PD y):(j=0/\a=x/\A=y)\/(j=1/\b=x/\B=y)\/(j=2/\c=x/\C=y):=by
 rcases j with _ | _ | _ | j
 ·exact .inl ⟨rfl,ac e1,ac e2⟩
 ·exact .inr (.inl ⟨rfl,ac e1,ac e2⟩)
 ·exact .inr (.inr ⟨rfl,ac e1,ac e2⟩)
 ·exact nomatch e1
theorem Dt {h:aL}{m:Str->Option af}(l61:@k9 Nat _ 61 L)(l54:@k9 Nat _ 54 L)(hL:g.IsList l vs.toArray)(hI:jr vs ns)(dA:oA.data=.cell PF)(dB:oB.data=.cell PF)(F:Fr g L h m)(N:gY g L h [(L+1+1,oA),(L+1,oB),(61,tabObj #[]),(54,tabObj #[])])(ms:m (S' "script")=PD (.ref l)):
  Inv (wkAt w 323 1 T ext).f (lwC w p loose mean mg mb g L fa cd s₀) [nm "script" (.r 0)] m [l,L+1+1,L+1] [scO ns,.C PF,.C PF] h:=by
 have a:=N _ (.head _);have b:=N _ (.tail _ (.head _));have c:=N _ (.tail _ (.tail _ (.head _)));have d:=N _ (.tail _ (.tail _ (.tail _ (.head _))))
 have ap:∀ P:aj,@k9 Nat _ P L->Apart [l,L+1+1,L+1] [scO ns,.C PF,.C PF] P:=λP hP j x e1 e2 hw=>(K3 e1 e2).elim (λz=>(z.2.2▸hw:(scO ns).own)) λz=>z.elim
  (λz=>cP.mpr (a8 L 2) (z.2.1▸hP:@k9 Nat _ (L+2) L)) λz=>cP.mpr (a8 L 1) (z.2.1▸hP:@k9 Nat _ (L+1) L)
 exact hL.elim λo q=>q.2.2.elim λn q2=>have hq:ScrQ ns o:=⟨q.2.1,vs,n,q2,hI⟩
  ⟨F,λx p e=>nM (motive:=λt=>(x == S' "script")=t->∃ v,m x=PD v/\p.is [l,L+1+1,L+1] v) (x == S' "script") (λhx=>nomatch mV hx e) (λhx=>ac ((mU hx).symm.trans e)▸eq_of_beq hx▸⟨_,ms,l,rfl,rfl⟩) rfl,
   λx j e=>xw (as₀:=[l]) (cl:=cellsFrom (L+1) (fdAt w 323).scope.names []) e,rfl,
   λj D x e1 e2=>(K3 e1 e2).elim (λz=>z.2.1▸z.2.2▸λU=>⟨o,⟨hq,hq.nr⟩,F.keep _ _ q.1,λz=>(nomatch z),λU=>q.1⟩) λz=>z.elim (λz=>z.2.1▸z.2.2▸λU=>⟨oA,⟨_,dA,rfl⟩,a.1,λU=>a.2,λz=>absurd PI z⟩) λz=>z.2.1▸z.2.2▸λU=>⟨oB,⟨_,dB,rfl⟩,b.1,λU=>b.2,λz=>absurd PI z⟩,
   λj k D x y e1 e2 e3 e4 hx hy=>(K3 e1 e3).elim (λz=>(z.2.2▸hx:(scO ns).own).elim) λz=>(K3 e2 e4).elim (λz'=>(z'.2.2▸hy:(scO ns).own).elim) λz'=>z.elim (λz=>z'.elim (λz'=>z.1.trans z'.1.symm) λz'=>absurd (z.2.1.trans z'.2.1.symm) (eG _)) λz=>z'.elim (λz'=>absurd (z'.2.1.trans z.2.1.symm) (eG _)) λz'=>z.1.trans z'.1.symm,
   λU=>⟨_,d.1,d.2.1,d.2.2,ap _ l54,.inl rfl⟩,λU=>⟨_,c.1,c.2.1,c.2.2,ap _ l61,.inl rfl⟩,λU h=>(nomatch h),λU h=>nomatch h⟩
end
def Ph (ps:List PV):List (Nat×Bool):=(ps.filterMap PV.ref?).map λi=>(i,PH)
def JX (a:aj)(G:List PV->List SO->Option (PV×List SO×List Prop)):CallR:=⟨.ref a,λOs ps=>if dy ((Ph ps).map (·.1))=PG then(gvL (gvS (Ph ps)) Os (Ph ps)).bind λOs₀=>(tD (gvS (Ph ps)) ps).bind λps₀=>(G ps₀ Os₀).bind λr=>(r.1.rn (sigC Os₀.length Os.length)).bind λp=>(uW (sigC Os₀.length Os.length) r.2.1).map λys=>(p,ys,r.2.2) else PF⟩
section
variable {f:Fs}{c:Cx}{a:aj}{kk:Nat}{tb:Bool}{G:List PV->List SO->Option (PV×List SO×List Prop)}
theorem Ec (hk:kk<=c.k)(ht:tb=PG->c.tb=PG)(O:c.Ok f)(hd:dN c.w a)(K:∀ ps Os r,G ps Os=PD r->Al r.2.2->Con c.w a kk tb Os ps r.1 [] r.2.1):b8 f c (JX a G):=
 ⟨dk O hd rfl,λ{Os ps q} e hC V m as h vs i hv E Q t hq=>iteE e λhn e=>ak e λOs₀ e1 e=>ak e λps₀ e2 e=>ak e λr e3 e=>ak e λp e4 e=>aZ e λys e5 eq=>by
  subst eq;obtain⟨as₀,gv,hg,_⟩:=Giv.ofs i (Ph ps) hn e1;refine Con.call (K ps₀ Os₀ r e3 hC) rfl hk ht O i gv (λj y ey hy=>?_) (Om (λj t a q1 q2=>?_) e2 hv) e4 e5 hq
  ·obtain⟨d,x,q1,_,q3⟩:=(lC e1).2 j y ey;rw[Ph,aG] at q1;refine aZ q1 λU U q4=>?_;subst q4;exact aZ q3 λz U eq=>by rw[eq] at hy; exact hy
  ·have h3:=pL _ q1;rw[aG] at h3;exact aZ h3 λd h4 eq=>by rw[eq] at q2; exact hg t d a h4 q2⟩
abbrev DN (a:aj)(ps₀:List PV)(Os₀:List SO)(p:PV)(ys:List SO):CallR:=JX a λps Os=>PD (p,ys,[ps=ps₀,Os=Os₀])
theorem s7 (hk:kk<=c.k)(ht:tb=PG->c.tb=PG)(O:c.Ok f)(hd:dN c.w a){ps₀:List PV}{Os₀:List SO}{p:PV}{ys:List SO}(K:Con c.w a kk tb Os₀ ps₀ p [] ys):b8 f c (DN a ps₀ Os₀ p ys):=Ec hk ht O hd λps Os r e hC=>by
 cases e;obtain⟨q1,q2,_⟩:=hC;rw[q1,q2];exact K
end
def tbL (ns:List Int)(rs:List CallR):Tab:=⟨[ln,l5],[IL ns,oY],[],rs⟩
section
variable {f:Fs}{c:Cx}{ns:List Int}{rs:List CallR}
theorem okL (O:c.Ok f)(h:∀ r∈rs,b8 f c r):Wk.Okc ⟨f,tbL ns rs,extC [mC]⟩ c:=
 have G:CtOk f c (tbL ns rs):=⟨h,am.mpr ⟨PI,am.mpr ⟨PI,dz⟩⟩⟩
 ⟨O,G,λU U=>eY O G⟩
end
abbrev wkL (w:aB)(ns:List Int)(rs:List CallR):Wk:=wkAt w 323 1 (tbL ns rs) (extC [mC])
abbrev lO (ns:List Int)(l:Option PV)(t:Option PV)(O:List SO):List SO:=[scO ns,.C l,.C t]++O
theorem Lc (a:Int×Int×Int):∀ (n:Nat) (v:Int),∃ b:Int×Int×Int,[a.1,a.2.1,a.2.2].set n v=[b.1,b.2.1,b.2.2]
 | 0,v=>⟨(v,a.2),rfl⟩
 | 1,v=>⟨(a.1,v,a.2.2),rfl⟩
 | 2,v=>⟨(a.1,a.2.1,v),rfl⟩
 | _+3,_=>⟨a,rfl⟩
theorem Ju (hw:c.w=w)(hn:c.np=[])(hl:ns.length<=63)(h:∀ x y z:Int,Run (wkL w ns []) c [nm "cells" (.r 3)] (lO ns PF PF [sL3 x y z]) [(bn w 323).drop 2]):
  Run (wkL w ns []) c [nm "script" (.r 0)] (lO ns PF PF []) [bn w 323]:=by
 subst hw;refine Run.blk 1 [nm "script" (.r 0),nm "cells" (.r 3)] (lO ns PF PF [sL3 689 12356 814]) [] (by kernel_rfl) PI ?_;refine Run.lp (α:=Int×Int×Int) [mC] (.tup [aa "place",aa "drawn"]) (nH 0 ((ns.map PV.i).take 60)) [.L ((ns.map PV.i).take 60)] [ScrQ ns=ScrQ ns,ns.length<=63] [4] [3,4] (λU U=>[nm "script" (.r 0),nm "cells" (.r 3)]) (λU a=>lO ns PF PF [sL3 a.1 a.2.1 a.2.2,.L ((ns.map PV.i).take 60)]) (λU U=>True) (λU U=>False) (689,12356,814) (by kernel_rfl) ⟨rfl,hl,PI⟩ rfl (λU U=>rfl) rfl (by rw[hn]; rfl) rfl rfl PI (λi x a os c' w' n' P' N' B' ex ha=>?_) (λa ha=>?_) (λU U q=>q.elim)
 ·obtain⟨d,rfl,_⟩:=Bu (List.map_take▸ex);have z0:0<=((i:Nat):Int).fmod 3:=bu _ (by decide);have z1:((i:Nat):Int).fmod 3<3:=bJ _ (by decide);refine⟨[nm "script" (.r 0),nm "cells" (.r 3),nm "place" (.i (i:Nat)),nm "drawn" (.i d)],_,rfl,rfl,?_⟩;refine Run.blk 1 [nm "script" (.r 0),nm "cells" (.r 3),nm "place" (.i (i:Nat)),nm "drawn" (.i d)] (lO ns PF PF [.L (([a.1,a.2.1,a.2.2].set (((i:Nat):Int).fmod 3).toNat ([a.1,a.2.1,a.2.2].getD (((i:Nat):Int).fmod 3).toNat 0+d.fmod (10 ^ 6))).map .i),.Z (os 4) (.L ((ns.map PV.i).take 60))]) [(3:Int)≠0,(0:Int)<=6,((az 10:Nat):Int)*6<=2 ^ 27,(10:Int) ^ 6≠0,0<=((i:Nat):Int).fmod 3,((i:Nat):Int).fmod 3<3,((i:Nat):Int).fmod 3<2 ^ 63] (by kernel_rfl) ⟨by decide,by decide,by decide +kernel,by decide,z0,z1,kD z1 (by decide),PI⟩ ?_;obtain⟨b,hb⟩:=Lc a (((i:Nat):Int).fmod 3).toNat ([a.1,a.2.1,a.2.2].getD (((i:Nat):Int).fmod 3).toNat 0+d.fmod (10 ^ 6));rw[hb];exact Run.ns [S' "script",S' "cells"] [nm "script" (.r 0),nm "cells" (.r 3)] (by kernel_rfl) (Run.fe (by kernel_rfl) (N' b PI) rfl rfl)
 ·exact Run.gc [0,1,2,3] [] [S' "cells"] [] [nm "cells" (.r 3)] (lO ns PF PF [sL3 a.1 a.2.1 a.2.2]) hn (by kernel_rfl) (by kernel_rfl) (by kernel_rfl) (h _ _ _)
noncomputable def nN (x:Int):Int:=x.fmod 1458 - 729
noncomputable def eE (y:Int):Int:=y.fmod 3
noncomputable def whN (y:Int):Int:=(y.fdiv 3).fmod 701
noncomputable def shN (y:Int):Int:=(y.fdiv 2103).fmod 4
noncomputable def kdN (y:Int):Int:=(y.fdiv 8412).fmod 4
abbrev lV (x y:Int)(r:Vm):Vm:=[nm "third" (.i (eE y)),nm "number" (.i (nN x)),nm "kind" (.i (kdN y)),nm "shift" (.i (shN y)),nm "white" (.i (whN y))]++r
theorem Jt {x y z:Int}(hw:c.w=w)(hn:c.np=[])(h:∀ b:Bool,Run (wkL w ns []) c (lV x y [nm "cells" (.r 3),nm "names" (.s (bif b then S' "rgb" else S' "RGB"))]) (lO ns PF PF [sL3 x y z]) [(bn w 323).drop 5]):
  Run (wkL w ns []) c [nm "cells" (.r 3)] (lO ns PF PF [sL3 x y z]) [(bn w 323).drop 2]:=by
 subst hw;refine Run.asS [S' "number",S' "third"] [nm "cells" (.r 3),nm "third" (.i (eE y)),nm "number" (.i (nN x))] (lO ns PF PF [sL3 x y z,.T [.i (nN x),.i (eE y)]]) [-(3:Int)<=0,(0:Int)<3,(1458:Int)≠0,-(3:Int)<=1,(1:Int)<3,(3:Int)≠0] (by kernel_rfl) (by kernel_rfl) ⟨by decide,by decide,by decide,by decide,by decide,by decide,PI⟩ ?_;refine Run.asS [S' "white",S' "shift",S' "kind"] [nm "cells" (.r 3),nm "third" (.i (eE y)),nm "number" (.i (nN x)),nm "kind" (.i (kdN y)),nm "shift" (.i (shN y)),nm "white" (.i (whN y))] (lO ns PF PF [sL3 x y z,.T [.i (nN x),.i (eE y)],.T [.i (whN y),.i (shN y),.i (kdN y)]]) [-(3:Int)<=1,(1:Int)<3,(3:Int)≠0,aC y 3=PH,(701:Int)≠0,-(3:Int)<=1,(1:Int)<3,(2103:Int)≠0,aC y 2103=PH,(4:Int)≠0,-(3:Int)<=1,(1:Int)<3,(8412:Int)≠0,aC y 8412=PH,(4:Int)≠0] (by kernel_rfl) (by kernel_rfl) ⟨by decide,by decide,by decide,bB (by decide),by decide,by decide,by decide,by decide,bB (by decide),by decide,by decide,by decide,by decide,bB (by decide),by decide,PI⟩ ?_
 have fin:∀ b:Bool,Run (wkL c.w ns []) c [nm "cells" (.r 3),nm "third" (.i (eE y)),nm "number" (.i (nN x)),nm "kind" (.i (kdN y)),nm "shift" (.i (shN y)),nm "white" (.i (whN y)),nm "names" (.s (bif b then S' "rgb" else S' "RGB"))] (lO ns PF PF [sL3 x y z,.T [.i (nN x),.i (eE y)],.T [.i (whN y),.i (shN y),.i (kdN y)]]) [(bn c.w 323).drop 5]:=λb=>
  Run.gc [0,1,2,3] [] [S' "third",S' "number",S' "kind",S' "shift",S' "white",S' "cells",S' "names"] [] _ _ hn (by kernel_rfl) (by kernel_rfl) (by kernel_rfl) (h b)
 exact Run.asI (!((shN y).fmod 2 == 0)) [(2:Int)≠0] (by kernel_rfl) ⟨by decide,PI⟩ (λU=>⟨_,_,[],by kernel_rfl,PI,fin PG⟩) λU=>⟨_,_,[],by kernel_rfl,PI,fin PH⟩
structure LwC (c:Cx)(np:List Nat):Prop where
 is:∃ w p loose mean mg mb g L fa cd s₀ pre pn,c={ lwC w p loose mean mg mb g L fa cd s₀ with pre:=pre,np:=np,pn:=pn }
 np:c.np=np
 hv:c.hv=PF
 gs:∃ s,c.gs=gR s
 k:c.k=9
 tb:c.tb=PG
 P:∀ Os,c.P (.v (.bool PG)) Os
theorem LwC.ins {np:List Nat}{pn:List (aj×Obj)}{la:aj}(H:LwC c np):LwC (c.ins pn j la) (j :: np):=⟨by
  refine bU λG1 hG1=>?_;obtain⟨w,p,loose,mean,mg,mb,g,L,fa,cd,s₀,pre,pn',e⟩:=H.is;subst e;refine hG1 ?_;exact⟨w,p,loose,mean,mg,mb,g,L,fa,cd,s₀,_,_,rfl⟩,congrArg (j :: ·) H.np,H.hv,H.gs,H.k,H.tb,H.P⟩
abbrev Di (b:Bool):Str:=bif b then S' "rgb" else S' "RGB"
abbrev kO (ns:List Int)(l t:Option PV)(l':List Kv)(n:Nat)(O:List SO):List SO:=lO ns l t (.L (nP n l') :: l'.map tE++O)
abbrev kV (x y:Int)(b:Bool)(j:Nat)(r:Vm):Vm:=lV x y ([nm "cells" (.r j),nm "names" (.s (Di b)),nm "kept" (.r 3)]++r)
theorem Js {x y z:Int}{b:Bool}(hw:c.w=w)(H:LwC c [])(h:∀ (c':Cx) (X:aj),c'.w=w->LwC c' [3]->InsC c' X 3->Run (wkL w ns []) c' (kV x y b 7 []) (kO ns PF (PD (.v (.ref X))) (uY b) 4 [sL3 x y z]) [(bn w 323).drop 7]):
  Run (wkL w ns []) c (lV x y [nm "cells" (.r 3),nm "names" (.s (Di b))]) (lO ns PF PF [sL3 x y z]) [(bn w 323).drop 5]:=by
 subst hw;refine Run.blk 1 (lV x y [nm "cells" (.r 3),nm "names" (.s (Di b)),nm "kept" (.r 7)]) (lO ns PF PF (sL3 x y z :: (uY b).map tE++[.L (nP 4 (uY b))])) [fitsSsize 0=PG,(bR (Di b) 0).isSome=PG] (by cases b<;>kernel_rfl) ⟨by decide,by cases b<;>decide +kernel,PI⟩ ?_;refine Run.gc [0,1,2,7,4,5,6,3] [] [S' "third",S' "number",S' "kind",S' "shift",S' "white",S' "cells",S' "names",S' "kept"] [] (kV x y b 7 []) (kO ns PF PF (uY b) 4 [sL3 x y z]) H.np (by kernel_rfl) (by kernel_rfl) (by kernel_rfl) ?_;exact Run.cls (λU=>kV x y b 7 []) (λX=>kO ns PF (PD (.v (.ref X))) (uY b) 4 [sL3 x y z]) (b':=b) (ts:=[4,5,6]) (j:=3) (x:=S' "table") (by kernel_rfl) (by rw[H.k]; decide) rfl (by kernel_rfl) (λX=>by kernel_rfl) λX pn la I=>h (c.ins pn 3 la) X rfl H.ins I
end Nw
end
section
open PySem PySem.W PySem.Calls PySem.Spec PyProof.Rows
namespace Mine
theorem KH {M:nk}{A:be}{E:af->ai->Prop}{s:ai}{K:wE}{x C L f:aj}{h₀:aL}{m:Str->Option af}{ox:Obj}{od:Option Obj}{i v:af}{Q:Unit->ai->Prop}(F:Fr h₀ L s.heap m)(X₀:K.In h₀)(I:InstAt s.heap x ox C od)(hq:noSeq K C=PG)
  (hs:findIn K (.ref C) "__setitem__"=PD (PD (.ref f))) (hf:isFn K (.ref f)=PG)
  (h:wpAny M A (call (.ref f) [.ref x,i,v]) (λU s'=>Q () s') E s):wpAny M A (setItem (.ref x) i v) Q E s:=by
 have X:=X₀.keeps F.keep;unfold setItem sequenceKey;refine bI (ab (ab (I.type.here ?_)));refine ab ((anyM_none X hq).here ?_);rw[if_pos (show(!PH)=PG from rfl)];exact aD (ab (special_fn X I hs (beq_iff_eq.mp hf) (aU h (λU U z=>aD z) λU U z=>z)))
end Mine
end
section
open PySem PySem.W PySem.Calls PySem.Spec PyProof.Rows Mine
namespace Nw
variable {y y':SO}{c:Cx}{kk tk:Nat}{x z:Int}{name:Str}{X:aj}{b:Bool}{w:aB}{Os₀ ys zs:List SO}{ps:List PV}{ds:List Nat}{ns:List Int}
section
variable {k:Wk}{c:Cx}{V:Vm}{Os:List SO}{b:List aS}{bs:List (List aS)}{C:List Prop}
def pTs (k:Wk)(w:aB)(V:Vm)(Os:List SO)(b:List aS):Option (PV×PV×PV×List Prop):=
 (nV b).bind λq=>(zy q.1).bind λt=>if j8 q.2=PH then(evF k w V Os q.2).bind λa=>(evF k w V Os t.1).bind λo=>(evF k w V Os t.2).bind λi=>if(a.2.1.isEmpty&&o.2.1.isEmpty&&i.2.1.isEmpty)=PG then PD (o.1,i.1,a.1,a.2.2++(o.2.2++i.2.2)) else PF else PF
theorem Run.ts {j:Nat}{n s:Str}(he:pTs k c.w V Os b=PD (.v (.ref X),.s n,.s s,C))(hC:Al C)(K:ConZ (x7 X Os₀) c.w 202 kk PH Os₀ [.v (.ref X),.s n,.s s] (.v .none) [y'] ys)(hk:kk<=c.k)(I:InsC c X j)
  (hn:dy (j :: ds)=PG) (hg:gvL (gvS ((j,PG) :: ds.map λi=>(i,PH))) Os ((j,PG) :: ds.map λi=>(i,PH))=PD Os₀) (hy:y'.rn (sigF Os.length (j :: ds))=PD y) (hys:uW (sigF Os.length (j :: ds)) ys=PD zs)
  (h:Run k c V ((Os++zs).set j y) (b.tail :: bs)):Run k c V Os (b :: bs):=
 ak he λq e1 he=>ak he λt e2 he=>iteE he λhc he=>ak he λa e3 he=>ak he λo e4 he=>ak he λi0 e5 he=>iteE he λhz he=>(gM e1).elim λpos e9=>(sub_is e2).elim λsp e8=>by
  obtain⟨z1,z2⟩:=d9.mp hz;obtain⟨z0,z1⟩:=d9.mp z1;have eq:=ac he;have ho:o.1=.v (.ref X):=congrArg (·.1) eq;have hi:i0.1=.s n:=congrArg (·.2.1) eq;have ha:a.1=.s s:=congrArg (·.2.2.1) eq;have eC:a.2.2++(o.2.2++i0.2.2)=C:=congrArg (·.2.2.2) eq;rw[<- eC] at hC;clear eC eq he hz;rw[e8] at e9;rw[e9];refine .one (λ{s₁} O as hp tk m i Q hq U=>lI (Mf O.toOkc e3 z0 hC.left i λv bs1 h1 k1 hv i1=>Mf O.toOkc e4 z1 hC.right.left i1 λu bs2 h2 k2 hu i2=>Mf O.toOkc e5 z2 hC.right.right i2 λx bs3 h3 k3 hx i3=>?_) (oU hc _ _ _)) h;rw[ha] at hv;rw[hi] at hx;rw[ho] at hu;rw[show u=.ref X from hu];have I2:InsC (c.at s₁) X j:=I.sub (Cx.at_sub c s₁);refine bU λG3 hG3=>?_;obtain⟨la,d,A,_⟩:=I2.get i3;obtain⟨t',n',IA⟩:=A.inst;refine hG3 ?_;exact Mine.KH i3.F O.o.x IA (by kernel_rfl) (f:=202) (by kernel_rfl) (by kernel_rfl) (sY (c:=c.at s₁) K hk O.o i3 I2 hn hg (ps:=[.v (.ref X),.s n,.s s]) rfl ⟨_,_,rfl,rfl,_,_,rfl,hx,_,_,rfl,hv.up.up,rfl⟩ (p':=.v .none) rfl hy hys λv bs h' tk' U i4=>hq _ h' tk' m i4)
end
theorem Jr {y:Int}(hw:c.w=w)(H:LwC c [3])(I:InsC c X 3)(h:Run (wkL w ns []) c (kV x y b 6 []) (kO ns PF (PD (.v (.ref X))) (Ch b) 4 [sL3 x y z]) [(bn w 323).drop 8]):
  Run (wkL w ns []) c (kV x y b 7 []) (kO ns PF (PD (.v (.ref X))) (uY b) 4 [sL3 x y z]) [(bn w 323).drop 7]:=by
 subst hw;refine Run.ts (C:=[fitsSsize 2=PG,(bR (Di b) 2).isSome=PG]) (n:=n2 b) (s:=S' "brb") (X:=X) (j:=3) (ds:=[4,5,6]) (y:=.L [.r 5,.r 8]) (zs:=[tE (n2 b,S' "brb")]) (by cases b<;>kernel_rfl) ⟨by decide,by cases b<;>decide +kernel,PI⟩ (Kj c.w X b) (bq H.k.symm) I rfl (by kernel_rfl) rfl rfl ?_;exact Run.gc [0,1,2,3,5,8,7] [] [S' "third",S' "number",S' "kind",S' "shift",S' "white",S' "cells",S' "names",S' "kept"] [3] _ _ H.np (by kernel_rfl) (by kernel_rfl) (by kernel_rfl) h
section
variable {k:Wk}{c:Cx}{V V':Vm}{m:Str->Option af}{as:List aj}{Os Os':List SO}{h:aL}{b:List aS}{bs:List (List aS)}{C:List Prop}{e:aw}{X:aj}{j:Nat}
def Io (k:Wk)(w:aB)(V:Vm)(Os:List SO)(e:aw):Option (Str×PV×List PV×List Prop):=
 (LO e).bind λq=>(ldF w k.f V Os q.1).bind λu=>(rZ (evF k w V) Os q.2.2.1).bind λa=>if(a.2.1.isEmpty&&q.2.2.2.isEmpty)=PG then PD (q.2.1,u,a.1,a.2.2) else PF
structure MetAt (w:aB)(name:Str)(fn:aj):Prop where
 f:findIn (hd.heap_39 w.params) (.ref 289) name=PD (PD (.ref fn))/\isFn (hd.heap_39 w.params) (.ref fn)=PG
 l:∀ la t,getL name (hdE w la t)=PD PF
 k:keepIn (hd.heap_39 w.params) (.ref fn)=PG
theorem ER {fn:aj}(O:k.Okc c)(he:Io k c.w V Os e=PD (name,.v (.ref X),ps,C))(hC:Al C)(M:MetAt c.w name fn)(I:InsC c X j)(i:Inv k.f c V m as Os h){E Q:af->ai->Prop}
  (H:∀ vs bs h' tk',IsAll (as++bs) ps vs->Inv k.f c V m (as++bs) Os h'->wpAny (MP c.w) (c.A k.f) (call (.ref fn) (.ref X :: vs)) Q E (sh c.s₀ h' tk')):wpAny (MP c.w) (c.A k.f) (eval e (c.env k.f)) Q E (sh c.s₀ h tk):=
 ak he λq e1 he=>ak he λu e2 he=>ak he λa e3 he=>iteE he λhz he=>bU λG hG=>
  have z:=d9.mp hz;have E':=ac he;have eq1:q.2.1=name:=congrArg (·.1) E'
  (As e1).elim λa0 w=>w.elim λl w=>w.elim λkws w=>w.elim λpx w=>w.elim λpa w=>w.elim λp w=>hG (by
   rw[w.2.2.2.2,eq1]
   exact rK (kl:=[]) ⟨IOk.inv,O.o.h,O.o.u2⟩ O.o (fL O.o) (b7 O) (e2.trans (congrArg PD (congrArg (·.2.1) E'))) (w.1▸e3) (w.2.1.trans (congrArg PD (aX.mp z.2))) w.2.2.1 w.2.2.2.1 ((congrArg (·.2.2.2) E':a.2.2=C).symm▸hC) (Cc M.k) i (λj=>vT O.o I M.f M.l j) λvs bs h2 t2 hvs i2 U=>by
    rw[aX.mp z.1,ao] at i2;exact H vs bs h2 t2 ((congrArg (·.2.2.1) E':a.1=ps)▸hvs) i2)
theorem rL {fn:Nat}{ps₀:List PV}{p p':PV}(O:k.Okc c)(he:Io k c.w V Os e=PD (name,.v (.ref X),ps,C))(hC:Al C)(M:MetAt c.w name fn)(I:InsC c X j)(K:ConZ (x7 X Os₀) c.w fn kk PH Os₀ ps₀ p [y'] ys)(hk:kk<=c.k)
  (hn:dy (j :: ds)=PG) (hg:gvL (gvS ((j,PG) :: ds.map λi=>(i,PH))) Os ((j,PG) :: ds.map λi=>(i,PH))=PD Os₀) (hp:tD (gvS ((j,PG) :: ds.map λi=>(i,PH))) (.v (.ref X) :: ps)=PD ps₀) (hp':p.rn (sigF Os.length (j :: ds))=PD p') (hy:y'.rn (sigF Os.length (j :: ds))=PD y) (hys:uW (sigF Os.length (j :: ds)) ys=PD zs)
  (i:Inv k.f c V m as Os h) {E Q:af->ai->Prop}  (hq:∀ v bs h' tk',p'.is (as++bs) v->Inv k.f c V m (as++bs) ((Os++zs).set j y) h'->Q v (sh c.s₀ h' tk')):wpAny (MP c.w) (c.A k.f) (eval e (c.env k.f)) Q E (sh c.s₀ h tk):=
 ER O he hC M I i λvs bs h' tk' hvs i'=>sY K hk O.o i' I hn hg hp ⟨_,_,rfl,rfl,hvs⟩ hp' hy hys λv bs' h2 tk2 hv i2=>hq v (bs++bs') h2 tk2 (au _ _ _▸hv) (au _ _ _▸i2)
theorem rF {q:Str×PV×List PV×List Prop}(he:Io k w V Os e=PD q):x8 e:=ak he λq e1 U=>by
 obtain⟨_,_,_,_,_,_,_,_,_,_,q3⟩:=As e1;rw[q3];exact λU U=>rfl
def KS (b:List aS):Option (Str×aw×aw):=(nV b).bind λq=>(lB q.1).bind λx=>(vw q.2).lst?.bind λl=>(l[0]?).bind λe=>(l.tail[0]?).bind λe'=>if l.length=2 then PD (x,e,e') else PF
theorem FB {α:Type _}{l:List α}{a b:α}(h:l.length=2)(e:l[0]?=PD a)(e':l.tail[0]?=PD b):l=[a,b]:=by
 rcases l with _ | ⟨x,_ | ⟨y,_ | _⟩⟩
 ·cases h
 ·cases h
 ·cases e; cases e'; rfl
 ·cases h
theorem GV {q:Str×aw×aw}(h:KS b=PD q):∃ px p pos,b=.Assign [.Name q.1 px] (.List [q.2.1,q.2.2] p) pos :: b.tail:=ak h λq0 e1 h=>ak h λx e2 h=>ak h λl e3 h=>ak h λe e4 h=>ak h λe' e5 h=>iteE h λhl h=>
 ac h▸(gM e1).elim λpos e9=>(nam_is e2).elim λpx e2=>(lst_is e3).elim λp e3=>⟨px,p,pos,e9.trans (by rw[e2,e3,FB hl e4 e5])⟩
def Ng (k:Wk)(w:aB)(V:Vm)(Os:List SO)(b:List aS):Option (Str×PV×List PV×List Prop):=(KS b).bind λq=>Io k w V Os q.2.1
def Nf (k:Wk)(w:aB)(V:Vm)(Os:List SO)(b:List aS):Option (Str×PV×List PV×List Prop):=(KS b).bind λq=>Io k w V Os q.2.2
theorem Run.l2 {n1 n2 x:Str}{qs1 qs2:List PV}{f1 f2 k1 k2:Nat}{ds1 ds2:List Nat}{Os1 Os2:List SO}{rs1 rs2:List PV}{p1 p1' p2 p2':PV}{y1 y1' y2 y2':SO}{ys1 zs1 ys2 zs2:List SO}{C1 C2:List Prop}(hb:(KS b).map (·.1)=PD x)
  (he1:Ng k c.w V Os b=PD (n1,.v (.ref X),qs1,C1)) (hC1:Al C1) (M1:MetAt c.w n1 f1) (I:InsC c X j) (K1:ConZ (x7 X Os1) c.w f1 k1 PH Os1 rs1 p1 [y1'] ys1) (hk1:k1<=c.k)
  (hn1:dy (j :: ds1)=PG) (hg1:gvL (gvS ((j,PG) :: ds1.map λi=>(i,PH))) Os ((j,PG) :: ds1.map λi=>(i,PH))=PD Os1) (hp1:tD (gvS ((j,PG) :: ds1.map λi=>(i,PH))) (.v (.ref X) :: qs1)=PD rs1) (hr1:p1.rn (sigF Os.length (j :: ds1))=PD p1') (hy1:y1'.rn (sigF Os.length (j :: ds1))=PD y1) (hz1:uW (sigF Os.length (j :: ds1)) ys1=PD zs1)
  (he2:Nf k c.w V ((Os++zs1).set j y1) b=PD (n2,.v (.ref X),qs2,C2)) (hC2:Al C2) (M2:MetAt c.w n2 f2) (K2:ConZ (x7 X Os2) c.w f2 k2 PH Os2 rs2 p2 [y2'] ys2) (hk2:k2<=c.k)
  (hn2:dy (j :: ds2)=PG) (hg2:gvL (gvS ((j,PG) :: ds2.map λi=>(i,PH))) ((Os++zs1).set j y1) ((j,PG) :: ds2.map λi=>(i,PH))=PD Os2) (hp2:tD (gvS ((j,PG) :: ds2.map λi=>(i,PH))) (.v (.ref X) :: qs2)=PD rs2) (hr2:p2.rn (sigF ((Os++zs1).set j y1).length (j :: ds2))=PD p2') (hy2:y2'.rn (sigF ((Os++zs1).set j y1).length (j :: ds2))=PD y2) (hz2:uW (sigF ((Os++zs1).set j y1).length (j :: ds2)) ys2=PD zs2)
  (hs:nO k.f V ((((Os++zs1).set j y1)++zs2).set j y2++[.L [p1',p2']]) x (.r ((((Os++zs1).set j y1)++zs2).set j y2).length)=PD (V',Os')) (h:Run k c V' Os' (b.tail :: bs)):Run k c V Os (b :: bs):=by
 obtain⟨q0,hb2,hx⟩:=bh.mp hb;subst hx;rw[Ng,hb2] at he1;rw[Nf,hb2] at he2;obtain⟨px,p,pos,h9⟩:=GV hb2;rw[h9];refine .one (λ{s₁} O as hp tk m i Q hq U=>dH (List_ (zc (rL O.toOkc he1 hC1 M1 (I.sub (Cx.at_sub c s₁)) K1 hk1 hn1 hg1 hp1 hr1 hy1 hz1 i λv bs1 h1 t1 hv1 i1=>zc (rL O.toOkc he2 hC2 M2 (I.sub (Cx.at_sub c s₁)) K2 hk2 hn2 hg2 hp2 hr2 hy2 hz2 i1 λv2 bs2 h2 t2 hv2 i2=>MS ?_) ?_) ?_)) rfl) h
 ·refine bL (xd (y:=.L [p1',p2']) (C:=[]) i2 (λb o e=>e) (λu bs3 h3 t3 hu i3 U=>setN_ok O.o hs i3 hu λh' tk' m' i'=>hq _ h' tk' m' i') (o:={ cls:=.type "list",data:=.seq [v,v2].toArray }) ⟨[v,v2],_,rfl,_,_,rfl,hv1.up.up,_,_,rfl,hv2.up,rfl⟩ PI rfl) (ci rfl)
 ·exact rF he2 _ _
 ·exact rF he1 _ _
end
theorem EQ (w:aB):MetAt w (S' "setdefault") 279:=⟨⟨by kernel_rfl,by kernel_rfl⟩,λU U=>by kernel_rfl,by kernel_rfl⟩
abbrev jR:SO:=.L [.s (S' "gbg"),.s (S' "rgr")]
theorem Jq {y:Int}(hw:c.w=w)(H:LwC c [3])(I:InsC c X 3)(h:Run (wkL w ns []) c (kV x y b 7 [nm "told" (.r 8)]) (kO ns PF (PD (.v (.ref X))) (y9 b) 4 [sL3 x y z,jR]) [(bn w 323).drop 9]):
  Run (wkL w ns []) c (kV x y b 6 []) (kO ns PF (PD (.v (.ref X))) (Ch b) 4 [sL3 x y z]) [(bn w 323).drop 8]:=by
 subst hw
 refine Run.l2 (X:=X) (j:=3) (ds1:=[4,5]) (ds2:=[4,5,7]) (y1:=.L [.r 4,.r 5,.r 7]) (zs1:=[tE (n1 b,S' "gbg")]) (y2:=.L [.r 4,.r 5,.r 7]) (zs2:=[]) (C1:=[fitsSsize 1=PG,(bR (Di b) 1).isSome=PG]) (C2:=[]) (p1':=.s (S' "gbg")) (p2':=.s (S' "rgr")) (qs1:=[.s (n1 b),.s (S' "gbg")]) (qs2:=[.s (S' "r"),.s (S' "gbg")]) (x:=S' "told") (V':=kV x y b 6 [nm "told" (.r 8)]) (Os':=lO ns PF (PD (.v (.ref X))) (.L [.r 4,.r 5,.r 7] :: (Ch b).map tE++[sL3 x y z,tE (n1 b,S' "gbg"),jR]))
  (by kernel_rfl) (by cases b<;>kernel_rfl) ⟨by decide,by cases b<;>decide +kernel,PI⟩ (EQ _) I (Kl c.w X b) (bq H.k.symm) rfl (by kernel_rfl) rfl rfl rfl rfl (by kernel_rfl) PI (EQ _) (Kk c.w X b) (bq H.k.symm) rfl (by kernel_rfl) rfl rfl rfl rfl (by kernel_rfl) ?_
 exact Run.gc [0,1,2,3,4,5,7,6,8] [] [S' "third",S' "number",S' "kind",S' "shift",S' "white",S' "cells",S' "names",S' "kept",S' "told"] [3] _ _ H.np (by kernel_rfl) (by kernel_rfl) (by kernel_rfl) h
theorem yU (w:aB)(u v x:af):bindArgs (pS (fdAt w 286)) ⟨[u,v,x],[]⟩=(do let d <- alloc { cls:=.type "dict",data:=.dict #[] }; pure [(S' "self",u),(S' "_name",v),(S' "_value",x),(S' "_params",.ref d)]):=by kernel_rfl
theorem Ji (w:aB):MetAt w (S' "add_header") 286:=⟨⟨by kernel_rfl,by kernel_rfl⟩,λU U=>by kernel_rfl,by kernel_rfl⟩
section
variable {k:Wk}{c:Cx}{V:Vm}{Os:List SO}{b:List aS}{bs:List (List aS)}{X:aj}{j:Nat}
def pAd (k:Wk)(w:aB)(V:Vm)(Os:List SO)(b:List aS):Option (Str×PV×List PV×List Prop):=(JB b).bind λe=>Io k w V Os e
theorem Run.ad (t:Bool)(he:pAd k c.w V Os b=PD (S' "add_header",.v (.ref X),[.s (S' "g"),.s (S' "bgb")],[]))(I:InsC c X j)(hk:9<=c.k)(hh:c.hv=PF)(hn:dy (j :: ds)=PG)(hd:ds[3]?=PD Os.length)
  (hg:gvL (gvS ((j,PG) :: ds.map λi=>(i,PH))) (Os++[SO.P jn]) ((j,PG) :: ds.map λi=>(i,PH))=PD (oAdd t)) (hy:(SO.L [.r 1,.r 2,.r 3,.r 5]).rn (sigF (Os++[SO.P jn]).length (j :: ds))=PD y) (hys:uW (sigF (Os++[SO.P jn]).length (j :: ds)) [tE (S' "g",S' "bgb")]=PD zs)
  (h:Run k c V ((Os++[SO.P jn]++zs).set j y) (b.tail :: bs)):Run k c V Os (b :: bs):=
 ak he λe e1 he=>by
  refine ak e1 λs e3 e4=>ak e4 λe' e5 e6=>aZ e6 λq e7 eq=>?_;subst eq;obtain⟨pos,rfl⟩:=td e5;rw[dU e3];refine .one (λ{s₁} O as hp tk m i Q hq U=>jM (ER O.toOkc he PI (Ji _) (I.sub (Cx.at_sub c s₁)) i λvs bs1 h1 tk1 hvs i1=>?_) (j9 (c:=c.at s₁) O.o) (by rw[cll_is e7]; rfl)) h;obtain⟨_,_,rfl,⟨t1,rfl⟩,_,_,rfl,⟨t2,rfl⟩,hvs⟩:=hvs;cases hvs;have x1:=O.o.x.keeps i1.F.keep;obtain⟨g1,i2⟩:=i1.new (y:=.P jn) (o:=emptyDict) ⟨rfl,pX⟩ PI rfl;have hmap:((j,PG) :: ds.map λi=>(i,PH)).map (·.1)=j :: ds:=by rw[ft,c8]; exact congrArg (j :: ·) (eM ds)
  obtain⟨as₀,gv,hg1,hg2⟩:=Giv.ofs i2 ((j,PG) :: ds.map λi=>(i,PH)) (hmap.symm▸hn) hg;have hD:as₀[4]?=PD h1.objs.size:=hg1 4 (Os.length,PH) _ (by show(ds.map _)[3]?=_; rw[aG,hd]; rfl) (by rw[<- i1.len,aM (aI _),b9]; rfl);have hz:ZAdd X (oAdd t) (c.at s₁) as₀ (h1.push emptyDict):=⟨u8 i2 (I.sub (Cx.at_sub c s₁)) gv λa ea=>hg1 0 (j,PG) a rfl ea,hh,_,hD,beq_eq_false_iff_ne.mpr λq=>absurd (aO (x1 _ _ (show dN c.w 286 by kernel_rfl))) (by rw[q]; exact of_decide_eq_true rfl)⟩
  refine iG (Ks c.w X t k.f (c.at s₁) V m _ _ _ rfl hk (λz=>nomatch z) O.o i2 as₀ gv hz [ue "self" (.ref X),ue "_name" (.str _ t1),ue "_value" (.str _ t2),ue "_params" (.ref h1.objs.size)] (by kernel_rfl) ⟨_,_,rfl,rfl,_,_,rfl,⟨t1,rfl⟩,_,_,rfl,⟨t2,rfl⟩,_,_,rfl,⟨_,hD,rfl⟩,rfl⟩ (sh s₁ h1 tk1) ⟨[.ref X,.str _ t1,.str _ t2],[]⟩ tk1 x1 (λM A E Q hq=>by
   rw[yU];exact ab (wpAny_alloc (aD hq))) _ λv bs2 h2 tk2 s2 es hv A=>?_)
  subst es;obtain⟨_,i3⟩:=After.eff i2 hg gv hg1 hg2 A hy hys;exact hq _ _ _ _ i3
end
theorem Jp {y:Int}(hw:c.w=w)(H:LwC c [3])(I:InsC c X 3)(h:Run (wkL w ns []) c (kV x y b 8 [nm "told" (.r 9)]) (kO ns PF (PD (.v (.ref X))) (y9 b++[(S' "g",S' "bgb")]) 4 [sL3 x y z,jR]) [(bn w 323).drop 10]):
  Run (wkL w ns []) c (kV x y b 7 [nm "told" (.r 8)]) (kO ns PF (PD (.v (.ref X))) (y9 b) 4 [sL3 x y z,jR]) [(bn w 323).drop 9]:=by
 subst hw;refine Run.ad b (X:=X) (j:=3) (ds:=[4,5,6,9]) (y:=.L [.r 4,.r 5,.r 6,.r 10]) (zs:=[tE (S' "g",S' "bgb")]) (by kernel_rfl) I (bq H.k.symm) H.hv rfl rfl (by kernel_rfl) rfl rfl ?_;exact Run.gc [0,1,2,3,4,5,6,10,7,8] [] [S' "third",S' "number",S' "kind",S' "shift",S' "white",S' "cells",S' "names",S' "kept",S' "told"] [3] _ _ H.np (by kernel_rfl) (by kernel_rfl) (by kernel_rfl) h
end Nw
end
section
open PySem PySem.W PySem.Calls PySem.Spec PyProof.Rows Mine LCg
namespace Nw
def DcQ (w:aB)(dn:List Kv)(o:Obj):Prop:=∃ kvs,o.IsDictOf (strKind aH.row.prog w) kvs/\kvs.length<=dn.length/\((dn.map (·.1)).Nodup->cY gO kvs (dn.map λq=>(.str q.1,.str q.2)))
theorem DcQ.nr {w:aB}{dn:List Kv}{o:Obj}(h:DcQ w dn o):¬ IsRec o:=by
 refine bU λG1 hG1=>?_;obtain⟨_,⟨_,_,_,e,_⟩,_⟩:=h;refine hG1 ?_;rintro ⟨_,_,_,q,_⟩;rw[e] at q; cases q
theorem kJ {kvs:List (Str×af)}{l:List Kv}{k v:Str}{t:Tok}(h:cY gO kvs (l.map λq=>(.str q.1,.str q.2)))(hk:k∉l.map (·.1)):cY gO (stored kvs k (.str v t)) ((l++[(k,v)]).map λq=>(.str q.1,.str q.2)):=by
 have key:∀ {kvs:List (Str×af)} {l:List Kv},cY gO kvs (l.map λq=>(.str q.1,.str q.2))->k∉l.map (·.1)->(kvs.any λkv=>kv.1=k)=PH/\cY gO (kvs++[(k,.str v t)]) ((l++[(k,v)]).map λq=>(.str q.1,.str q.2)):=λ{kvs}=>by
  induction kvs with
  | nil=>
   intro l h U;cases l with
   | nil=>exact⟨rfl,.cons (PyProof.V.Flat.str v t) .nil⟩
   | cons _ _=>cases h
  | cons q r ih=>
   intro l h hk;cases l with
   | nil=>cases h
   | cons p l=>
    cases h with
    | cons h1 h2=>
     obtain⟨g1,g2⟩:=ih h2 λz=>hk (.tail _ z);refine⟨?_,.cons h1 g2⟩;rw[tH,g1,tI];exact decide_eq_false λz=>hk (by rw[<- z]; exact .head _)
 obtain⟨g1,g2⟩:=key h hk;unfold stored;rw[g1];exact g2
noncomputable def IK (w:aB)(kx vx:aw)(g:cD)(scope:dC)(pos:Pos):Snk Kv:=⟨.DictComp kx vx [g] scope pos,newDict,emptyDict,λD env=>do
  let kv <- eval kx env;let vv <- holding [kv] (eval vx env)
  standAt { kx.pos with endLine:=vx.pos.endLine,endCol:=vx.pos.endCol }
  holding [kv,vv] (dictSet D kv vv),λU dn o=>DcQ w dn o,λdn=>.P (DcQ w dn)⟩
def NF (ev:Vm->EV)(kx vx:aw)(Os:List SO)(V':Vm):Option (Kv×List SO×List Prop):=(ev V' Os kx).bind λa=>a.1.str?.bind λx=>if a.2.1.isEmpty=PG then(ev V' Os vx).bind λb=>b.1.str?.map λy=>((x,y),b.2.1,a.2.2++b.2.2) else PF
section
variable {f:Fs}{c:Cx}{V:Vm}{m:Str->Option af}{as:List aj}{Os:List SO}{scope:dC}{cl:List (Str×aj)}{target iter kx vx:aw}{ifs:List aw}{pos:Pos}
theorem CH {ev:Vm->EV}(hev:∀ C,C≠c.L->(c.tb=PG->C≠54/\C≠61)->∀ V' m₂,fj ⟨f,c,compEnvC scope cl C (c.env f),InvC f c V m C V' m₂⟩ (ev V')):SnkOk f c V m as Os scope cl target iter ifs (IK c.w kx vx ⟨target,iter,ifs,0⟩ scope pos) (NF ev kx vx Os) where
 nw:=λq=>bL q
 fr:=rfl
 a0:=⟨[],⟨#[],0,⟨rfl,rfl,rfl⟩,rfl,λU he=>by simp at he,Pairs.nil,sf⟩,aI _,λU=>.nil⟩
 nr:=DcQ.nr
 y:=λD h=>⟨h,h.nr⟩
 yo:=λU=>trivial
 turn:=λit D env=>compTurn_dict _ _ _ _ _ _ _ _ _ _
 go:=λU U U U=>⟨rfl,rfl⟩
 start:=λh0 h=>codeAny_compStart_dict h0 h
 emit:=λ{C D V' m₂ a dn o h k Q E} hC ht oD e ha hA hl i hD hacc hq=>ak e λp e1 e=>ak e λx e2 e=>iteE e λhz e=>ak e λq e3 e=>aZ e λy e4 eq=>by
  subst eq;refine ab ((hev C hC ht V' m₂ Os kx p e1).2 hA.left as h k _ _ i λv bs h1 k1 hv i1 kp=>ab (bI ?_));have i1:InvC f c V m C V' m₂ (as++bs) (Os++[]) h1:=aX.mp hz▸i1;have hb:=pK i i1;subst hb;have i2:InvC f c V m C V' m₂ as Os h1:=by rw[ao,ao] at i1; exact i1
  refine(hev C hC ht V' m₂ Os vx q e3).2 hA.right as h1 k1 _ _ i2 λv2 bs2 h2 k2 hv2 i3 kp2=>ab (da (bI ?_));have ha:q.2.1=[]:=ha;have i3:InvC f c V m C V' m₂ (as++bs2) (Os++[]) h2:=ha▸i3;have hb:=pK i2 i3;subst hb;have i4:InvC f c V m C V' m₂ as Os h2:=by rw[ao,ao] at i3; exact i3
  rw[PV.str_is e2] at hv;rw[PV.str_is e4] at hv2;refine bU λG1 hG1=>?_;obtain⟨t1,rfl⟩:=hv;obtain⟨t2,rfl⟩:=hv2;have d2:=kp2 _ _ oD.L oD.t (kp _ _ oD.L oD.t hD);obtain⟨kvs,g1,g2,g3⟩:=hacc;refine hG1 ?_;refine wpAny_dictSet_pairs (kvs:=kvs) (strKind_is _ _ x t1) (ir.mpr ⟨o,d2,g1⟩) (λh3 hd3 hs3=>?_) (ar g2 (ar hl (of_decide_eq_true rfl)));refine bU λG2 hG2=>?_;obtain⟨o3,d3,g4⟩:=ir.mp hd3;refine hG2 ?_;refine hq h2 h3 (k2+1) o3 i4 (kp.trans kp2) d2 hs3 d3 ⟨_,g4,?_,λhn=>?_⟩
  ·rw[aJ];exact ar (stored_length_le _ _ _) (fU g2)
  ·rw[eZ,List.nodup_append] at hn;exact kJ (g3 hn.1) λhk=>hn.2.2 _ hk _ (.head _) rfl
def Mb (ms:List Mth)(k:Wk)(w:aB)(scope:dC)(V':Vm):EV:=F8 k.T (Gq w k.f scope V') (Bf ms (Gq w k.f scope V')) 12
theorem Bj {k:Wk}{ms:List Mth}(O:k.Okc c)(hM:∀ r∈ms,MthOk k.f c r){scope:dC}(cl:List (Str×aj))(hk:scope.kind=.function)(hcl:∀ x a,scope.names.lookup x=PD .free->c.cl.lookup x=PD a->cl.lookup x=PD a)(C:aj)(q1:C≠c.L)(q2:c.tb=PG->C≠54/\C≠61)(V':Vm)(m₂:Str->Option af):fj ⟨k.f,c,compEnvC scope cl C (c.env k.f),InvC k.f c V m C V' m₂⟩ (Mb ms k c.w scope V'):=
 have U:Su.Ok ⟨k.f,c,compEnvC scope cl C (c.env k.f),InvC k.f c V m C V' m₂⟩:=⟨sX q1 q2,O.o.h,O.o.u2⟩
 vn U O.g (vM O.o hk hcl) (uC U O.o (vM O.o hk hcl) hM) 12
theorem Run.asD {k:Wk}{b:List aS}{bs:List (List aS)}{x:Str}{g:cD}{px cp pos:Pos}{j:Nat}(st:List SrcR)(ms:List Mth)(q:kt×List Kv×List Prop)(V':Vm)(hb:b.head?=PD (.Assign [.Name x px] (.DictComp kx vx [g] scope cp) pos))(hM:∀ s:ai,k.Okc (c.at s)->∀ r∈ms,MthOk k.f (c.at s) r)
  (he:sI k st c.w V Os (Mb ms k c.w scope) (NF (Mb ms k c.w scope) kx vx) g scope=PD q) (hC:Al q.1.2.2.1) (hC2:Al q.2.2) (hx:k.f.sc.names.lookup x=PD .local) (hsw:swapsWith (.DictComp kx vx [g] scope cp) (PD (.Name x px)) pos.line (c.env k.f)=pure PG) (hj:(Os++q.1.2.1).length=j) (hV:put V x (.r j)=V') (h:∀ D,(D == sysModules)=PH->Run k (c.ins [] j D) V' (Os++(q.1.2.1++[.P (DcQ c.w q.2.1)])) (b.tail :: bs)):Run k c V Os (b :: bs):=by
 rw[dU hb];refine .of λ{s₁} O as hp tk m i=>bc ?_;rw[exec_Assign_Name_used _ _ _ _ hsw];refine ab (da (ab ?_));refine(?_:wpAny _ _ (do let _ <- comprehension (.DictComp kx vx [g] scope cp) scope (c.env k.f) _ newDict (firstAsync [g]) (firstIter [g] (c.env k.f)) (PD (assign (.Name x px) (c.env k.f)))) _ _ _);rw[sM (ls he),vY];refine ab (aU (pcompG_ok (N:=IK c.w kx vx g scope cp) (Q:=λU s'=>wpAny (MP c.w) (c.A k.f) (execs b.tail (c.env k.f)) (cont k.f c bs) c.E s') O.toOkc rfl he (λcl hk hcl=>Bj O.toOkc (hM s₁ O.toOkc) cl hk hcl) (λcl hk hcl as Os hz=>?_) hC hC2 i λD bs' C h' tk' m' i' n' oC kp hl hD=>?_) (λU s' z=>aD (aD z)) λU U z=>z)
 ·obtain⟨t,it,ifs,n⟩:=g;have hz:n=0:=hz;subst hz;exact CH (Bj O.toOkc (hM s₁ O.toOkc) cl hk hcl)
 refine(?_:wpAny _ _ (assign (.Name x px) (c.env k.f) (.ref D)) _ _ _);refine gW (cM hx i'.F.ns (λh2 hn2 hs2=>?_) (by show(k.f.sc.kind == .class||(k.f.sc.kind == .module&&c.L != mainGlobals))=PH; rw[O.o.kd]; rfl))
 have ed:(as++(bs'++[D]))[j]?=PD D:=by
  rw[<- hj,<- hl,<- au,aM (by rw[aJ]; exact aI _),aJ,b9]; rfl
 have iv:=i'.name (x:=x) (p:=.r j) (v:=.ref D) ⟨D,ed,rfl⟩ hn2 hs2;have n2:h2.Ns C m':=n'.sameBut hs2 oC.L;have hs:(D == sysModules)=PH:=beq_eq_false_iff_ne.mpr λq=>absurd (hD _ _ (O.o.x _ _ (show dN c.w 286 by kernel_rfl))) (by rw[q]; exact of_decide_eq_true rfl);exact⟨m',n2,λh3 hs3=>(cont_ins bs▸(h D hs).at O.ins ((pJ (hV▸iv) oC n2 hs3).ins (pn:=[]) ed λU h=>nomatch h) :)⟩
end
end Nw
end
section
open PySem PySem.W PySem.Calls PySem.Spec PyProof.Rows Mine
namespace Nw
variable {f:Fs}{c:Cx}{x y z:Int}{w:aB}{ns:List Int}{rs:List CallR}
theorem yV (w:aB):DcQ w [(S' "r",S' "rgr"),(S' "g",S' "gbg"),(S' "b",S' "brb")]=cu w:=funext λo=>propext ⟨λ⟨kvs,h1,_,h3⟩=>⟨kvs,h1,h3 (by decide +kernel)⟩,λ⟨kvs,h1,h2⟩=>⟨kvs,h1,bq h2.length.symm,λU=>h2⟩⟩
def K7:Tab:=⟨[],[],[Gl],[zj]⟩
abbrev M5 (w:aB):Wk:=wkAt w 323 1 K7 λ_ _ _ _=>ta
theorem Nh (O:c.Ok f):Wk.Okc ⟨f,K7,λU U U U=>ta⟩ c:=⟨O,⟨aW ya cE,dz⟩,λU U=>kK⟩
abbrev kvD (b:Bool):List Kv:=y9 b++[(S' "g",S' "bgb")]
abbrev cG (w:aB)(X:aj)(b:Bool)(Os:List SO)(t:Str)(R:List Prop):List Prop:=(bl X=.ref X) :: (t.length<=5592405) :: ((qK t).length<=5592405) :: (hdOk w (bX (qK t))) :: (okK1 (kvD b)) :: (dy [3,4,5,6,7]=PG) :: (gvL (gvS ([3,4,5,6,7].map λi=>(i,PH))) Os ([3,4,5,6,7].map λi=>(i,PH))=PD (uX (kvD b))) :: R
theorem Jo {X:aj}{b:Bool}(hw:c.w=w)(H:LwC c [3])(I:InsC c X 3)(h:∀ (c':Cx) (D:aj),c'.w=w->LwC c' [10,3]->(10,D)∈c'.pre->(D == sysModules)=PH->Run (M5 w) c' (kV x y b 8 [nm "told" (.r 9),nm "rules" (.r 10)]) (kO ns PF (PD (.v (.ref X))) (kvD b) 4 [sL3 x y z,jR,.P (cu w)]) [(bn w 323).drop 11]):
  Run (wkL w ns []) c (kV x y b 8 [nm "told" (.r 9)]) (kO ns PF (PD (.v (.ref X))) (kvD b) 4 [sL3 x y z,jR]) [(bn w 323).drop 10]:=by
 subst hw;have k1:okK1 (kvD b):=⟨(j7 b).1,(j7 b).2.2,(j7 b).2.1,by decide +kernel,PI⟩;have t:∀ s:Str,s.length<=5592405->(qK s).length<=5592405->hdOk c.w (bX (qK s))->Al (cG c.w X b (kO ns PF (PD (.v (.ref X))) (kvD b) 4 [sL3 x y z,jR]) s []):=λs h1 h2 h3=>⟨rfl,h1,h2,h3,k1,rfl,by kernel_rfl,PI⟩;refine Run.wk (T:=K7) (ext:=λU U U U=>ta) (λ{s} O=>⟨Nh O.o,λc2 s2 o2=>Nh o2⟩) ?_;refine Run.asD (q:=((chars (S' "rgb"),[],[],[]),[(S' "r",S' "rgr"),(S' "g",S' "gbg"),(S' "b",S' "brb")],cG c.w X b (kO ns PF (PD (.v (.ref X))) (kvD b) 4 [sL3 x y z,jR]) (S' "r") (cG c.w X b (kO ns PF (PD (.v (.ref X))) (kvD b) 4 [sL3 x y z,jR]) (S' "g") (cG c.w X b (kO ns PF (PD (.v (.ref X))) (kvD b) 4 [sL3 x y z,jR]) (S' "b") [])))) [] [L7 c.w X 3] _ (by with_unfolding_all rfl) (λs O=>am.mpr ⟨AT O.o (by show 6<=c.k; rw[H.k]; decide) (I.sub (Cx.at_sub c s)),λU q=>nomatch q⟩) (by cases b<;>kernel_rfl) PI ?_ (by kernel_rfl) (by kernel_rfl) rfl (by kernel_rfl) λD hD=>(yV c.w).symm▸h (c.ins [] 10 D) D rfl H.ins (.head _) hD;exact⟨rfl,by decide +kernel,by decide +kernel,hdT _ (by decide +kernel),k1,rfl,by kernel_rfl,rfl,by decide +kernel,by decide +kernel,hdT _ (by decide +kernel),k1,rfl,by kernel_rfl,t (S' "b") (by decide +kernel) (by decide +kernel) (hdT _ (by decide +kernel))⟩
theorem vg {A:be}{s:ai}{ka kb:List (Str×af)}(p:cY gO ka o6)(q:cY gO kb o6):KeqHits A s kb ka PG/\ka.length=kb.length:=by
 cases p with | cons f1 p=>?_
 cases p with | cons f2 p=>?_
 cases p with | cons f3 p=>?_
 cases p;cases q with | cons g1 q=>?_
 cases q with | cons g2 q=>?_
 cases q with | cons g3 q=>?_
 cases q;have e1:=MR (A:=A) (s:=s) f1 g1;have e2:=MR (A:=A) (s:=s) f2 g2;have e3:=MR (A:=A) (s:=s) f3 g3;exact⟨.hit (e:=PG) (b:=PG) (by rfl) (by exact e1) (.hit (e:=PG) (b:=PG) (by rfl) (by exact e2) (.hit (e:=PG) (b:=PG) (by rfl) (by exact e3) .nil)),rfl⟩
section
variable {k:Wk}{c:Cx}{V:Vm}{Os Os1:List SO}{b:List aS}{bs:List (List aS)}{C:List Prop}
theorem Run.orD {x:Str}{px dp cp bp pos:Pos}{keys:List (Option aw)}{values:List aw}{e1:aw}{body:List aS}{j:Nat}{D:aj}(hb:b.head?=PD (.If (.BoolOp .Or [e1,.Compare (.Name x px) [.NotEq] [.Dict keys values dp] cp] bp) body [] pos))(he:yc (evF k c.w V) Os e1=PD (PH,Os1,C))(hC:Al C)(hx:ldF c.w k.f V (Os++Os1) x=PD (.r j))
  (ho:(Os++Os1)[j]?=PD (.P (cu c.w))) (hp:(j,D)∈c.pre) (hD:(D == sysModules)=PH) (hL:litPairs keys values=PD o6) (hall:keys.all (·.isSome)=PG) (hl:keys.length=values.length) (h0:keys≠[]) (hlen:keys.length<=15) (h:Run k c V (Os++Os1) (b.tail :: bs)):Run k c V Os (b :: bs):=by
 rw[dU hb];refine .of λ{s₁} O as hp' tk m i=>bc (rl (nZ (oW (lY ⟨IOk.inv,O.o.h,O.o.u2⟩ (b7 O.toOkc) he hC _ _ _ _ _ i λbs1 h1 k1 i1 U=>?_))));have i1:Inv k.f (c.at s₁) V m (as++bs1) (Os++Os1) h1:=i1;refine(?_:wpAny _ _ (allTrue .Or [_] _) _ _ _);refine oW (fM (fL O.o _ _ _ hx px PI _ _ _ _ _ i1 λv bs2 h2 k2 hv i2 U=>?_) rfl);have i2:Inv k.f (c.at s₁) V m (as++bs1++bs2) (Os++Os1++[]) h2:=i2;rw[ao] at i2;have hv:(PV.r j).is (as++bs1++bs2) v:=hv;obtain⟨a,ea,rfl⟩:=hv;have ep:=i2.pf _ hp;rw[ea] at ep;cases ep;obtain⟨o,⟨⟨kvs,d1,d2⟩,_⟩,g1,_⟩:=i2.ob _ _ _ ea ho PI;refine Dict_lits_str hL (by decide +kernel) (by decide +kernel) hall hl h0 hlen λa2 o2 h3 k3 l3 g3 T3 kp3=>?_;obtain⟨kvs2,d3,d4⟩:=T3;obtain⟨hh,hl2⟩:=vg (A:=((c.at s₁).A k.f).in1) (s:=sh s₁ h3 k3) d2 d4;refine keq_ne (r:=PG) hD (beq_eq_false_iff_ne.mpr λq=>absurd (eX (aO (O.o.x.keeps i2.F.keep _ _ (show dN c.w 286 by kernel_rfl))) l3) (by rw[q]; exact of_decide_eq_true rfl)) (ir.mpr ⟨o,kp3 _ _ g1,d1⟩) (ir.mpr ⟨o2,g3,d3⟩) (cS (a8 _ 2) O.o.u2) (λU=>hh) ?_;rw[hl2,beq_self_eq_true];refine cK (ng (gy (h.at O (i2.keep (i2.F.keeps kp3) λb o U e=>kp3 b o e))))
end
abbrev rO (w:aB)(l:Option PV)(x y z:Int)(O:List SO):List SO:=[.N,.C l,.N,.N,sL3 x y z,.N,.N,.N,.N,.N,.P (cu w)]++O
abbrev rV (x y:Int)(r:Vm):Vm:=lV x y ([nm "cells" (.r 4),nm "rules" (.r 10)]++r)
def tbN (rs:List CallR):Tab:=⟨[ln,l5],[oY],[],rs⟩
theorem okN (O:c.Ok f)(h:∀ r∈rs,b8 f c r):Wk.Okc ⟨f,tbN rs,extC [lU]⟩ c:=
 have G:CtOk f c (tbN rs):=⟨h,am.mpr ⟨PI,am.mpr ⟨PI,dz⟩⟩⟩
 ⟨O,G,λU U=>eY O G⟩
abbrev wkN (w:aB)(rs:List CallR):Wk:=wkAt w 323 1 (tbN rs) (extC [lU])
theorem Run.wm {T:Tab}{ext:Fs->Tab->aB->Vm->EV->EV}{V:Vm}{Os:List SO}{bs:List (List aS)}(h:∀ (c':Cx),c'.w=c.w->c'.k=c.k->c'.tb=c.tb->c'.Ok (wkN w rs).f->∀ r∈rs,b8 (wkN w rs).f c' r)(R:Run (wkN w rs) c V Os bs):Run (wkAt w 323 1 T ext) c V Os bs:=
 Run.wk (T:=tbN rs) (ext:=extC [lU]) (λ{s} O=>⟨okN O.o (h _ rfl rfl rfl O.o),λc2 s2 o2=>okN o2 (h _ s2.w s2.k s2.tb o2)⟩) R
theorem Jn {X D:aj}{b:Bool}(hw:c.w=w)(H:LwC c [10,3])(hp:(10,D)∈c.pre)(hD:(D == sysModules)=PH)(h:Run (wkN w []) c (rV x y []) (rO w PF x y z []) [(bn w 323).drop 13]):
  Run (M5 w) c (kV x y b 8 [nm "told" (.r 9),nm "rules" (.r 10)]) (kO ns PF (PD (.v (.ref X))) (kvD b) 4 [sL3 x y z,jR,.P (cu w)]) [(bn w 323).drop 11]:=by
 subst hw;refine Run.orD (j:=10) (D:=D) (Os1:=[jR]) (C:=[]) (by with_unfolding_all rfl) (by kernel_rfl) PI (by kernel_rfl) (by kernel_rfl) hp hD (by kernel_rfl) (by kernel_rfl) (by kernel_rfl) (by intro q; cases q) (by decide) ?_;refine Run.wm (rs:=[]) (λU U U U U U q=>nomatch q) ?_;refine Run.if PH [tE (n0 b,S' "rgr"),tE (n2 b,S' "brb"),tE (n1 b,S' "gbg"),tE (S' "g",S' "bgb"),.L [.r 12,.r 13,.r 14,.r 15]] [fitsSsize 0=PG,(bR (Di b) 0).isSome=PG,fitsSsize 2=PG,(bR (Di b) 2).isSome=PG,fitsSsize 1=PG,(bR (Di b) 1).isSome=PG] (by cases b<;>kernel_rfl) (by cases b<;>exact⟨by decide,by decide +kernel,by decide,by decide +kernel,by decide,by decide +kernel,PI⟩) (λq=>nomatch q) λU=>?_;refine Run.nl (by kernel_rfl) ?_ λq=>nomatch q;exact Run.gc [0,1,2,3,8,9,4,5,6,7,10] [0,2,3,9,4,5,6,7] [S' "third",S' "number",S' "kind",S' "shift",S' "white",S' "cells",S' "rules"] [10,3] _ _ H.np (by kernel_rfl) (by kernel_rfl) (by kernel_rfl) h
theorem iT (a:Int){n:Int}(h:0<n):0<=a.fmod n/\a.fmod n<n:=⟨bu _ h,bJ _ h⟩
theorem uf (x:Int):-729<=nN x/\nN x<729:=have q:=iT x (n:=1458) (by decide); ⟨Int.sub_le_sub_right q.1 729,Int.sub_lt_sub_right q.2 729⟩
theorem lm (y:Int):0<=eE y/\eE y<=2:=let h:=iT y (n:=3) (by decide); ⟨h.1,de h.2⟩
theorem iY (y:Int):0<=whN y/\whN y<=700:=let h:=iT (y.fdiv 3) (n:=701) (by decide); ⟨h.1,de h.2⟩
theorem AG (y:Int):0<=kdN y/\kdN y<=3:=let h:=iT (y.fdiv 8412) (n:=4) (by decide); ⟨h.1,de h.2⟩
abbrev placeF (w:aB)(n c wh s:Int):CallR:=DN 308 [.i n,.i c,.r 0,.i wh,.i s] [.G (.P (cu w))] (.r 1) [.T [.r 2,.s (ltr (plNum n c).lt),.s (plRow n s)],sL3 (plNum n c).x (plNum n c).y (plNum n c).z]
theorem mO {n t wh s:Int}(O:c.Ok f)(hw:c.w=w)(hk:c.k=9)(ht:c.tb=PG)(n0:-1024<=n)(n1:n<1024)(c0:0<=t)(c1:t<=2)(w0:0<=wh)(w1:wh<=700)(ok:qW n t=PG):b8 f c (placeF w n t wh s):=by
 subst hw;exact s7 (bq hk.symm) (λU=>ht) O (by kernel_rfl) (Eh c.w (λfs c hw hk ht O=>Bz _ fs c hw hk ht O) n t wh s n0 n1 c0 c1 w0 w1 ok)
theorem Jm (hw:c.w=w)(H:LwC c [10,3])(ok:qW (nN x) (eE y)=PG)(h:Run (wkN w [placeF w (nN x) (eE y) (whN y) (shN y)]) c (rV x y [nm "parts" (.r 11),nm "row" (.s (plRow (nN x) (shN y)))]) (rO w (PD (.s (ltr (plNum (nN x) (eE y)).lt))) x y z [sN (plNum (nN x) (eE y))]) [(bn w 323).drop 14]):
  Run (wkN w []) c (rV x y []) (rO w PF x y z []) [(bn w 323).drop 13]:=by
 subst hw;obtain⟨n0,n1⟩:=uf x
 refine Run.wm (rs:=[placeF c.w (nN x) (eE y) (whN y) (shN y)]) (λc' q1 q2 q3 O r hr=>by
  cases ay.mp hr;exact mO O q1 (q2.trans H.k) (q3.trans H.tb) (dj (by decide) n0) (kD n1 (by decide)) (lm y).1 (lm y).2 (iY y).1 (iY y).2 ok) ?_
 refine Run.asT (rV x y [nm "parts" (.r 12),nm "row" (.s (plRow (nN x) (shN y)))]) (rO c.w (PD (.s (ltr (plNum (nN x) (eE y)).lt))) x y z [.T [.r 12,.s (ltr (plNum (nN x) (eE y)).lt),.s (plRow (nN x) (shN y))],sN (plNum (nN x) (eE y))]) [[PV.i (nN x),.i (eE y),.r 0,.i (whN y),.i (shN y)]=[.i (nN x),.i (eE y),.r 0,.i (whN y),.i (shN y)],[SO.G (.P (cu c.w))]=[.G (.P (cu c.w))]] (by kernel_rfl) ⟨rfl,rfl,PI⟩ ?_;exact Run.gc [0,1,2,3,4,5,6,7,8,9,10,12] [] [S' "third",S' "number",S' "kind",S' "shift",S' "white",S' "cells",S' "rules",S' "parts",S' "row"] [10,3] _ _ H.np (by kernel_rfl) (by kernel_rfl) (by kernel_rfl) h
abbrev Gb (n c:Int):CallR:=DN 318 [.i n,.i c] [] (.r 0) [.T [.r 1,.i ((ownRes n c).2 - c)],lft (ownRes n c).1.1 (ownRes n c).1.2.1 (ownRes n c).1.2.2]
theorem Jl {l:Str}{r:Str}(hw:c.w=w)(H:LwC c [10,3])(h:Run (wkN w [Gb (nN x) (eE y)]) c (rV x y [nm "parts" (.r 11),nm "row" (.s r),nm "own" (.r 12),nm "ones" (.i ((ownRes (nN x) (eE y)).2 - eE y))]) (rO w (PD (.s l)) x y z [sN (plNum (nN x) (eE y)),lft (ownRes (nN x) (eE y)).1.1 (ownRes (nN x) (eE y)).1.2.1 (ownRes (nN x) (eE y)).1.2.2]) [(bn w 323).drop 15]):
  Run (wkN w rs) c (rV x y [nm "parts" (.r 11),nm "row" (.s r)]) (rO w (PD (.s l)) x y z [sN (plNum (nN x) (eE y))]) [(bn w 323).drop 14]:=by
 subst hw;obtain⟨n0,n1⟩:=uf x
 refine Run.wm (rs:=[Gb (nN x) (eE y)]) (λc' q1 q2 q3 O r' hr=>by
  have hr:=ay.mp hr;subst hr;exact s7 (kk:=4) (tb:=PH) (by rw[q2,H.k]; decide) (λz=>nomatch z) O (by kernel_rfl) (Kn c'.w _ _ (dj (by decide) n0) (c9 (kD n1 (by decide))) (lm y).1 (lm y).2)) ?_
 refine Run.asT (rV x y [nm "parts" (.r 11),nm "row" (.s r),nm "own" (.r 13),nm "ones" (.i ((ownRes (nN x) (eE y)).2 - eE y))]) (rO c.w (PD (.s l)) x y z [sN (plNum (nN x) (eE y)),.T [.r 13,.i ((ownRes (nN x) (eE y)).2 - eE y)],lft (ownRes (nN x) (eE y)).1.1 (ownRes (nN x) (eE y)).1.2.1 (ownRes (nN x) (eE y)).1.2.2]) [[PV.i (nN x),.i (eE y)]=[.i (nN x),.i (eE y)],([]:List SO)=[]] (by kernel_rfl) ⟨rfl,rfl,PI⟩ ?_;exact Run.gc [0,1,2,3,4,5,6,7,8,9,10,11,13] [] [S' "third",S' "number",S' "kind",S' "shift",S' "white",S' "cells",S' "rules",S' "parts",S' "row",S' "own",S' "ones"] [10,3] _ _ H.np (by kernel_rfl) (by kernel_rfl) (by kernel_rfl) h
end Nw
end
section
open PySem PySem.W PySem.Calls PySem.Spec PyProof.Rows
namespace Mine
variable {a:Nat}{n:Int}{t:Str}{l':List Nat}
mutual
noncomputable def stO:List Nat->Bool->List Nat
 | [],_=>[]
 | c :: r,PG=>c :: stO r PH
 | c :: r,PH=>if c=92 then c :: stO r PG else if c=34 then stI r PH [c] else c :: stO r PH
noncomputable def stI:List Nat->Bool->List Nat->List Nat
 | [],_,buf=>buf
 | c :: r,PG,buf=>stI r PH (buf++[c])
 | c :: r,PH,buf=>if c=92 then stI r PG (buf++[c]) else if c=34 then stO r PH else stI r PH (buf++[c])
end
noncomputable def cF:List Nat->Bool->Int->Option Int
 | [],_,n=>PD n
 | _ :: r,PG,n=>cF r PH n
 | c :: r,PH,n=>if c=92 then cF r PG n else if c=40 then cF r PH (n+1) else if c=41 then(if n - 1<0 then PF else cF r PH (n - 1)) else cF r PH n
theorem wT (a b:Str):(a == b)=(a.cps == b.cps):=by
 rw[Bool.eq_iff_iff,beq_iff_eq,beq_iff_eq];exact⟨λh=>by rw[h],λh=>Str.ext' h⟩
theorem vd (c:Nat)(d:Nat):((bsl++chS c) == (⟨#[d]⟩:Str))=PH:=by
 rw[wT];refine(?_:(#[92,c] == #[d])=PH)
 rfl
theorem vr (c d:Nat):(chS c == (⟨#[d]⟩:Str))=decide (c=d):=by
 rw[wT];refine(?_:(#[c] == #[d])=_);rw[Bool.eq_iff_iff,beq_iff_eq,decide_eq_true_eq]
 constructor
 ·intro h; simpa using h
 ·intro h; rw[h]
theorem BU (cs:List Nat):∀ (i:Nat) (b:Bool) (n:Int),cRun (itsF cs i b) n=cF cs b n:=by
 induction cs with
 | nil=>exact λi b n=>by cases b<;>rfl
 | cons c r ih=>
  intro i b n;cases b with
  | true=>exact(if_neg (by show ¬ ((bsl++chS c) == (⟨#[40]⟩:Str))=PG; rw[vd]; exact aP)).trans ((if_neg (by show ¬ ((bsl++chS c) == (⟨#[41]⟩:Str))=PG; rw[vd]; exact aP)).trans (ih (i+1) PH n))
  | false=>
   by_cases h:c=92
   ·rw[show itsF (c :: r) i PH=_ from if_pos h,show cF (c :: r) PH n=_ from if_pos h]; exact ih (i+1) PG n
   ·rw[show itsF (c :: r) i PH=_ from if_neg h,show cF (c :: r) PH n=_ from if_neg h];show(if(chS c == (⟨#[40]⟩:Str))=PG then cRun (itsF r (i+1) PH) (n+1) else if(chS c == (⟨#[41]⟩:Str))=PG then(if n - 1<0 then PF else cRun (itsF r (i+1) PH) (n - 1)) else cRun (itsF r (i+1) PH) n)=_;rw[vr,vr,ih,ih,ih];simp only[decide_eq_true_eq]
noncomputable def pT (l:List Str):List Nat:=l.flatMap λx=>x.cps.toList
theorem kJ (l:List Str)(x:Str):pT (l++[x])=pT l++x.cps.toList:=by unfold pT; rw[List.flatMap_append]; simp
theorem rS:∀ (l:List Str) (acc:Array Nat),(l.foldl (λacc p=>acc++(aa "").cps++p.cps) acc).toList=acc.toList++pT l
 | [],acc=>by simp[pT]
 | x :: l,acc=>by
  rw[fc,rS l];have:(aa "").cps=#[]:=rfl;rw[this];simp[pT]
theorem yC (l:List Str):(jV (aa "") l).cps.toList=pT l:=by
 unfold jV Builtin.Str.glued;cases l with
 | nil=>rfl
 | cons x l=>exact rS l x.cps
theorem tP (t:Str){b:Nat}(h1:a<=b)(h2:b<=t.length):(ba t (PD (a:Int)) (PD (b:Int))).cps.toList=(t.cps.toList.take b).drop a:=by
 have h:=StrLaws.sliceText_nat t h1 h2;have e:ba t (PD (a:Int)) (PD (b:Int))=⟨((t.cps.toList.drop a).take (b - a)).toArray⟩:=h;rw[e];refine(?_:(List.toArray _).toList=_);rw[List.toList_toArray,List.drop_take]
theorem CI (t:Str)(h1:a<=t.length):(ba t (PD (a:Int)) PF).cps.toList=t.cps.toList.drop a:=by
 have e:ba t (PD (a:Int)) PF=ba t (PD (a:Int)) (PD ((t.length:Nat):Int)):=by
  unfold ba; rw[StrLaws.sliceIdx_none_hi]
 rw[e,tP t h1 (aI _)];have:t.length=t.cps.toList.length:=by simp[tz]
 rw[this,dK]
def outS (T:List Nat)(s:Sst):List Nat:=pT s.res++T.drop s.start
def RO (s:Sst)(A pre:List Nat):Prop:=s.op=PF/\s.start<=pre.length/\A=pT s.res++pre.drop s.start
def RI (s:Sst)(A buf pre:List Nat):Prop:=∃ o,s.op=PD o/\s.start<=o/\o<=pre.length/\A=pT s.res++(pre.take o).drop s.start/\buf=pre.drop o
section
variable {t:Str}{s:Sst}{A buf pre r:List Nat}{c:Nat}
theorem sU {n:Nat}(h:n<=pre.length):n<=(pre++[c]).length:=by rw[aJ]; exact cq h
theorem RO.next (h:RO s A pre):RO s (A++[c]) (pre++[c]):=⟨h.1,sU h.2.1,by rw[ig h.2.1,<- au,<- h.2.2]⟩
theorem RI.next (h:RI s A buf pre):RI s A (buf++[c]) (pre++[c]):=h.imp λo h=>⟨h.1,h.2.1,sU h.2.2.1,by rw[List.take_append_of_le_length h.2.2.1]; exact h.2.2.2.1,by rw[ig h.2.2.1,<- h.2.2.2.2]⟩
theorem RO.quo (h:RO s A pre):RI (sStep t s (pre.length,chS 34)) A [34] (pre++[34]):=
 have e:sStep t s (pre.length,chS 34)=⟨s.start,PD pre.length,s.res⟩:=(if_pos rfl).trans (by rw[h.1])
 e▸⟨pre.length,rfl,h.2.1,sU (aI _),by rw[List.take_left']; exact h.2.2; rfl,by rw[List.drop_left']; rfl⟩
theorem RI.quo (hT:t.cps.toList=pre++r)(h:RI s A buf pre):RO (sStep t s (pre.length,chS 34)) A (pre++[34]):=h.elim λo h=>by
 have e:sStep t s (pre.length,chS 34)=⟨pre.length+1,PF,if s.start=o then s.res else s.res++[ba t (PD (s.start:Int)) (PD (o:Int))]⟩:=(if_pos rfl).trans (by rw[h.1]);have hl:(pre++[34]).length=pre.length+1:=aJ;rw[e,h.2.2.2.1];refine⟨rfl,bq hl.symm,?_⟩;rw[<- hl,oH,ao]
 by_cases q:s.start=o
 ·rw[if_pos q,q,List.drop_take,b9,List.take_zero,ao]
 ·have hl2:t.length=pre.length+r.length:=(by show t.cps.size=_; rw[<- iw,hT,aJ]);rw[if_neg q,kJ,tP t h.2.1 (hl2▸ar h.2.2.1 (a8 ..)),hT,List.take_append_of_le_length h.2.2.1]
end
theorem yg (t:Str)(cs:List Nat):∀ (pre:List Nat) (b:Bool) (s:Sst) (A:List Nat),t.cps.toList=pre++cs->
  (RO s A pre->outS t.cps.toList ((itsF cs pre.length b).foldl (sStep t) s)=A++stO cs b)/\∀ buf,RI s A buf pre->outS t.cps.toList ((itsF cs pre.length b).foldl (sStep t) s)=A++stI cs b buf:=by
 induction cs with
 | nil=>
  intro pre b s A hT;have e:(itsF [] pre.length b).foldl (sStep t) s=s:=by cases b<;>rfl
  rw[e,hT,ao]
  exact⟨λh=>h.2.2.symm.trans (ao _).symm,λbuf h=>h.elim λo h=>by
   show pT s.res++pre.drop s.start=A++buf;rw[h.2.2.2.1,h.2.2.2.2,au,<- ig (by rw[oG,kP h.2.2.1]; exact h.2.1),List.take_append_drop]⟩
 | cons c r ih=>
  intro pre b s A hT;have ih:=λb s A=>ih (pre++[c]) b s A (by rw[hT,oJ]);rw[show(pre++[c]).length=pre.length+1 from aJ] at ih
  have skip:∀ (b':Bool) (l:List (Nat×Str)),l.foldl (sStep t) s=(itsF r (pre.length+1) b').foldl (sStep t) s->(RO s A pre->outS t.cps.toList (l.foldl (sStep t) s)=A++(c :: stO r b'))/\∀ buf,RI s A buf pre->outS t.cps.toList (l.foldl (sStep t) s)=A++stI r b' (buf++[c]):=λb' l e=>
   ⟨λh=>by rw[e,oJ]; exact(ih b' s (A++[c])).1 h.next,λbuf h=>by rw[e]; exact(ih b' s A).2 _ h.next⟩
  cases b with
  | true=>exact skip PH _ (congrArg (λs=>(itsF r (pre.length+1) PH).foldl (sStep t) s) (if_neg (by show ¬ ((bsl++chS c) == (⟨#[34]⟩:Str))=PG; rw[vd]; exact aP)))
  | false=>
   have eT:itsF (c :: r) pre.length PH=if c=92 then itsF r (pre.length+1) PG else(pre.length,chS c) :: itsF r (pre.length+1) PH:=rfl
   have eO:stO (c :: r) PH=if c=92 then c :: stO r PG else if c=34 then stI r PH [c] else c :: stO r PH:=rfl
   have eI:∀ buf,stI (c :: r) PH buf=if c=92 then stI r PG (buf++[c]) else if c=34 then stO r PH else stI r PH (buf++[c]):=λU=>rfl
   simp only[eT,eO,eI]
   by_cases h92:c=92
   ·simp only[if_pos h92]; exact skip PG _ rfl
   ·simp only[if_neg h92]
    by_cases h34:c=34
    ·simp only[if_pos h34]; subst h34;exact⟨λh=>(ih PH _ A).2 _ h.quo,λbuf h=>(ih PH _ A).1 (h.quo hT)⟩
    ·simp only[if_neg h34];exact skip PH _ (congrArg (λs=>(itsF r (pre.length+1) PH).foldl (sStep t) s) (if_neg (by show ¬ (chS c == (⟨#[34]⟩:Str))=PG; rw[vr,decide_eq_true_eq]; exact h34)))
theorem oX (cs:List Nat):∀ (b:Bool),34∉cs->stO cs b=cs:=by
 induction cs with
 | nil=>exact λb U=>by cases b<;>rfl
 | cons c r ih=>
  intro b h;have h:=not_or.mp λz=>h (aQ.mpr z);cases b with
  | true=>exact congrArg (c :: ·) (ih PH h.2)
  | false=>exact(NP (c=92)).elim (λe=>(if_pos e:stO (c :: r) PH=_).trans (congrArg (c :: ·) (ih PG h.2))) λe=>(if_neg e:stO (c :: r) PH=_).trans ((if_neg λe:c=34=>h.1 e.symm).trans (congrArg (c :: ·) (ih PH h.2)))
theorem yj (t:Str)(l:List (Nat×Str))(s:Sst)(h0:s.start<=t.length)(h:∀ x∈l,x.1<t.length):(l.foldl (sStep t) s).start<=t.length:=by
 induction l generalizing s with
 | nil=>exact h0
 | cons x l ih=>
  rw[fc];refine ih _ ?_ λy hy=>h y (.tail _ hy);unfold sStep
  split
  ·split
   ·exact h0
   ·exact h x (.head _)
  ·exact h0
theorem GG (cs:List Nat)(i:Nat)(b:Bool)(h:b=PG->1<=i)(x:Nat×Str)(hx:x∈itsF cs i b):x.1<i+cs.length:=(AH cs i b h x hx).1
set_option tactic.hygienic true in
theorem mL (t:Str):(stripT t).cps.toList=stO t.cps.toList PH:=by
 unfold stripT
 by_cases h:(aT t dq 0 t.length 1).isEmpty=PG
 ·rw[if_pos h];have e:=StrLaws.found_one t 34;have e2:(aT t (⟨#[34]⟩:Str) 0 t.length 1).isEmpty=PG:=h;rw[e2] at e;rw[oX _ _ (of_decide_eq_false e.symm)]
 ·rw[if_neg h,yC];have hl:t.length=t.cps.toList.length:=by simp[tz]
  have hst:(sRun t (items t)).start<=t.length:=yj t _ _ (jw _) λx hx=>by
   have:=GG t.cps.toList 0 PH (by simp) x hx;rw[cA,<- hl] at this; exact this
  have r:=(yg t t.cps.toList [] PH ⟨0,PF,[]⟩ [] rfl).1 ⟨rfl,aI _,rfl⟩;have r':outS t.cps.toList (sRun t (items t))=stO t.cps.toList PH:=r;rw[<- r']; unfold outS
  split
  ·rw[kJ,CI t hst]
  ·rename_i q;have:(sRun t (items t)).start=t.cps.toList.length:=(f7 hst (dJ.mp (dQ.mp q))).trans hl;rw[this,oH,ao]
def gF (cs:List Nat)(n:Int):Option Int:=cF (stO cs PH) PH n
theorem kM (t:Str):checkT t=match gF t.cps.toList 0 with | none=>PH | some n=>decide (n=0):=by
 unfold checkT items gF;rw[BU,mL]
 try (cases cF (stO t.cps.toList PH) PH 0<;>rfl)
theorem JH (X:List Nat)(n:Int):gF (40 :: X) n=gF X (n+1):=rfl
theorem Hg (X:List Nat)(n:Int):gF (41 :: X) n=if n - 1<0 then PF else gF X (n - 1):=rfl
theorem E6 (c:Nat)(X:List Nat)(n:Int):gF (92 :: c :: X) n=gF X n:=rfl
theorem JG (X:List Nat)(n:Int):gF (34 :: 41 :: 34 :: X) n=gF X n:=rfl
theorem zA (cs:List Nat):∀ (buf:List Nat),34∉cs->92∉cs->stI cs PH buf=buf++cs:=by
 induction cs with
 | nil=>exact λbuf U U=>(ao buf).symm
 | cons c r ih=>
  intro buf h h2;have h:=not_or.mp λz=>h (aQ.mpr z);have h2:=not_or.mp λz=>h2 (aQ.mpr z);exact(if_neg (λe:c=92=>h2.1 e.symm):stI (c :: r) PH buf=_).trans ((if_neg λe:c=34=>h.1 e.symm).trans ((ih _ h.2 h2.2).trans (au buf [c] r)))
theorem Hf (X:List Nat)(n:Int)(h:34∉X)(h2:92∉X):gF (34 :: X) n=gF X n:=by
 unfold gF;rw[oX X PH h];refine(?_:cF (stI X PH [34]) PH n=_);rw[zA X _ h h2]; rfl
theorem JI (k:Int)(X:List Nat)(n:Int):gF ((nU k).cps.toList++X) n=gF X n:=by
 unfold nU
 split
 ·rfl
 ·split
  ·exact E6 41 X n
  ·split
   ·exact JG X n
   ·exact E6 34 X n
theorem L9 (b:Bool)(X:List Nat)(n:Int)(h:b=PG\/1<=n):gF ((Fo b).cps.toList++X) n=gF X (n+if b then 1 else -1):=by
 cases b with
 | true=>exact JH X n
 | false=>
  have h:1<=n:=by simpa using h
  refine(?_:gF (41 :: X) n=_);rw[Hg,if_neg (dQ.mpr (NV h))]; rfl
def vf (sh:Int):Nat->List Nat
 | 0=>[]
 | j+1=>vf sh j++(nU ((sh+(0+(j:Int))).fmod 4)).cps.toList++(Fo (BV j)).cps.toList
theorem fD (a b:Str):(a++b).cps.toList=a.cps.toList++b.cps.toList:=by
 refine(?_:(a.cps++b.cps).toList=_);rw[Array.toList_append]
theorem rD (sh:Int)(row:Str):∀ j,(dx sh row j).cps.toList=row.cps.toList++vf sh j
 | 0=>by show row.cps.toList=row.cps.toList++[]; rw[ao]
 | j+1=>by
  refine(?_:(dx sh row j++nU _++Fo (BV j)).cps.toList=row.cps.toList++(vf sh j++_++_));rw[fD,fD,rD sh row j,au,au,au]
theorem BD:∀ k:_root_.Fin 8,(BV k.val=PG\/1<=oN k.val)/\oN (k.val+1)=oN k.val+(if BV k.val then 1 else -1)/\0<=oN k.val:=by decide
theorem E5 (sh:Int):∀ (j:Nat),j<=8->∀ (X:List Nat) (n:Int),0<=n->gF (vf sh j++X) n=gF X (n+oN j)
 | 0,_,X,n,_=>by show gF X n=gF X (n+0); rw[gL]
 | j+1,hj,X,n,h=>by
  have d:=BD ⟨j,hj⟩;dsimp only at d;refine(?_:gF ((vf sh j++_++_)++X) n=_);rw[au,au,E5 sh j (n6 hj) _ n h,JI,L9,d.2.1]
  ·exact congrArg (gF X) (mK _ _ _)
  ·rcases d.1 with e | e
   ·exact .inl e
   ·exact .inr (dj e (Int.le_add_of_nonneg_left h))
def sE (sh:Int):List Int->List Nat
 | []=>[]
 | f :: l=>vf sh f.toNat++sE sh l
def depL:List Int->Int
 | []=>0
 | f :: l=>oN f.toNat+depL l
theorem zL (sh:Int):∀ (l:List Int) (row:Str),(l.foldl (λrow f=>dx sh row f.toNat) row).cps.toList=row.cps.toList++sE sh l
 | [],row=>by show row.cps.toList=_; rw[sE,ao]
 | f :: l,row=>by
  rw[fc,zL sh l,rD,sE,au]
theorem EM (f:Nat):0<=oN f:=by unfold oN; split<;>decide
theorem Ea:∀ l,0<=depL l
 | []=>ip _
 | f :: l=>NU (EM f.toNat) (Ea l)
theorem xK (sh:Int):∀ (l:List Int),(∀ f∈l,f<=8)->∀ (X:List Nat) (n:Int),0<=n->gF (sE sh l++X) n=gF X (n+depL l)
 | [],_,X,n,_=>by show gF X n=gF X (n+0); rw[gL]
 | f :: l,h,X,n,hn=>by
  have h1:=h f (.head _);have h2:=EM f.toNat;rw[sE,au,E5 sh _ (N5.mpr h1) _ n hn,xK sh l (λg hg=>h g (.tail _ hg)) _ _ (NU hn h2),depL,mK]
theorem mY:∀ (k:Nat) (X:List Nat) (n:Int),(k:Int)<=n->gF (bG k 41++X) n=gF X (n - k)
 | 0,X,n,_=>congrArg (gF X) (Ou n).symm
 | k+1,X,n,h=>by
  rw[lR];refine(?_:gF (41 :: (bG k 41++X)) n=_);rw[Hg,if_neg (dQ.mpr (NV (a:=n) (b:=1) (dj (dJ.mpr (fT k)) h))),mY k X (n - 1) (Int.le_sub_right_of_add_le (Oa k 1▸h))];exact congrArg (gF X) ((N7 n 1 k).trans (congrArg (n - ·) ((N1 1 k).trans (Oa k 1).symm)))
noncomputable def nS (k:Int):Str:=if k=1 then aa "\"" else aa ""
noncomputable def tailS (k:Int):Str:=if k=2 then aa "\\" else if k=3 then aa "b" else aa ""
set_option tactic.hygienic true in
theorem A4 (kd:Int)(k:Nat)(ex:List Nat)(he:ex=[]\/ex=[40]\/ex=[41])(n:Int)(hn:(k:Int)<=n):
  gF ((nS kd).cps.toList++(bG k 41++(ex++(tailS kd).cps.toList))) n=gF ex (n - k):=by
 have tl:∀ m:Int,gF (ex++(tailS kd).cps.toList) m=gF ex m:=by
  intro m;unfold tailS;rcases he with rfl | rfl | rfl
  ·split
   ·rfl
   ·split<;>rfl
  ·split
   ·rfl
   ·split<;>rfl
  ·split
   ·rfl
   ·split<;>rfl
 unfold nS
 split
 ·rename_i q
  have e34:34∉(bG k 41++(ex++(tailS kd).cps.toList)):=by
   rw[q];intro h;rcases bf.mp h with h | h
   ·exact absurd (jy h) (by decide)
   ·rcases he with rfl | rfl | rfl<;>exact absurd h (by decide)
  have e92:92∉(bG k 41++(ex++(tailS kd).cps.toList)):=by
   rw[q];intro h;rcases bf.mp h with h | h
   ·exact absurd (jy h) (by decide)
   ·rcases he with rfl | rfl | rfl<;>exact absurd h (by decide)
  exact(show gF (34 :: (bG k 41++(ex++(tailS kd).cps.toList))) n=gF ex (n - k) by rw[Hf _ _ e34 e92,mY _ _ _ hn,tl])
 ·refine(?_:gF (bG k 41++_) n=_);rw[mY _ _ _ hn,tl]
def bodyS (n sh kd:Int)(c:Str):Str:=plRow n sh++nS kd++c
theorem oy (n sh kd:Int)(c:Str):(bodyS n sh kd c).cps.toList=sE sh (plFigs n)++((nS kd).cps.toList++c.cps.toList):=by
 unfold bodyS plRow;rw[fD,fD,zL];refine(?_:([]++_++_)++_=_);rw[kz,au]
section
variable {n sh kd:Int}{c:Str}{k:Nat}(hc:c.cps.toList=bG k 41)(hf:∀ f∈plFigs n,f<=8)(hd:depL (plFigs n)=k)
include hc hf hd
theorem MG:checkT (bodyS n sh kd c++tailS kd)=PG:=by
 have e:gF (bodyS n sh kd c++tailS kd).cps.toList 0=PD 0:=by
  rw[fD,oy,hc,au,xK _ _ hf _ _ (ip _),hd,au];have:=A4 kd k [] (.inl rfl) (0+(k:Int)) (NT (kB _).symm);rw[kz] at this;rw[this];exact congrArg PD (NX _ _)
 rw[kM,e]; rfl
theorem MF:checkT (bodyS n sh kd c++aa ")"++tailS kd)=PH:=by
 have e:gF (bodyS n sh kd c++aa ")"++tailS kd).cps.toList 0=PF:=by
  rw[fD,fD,oy,hc,au,au,xK _ _ hf _ _ (ip _),hd,au];have:=A4 kd k [41] (.inr (.inr rfl)) (0+(k:Int)) (NT (kB _).symm);refine(?_:gF (_++(_++([41]++_))) _=_);rw[this,Hg,if_pos (by rw[NX]; decide)]
 rw[kM,e]
theorem MD:checkT (aa "("++bodyS n sh kd c++tailS kd)=PH:=by
 have e:gF (aa "("++bodyS n sh kd c++tailS kd).cps.toList 0=PD 1:=by
  rw[fD,fD,oy,hc];refine(show gF (40 :: ((sE sh (plFigs n)++((nS kd).cps.toList++bG k 41))++(tailS kd).cps.toList)) 0=PD 1 from ?_);rw[JH,au,xK _ _ hf _ _ (by decide),hd,au];have:=A4 kd k [] (.inl rfl) (0+1+(k:Int)) (Int.le_add_of_nonneg_left (by decide));rw[kz] at this;rw[this];exact congrArg PD (NX _ _)
 rw[kM,e]; rfl
end
theorem MC (a:Str):checkT (aa ")"++a)=PH:=by
 have e:gF (aa ")"++a).cps.toList 0=PF:=by
  rw[fD]; rfl
 rw[kM,e]
theorem Oo {x:Nat}{l:List Nat}(e:l=l')(h:x∈l):x∈l':=e▸h
theorem OL (x:Nat)(cs:List Nat):(∀ b,x∈stO cs b->x∈cs)/\∀ b buf,x∈stI cs b buf->x∈buf\/x∈cs:=by
 induction cs with
 | nil=>exact⟨λb h=>by cases b<;>exact h,λb buf h=>by cases b<;>exact .inl h⟩
 | cons c r ih=>
  have K:∀ b buf,x∈stI r b (buf++[c])->x∈buf\/x∈c :: r:=λb buf h=>(ih.2 b _ h).elim (λh=>(bf.mp h).imp_right λh=>(ay.mp h:x=c)▸.head _) λh=>.inr (.tail _ h);have M:∀ b,x∈c :: stO r b->x∈c :: r:=λb h=>(aQ.mp h).elim (λe=>e▸.head _) λh=>.tail _ (ih.1 b h);refine⟨λb h=>?_,λb buf h=>?_⟩
  ·cases b with
   | true=>exact M _ h
   | false=>exact(NP (c=92)).elim (λe=>M PG (Oo (if_pos e:stO (c :: r) PH=_) h)) λe=>(NP (c=34)).elim (λe2=>(K PH [] (Oo (if_pos e2) (Oo (if_neg e:stO (c :: r) PH=_) h))).resolve_left λh=>nomatch h) λe2=>M PH (Oo (if_neg e2) (Oo (if_neg e:stO (c :: r) PH=_) h))
  ·cases b with
   | true=>exact K _ _ h
   | false=>exact(NP (c=92)).elim (λe=>K PG _ (Oo (if_pos e:stI (c :: r) PH buf=_) h)) λe=>(NP (c=34)).elim (λe2=>.inr (.tail _ (ih.1 _ (Oo (if_pos e2) (Oo (if_neg e:stI (c :: r) PH buf=_) h))))) λe2=>K PH _ (Oo (if_neg e2) (Oo (if_neg e:stI (c :: r) PH buf=_) h))
theorem OI {l:List Nat}{n:Nat}(e:l=l')(h:l'.length<=n):l.length<=n:=e▸h
theorem OS (cs:List Nat):(∀ b,(stO cs b).length<=cs.length)/\∀ b buf,(stI cs b buf).length<=buf.length+cs.length:=by
 induction cs with
 | nil=>exact⟨λb=>by cases b<;>exact aI _,λb buf=>by cases b<;>exact aI _⟩
 | cons c r ih=>
  have K:∀ b (buf:List Nat),(stI r b (buf++[c])).length<=buf.length+(r.length+1):=λb buf=>ar (ih.2 b _) (bq (by rw[aJ,N8,NZ r.length]; rfl));have M:∀ b,(c :: stO r b).length<=r.length+1:=λb=>fU (ih.1 b);refine⟨λb=>?_,λb buf=>?_⟩
  ·cases b with
   | true=>exact M _
   | false=>exact(NP (c=92)).elim (λe=>OI (if_pos e:stO (c :: r) PH=_) (M PG)) λe=>OI (if_neg e:stO (c :: r) PH=_) ((NP (c=34)).elim (λe2=>OI (if_pos e2) (ar (K PH []) (bq (cA _)))) λe2=>OI (if_neg e2) (M PH))
  ·cases b with
   | true=>exact K _ _
   | false=>exact(NP (c=92)).elim (λe=>OI (if_pos e:stI (c :: r) PH buf=_) (K PG buf)) λe=>OI (if_neg e:stI (c :: r) PH buf=_) ((NP (c=34)).elim (λe2=>OI (if_pos e2) (ar (ih.1 _) (ar (qR _) (dZ _ _)))) λe2=>OI (if_neg e2) (K PH buf))
def m8 (l:List Nat):Prop:=∀ x∈l,x<128
theorem kN {a b:List Nat}(h:m8 a)(h2:m8 b):m8 (a++b):=λx hx=>(bf.mp hx).elim (h x) (h2 x)
theorem Ep (k:Int):m8 (nU k).cps.toList:=by
 unfold nU m8
 split
 ·decide
 ·split
  ·decide
  ·split<;>decide
theorem H6 (b:Bool):m8 (Fo b).cps.toList:=by cases b<;>unfold m8<;>decide
theorem xZ (sh:Int):∀ j,m8 (vf sh j)
 | 0=>λU h=>nomatch h
 | j+1=>kN (kN (xZ sh j) (Ep _)) (H6 _)
theorem x2 (sh:Int):∀ l,m8 (sE sh l)
 | []=>λU h=>nomatch h
 | _ :: l=>kN (xZ sh _) (x2 sh l)
theorem Eo (k:Int):m8 (nS k).cps.toList:=by unfold nS m8; split<;>decide
theorem BY (k:Int):m8 (tailS k).cps.toList:=by
 unfold tailS m8
 split
 ·decide
 ·split<;>decide
theorem B3 {sh kd:Int}{c:Str}{k:Nat}(hc:c.cps.toList=bG k 41):m8 (bodyS n sh kd c).cps.toList:=by
 rw[oy,hc];exact kN (x2 _ _) (kN (Eo _) λx hx=>by rw[jy hx]; decide)
theorem x5 (h:m8 t.cps.toList):t.cps.all (·<128)=PG:=by
 rw[Array.all_eq_true'];intro x hx;exact decide_eq_true (h x (by simpa using hx))
theorem yT (h:m8 t.cps.toList):m8 (stripT t).cps.toList:=by
 rw[mL]; exact λx hx=>h x ((OL _ _).1 _ hx)
theorem yB (t:Str):(stripT t).length<=t.length:=by
 have:=(OS t.cps.toList).1 PH;rw[<- mL] at this
 simpa [tz] using this
noncomputable def gx:List Int->Int
 | []=>0
 | f :: l=>(if f=1 then 1 else 0)+gx l
theorem rI:∀ (a b:List Int),gx (a++b)=gx a+gx b
 | [],b=>(kB _).symm
 | f :: a,b=>by
  refine(?_:_+gx (a++b)=_+gx a+_);rw[rI a b,mK]
theorem rH:∀ (a:List Int),gx a.reverse=gx a
 | []=>rfl
 | f :: a=>by
  rw[jo,rI,rH a];refine(?_:gx a+(_+0)=_+gx a);rw[gL,N1]
theorem ua:∀ (l:List Int) (p:(Int×Int×Int)×Int),(l.foldl vp p).2=p.2+gx l
 | [],p=>(gL _).symm
 | f :: l,p=>by
  rw[fc,ua l];refine(?_:p.2+(if f=1 then 1 else 0)+gx l=p.2+((if f=1 then 1 else 0)+gx l));exact mK _ _ _
theorem ub:∀ l,0<=gx l/\gx l<=l.length
 | []=>⟨ip _,ip _⟩
 | f :: l=>by
  have:=ub l;refine(?_:0<=(if f=1 then 1 else 0)+gx l/\(if f=1 then 1 else 0)+gx l<=((l.length+1:Nat):Int));have k:(0:Int)<=(if f=1 then 1 else 0)/\(if f=1 then 1 else 0:Int)<=1:=by split<;>decide
  exact⟨NU k.1 this.1,dj (Oq k.2 this.2) (NT (N1 1 _))⟩
def gw (n:Int):Int:=gx (ownRun n 12).2
theorem xn (n c:Int):(ownRes n c).2 - c=gw n:=by
 unfold ownRes;rw[ua,rH];exact(congrArg (· - c) (N1 c _)).trans (NX _ c)
theorem mi (n:Int):0<=gw n/\gw n<=12:=by
 have q:=ub (ownRun n 12).2;exact⟨q.1,dj q.2 (dJ.mpr (lu n 12))⟩
theorem t9 (n:Int)(i:Nat):(∀ d∈(pRun n i).2,0<=d/\d<=8)/\(pRun n i).2.length<=i:=by
 induction i with
 | zero=>exact⟨λd hd=>(by cases hd),aI _⟩
 | succ i ih=>
  refine(?_:(∀ d∈(pStep _).2,_)/\(pStep _).2.length<=_);unfold pStep
  split
  ·exact⟨ih.1,cq ih.2⟩
  ·refine⟨λd hd=>?_,ar (bq aJ) (fU ih.2)⟩;rcases bf.mp hd with h | h
   ·exact ih.1 d h
   ·rw[ay.mp h];have a:=bu (pRun n i).1 (show(0:Int)<9 by decide);have b:=bJ (pRun n i).1 (show(0:Int)<9 by decide);exact⟨a,de b⟩
theorem oq (n:Int):∀ f∈plFigs n,f<=8:=λf hf=>((t9 n 8).1 f (oF.mp hf)).2
theorem A9 (n:Int):(plFigs n).length<=8:=by unfold plFigs; rw[bV]; exact(t9 n 8).2
theorem rE (n sh:Int):(plRow n sh).length<=256:=by
 have h:=sD sh (plFigs n) (⟨0,0,0,0⟩,aa "") (oq n);rw[lq] at h;have h2:=A9 n;have h3:(aa "").length=0:=by decide
 dsimp only at h;rw[h3] at h;refine(?_:((plFigs n).foldl (λrow f=>dx sh row f.toNat) (aa "")).length<=256);exact ar h (ar (NR (NQ 32 h2) 0) (by decide))
def MB (n:Int):Bool:=decide (depL (plFigs n)=gw n)
def H8 (a k:Nat):Bool:=(bz k).all λi=>MB (((a+i:Nat):Int) - 729)
theorem uR {k:Nat}(h:H8 a k=PG)(h1:(a:Int) - 729<=n)(h2:n<(a:Int)+(k:Int) - 729):depL (plFigs n)=gw n:=by
 have q:=(aR.mp h) (n+729 - a).toNat (dm.mpr (O6 h1 h2));have e:(((a+(n+729 - a).toNat:Nat):Int) - 729)=n:=O5 h1;rw[e] at q;exact of_decide_eq_true q
theorem J6:H8 0 729=PG:=by decide +kernel
theorem J5:H8 729 729=PG:=by decide +kernel
theorem BC (h1:-729<=n)(h2:n<729):depL (plFigs n)=gw n:=by
 by_cases h:n<0
 ·exact uR J6 h1 h
 ·exact uR J5 (dQ.mp h) h2
set_option tactic.hygienic true in
theorem nE {k:Int}(h:0<=k):(ww (aa ")") k).cps.toList=bG k.toNat 41:=by
 have f:∀ (n:Nat) (acc:Array Nat),((bG n (#[41]:Array Nat)).foldl (·++·) acc).toList=acc.toList++bG n 41:=by
  intro n
  induction n with
  | zero=>intro acc; rw[List.replicate_zero,List.replicate_zero,ao]; rfl
  | succ n ih=>
   intro acc;rw[lR,fc,ih,lR];simp
 unfold ww
 split
 ·rename_i q;rw[show k=0 by lia]; rfl
 ·split
  ·rename_i q
   have q':k=1:=by
    rw[fh] at q;rcases q with q | q
    ·exact of_decide_eq_true q
    ·exact absurd q (by decide)
   rw[q']; rfl
  ·exact(f k.toNat #[]).trans (kz _)
theorem len_list (a:Str):a.length=a.cps.toList.length:=by simp[tz]
theorem xu {k:Int}(h:0<=k)(h2:k<=12):(ww (aa ")") k).length<=12:=by
 rw[len_list,nE h,List.length_replicate]; exact N5.mpr h2
abbrev clS (n:Int):Str:=ww (aa ")") (gw n)
abbrev rwS (n sh kd:Int):Str:=bodyS n sh kd (clS n)
abbrev tlS (kd:Int):Str:=tailS kd
theorem uh (k:Int):(nS k).length<=1:=by unfold nS; split<;>decide
theorem sq (k:Int):(tlS k).length<=1:=by
 refine(?_:(tailS k).length<=1);unfold tailS
 split
 ·decide
 ·split<;>decide
theorem sC (n sh kd:Int):(rwS n sh kd).length<=269:=by
 have h1:=rE n sh;have h2:=uh kd;have h3:=mi n;have h4:(clS n).length<=12:=xu h3.1 h3.2;refine(?_:(plRow n sh++nS kd++clS n).length<=269);rw[ee,ee]; exact du (b:=256+1) (d:=12) (du h1 h2) h4
section
variable (n sh kd:Int)
abbrev tx1:Str:=rwS n sh kd++tlS kd
abbrev tx2:Str:=rwS n sh kd++aa ")"++tlS kd
abbrev tx3:Str:=aa "("++rwS n sh kd++tlS kd
abbrev tx4:Str:=aa ")"++rwS n sh kd++aa "("++tlS kd
end
theorem oa (h:m8 t.cps.toList)(hl:t.length<=1000):TxOk t:=⟨x5 h,hl,x5 (yT h),ar (yB t) hl⟩
theorem ou (n:Int):(clS n).cps.toList=bG (gw n).toNat 41:=nE (mi n).1
theorem tv (n sh kd:Int):m8 (rwS n sh kd).cps.toList:=B3 (ou n)
theorem tu (kd:Int):m8 (tlS kd).cps.toList:=BY _
theorem iV {a b:Str}(h:m8 a.cps.toList)(h2:m8 b.cps.toList):m8 (a++b).cps.toList:=by rw[fD]; exact kN h h2
theorem BZ:m8 (aa "(").cps.toList:=by unfold m8; decide
theorem B1:m8 (aa ")").cps.toList:=by unfold m8; decide
theorem IF (n sh kd:Int):TxOk (tx1 n sh kd)/\TxOk (tx2 n sh kd)/\TxOk (tx3 n sh kd)/\TxOk (tx4 n sh kd):=by
 have h1:=sC n sh kd;have h2:=sq kd;have h3:(aa "(").length=1:=by decide
 have h4:(aa ")").length=1:=by decide
 refine⟨oa (iV (tv n sh kd) (tu kd)) ?_,oa (iV (iV (tv n sh kd) B1) (tu kd)) ?_,oa (iV (iV BZ (tv n sh kd)) (tu kd)) ?_,oa (iV (iV (iV B1 (tv n sh kd)) BZ) (tu kd)) ?_⟩
 ·rw[ee]; exact ar (du h1 h2) (by decide)
 ·rw[ee,ee]; exact ar (du (du h1 (bq h4)) h2) (by decide)
 ·rw[ee,ee]; exact ar (du (du (bq h3) h1) h2) (by decide)
 ·rw[ee,ee,ee]; exact ar (du (du (du (bq h4) h1) (bq h3)) h2) (by decide)
noncomputable abbrev badS:Str:=aa "('', '')"
theorem r8 (a b c:Str):a++b++c=a++(b++c):=by
 apply Str.ext';refine(?_:a.cps++b.cps++c.cps=a.cps++(b.cps++c.cps));rw[Array.append_assoc]
theorem Fz (sh kd:Int)(hb:-729<=n/\n<729):preT (tx1 n sh kd)=tx1 n sh kd/\preT (tx2 n sh kd)=badS/\preT (tx3 n sh kd)=badS/\preT (tx4 n sh kd)=badS:=by
 have hd:depL (plFigs n)=((gw n).toNat:Int):=by rw[BC hb.1 hb.2,dG (mi n).1]
 have c0:=MG (n:=n) (sh:=sh) (kd:=kd) (ou n) (oq _) hd;have c1:=MF (n:=n) (sh:=sh) (kd:=kd) (ou n) (oq _) hd;have c2:=MD (n:=n) (sh:=sh) (kd:=kd) (ou n) (oq _) hd;have c3:checkT (tx4 n sh kd)=PH:=by unfold tx4; rw[r8,r8]; exact MC _
 unfold preT;refine⟨if_pos c0,if_neg ?_,if_neg ?_,if_neg ?_⟩
 ·rw[show checkT (tx2 n sh kd)=PH from c1]; exact aP
 ·rw[show checkT (tx3 n sh kd)=PH from c2]; exact aP
 ·rw[c3]; exact aP
end Mine
end
section
open PySem PySem.W PySem.Calls PySem.Spec PyProof.Rows Mine
namespace Nw
variable {c:Cx}{l:Str}{x y z:Int}{p:Num}{kk:Nat}{a:aj}{w:aB}{Os₀ ys:List SO}{ps:List PV}{ds:List Nat}{q:PV×List SO}{rs:List CallR}
abbrev gA (k:Int):Str:=[aa "",aa "\"",aa "",aa ""].getD (ixN k 4) ⟨#[]⟩
abbrev gB (k:Int):Str:=[aa "",aa "",aa "\\",aa "b"].getD (ixN k 4) ⟨#[]⟩
theorem gAB {k:Int}(h:0<=k/\k<=3):gA k=nS k/\gB k=tailS k:=by
 rcases c4 h.1 (NJ h.2 (by decide)) with r | r | r | r<;>subst r<;>exact⟨by decide +kernel,by decide +kernel⟩
theorem Gj {o:Int}(h:0<=o/\o<=12):MT (S' ")") o:=by
 have:∀ n:_root_.Fin 13,MT (S' ")") (n.val:Int):=by unfold MT; decide +kernel
 have q:=this ⟨o.toNat,OQ (by decide) (NJ h.2 (by decide))⟩;rwa [tn3 h.1] at q
theorem GC {O:List SO}(hw:c.w=w)(H:LwC c [10,3])(h:Run (wkN w []) c (rV x y [nm "parts" (.r 11),nm "row" (.s (rwS (nN x) (shN y) (kdN y))),nm "own" (.r 12),nm "ones" (.i (gw (nN x))),nm "tail" (.s (tlS (kdN y)))]) (rO w (PD (.s l)) x y z [sN (plNum (nN x) (eE y)),lft (ownRes (nN x) (eE y)).1.1 (ownRes (nN x) (eE y)).1.2.1 (ownRes (nN x) (eE y)).1.2.2]) [(bn w 323).drop 16]):
  Run (wkN w [Gb (nN x) (eE y)]) c (rV x y [nm "parts" (.r 11),nm "row" (.s (plRow (nN x) (shN y))),nm "own" (.r 12),nm "ones" (.i ((ownRes (nN x) (eE y)).2 - eE y))]) (rO w (PD (.s l)) x y z [sN (plNum (nN x) (eE y)),lft (ownRes (nN x) (eE y)).1.1 (ownRes (nN x) (eE y)).1.2.1 (ownRes (nN x) (eE y)).1.2.2]) [(bn w 323).drop 15]:=by
 subst hw;rw[xn];refine bU λG1 hG1=>?_;obtain⟨e1,e2⟩:=gAB (AG y);obtain⟨k0,k1⟩:=AG y;have o0:=mi (nN x);have h1:=rE (nN x) (shN y);have h2:=uh (kdN y);have h4:(clS (nN x)).length<=12:=xu o0.1 o0.2;refine hG1 ?_;rw[<- e1] at h2;have h:Run (wkN c.w []) c (rV x y [nm "parts" (.r 11),nm "row" (.s (plRow (nN x) (shN y)++nS (kdN y)++clS (nN x))),nm "own" (.r 12),nm "ones" (.i (gw (nN x))),nm "tail" (.s (tailS (kdN y)))]) (rO c.w (PD (.s l)) x y z [sN (plNum (nN x) (eE y)),lft (ownRes (nN x) (eE y)).1.1 (ownRes (nN x) (eE y)).1.2.1 (ownRes (nN x) (eE y)).1.2.2]) [(bn c.w 323).drop 16]:=h;rw[<- e1,<- e2] at h;refine Run.wm (rs:=[]) (λU U U U U U q=>nomatch q) ?_
 refine Run.asS [S' "row",S' "tail"] (rV x y [nm "parts" (.r 11),nm "row" (.s (plRow (nN x) (shN y)++gA (kdN y)++clS (nN x))),nm "own" (.r 12),nm "ones" (.i (gw (nN x))),nm "tail" (.s (gB (kdN y)))]) (rO c.w (PD (.s l)) x y z [sN (plNum (nN x) (eE y)),lft (ownRes (nN x) (eE y)).1.1 (ownRes (nN x) (eE y)).1.2.1 (ownRes (nN x) (eE y)).1.2.2,.T [.s (S' ""),.s (S' "\""),.s (S' ""),.s (S' "")],.T [.s (S' ""),.s (S' ""),.s (S' "\\"),.s (S' "b")],.T [.s (plRow (nN x) (shN y)++gA (kdN y)++clS (nN x)),.s (gB (kdN y))]])
  [-(4:Int)<=kdN y,kdN y<4,(plRow (nN x) (shN y)).length+(gA (kdN y)).length<=sizeLine,MT (S' ")") (gw (nN x)),(plRow (nN x) (shN y)++gA (kdN y)).length+(clS (nN x)).length<=sizeLine,-(4:Int)<=kdN y,kdN y<4] (by kernel_rfl) (by kernel_rfl) ⟨dj (by decide) k0,NJ k1 (by decide),ar (du h1 h2) (by decide),Gj o0,by rw[ee]; exact ar (du (du h1 h2) h4) (by decide),dj (by decide) k0,NJ k1 (by decide),PI⟩ ?_
 exact Run.gc [0,1,2,3,4,5,6,7,8,9,10,11,12] [] [S' "third",S' "number",S' "kind",S' "shift",S' "white",S' "cells",S' "rules",S' "parts",S' "row",S' "own",S' "ones",S' "tail"] [10,3] _ _ H.np (by kernel_rfl) (by kernel_rfl) (by kernel_rfl) h
theorem GB {r tl:Str}{o:Int}(hw:c.w=w)(H:LwC c [10,3])(hl:ltr p.lt=fk (S' "rgb") ((eE y+o).fmod 3))(h:Run (wkN w []) c (rV x y [nm "parts" (.r 11),nm "row" (.s r),nm "tail" (.s tl)]) (rO w (PD (.s (ltr p.lt))) x y z [sN p]) [(bn w 323).drop 17]):
  Run (wkN w []) c (rV x y [nm "parts" (.r 11),nm "row" (.s r),nm "own" (.r 12),nm "ones" (.i o),nm "tail" (.s tl)]) (rO w (PD (.s (ltr p.lt))) x y z [sN p,sN p]) [(bn w 323).drop 16]:=by
 subst hw
 have k0:∀ a:Int,0<=a/\a<3->fitsSsize a=PG/\(bR (S' "rgb") a).isSome=PG:=λa ha=>by
  rcases c3 ha.1 ha.2 with q | q | q<;>subst q<;>exact⟨by decide,by decide +kernel⟩
 obtain⟨k1,k2⟩:=k0 _ (iT (eE y+o) (n:=3) (by decide));refine Run.ifN ((!(p.x == p.x&&(p.y == p.y&&(p.z == p.z&&PG))))||((ltr p.lt != fk (S' "rgb") ((eE y+o).fmod 3))||false)) [(3:Int)≠0,fitsSsize ((eE y+o).fmod 3)=PG,(bR (S' "rgb") ((eE y+o).fmod 3)).isSome=PG] (by kernel_rfl) ⟨by decide,k1,k2,PI⟩ (λq=>?_) λU=>?_
 ·rw[hl,beq_self_eq_true,beq_self_eq_true,beq_self_eq_true,bne_self_eq_false] at q;cases q
 ·exact Run.gc [0,1,2,3,4,5,6,7,8,9,10,11] [] [S' "third",S' "number",S' "kind",S' "shift",S' "white",S' "cells",S' "rules",S' "parts",S' "row",S' "tail"] [10,3] _ _ H.np (by kernel_rfl) (by kernel_rfl) (by kernel_rfl) h
abbrev Ij (n s k:Int):SO:=.L [.s (tx1 n s k),.s (tx2 n s k),.s (tx3 n s k),.s (tx4 n s k)]
theorem GA (hw:c.w=w)(H:LwC c [10,3])(h:Run (wkN w []) c (rV x y [nm "parts" (.r 11),nm "row" (.s (rwS (nN x) (shN y) (kdN y))),nm "tail" (.s (tlS (kdN y))),nm "texts" (.r 12)]) (rO w (PD (.s l)) x y z [sN p,Ij (nN x) (shN y) (kdN y)]) [(bn w 323).drop 18]):
  Run (wkN w []) c (rV x y [nm "parts" (.r 11),nm "row" (.s (rwS (nN x) (shN y) (kdN y))),nm "tail" (.s (tlS (kdN y)))]) (rO w (PD (.s l)) x y z [sN p]) [(bn w 323).drop 17]:=by
 subst hw;have h1:=sC (nN x) (shN y) (kdN y);have h2:=sq (kdN y);have h3:(S' "(").length<=1:=by decide
 have h4:(S' ")").length<=1:=by decide
 unfold Ij tx1 tx2 tx3 tx4 at h;generalize rwS (nN x) (shN y) (kdN y)=r at*;generalize tlS (kdN y)=t at*
 refine Run.blk 1 (rV x y [nm "parts" (.r 11),nm "row" (.s r),nm "tail" (.s t),nm "texts" (.r 12)]) (rO c.w (PD (.s l)) x y z [sN p,.L [.s (r++t),.s (r++S' ")"++t),.s (S' "("++r++t),.s (S' ")"++r++S' "("++t)]])
  [r.length+t.length<=sizeLine,r.length+(S' ")").length<=sizeLine,(r++S' ")").length+t.length<=sizeLine,(S' "(").length+r.length<=sizeLine,(S' "("++r).length+t.length<=sizeLine,(S' ")").length+r.length<=sizeLine,(S' ")"++r).length+(S' "(").length<=sizeLine,(S' ")"++r++S' "(").length+t.length<=sizeLine] (by kernel_rfl) ?_ h
 have ap:∀ {a b:Str} {m n:Nat},a.length<=m->b.length<=n->(a++b).length<=m+n:=λh k=>ar (bq (ee ..)) (du h k);have le:∀ {a b m n:Nat},a<=m->b<=n->m+n<=sizeLine->a+b<=sizeLine:=λh k q=>ar (du h k) q;exact⟨le h1 h2 (by decide),le h1 h4 (by decide),le (ap h1 h4) h2 (by decide),le h3 h1 (by decide),le (ap h3 h1) h2 (by decide),le h4 h1 (by decide),le (ap h4 h1) h3 (by decide),le (ap (ap h4 h1) h3) h2 (by decide),PI⟩
theorem ConY.call {gs:ai->ai->Prop}{Z:Cx->List aj->aL->Prop}{k:Nat}{tb:Bool}{p:PV}{Os₁:List SO}(C:ConY gs Z w a k tb Os₀ ps p Os₁ ys){f:Fs}{V:Vm}{m:Str->Option af}{as:List aj}{Os:List SO}{h:aL}(hw:c.w=w)(hk:k<=c.k)(htb:tb=PG->c.tb=PG)(O:c.Ok f)(i:Inv f c V m as Os h)
  {as₀:List aj} (g:Giv as Os h as₀ Os₀) (z:Z c as₀ h) (no:∀ (j:Nat) (y:SO),Os₀[j]?=PD y->¬ y.own) {vs:List af} (hvs:IsAll as₀ ps vs)  (e1:p.rn (sigC Os₀.length Os.length)=PD q.1) (e2:uW (sigC Os₀.length Os.length) ys=PD q.2)
  {E Q:af->ai->Prop} {tk:Nat} (hq:∀ v bs h' tk' s',gs c.s₀ s'->q.1.is (as++bs) v->Inv f c V m (as++bs) (Os++q.2) h'->Kp c h h'->Q v (sh s' h' tk')):wpAny (MP c.w) (c.A f) (call (.ref a) vs) Q E (sh c.s₀ h tk):=by
 refine C f c V m as Os h hw hk htb O i as₀ g z vs hvs E Q tk λv bs h' tk' s' es hv A=>?_
 have H:∀ j i' a',sigC Os₀.length Os.length j=PD i'->(as₀++bs)[j]?=PD a'->(as++bs)[i']?=PD a':=λj i' a' es ea=>by
  unfold sigC at es
  by_cases hj:j<Os₀.length
  ·rw[if_pos hj] at es; cases es
  ·rw[if_neg hj] at es; cases es;have hj:=hH hj;rw[aM (g.len▸hj),g.len] at ea;rw[<- i.len,aM (a8 _ _),eH];exact ea
 have ap:∀ b,Apart as₀ Os₀ b:=λb j y U e hw=>no j y e hw;have kp:∀ b o,b≠c.L->(tb=PG->b≠54/\b≠61)->h.get? b=PD o->h'.get? b=PD o:=λb o U ht e=>A.kp b o (ap b) ht e;have nL:tb=PG->c.L≠54/\c.L≠61:=λht=>⟨λq=>by obtain⟨_,_,h2,_⟩:=i.t1 (htb ht); exact h2 q.symm,λq=>by obtain⟨_,_,h2,_⟩:=i.t2 (htb ht); exact h2 q.symm⟩;have F':Fr c.h₀ c.L h' m:=⟨i.F.ns.at' λo e=>A.kp c.L o (ap _) nL e,λb o e=>A.kp b o (ap _) (λht=>⟨λq=>(by obtain⟨_,_,_,h3,_⟩:=i.t1 (htb ht); rw[q,h3] at e; cases e),λq=>(by obtain⟨_,_,_,h3,_⟩:=i.t2 (htb ht); rw[q,h3] at e; cases e)⟩) (i.F.keep b o e),i.F.above⟩;obtain⟨z1,z2⟩:=vh e2
 exact hq v bs h' tk' s' es (PV.rn_is H e1 hv) (i.madeT F' htb kp ⟨A.nw.len.trans z1.symm,A.nw.nd,λt D z eD ez=>by
  refine bU λG1 hG1=>?_;obtain⟨y,h1,h2⟩:=z2 t z ez;obtain⟨g1,⟨o,g2,g3⟩,g4⟩:=A.nw.ob t D y eD h1;refine hG1 ?_;exact⟨g1,⟨o,g2,SO.rn_is H h2 g3⟩,(SO.rn_own h2).2⟩⟩ A.t1 A.t2) λb o n1 n2 e=>kp b o n1 (λht=>n2 (htb ht)) e
def Jb (e:aw):Option (aw×aw):=(vw e).boo?.bind λq=>if q.1=.Or then(yb q.2) else PF
theorem Gc {e:aw}{q:aw×aw}(h:Jb e=PD q):∃ p,e=.BoolOp .Or [q.1,q.2] p:=ak h λr e1 h=>iteE h λho h=>(boo_is e1).elim λp e2=>⟨p,by rw[e2,ho,two_is h]⟩
def JW (e:aw):Option (iu×aw×aw):=(vw e).cmp?.bind λq=>(one q.2.1).bind λop=>(one q.2.2).bind λr=>if behindInMarks op r=PH then PD (op,q.1,r) else PF
theorem BH {e:aw}{q:iu×aw×aw}(h:JW e=PD q):(∃ p,e=.Compare q.2.1 [q.1] [q.2.2] p)/\behindInMarks q.1 q.2.2=PH:=ak h λt e1 h=>ak h λop e2 h=>ak h λr e3 h=>iteE h λhb h=>by
 cases h;exact⟨(cmp_is e1).elim λp e4=>⟨p,by rw[e4,one_is e2,one_is e3]⟩,hb⟩
section
variable {k:Wk}{c:Cx}{V:Vm}{Os:List SO}{b:List aS}{bs:List (List aS)}{C:List Prop}
def L4 (b:List aS):Option ((Str×aw)×(iu×aw)×aw):=(EZ b).bind λq=>if q.2.2.isEmpty=PG then(Jb q.1).bind λt=>(JW t.1).bind λr=>(hC1 r.2.1).bind λu=>PD (u,(r.1,r.2.2),t.2) else PF
theorem AR {q:(Str×aw)×(iu×aw)×aw}(h:L4 b=PD q):behindInMarks q.2.1.1 q.2.1.2=PH/\∃ body px p p1 p2 p3,b=.If (.BoolOp .Or [.Compare (.Call (.Name q.1.1 px) [q.1.2] [] p) [q.2.1.1] [q.2.1.2] p1,q.2.2] p2) body [] p3 :: b.tail:=
 ak h λq0 e1 h=>iteE h λe2 h=>ak h λt e3 h=>ak h λr e4 h=>ak h λu e5 h=>ac h▸bU λG hG=>(pN e1).elim λp3 e1=>(Gc e3).elim λp2 e3=>(BH e4).1.elim λp1 e6=>(pO e5).elim λpx w=>w.elim λp e5=>
  hG ⟨(BH e4).2,q0.2.1,px,p,p1,p2,p3,e1.trans (by rw[e3,e6,e5,aX.mp e2])⟩
def LA (k:Wk)(w:aB)(V:Vm)(Os:List SO)(b:List aS):Option (af×PV×List Prop):=(L4 b).bind λq=>(ldF w k.f V Os q.1.1).bind λu=>u.val?.bind λv=>(evF k w V Os q.1.2).bind λa=>if a.2.1.isEmpty=PG then PD (v,a.1,a.2.2) else PF
def Lz (k:Wk)(w:aB)(V:Vm)(Os:List SO)(r:PV)(b:List aS):Option (Bool×Bool×List SO×List Prop):=(L4 b).bind λq=>(evF k w V Os q.2.1.2).bind λa=>(Da q.2.1.1 (Os++a.2.1) r a.1).bind λx=>(yc (evF k w V) (Os++a.2.1) q.2.2).bind λt=>if t.2.1.isEmpty=PG then PD (x,t.1,a.2.1,a.2.2++t.2.2) else PF
theorem A2 {u:PV}{p:PV}{px p0 p1 p2 p3:Pos}{body:List aS}{fx:Str}{ex er et:aw}{op:iu}{b2:nb}{y0:AnsB}(hb:behindInMarks op er=PH)(e9:b=.If (.BoolOp .Or [.Compare (.Call (.Name fx px) [ex] [] p0) [op] [er] p1,et] p2) body [] p3 :: b.tail)(g2:ldF c.w k.f V Os fx=PD (.v (.ref a)))(g4:evF k c.w V Os ex=PD (u,[],C))(hC:Al C)(hd:dN c.w a)(hh:c.hv=PF){s9:ai}(hg:c.gs=gR s9)(K:ConY gR ZT c.w a kk PH Os₀ ps p [] ys)(hk:kk<=c.k)
  (hn:dy ds=PG) (hgv:gvL (gvS (ds.map λi=>(i,PH))) Os (ds.map λi=>(i,PH))=PD Os₀) (no:∀ (j:Nat) (y:SO),Os₀[j]?=PD y->¬ y.own) (hu:tD (gvS (ds.map λi=>(i,PH))) [u]=PD ps) (e1:p.rn (sigC Os₀.length Os.length)=PD q.1) (e2:uW (sigC Os₀.length Os.length) ys=PD q.2)
  (g7:evF k c.w V (Os++q.2) er=PD b2) (g8:Da op (Os++q.2++b2.2.1) q.1 b2.1=PD PH) (g9:yc (evF k c.w V) (Os++q.2++b2.2.1) et=PD y0) (hz:y0.2.1=[]) (hy:y0.1=PH) (hC2:Al (b2.2.2++y0.2.2)) (h:Run k c V (Os++q.2++b2.2.1) (b.tail :: bs)):Run k c V Os (b :: bs):=by
 rw[e9];refine .of λ{s} O as h1 tk m i=>bc (rl (nZ (oW (fM (p7 O i g2 g4 hC (dk O.o hd rfl) λv1 h2 tk2 hv i2=>?_) hb))));have g0:gR s9 s:=hg▸O.o.g0;refine(Giv.ofs i2 (ds.map λi=>(i,PH)) (by rw[c8]; exact(eM ds).symm▸hn) hgv).elim λas₀ gv=>ConY.call (c:=c.at s) K rfl hk (λz=>nomatch z) O.o i2 gv.1 ⟨g0.bare,hh⟩ no (Om (λj t a q1 q2=>aZ (aG.symm.trans (pL _ q1)) λd h4 eq=>gv.2.1 t d a h4 (by rw[eq] at q2; exact q2)) hu ⟨v1,[],rfl,hv,rfl⟩) e1 e2 λv2 bs2 h3 tk3 s3 gs3 hv2 i3 U=>?_;have i3:Inv k.f (c.at s3) V m (as++bs2) (Os++q.2) h3:=⟨i3.F,i3.M,i3.C,i3.len,i3.ob,i3.nd,i3.t1,i3.t2,i3.pf,i3.pn⟩;have O3:k.Ok (c.at s3):=O.at (hg▸g0.trans gs3);refine(b7 O3.toOkc _ _ _ g7).2 hC2.left _ _ _ _ _ i3 λv3 bs4 h4 tk4 hv4 i4 U=>xj (c:=c.at s3) g8 i4 O3.o.h O3.o.u2 hv2.up hv4 λtk5=>cK (oW (lY ⟨IOk.inv,O3.o.h,O3.o.u2⟩ (b7 O3.toOkc) g9 hC2.right _ _ _ _ _ i4 λbs6 h6 tk6 i6 U=>?_));rw[hy];have i6:Inv k.f (c.at s3) V m (as++bs2++bs4++bs6) (Os++q.2++b2.2.1++y0.2.1) h6:=i6;rw[hz,ao] at i6;exact ng (gy (h.at O3 i6))
theorem Run.gcO (x y:Bool){u:PV}{p:PV}{Z:List SO}{C':List Prop}(he:LA k c.w V Os b=PD (.ref a,u,C))(hC:Al C)(hd:dN c.w a)(hh:c.hv=PF)(hg:∃ s,c.gs=gR s)(K:ConY gR ZT c.w a kk PH Os₀ ps p [] ys)(hk:kk<=c.k)
  (hn:dy ds=PG) (hgv:gvL (gvS (ds.map λi=>(i,PH))) Os (ds.map λi=>(i,PH))=PD Os₀) (no:∀ (j:Nat) (y:SO),Os₀[j]?=PD y->¬ y.own) (hu:tD (gvS (ds.map λi=>(i,PH))) [u]=PD ps) (e1:p.rn (sigC Os₀.length Os.length)=PD q.1) (e2:uW (sigC Os₀.length Os.length) ys=PD q.2)
  (he2:Lz k c.w V (Os++q.2) q.1 b=PD (x,y,Z,C')) (hC2:Al C') (hx:x=PH) (hy:y=PH) (h:Run k c V (Os++q.2++Z) (b.tail :: bs)):Run k c V Os (b :: bs):=
 ak he λt g1 he=>ak he λr g2 he=>ak he λv g3 he=>ak he λal g4 he=>iteE he λg5 he=>ak he2 λt' g6 he2=>ak he2 λb2 g7 he2=>ak he2 λx0 g8 he2=>ak he2 λy0 g9 he2=>iteE he2 λg10 he2=>
  have z0:t'=t:=ac (g6.symm.trans g1);have E:=ac he;have E2:=ac he2
  bU λG hG=>(AR g1).2.elim λbody w=>w.elim λpx w=>w.elim λp0 w=>w.elim λp1 w=>w.elim λp2 w=>w.elim λp3 e9=>hg.elim λs9 hg=>
   hG (A2 (AR g1).1 e9 (g2.trans (congrArg PD ((PV.val_is g3).trans (congrArg PV.v (congrArg (·.1) E))))) (g4.trans (congrArg PD (gz (congrArg (·.2.1) E) (gz (aX.mp g5) (congrArg (·.2.2) E))))) hC hd hh hg K hk hn hgv no hu e1 e2
    (z0▸g7) (z0▸g8.trans (congrArg PD ((congrArg (·.1) E2).trans hx))) (z0▸g9) (aX.mp g10) ((congrArg (·.2.1) E2).trans hy) ((congrArg (·.2.2.2) E2:b2.2.2++y0.2.2=C').symm▸hC2) ((congrArg (·.2.2.1) E2:b2.2.1=Z).symm▸h))
end
abbrev Ku (t:Str):SO:=.L [.s t,.s badS,.s badS,.s badS]
theorem HO (w:aB){n:Int}(s k:Int)(hb:-729<=n/\n<729):ConY gR ZT w 143 9 PH [.G (Ij n s k)] [.r 0] (.r 1) [] [Ku (tx1 n s k)]:=by
 refine bU λG1 hG1=>?_;obtain⟨h1,h2,h3,h4⟩:=IF n s k;obtain⟨e1,e2,e3,e4⟩:=Fz s k hb;have h:=Km w [tx1 n s k,tx2 n s k,tx3 n s k,tx4 n s k] (by show 4<=1000; decide) (am.mpr ⟨h1,am.mpr ⟨h2,am.mpr ⟨h3,am.mpr ⟨h4,λU q=>nomatch q⟩⟩⟩⟩)
 have e:[tx1 n s k,tx2 n s k,tx3 n s k,tx4 n s k].map preT=[tx1 n s k,badS,badS,badS]:=by
  refine(?_:[preT (tx1 n s k),preT (tx2 n s k),preT (tx3 n s k),preT (tx4 n s k)]=_);rw[e1,e2,e3,e4]
 refine hG1 ?_;rw[e] at h;exact h
theorem Gz (hw:c.w=w)(H:LwC c [10,3])(h:Run (wkN w []) c (rV x y [nm "parts" (.r 11)]) (rO w (PD (.s l)) x y z [sN p]) [(bn w 323).drop 19]):
  Run (wkN w []) c (rV x y [nm "parts" (.r 11),nm "row" (.s (rwS (nN x) (shN y) (kdN y))),nm "tail" (.s (tlS (kdN y))),nm "texts" (.r 12)]) (rO w (PD (.s l)) x y z [sN p,Ij (nN x) (shN y) (kdN y)]) [(bn w 323).drop 18]:=by
 subst hw;have h1:=sC (nN x) (shN y) (kdN y);have h2:=sq (kdN y);have h4:(S' ")").length=1:=by decide
 have K:=HO c.w (shN y) (kdN y) (uf x);unfold Ij Ku tx1 tx2 tx3 tx4 at K;unfold Ij tx1 tx2 tx3 tx4;generalize rwS (nN x) (shN y) (kdN y)=r at*;generalize tlS (kdN y)=t at*
 refine Run.gcO (!((r++t) == (r++t)&&(badS == badS&&(badS == badS&&(badS == badS&&PG))))) ((r++S' ")"++t) != (r++S' ")"++t)) (a:=143) (u:=.r 12) (ds:=[12]) (q:=(.r 13,[.L [.s (r++t),.s badS,.s badS,.s badS]])) (Z:=[.L [.s (r++t),.s badS,.s badS,.s badS]]) (C:=[])
  (C':=[r.length+t.length<=sizeLine,-(4:Int)<=1,(1:Int)<4,r.length+(S' ")").length<=sizeLine,(r++S' ")").length+t.length<=sizeLine]) (by kernel_rfl) PI (by kernel_rfl) H.hv H.gs K (bq H.k.symm) rfl (by kernel_rfl) (λj y e hw=>(no_one j y e hw).elim) rfl rfl rfl (by kernel_rfl) ?_ ?_ ?_ ?_
 ·simp only[ee];exact⟨ar (du h1 h2) (by decide),by decide,by decide,ar (du h1 (bq h4)) (by decide),ar (du (du h1 (bq h4)) h2) (by decide),PI⟩
 ·rw[beq_self_eq_true,beq_self_eq_true]; rfl
 ·exact bne_self_eq_false _
 ·exact Run.gc [0,1,2,3,4,5,6,7,8,9,10,11] [] [S' "third",S' "number",S' "kind",S' "shift",S' "white",S' "cells",S' "rules",S' "parts"] [10,3] _ _ H.np (by kernel_rfl) (by kernel_rfl) (by kernel_rfl) h
theorem Gy {q:Num}(hw:c.w=w)(H:LwC c [10,3])(l0:0<=p.lt)(l2:p.lt<=2)(e:lift3 (p.x+if p.lt=0 then 1 else 0) (p.y+if p.lt=1 then 1 else 0) (p.z+if p.lt=2 then 1 else 0) q.lt=q)
  (h:Run (wkN w [j6]) c (rV x y [nm "parts" (.r 11),nm "step" (.r 12)]) (rO w (PD (.s (ltr p.lt))) x y z [sN p,sN q]) [(bn w 323).drop 20]):
  Run (wkN w []) c (rV x y [nm "parts" (.r 11)]) (rO w (PD (.s (ltr p.lt))) x y z [sN p]) [(bn w 323).drop 19]:=by
 subst hw
 refine Run.wm (rs:=[j6]) (λc' q1 q2 q3 O r hr=>by
  cases ay.mp hr;exact jj (by rw[q2,H.k]; decide) O) ?_
 let A:Str->Int:=λs=>if s == ltr p.lt then 1 else 0
 refine Run.blk 1 (rV x y [nm "parts" (.r 11),nm "step" (.r 13)]) (rO c.w (PD (.s (ltr p.lt))) x y z [sN p,sL3 (p.x+A cr) (p.y+A cg) (p.z+A cb),lft (p.x+A cr) (p.y+A cg) (p.z+A cb)]) [] (by kernel_rfl) PI ?_;obtain⟨e1,e2,e3⟩:=ji l0 l2;have eA:A cr=(if p.lt=0 then 1 else 0)/\A cg=(if p.lt=1 then 1 else 0)/\A cb=(if p.lt=2 then 1 else 0):=⟨ij e1 _ _,ij e2 _ _,ij e3 _ _⟩;rw[eA.1,eA.2.1,eA.2.2];clear eA A;have eq:lft (p.x+if p.lt=0 then 1 else 0) (p.y+if p.lt=1 then 1 else 0) (p.z+if p.lt=2 then 1 else 0)=sN q:=congrArg sN e;rw[eq];exact Run.gc [0,1,2,3,4,5,6,7,8,9,10,11,13] [] [S' "third",S' "number",S' "kind",S' "shift",S' "white",S' "cells",S' "rules",S' "parts",S' "step"] [10,3] _ _ H.np (by kernel_rfl) (by kernel_rfl) (by kernel_rfl) h
theorem Gx (hw:c.w=w)(H:LwC c [10,3])(ok:qW (nN x+1) (eE y)=PG)(h:Run (wkN w [placeF w (nN x+1) (eE y) (whN y) (shN y)]) c (rV x y [nm "parts" (.r 11)]) (rO w (PD (.s l)) x y z [sN p]) [(bn w 323).drop 21]):
  Run (wkN w [j6]) c (rV x y [nm "parts" (.r 11),nm "step" (.r 12)]) (rO w (PD (.s l)) x y z [sN p,sN (plNum (nN x+1) (eE y))]) [(bn w 323).drop 20]:=by
 subst hw;obtain⟨n0,n1⟩:=uf x
 refine Run.wm (rs:=[placeF c.w (nN x+1) (eE y) (whN y) (shN y)]) (λc' q1 q2 q3 O r hr=>by
  cases ay.mp hr;exact mO O q1 (q2.trans H.k) (q3.trans H.tb) (dj (by decide) (lN n0 1)) (NM (Int.add_lt_add_right n1 1) (by decide)) (lm y).1 (lm y).2 (iY y).1 (iY y).2 ok) ?_
 refine Run.if (!((plNum (nN x+1) (eE y)).x == (plNum (nN x+1) (eE y)).x&&((plNum (nN x+1) (eE y)).y == (plNum (nN x+1) (eE y)).y&&((plNum (nN x+1) (eE y)).z == (plNum (nN x+1) (eE y)).z&&PG)))) [.T [.r 14,.s (ltr (plNum (nN x+1) (eE y)).lt),.s (plRow (nN x+1) (shN y))],sN (plNum (nN x+1) (eE y))] [[PV.i (nN x+1),.i (eE y),.r 0,.i (whN y),.i (shN y)]=[.i (nN x+1),.i (eE y),.r 0,.i (whN y),.i (shN y)],[SO.G (.P (cu c.w))]=[.G (.P (cu c.w))],-(3:Int)<=0,(0:Int)<3] (by kernel_rfl) ⟨rfl,rfl,by decide,by decide,PI⟩ (λq=>?_) λU=>?_
 ·rw[beq_self_eq_true,beq_self_eq_true,beq_self_eq_true] at q;cases q
 ·refine Run.nl (by kernel_rfl) ?_ λq=>nomatch q;exact Run.gc [0,1,2,3,4,5,6,7,8,9,10,11] [] [S' "third",S' "number",S' "kind",S' "shift",S' "white",S' "cells",S' "rules",S' "parts"] [10,3] _ _ H.np (by kernel_rfl) (by kernel_rfl) (by kernel_rfl) h
def edN (z:Int):Num:=lift3 (z.fmod 9) ((z.fdiv 9).fmod 9) ((z.fdiv 81).fmod 9) ((z.fdiv 729).fmod 3)
abbrev fdN (z:Int):Int×Int:=rdRes 24 ⟨edN z,0,1⟩
theorem Gw (hw:c.w=w)(H:LwC c [10,3])(h:Run (wkN w [j6]) c (rV x y [nm "parts" (.r 11),nm "edge" (.r 12)]) (rO w (PD (.s l)) x y z [sN p,sN (edN z)]) [(bn w 323).drop 22]):
  Run (wkN w rs) c (rV x y [nm "parts" (.r 11)]) (rO w (PD (.s l)) x y z [sN p]) [(bn w 323).drop 21]:=by
 subst hw
 refine Run.wm (rs:=[j6]) (λc' q1 q2 q3 O r hr=>by
  cases ay.mp hr;exact jj (by rw[q2,H.k]; decide) O) ?_
 refine Run.blk 1 (rV x y [nm "parts" (.r 11),nm "edge" (.r 13)]) (rO c.w (PD (.s l)) x y z [sN p,sL3 (z.fmod 9) ((z.fdiv 9).fmod 9) ((z.fdiv 81).fmod 9),sN (edN z)]) [-(3:Int)<=2,(2:Int)<3,(9:Int)≠0,-(3:Int)<=2,(2:Int)<3,(9:Int)≠0,aC z 9=PH,(9:Int)≠0,-(3:Int)<=2,(2:Int)<3,(81:Int)≠0,aC z 81=PH,(9:Int)≠0] (by kernel_rfl)
  ⟨by decide,by decide,by decide,by decide,by decide,by decide,bB (by decide),by decide,by decide,by decide,by decide,bB (by decide),by decide,PI⟩ ?_
 exact Run.gc [0,1,2,3,4,5,6,7,8,9,10,11,13] [] [S' "third",S' "number",S' "kind",S' "shift",S' "white",S' "cells",S' "rules",S' "parts",S' "edge"] [10,3] _ _ H.np (by kernel_rfl) (by kernel_rfl) (by kernel_rfl) h
abbrev tZ (w:aB)(p:Num)(wh:Int):CallR:=DN 313 [.r 0,.s (ltr p.lt),.r 1,.i wh] [.G (sN p),.G (.P (cu w))] (.r 2) [.T [.i (rdRes 24 ⟨p,0,1⟩).1,.i (rdRes 24 ⟨p,0,1⟩).2]]
theorem tY {f:Fs}{wh:Int}(O:c.Ok f)(hw:c.w=w)(hk:c.k=9)(ht:c.tb=PG)(w0:0<=wh)(w1:wh<=700)(ok:kW 24 ⟨p,0,1⟩=PG):b8 f c (tZ w p wh):=by
 subst hw;exact s7 (bq hk.symm) (λU=>ht) O (by kernel_rfl) (HN c.w (λfs c hw hk ht O=>Bz _ fs c hw hk ht O) p wh w0 w1 ok)
theorem JK {a:Int}(ha:0<=a/\a<3):fitsSsize a=PG/\(bR (S' "rgb") a).isSome=PG:=by
 rcases c3 ha.1 ha.2 with q | q | q<;>subst q<;>exact⟨by decide,by decide +kernel⟩
theorem Gu (hw:c.w=w)(H:LwC c [10,3])(ok:kW 24 ⟨edN z,0,1⟩=PG)(h:Run (wkN w [tZ w (edN z) (whN y)]) c (rV x y [nm "parts" (.r 11),nm "edge" (.r 12),nm "found" (.r 13)]) (rO w (PD (.s l)) x y z [sN p,sN (edN z),.T [.i (fdN z).1,.i (fdN z).2]]) [(bn w 323).drop 23]):
  Run (wkN w [j6]) c (rV x y [nm "parts" (.r 11),nm "edge" (.r 12)]) (rO w (PD (.s l)) x y z [sN p,sN (edN z)]) [(bn w 323).drop 22]:=by
 subst hw
 refine Run.wm (rs:=[tZ c.w (edN z) (whN y)]) (λc' q1 q2 q3 O r hr=>by
  cases ay.mp hr;exact tY O q1 (q2.trans H.k) (q3.trans H.tb) (iY y).1 (iY y).2 ok) ?_
 obtain⟨k1,k2⟩:=JK (iT (z.fdiv 729) (n:=3) (by decide))
 exact Run.blk 1 (rV x y [nm "parts" (.r 11),nm "edge" (.r 12),nm "found" (.r 13)]) (rO c.w (PD (.s l)) x y z [sN p,sN (edN z),.T [.i (fdN z).1,.i (fdN z).2]]) [-(3:Int)<=2,(2:Int)<3,(729:Int)≠0,aC z 729=PH,(3:Int)≠0,fitsSsize ((z.fdiv 729).fmod 3)=PG,(bR (S' "rgb") ((z.fdiv 729).fmod 3)).isSome=PG,[PV.r 0,.s (ltr (edN z).lt),.r 1,.i (whN y)]=[.r 0,.s (ltr (edN z).lt),.r 1,.i (whN y)],[SO.G (sN (edN z)),.G (.P (cu c.w))]=[.G (sN (edN z)),.G (.P (cu c.w))]] (by kernel_rfl)
  ⟨by decide,by decide,by decide,bB (by decide),by decide,k1,k2,rfl,rfl,PI⟩ h
theorem Gs (hw:c.w=w)(H:LwC c [10,3])(ok:kW 24 ⟨p,0,1⟩=PG)(er:rdRes 24 ⟨p,0,1⟩=(nN x,eE y))(h:Run (wkN w [tZ w p (whN y)]) c (rV x y [nm "edge" (.r 12),nm "found" (.r 13)]) (rO w (PD (.s (ltr p.lt))) x y z [sN p,sN (edN z),.T [.i (fdN z).1,.i (fdN z).2]]) [(bn w 323).drop 24]):
  Run (wkN w rs) c (rV x y [nm "parts" (.r 11),nm "edge" (.r 12),nm "found" (.r 13)]) (rO w (PD (.s (ltr p.lt))) x y z [sN p,sN (edN z),.T [.i (fdN z).1,.i (fdN z).2]]) [(bn w 323).drop 23]:=by
 subst hw
 refine Run.wm (rs:=[tZ c.w p (whN y)]) (λc' q1 q2 q3 O r hr=>by
  cases ay.mp hr;exact tY O q1 (q2.trans H.k) (q3.trans H.tb) (iY y).1 (iY y).2 ok) ?_
 refine Run.if ((!((rdRes 24 ⟨p,0,1⟩).1 == nN x&&((rdRes 24 ⟨p,0,1⟩).2 == eE y&&PG)))||(PH||false)) [.T [.i (rdRes 24 ⟨p,0,1⟩).1,.i (rdRes 24 ⟨p,0,1⟩).2],.T [.i (nN x),.i (eE y)]] [[PV.r 0,.s (ltr p.lt),.r 1,.i (whN y)]=[.r 0,.s (ltr p.lt),.r 1,.i (whN y)],[SO.G (sN p),.G (.P (cu c.w))]=[.G (sN p),.G (.P (cu c.w))]] (by kernel_rfl) ⟨rfl,rfl,PI⟩ (λq=>?_) λU=>?_
 ·rw[er,beq_self_eq_true,beq_self_eq_true] at q;cases q
 ·refine Run.nl (by kernel_rfl) ?_ λq=>nomatch q;exact Run.gc [0,1,2,3,4,5,6,7,8,9,10,11,12,13] [] [S' "third",S' "number",S' "kind",S' "shift",S' "white",S' "cells",S' "rules",S' "edge",S' "found"] [10,3] _ _ H.np (by kernel_rfl) (by kernel_rfl) (by kernel_rfl) h
end Nw
end
section
open PySem PySem.W PySem.Calls PySem.Spec PyProof.Rows PyProof.V
namespace Mine
variable {env:Env}{oe:Obj}{e L:aj}{cls fl:af}{l outer:List Env}{vs:Array af}{Q:Unit->ai->Prop}
structure FlyC (base:aL)(l:List Env)(e:aj)(cls fl:af)(h:aL):Prop where
 keeps:base.StaysIn h
 new:base.get? e=PF
 frames:h.FunFrames base l
 at':∃ oe vs T oT ts,h.get? e=PD oe/\oe.cls=cls/\oe.data=.fields vs/\vs[1]?=PD (.ref T)/\vs[2]?=PD .none/\base.get? T=PF/\T≠e/\h.get? T=PD oT/\oT.data=.fields ts/\ts[3]?=PD fl
theorem FlyC.base {base B h:aL}(k:base.StaysIn B)(x:FlyC B l e cls fl h):FlyC base l e cls fl h:=by
 refine bU λG1 hG1=>?_;obtain⟨f1,f2,f3,oe,vs,T,oT,ts,a1,a2,a3,a4,a5,a6,a7⟩:=x;refine hG1 ?_;exact⟨λb o q=>f1 b o (k b o q),wv k f2,funFrames_base k f3,oe,vs,T,oT,ts,a1,a2,a3,a4,a5,wv k a6,a7⟩
theorem FlyC.held {base h:aL}{X:String}(x:FlyC base l e (.type X) fl h):∃ oe vs,h.get? e=PD oe/\oe.cls=.type X/\oe.data=.fields vs/\vs[2]?=PD .none:=by
 refine bU λG1 hG1=>?_;obtain⟨_,_,_,oe,vs,T,oT,ts,a1,a2,a3,_,a5,_⟩:=x;refine hG1 ?_;exact⟨oe,vs,a1,a2,a3,a5⟩
section
variable {M:nk}{A:be}{E:af->ai->Prop}{s:ai}
theorem rU {base:aL}{head:af}{hadNext:Bool}
  (hfr:A.frames=PD (env :: outer)) (hl:s.heap.FunFrames base (env :: outer)) (hf:env.frame=PD L)
  (he:s.heap.get? e=PD oe) (hkb:base.StaysIn s.heap) (hen:base.get? e=PF) (hd:oe.data=.fields vs) (hsz:1<vs.size) (h2:vs[2]?=PD .none)
  (h:∀ h',FlyC base (env :: outer) e oe.cls (rawInt L) h'->s.heap.UpToSlots h'->Q () { s with heap:=h' }):
  wpAny M A (do let a <- frameOf env; let pl <- entryPlaceOf L hadNext; let b <- EntryCells.newEntry head a .none (rawInt L) .none pl; setField (.ref e) 1 b) Q E s:=by
 have away:e∉(env :: outer).filterMap (·.frame):=λhm=>by
  obtain⟨_,o,ho,hnf⟩:=hl.mem hm;rw[he] at ho;cases ho;exact hnf vs hd
 refine ab (wpAny_frameOf_fun hfr hl hf λg hs=>?_);refine ab (wpAny_entryPlaceOf λpl hpl=>?_);unfold EntryCells.newEntry newFields;refine ab (bL ?_ (hpl.sizeOk5 _ _ _ _ _));have e1:g.get? e=PD oe:=(hs.2.1 e away).trans he;have k1:base.StaysIn g:=λb o hbo=>(hs.2.1 b λhm=>by rw[(hl.mem hm).1] at hbo; cases hbo).trans (hkb b o hbo);generalize hob:({ cls:=.type "traceback",dict:=PF,data:=.fields ([head,.ref L,.none,rawInt L,.none]++(if pl.isEmpty then bG 6 ca else pl)).toArray }:Obj)=ob;have e2:=ag (h:=g) ob e1;have nT:g.objs.size≠e:=cL (aO e1);have d3:=jc hd (·.setIfInBounds 1 (bl g.objs.size));have e3:=df (mI (·.setIfInBounds 1 (bl g.objs.size))) e2 (kZ d3)
 have keep:∀ b o,b≠e->g.get? b=PD o->((g.push ob).update e (mI (·.setIfInBounds 1 (bl g.objs.size)))).get? b=PD o:=λb o hbe hb=>by
  rw[eU _ _ (im hbe)];exact ag _ hb
 have noRec:∀ b o,s.heap.get? b=PD o->(∀ vs,o.data≠.fields vs)->b≠e:=λb o hb hnf q=>by
  rw[q,he] at hb;cases hb;exact hnf vs hd
 refine eW e2 hd hsz (h _ ?_ ?_)
 ·refine⟨λb o hbo=>keep b o (λq=>by rw[q,hen] at hbo; cases hbo) (k1 b o hbo),hen,hl.of_keeps λb o hb hnf=>?_,?_⟩
  ·obtain⟨sl,hs'⟩:=hs.2.2 b o hb;exact⟨_,keep b _ (noRec b o hb hnf) hs',rfl⟩
  ·refine⟨_,_,g.objs.size,ob,_,e3,Obj.cls_mapFields _ _,d3,by simp[hsz],by rw[Array.getElem?_setIfInBounds_ne (by decide)]; exact h2,k1.fresh,nT,(eU _ _ (im nT)).trans (aE g (by rw[<- hob]; rfl)),by rw[<- hob],by first | (simp; done) | (rcases hpl with rfl | ⟨_,_,_,_,_,_,_,rfl⟩<;>simp)⟩
 ·intro b o hb hnf;obtain⟨sl,hs'⟩:=hs.2.2 b o hb;exact⟨sl,keep b _ (noRec b o hb hnf) hs'⟩
theorem s6 {base:aL}(x:FlyC base l e cls fl s.heap)
  (h:∀ h',FlyC base l e cls .none h'->s.heap.UpToSlots h'->Q () { s with heap:=h' }):wpAny M A (setFlight (.ref e) PF) Q E s:=by
 refine bU λG1 hG1=>?_;obtain⟨hkb,hen,hl,oe,vs,T,oT,ts,he,hcls,hd,h1,h2,hnT,hTe,hT,hdT,h3⟩:=x;have sz:3<ts.size:=(fJ.mp h3).1;have other:∀ b,b≠T->(s.heap.update T (mI (·.setIfInBounds 3 ((PF:Option aj).elim ca λf=>rawInt f)))).get? b=s.heap.get? b:=λb hb=>eU _ _ (im hb)
 have noRec:∀ b o,s.heap.get? b=PD o->(∀ vs,o.data≠.fields vs)->b≠T:=λb o hb hnf q=>by
  rw[q,hT] at hb;cases hb;exact hnf ts hdT
 refine hG1 ?_;unfold setFlight;refine ab (bg he hd h1 ?_);rw[if_pos (show(bl T != ca)=PG from by simp)];refine eW hT hdT sz (h _ ⟨λb o hbo=>(other b λq=>by rw[q,hnT] at hbo; cases hbo).trans (hkb b o hbo),hen,hl.of_keeps λb o hb hnf=>⟨o,(other b (noRec b o hb hnf)).trans hb,rfl⟩,?_⟩ λb o hb hnf=>⟨o.slots,(other b (noRec b o hb hnf)).trans hb⟩);exact⟨oe,vs,T,_,_,(other e (im hTe)).trans he,hcls,hd,h1,h2,hnT,hTe,df _ hT (kZ (jc hdT _)),jc hdT _,by simp[sz]⟩
theorem A6 {base:aL}
  (hfr:A.frames=PD (env :: outer)) (hf:env.frame=PD L) (x:FlyC base (env :: outer) e cls .none s.heap)
  (h:∀ h',FlyC base (env :: outer) e cls (rawInt L) h'->s.heap.UpToSlots h'->Q () { s with heap:=h' }):wpAny M A (noteFrame (.ref e) env) Q E s:=by
 refine bU λG1 hG1=>?_;obtain⟨hkb,hen,hl,oe,vs,T,oT,ts,he,hcls,hd,h1,h2,hnT,hTe,hT,hdT,h3⟩:=x;subst hcls;refine hG1 ?_;unfold noteFrame;simp only[hf];refine ab (bg he hd h1 ?_);rw[if_pos (show(bl T != ca)=PG from by simp)];refine ab (bg hT hdT h3 ?_);rw[if_neg (show ¬ ((ca == rawInt L)=PG) from by simp[rawInt])];refine ab (eW hT hdT (fJ.mp h3).1 ?_);have other:∀ b,b≠T->(s.heap.update T (mI (·.setIfInBounds 3 ca))).get? b=s.heap.get? b:=λb hb=>eU _ _ (im hb)
 have noRec:∀ b o,s.heap.get? b=PD o->(∀ vs,o.data≠.fields vs)->b≠T:=λb o hb hnf q=>by
  rw[q,hT] at hb;cases hb;exact hnf ts hdT
 exact rU hfr (hl.of_keeps λb o hb hnf=>⟨o,(other b (noRec b o hb hnf)).trans hb,rfl⟩) hf ((other e (im hTe)).trans he)
  (λb o hbo=>(other b λq=>by rw[q,hnT] at hbo; cases hbo).trans (hkb b o hbo)) hen hd (fJ.mp h1).1 h2
  λh' x k=>h h' x λb o hb hnf=>k b o ((other b (noRec b o hb hnf)).trans hb) hnf
theorem yJ {base:aL}
  (hfr:A.frames=PD (env :: outer)) (hl:s.heap.FunFrames base (env :: outer)) (hf:env.frame=PD L)
  (he:s.heap.get? e=PD oe) (hkb:base.StaysIn s.heap) (hen:base.get? e=PF) (hd:oe.data=.fields vs) (h1:vs[1]?=PD .none) (h2:vs[2]?=PD .none)
  (h:∀ h',FlyC base (env :: outer) e oe.cls .none h'->s.heap.UpToSlots h'->Q () { s with heap:=h' }):wpAny M A (leaving env (.ref e)) Q E s:=by
 unfold leaving noteFrame;simp only[hf];refine ab (ab (bg he hd h1 ?_));rw[if_neg (by decide)];exact rU hfr hl hf he hkb hen hd (fJ.mp h1).1 h2 λh' x k=>s6 x λh'' x' k'=>h h'' x' (k.trans k')
end
def jK (base:aL)(l:List Env)(e:aj)(cls:af)(news:List (aj×Obj))(h:aL):Prop:=
 ∃ B,base.StaysIn B/\(∀ q∈news,B.get? q.1=PD q.2/\base.get? q.1=PF)/\FlyC B l e cls .none h
section
variable {M:nk}{A:be}{E:af->ai->Prop}{s':ai}{base g g₂ h:aL}{outer:List Env}{L a e t:aj}{m:Str->Option af}{name:Str}{scope:dC}{cd:af}{Q:Unit->ai->Prop}{news:List (aj×Obj)}
theorem vL {cls:String}(K:ry A base outer g)(hx:Heap.NewExc h s'.heap e cls)(F:Fr g L h m)(N:gY g L h news)
  (hQ:∀ h',jK base outer e (.type cls) news h'->g.UpToSlots h'->Q () { s' with heap:=h' }) (hk:scope.kind=.function):
  wpAny M (A.deeper (envOf name scope L a cd)) (leaving (envOf name scope L a cd) (.ref e)) Q E s':=by
 have K':=K.push (name:=name) (a:=a) (cd:=cd) F hk;have hin:∀ env∈(envOf name scope L a cd :: outer),∀ b,env.frame=PD b->b∈(envOf name scope L a cd :: outer).filterMap (·.frame):=λenv he b hb=>dP.mpr ⟨env,he,hb⟩
 have st:base.StaysIn (hideAll h ((envOf name scope L a cd :: outer).filterMap (·.frame))):=λb o q=>jZ _ (K'.stays b o q) λhm=>by
  rw[(K'.frames.mem hm).1] at q; cases q
 have hl:∀ q∈news,(hideAll h ((envOf name scope L a cd :: outer).filterMap (·.frame))).get? q.1=PD q.2/\base.get? q.1=PF:=λq hq=>by
  refine⟨jZ _ (N q hq).1 λhm=>?_,wv K.stays (N q hq).2.2⟩;obtain⟨env,he,hf⟩:=dP.mp hm;rcases aQ.mp he with rfl | he
  ·exact(N q hq).2.1 (ac hf).symm
  ·obtain⟨o,ho,_⟩:=(K.frames.mem (dP.mpr ⟨env,he,hf⟩)).2;rw[(N q hq).2.2] at ho; cases ho
 obtain⟨ob,tp,he,hcls,hd⟩:=hx.there
 have hen:(hideAll h ((envOf name scope L a cd :: outer).filterMap (·.frame))).get? e=PF:=by
  cases q:(hideAll h ((envOf name scope L a cd :: outer).filterMap (·.frame))).get? e with
  | none=>rfl
  | some o=>have:=qH _ q; rw[hx.new] at this; cases this
 refine yJ K'.stack ((funFrames_hide K'.frames hin).of_keeps λb o hb U=>⟨o,hx.keeps b o hb,rfl⟩) rfl he (λb o hb=>hx.keeps b o (qH _ hb)) hen hd rfl rfl λh' x k4=>?_;obtain⟨k1,k2,⟨_,_,k3⟩,k5⟩:=x;exact hQ h' ⟨_,st,hl,k1,k2,k3,by rw[<- hcls]; exact k5⟩ (((Heap.UpToSlots.of_keeps F.keep).trans (Heap.UpToSlots.of_keeps hx.keeps)).trans k4)
end
end Mine
end
section
open PySem PySem.W PySem.Calls PySem.Spec PyProof.Rows Mine
namespace Nw
abbrev S0:Str:=S' "ZeroDivisionError"
theorem lW (w:aB):nsIn (hd.heap_39 w.params) mainGlobals S0=PD PF/\bootBuiltins S0=PD (.type "ZeroDivisionError"):=⟨by kernel_rfl,by kernel_rfl⟩
theorem lZ:isSubtype (.type "ZeroDivisionError") (.type "ZeroDivisionError")=pure PG:=by rw[isSubtype_type]; kernel_rfl
theorem t5 {base:aL}{l:List Env}{e:aj}{cls:af}{N N':List (aj×Obj)}{h:aL}(R:jK base l e cls N h)(p:∀ q∈N',q∈N):jK base l e cls N' h:=let ⟨B,h1,h2,h3⟩:=R; ⟨B,h1,λq hq=>h2 q (p q hq),h3⟩
theorem D7 (w:aB):∃ pb kn pc p1 np pr oe pi,(bn w 80).head?=PD (.If (.Compare (.Name (S' "b") pb) [.Eq] [.Constant (.int 0) kn pc] p1) [.Raise (PD (.Name S0 np)) PF pr] oe pi):=⟨_,_,_,_,_,_,_,_,by with_unfolding_all rfl⟩
theorem By {f:Fs}{c:Cx}{V:Vm}{m:Str->Option af}{as:List aj}{Os:List SO}{h:aL}(O:c.Ok f)(i:Inv f c V m as Os h)(hh:c.hv=PF){n:Int}{t t':Tok}{Q E:af->ai->Prop}{tk:Nat}{NN:List (aj×Obj)}(N:gY c.h₀ c.L h NN)
  (hE:∀ e h' tk',jK c.base (c.env f :: c.outer) e (.type "ZeroDivisionError") NN h'->(hideAll h (NN.map (·.1))).UpToSlots h'->E (.ref e) (sh c.s₀ h' tk')):wpAny (MP c.w) (c.A f) (call (.ref 80) [.int n t,.int 0 t']) Q E (sh c.s₀ h tk):=by
 refine iG ?_;have hk:okB (fdAt c.w 80) [nm "a" (.i n),nm "b" (.i 0)] (hd.heap_39 c.w.params)=PG:=by kernel_rfl
 rw[okB,Ld,aq,aq,aq,aq,aq] at hk;refine bU λG1 hG1=>?_;obtain⟨h0,⟨h1,h2,h3,h4⟩,h5⟩:=hk;have f1:∀ {b:Bool},(!b)=PG->b=PH:=λ{b} e=>by cases b<;>first | rfl | cases e
 refine hG1 ?_
 refine xT (env:=c.env f) (s:=sh c.s₀ h tk) (K:=hd.heap_39 c.w.params) (binds:=[(S' "a",.int n t),(S' "b",.int 0 t')]) O.b i.F O.x N O.t rfl rfl O.kd (O.x.keeps i.F.keep) (show dN c.w 80 by kernel_rfl) h0 O.lim (λM A E Q hq=>by
  refine(?_:wpAny M A (bindArgs (pS (fdAt c.w 80)) ⟨[.int n t,.int 0 t'],[]⟩) Q E _);rw[show bindArgs (pS (fdAt c.w 80)) ⟨[.int n t,.int 0 t'],[]⟩=pure [(S' "a",.int n t),(S' "b",.int 0 t')] by kernel_rfl];exact aD hq) (by kernel_rfl) (of_decide_eq_true h4) (λL' h₁ tk1 cells F' N' Y B' X' T' hlt=>?_) (f1 h1) (f1 h2) (of_decide_eq_true h3)
 refine bU λG2 hG2=>?_;obtain⟨pb,kn,pc,p1,np,pr,oe,pi,hb⟩:=D7 c.w;refine hG2 ?_;refine(?_:wpAny _ _ (execs (bn c.w 80) _) _ _ _);rw[dU hb];refine bc (rl (fM (nameX_L F' (v:=.int 0 t') (by kernel_rfl) (qF (PyProof.Rows.eq_int (cK ?_)))) rfl));rw[if_pos (show((0:Int) == 0)=PG from rfl)];refine bc (Raise_classB hh excClass_ZeroDivisionError lZ (nameX_B F' X' (qG T') (lW c.w).1 (lW c.w).2 (by decide) ⟨rfl,rfl⟩ (of_decide_eq_true h3) (by kernel_rfl)) λh2 e hx=>?_);refine vL B' hx F' N' (λh3 R U=>?_) (of_decide_eq_true h3);exact hE e h3 _ (t5 R λq hq=>aN _ hq) U
end Nw
end
section
open PySem PySem.W PySem.Calls PySem.Spec PyProof.Rows PyProof.V Mine
namespace Nw
variable {xp hp0 px cp ep tp:Pos}{tk:Nat}{n:Int}{fn:Str}{ret:aS}{a0 a1:aw}{vs:List af}
def Ic (o:Obj):Prop:=∃ vs,o.cls=.type "ZeroDivisionError"/\o.data=.fields vs/\vs[2]?=PD .none
section
variable {prog:cj}{w:aB}{A₀:be}{E:af->ai->Prop}{s':ai}{h₀ h:aL}{outer:List Env}{L a e:aj}{m:Str->Option af}{name:Str}{scope:dC}{cd:af}
 {b₀:aS} {suite:List aS} {pos np:Pos} {rest:List ExceptHandler} {Q:rx->ai->Prop} {news:List (aj×Obj)}
 {p:cj} {loose:List Str} {mean:j0->Option af} {mg mb:Str->Option af} {x:Str} {X T':String} {K:wE}
theorem BQ (B₀:ry A₀ h₀ outer h₀)(X₀:K.In h₀)(F:Fr h₀ L h m)(hsm:h.UpToSlots s'.heap)(R:jK h₀ (envOfC name scope L a cd :: outer) e (.type "ZeroDivisionError") news s'.heap)
  (T:TopRead p loose mg mb h₀) (hex:nsIn K mainGlobals x=PD PF) (hv:bootBuiltins x=PD (.type T'))
  (hexc:isSubtype (.type T') (.type "BaseException")=pure PG) (hnt:isSubtype (.type ((Manifest.find? T').elim "type" λy=>y.metatype)) (.type "tuple")=pure PH) (hsub:isSubtype (.type "ZeroDivisionError") (.type T')=pure PG)
  (k:∀ h' oe,Fr h₀ L h' m->gY h₀ L h' ((e,oe) :: news)->(∀ q∈news,q.1≠e)->Ic oe->
   wpAny (model prog w) ((A₀.deeper (envOfC name scope L a cd)).mark (PD (.ref e))) (execs (b₀ :: suite) (envOfC name scope L a cd)) Q E { s' with heap:=h' })
  (hn:x≠"__name__") (hk:scope.kind=.function) (hx:(envOfC name scope L a cd).kindOf x=PD .globalImplicit) (hdb:(x == ("__debug__":Str))=PH)
  (hE:PassesOwnAt (model prog w) ((A₀.deeper (envOfC name scope L a cd)).mark (PD (.ref e))) (A₀.deeper (envOfC name scope L a cd)) (envOfC name scope L a cd) E):
  wpAny (model prog w) (A₀.deeper (envOfC name scope L a cd)) (noteFrame (.ref e) (envOfC name scope L a cd))
   (λU s₂=>wpAny (model prog w) (A₀.deeper (envOfC name scope L a cd)) (setFlight (.ref e) PF) (λU s₃=>
    wpAny (model prog w) (A₀.deeper (envOfC name scope L a cd)) (handleBy (.ref e) (envOfC name scope L a cd) (.ExceptHandler (PD (.Name x np)) PF (b₀ :: suite) pos :: rest)) Q E s₃) E s₂) E s':=by
 refine bU λG1 hG1=>?_;obtain⟨B,hB,hl,hfl⟩:=R
 have hL:B.get? L=PF:=by
  obtain⟨_,⟨L',_,hf,hn',_⟩,_⟩:=hfl.frames;obtain rfl:L=L':=ac hf;exact hn'
 have hne:∀ q∈news,q.1≠e:=λq hq z=>by
  have:=(hl q hq).1;rw[z,hfl.new] at this;cases this
 refine hG1 ?_;refine A6 (Around.frames_deeper B₀.stack) rfl hfl λh₄ fl₄ hsm₄=>?_;refine s6 fl₄ λh₅ fl₅ hsm₅'=>?_;have hsm₅:=hsm₄.trans hsm₅';have F₅:=F.of_stays (fl₅.base hB).keeps (hsm.trans hsm₅);refine bU λG2 hG2=>?_;obtain⟨ob,_,hob,hobc,_,_⟩:=fl₅.held;refine hG2 ?_;refine wpAny_handleBy_builtin (X:="ZeroDivisionError") (T:=T') (b:=PG) hexc hnt hsub (nameX_B F₅ X₀ T hex hv hn ⟨rfl,⟨ob,hob,hobc⟩,?_⟩ hk hx hdb);refine s6 fl₅ λh₆ fl₆ hsm₆=>?_;have F₆:=F.of_stays (fl₆.base hB).keeps ((hsm.trans hsm₅).trans hsm₆);refine bU λG3 hG3=>?_;obtain⟨oe,vs,e1,e2,e3,e4⟩:=fl₆.held
 have heL:e≠L:=λz=>by
  obtain⟨_,o,ho,hnf⟩:=fl₆.frames.mem (show L∈_ from List.mem_cons_self ..);rw[<- z,e1] at ho;cases ho;exact hnf vs e3
 refine hG3 ?_;refine wpAny_passesOwnAt hE (k h₆ oe F₆ (λq hq=>?_) hne ⟨vs,e2,e3,e4⟩);rcases aQ.mp hq with rfl | hq
 ·exact⟨e1,heL,(fl₆.base hB).new⟩
 ·exact⟨fl₆.keeps _ _ (hl q hq).1,(λz=>by have:=(hl q hq).1; rw[z,hL] at this; cases this),(hl q hq).2⟩
end
noncomputable abbrev Cx.hdl (c:Cx)(e:aj)(oe:Obj)(R:rx->ai->Prop):Cx:={ c with hv:=PD (.ref e),pn:=(e,oe) :: c.pn,R:=R,N:=λ_ _=>False,B:=λ_ _=>False }
section
variable {w:aB}{c:Cx}{V:Vm}{Os:List SO}{b:List aS}{bs:List (List aS)}{C:List Prop}{T:Tab}{ext:Fs->Tab->aB->Vm->EV->EV}
theorem Dx {as:List aj}{a b:Int}(h:IsAll as [.i a,.i b] vs):∃ t1 t2,vs=[.int a t1,.int b t2]:=by
 obtain⟨_,_,rfl,⟨t1,rfl⟩,_,_,rfl,⟨t2,rfl⟩,e⟩:=h;cases e;exact⟨t1,t2,rfl⟩
def Cx.Lw (c:Cx)(f:Fs):Prop:=c.base=c.h₀/\c.outer=[]/\c.E=(λU U=>False)/\c.env f=envOfC c.q f.sc c.L c.fa c.cd/\c.A f=c.A₀.deeper (envOfC c.q f.sc c.L c.fa c.cd)
variable {k:Wk}{s:ai}{m:Str->Option af}{as:List aj}{h2 h3 h4:aL}{N:List (aj×Obj)}{e:aj}{oe:Obj}{Q:rx->ai->Prop}
theorem DA (i2:Inv k.f (c.at s) V m as Os h2)(hN:∀ b o,h2.get? b=PD o->b≠c.L->c.h₀.get? b=PF->(b,o)∈N)(F4:Fr c.h₀ c.L h4 m)(N4:gY c.h₀ c.L h4 ((e,oe) :: N))(ae:∀ q∈N,q.1≠e):Inv k.f ((c.hdl e oe Q).at s) V m as Os h4:=
 have i3:Inv k.f (c.at s) V m as Os h4:=i2.keep F4 (lf hN i2.F F4 λq hq=>N4 q (.tail _ hq));have ne:∀ {b o},h2.get? b=PD o->b≠c.L->c.h₀.get? b=PF->b≠e:=λg1 g2 g3=>ae _ (hN _ _ g1 g2 g3)
 ⟨i3.F,i3.M,i3.C,i3.len,i3.ob,i3.nd,i3.t1,i3.t2,i3.pf,am.mpr ⟨⟨(N4 _ (.head _)).1,(N4 _ (.head _)).2.1,λj x e1 e2 hx=>(i2.ob _ _ _ e1 e2 hx.live).elim λo g=>ne g.2.1 (g.2.2.1 hx).1 (g.2.2.1 hx).2 rfl,λht=>⟨λz=>(i2.t1 ht).elim λo g=>ne g.1 g.2.1 g.2.2.1 z.symm,λz=>(i2.t2 ht).elim λo g=>ne g.1 g.2.1 g.2.2.1 z.symm⟩⟩,i3.pn⟩⟩
theorem GS (O:k.Ok (c.at s))(qE:c.E=λU U=>False)(x4:Ic oe)(hQ:∀ v s,cont k.f c bs (.ret v) s->Q (.ret v) s):k.Ok ((c.hdl e oe Q).at s):=
 have sub:Cx.Sub (c.at s) ((c.hdl e oe Q).at s):=⟨rfl,rfl,rfl,rfl,rfl,λq hq=>.tail _ hq,λq h=>h⟩
 have ok:((c.hdl e oe Q).at s).Ok k.f:=⟨O.o.kd,O.o.b,O.o.x,O.o.t,λv ev=>x4.elim λvs x=>⟨e,oe,vs,(ac ev).symm,.inr (.head _),x⟩,O.o.hp,O.o.rd,O.o.ru,(by show PassesOwn _ _ _ c.E; rw[qE]; exact nj),O.o.g0,
  λs5 V5 m5 as5 Os5 h5 v p tk5 g5 i5 hp hP=>hQ v _ (fH (c:=c) (fl:=.ret v) (λq=>nomatch q) (O.o.ret s5 V5 m5 as5 Os5 h5 v p tk5 g5 ⟨i5.F,i5.M,i5.C,i5.len,i5.ob,i5.nd,i5.t1,i5.t2,i5.pf,λq hq=>i5.pn q (.tail _ hq)⟩ hp hP) bs),λU U U U U U U U U q=>q.elim,λU U U U U U U U U q=>q.elim⟩
 ⟨O.gd _ sub ok,λc2 s' o2=>O.gd c2 (sub.trans s') o2⟩
theorem yd (q:c.Lw k.f)(hS:(envOfC c.q k.f.sc c.L c.fa c.cd).kindOf S0=PD .globalImplicit)(O:k.Ok (c.at s))(i2:Inv k.f (c.at s) V m as Os h2)(NN:gY c.h₀ c.L h2 N)(hN:∀ b o,h2.get? b=PD o->b≠c.L->c.h₀.get? b=PF->(b,o)∈N)(R:jK c.base (c.env k.f :: c.outer) e (.type "ZeroDivisionError") N h3)(U:(hideAll h2 (N.map (·.1))).UpToSlots h3)
  (h:∀ e oe R,Run k (c.hdl e oe R) V Os [[ret]]) (hQ:∀ v s,cont k.f c bs (.ret v) s->Q (.ret v) s):
  wpAny (MP c.w) (c.A k.f) (noteFrame (.ref e) (c.env k.f)) (λJ s₂=>wpAny (MP c.w) (c.A k.f) (setFlight (.ref e) PF) (λJ s₃=>wpAny (MP c.w) (c.A k.f) (handleBy (.ref e) (c.env k.f) [.ExceptHandler (PD (.Name S0 xp)) PF [ret] hp0]) Q c.E s₃) c.E s₂) c.E (sh s h3 tk):=by
 have Fg:=(groundX (A:=c.A k.f) (env:=c.env k.f) (R:=λJ J=>True) (s:=sh s h2 tk) (h₀:=c.h₀) O.o.b i2.F NN rfl rfl O.o.kd).1;have B0:ry c.A₀ c.base c.outer c.h₀:=O.o.b;have H4:∀ h4 oe,Fr c.h₀ c.L h4 m->gY c.h₀ c.L h4 ((e,oe) :: N)->(∀ q∈N,q.1≠e)->Ic oe->wpAny (MP c.w) ((c.A k.f).mark (PD (.ref e))) (execs [ret] (c.env k.f)) Q c.E (sh s h4 tk):=λh4 oe F4 N4 ae x4=>(h e oe Q).at (GS O q.2.2.1 x4 hQ) (DA i2 hN F4 N4 ae);rw[q.1,q.2.1] at B0;rw[q.1,q.2.2.2.1,q.2.1] at R;rw[q.2.2.2.2,q.2.2.2.1,q.2.2.1] at H4⊢;exact BQ (K:=hd.heap_39 c.w.params) (h:=hideAll h2 (N.map (·.1))) B0 O.o.x Fg U R (qG O.o.t) (lW c.w).1 (lW c.w).2 PySem.F.isExc_ZeroDivisionError PySem.F.notTuple_ZeroDivisionError lZ H4 (by decide) O.o.kd hS (by decide) PassesOwnAt.never
theorem yN {f:Fs}{h:aL}(O:c.Ok f)(i:Inv f c V m as Os h)(hh:c.hv=PF)(hvs:IsAll as [.i n,.i 0] vs){Q E:af->ai->Prop}{NN:List (aj×Obj)}(N:gY c.h₀ c.L h NN)
  (hE:∀ e h' tk',jK c.base (c.env f :: c.outer) e (.type "ZeroDivisionError") NN h'->(hideAll h (NN.map (·.1))).UpToSlots h'->E (.ref e) (sh c.s₀ h' tk')):wpAny (MP c.w) (c.A f) (call (.ref 80) vs) Q E (sh c.s₀ h tk):=by
 obtain⟨t1,t2,rfl⟩:=Dx hvs;exact By O i hh N hE
theorem trK (q:c.Lw k.f)(hS:(envOfC c.q k.f.sc c.L c.fa c.cd).kindOf S0=PD .globalImplicit)(hv:c.hv=PF)
  (e0:ldF c.w k.f V Os fn=PD (.v (.ref 80))) (e1:rZ (evF k c.w V) Os [a0,a1]=PD ([.i n,.i 0],[],C)) (hC:Al C)
  (h:∀ e oe R,Run k (c.hdl e oe R) V Os [[ret]]):Run k c V Os ((.Try [.Expr (.Call (.Name fn px) [a0,a1] [] cp) ep] [.ExceptHandler (PD (.Name S0 xp)) PF [ret] hp0] [] [] tp :: b) :: bs):=
 .of λ{s} O as hp tk m i=>bc (wpAny_Try_except (bc (jM (ks (u:=⟨k.f,c.at s,c.env k.f,Inv k.f (c.at s) V m⟩) (fL O.o) (b7 O.toOkc) e0 rfl (dk O.o (show dN _ 80 by kernel_rfl) rfl) e1 hC (λJ J J i=>i.stay) i λvs bs1 h2 k2 hvs i2 J=>
  have i2:Inv k.f (c.at s) V m (as++bs1) Os h2:=(ao Os).symm▸i2
  (gf c.h₀ h2 c.L).elim λN z=>yN (c:=c.at s) O.o i2 hv hvs z.1 λe h3 tk3 R U=>yd q hS O i2 z.1 z.2 R U h λJ J z=>z) (j9 (c:=c.at s) O.o) rfl)))
theorem Run.tr {np:List Nat}(hw:c.w=w)(H:LwC c np)(hb:b.head?=PD (.Try [.Expr (.Call (.Name fn px) [a0,a1] [] cp) ep] [.ExceptHandler (PD (.Name S0 xp)) PF [ret] hp0] [] [] tp))
  (e0:ldF w (wkAt w 323 1 T ext).f V Os fn=PD (.v (.ref 80))) (e1:rZ (evF (wkAt w 323 1 T ext) w V) Os [a0,a1]=PD ([.i n,.i 0],[],C)) (hC:Al C)
  (h:∀ e oe R,Run (wkAt w 323 1 T ext) (c.hdl e oe R) V Os [[ret]]):Run (wkAt w 323 1 T ext) c V Os (b :: bs):=by
 subst hw;rw[dU hb];refine trK ?_ (by kernel_rfl) H.hv e0 e1 hC h;obtain⟨w',p,loose,mean,mg,mb,g,L,fa,cd,s₀,pre,pn,e⟩:=H.is;subst e;exact⟨rfl,rfl,rfl,rfl,by kernel_rfl⟩
end
end Nw
end
section
open PySem PySem.W PySem.Calls PySem.Spec PyProof.Rows PySem.F Mine
namespace Nw
variable {sl:aj}{rs:List CallR}
section
variable {prog:cj}{w:aB}{A:be}{E:af->ai->Prop}{s:ai}{x y z:af}{u:Tok}
theorem B4 {Q:Int×Int×Nat->ai->Prop}(hs:s.heap.IsSliceOf sl .none (.int 2 u) .none)(h:Q (0,1,2) s):wpAny (model prog w) A (Builtin.Slice.sliceApplied (.ref sl) (pure 3)) Q E s:=by
 refine bU λG1 hG1=>?_;obtain⟨os,ho,_,hd⟩:=hs;refine hG1 ?_;unfold Builtin.Slice.sliceApplied Builtin.Slice.sliceFields;refine ab (ab (bg ho hd (x:=.none) rfl (ab (bg ho hd (x:=.int 2 u) rfl (ab (bg ho hd (x:=.none) rfl (aD ?_)))))));refine ab (slicePart_none ?_);refine(?_:wpAny _ _ (if((1:Int) == 0)=PG then _ else _) _ _ s);rw[if_neg (by decide)];refine ab (slicePart_none (ab (slicePart_int (ab (aD ?_)))));exact aD h
theorem AX {t:aj}{Q:af->ai->Prop}(ht:MW s.heap t #[x,y,z])(hs:s.heap.IsSliceOf sl .none (.int 2 u) .none)
  (h:Q (.ref s.heap.objs.size) { s with heap:=s.heap.push { cls:=.type "tuple",data:=.seq #[x,y] } }):wpAny (model prog w) A (getItem (.ref t) (.ref sl)) Q E s:=by
 have hz:sizeOk (.seq #[x,y]):=by show 2<=sizeLine; decide
 have hT:s.TypeIs (.ref sl) "slice":=by obtain⟨os,ho,hc,_⟩:=hs; exact⟨os,ho,hc⟩
 unfold getItem
 try with_reducible refine bI ?_
 first | refine ab (aD ?_) | skip
 refine ab (wpAny_sequenceKey ht.typeIs (by decide) ?_);refine ab (bA (name:=aa "__getitem__") ht.typeIs iI (bZ iI ht.typeIs PySem.F.entry_tuple_getitem ?_ (args_tuple_getitem _ _)));refine(?_:wpAny _ _ (Builtin.Tuple.tupleItemsOf (.ref t) >>= _) _ _ s);refine ab (tupleItemsOf_ ht ?_);refine ab (Ca hT ?_);rw[if_pos (by decide)];refine ab (B4 hs ?_);refine(?_:wpAny _ _ (if((0:Int) == 0&&(1:Int) == 1&&(2:Nat) == 3)=PG then _ else _) _ _ s);rw[if_neg (by decide)];have e:((bz 2).filterMap λ(k:Nat)=>(#[x,y,z]:Array af)[((0:Int)+(k:Int)*1).toNat]?).toArray=#[x,y]:=rfl;rw[e]
 first
  | exact ab (m:=fE _) (bL (aD ⟨_,rfl,aD h⟩) hz)
  | exact ab (m:=fE _) (bL (ab (aD (aD ⟨_,rfl,aD h⟩))) hz)
  | exact ab (ab (m:=fE _) (bL (aD (aD ⟨_,rfl,aD h⟩)) hz))
  | exact ab (ab (m:=fE _) (bL (aD ⟨_,rfl,aD h⟩) hz))
end
def La:SlR where
 f:=λOs a x y z=>if x=PF/\y=PD 2/\z=PF then a.ref?.bind λj=>(Os[j]?).bind λo=>o.core.tup?.bind λl=>(l[0]?).bind λp=>(l[1]?).bind λq=>if l.length=3 then PD (.r Os.length,[.T [p,q]],[]) else PF else PF
 ok:=λ{Os a x y z q} e hC fs c V m as h i H u l r t hu hl hr hz E Q k hq=>iteE e λhc e=>ak e λj e1 e=>ak e λo e2 e=>ak e λxs e3 e=>ak e λp e4 e=>ak e λp' e5 e=>iteE e λhn e=>by
  cases e;obtain⟨rfl,rfl,rfl⟩:=hc;cases hl; cases hr; cases hz;have lv:o.live:=by cases o<;>first | trivial | cases e3
  rw[PV.ref_is e1] at hu;obtain⟨D,ob,rfl,h1,h2⟩:=i.get e2 lv hu;rw[SO.tup_is e3] at h2;obtain⟨vs,rfl,hv⟩:=h2;obtain⟨a1,g1,i1⟩:=hv.at e4;obtain⟨a2,g2,i2⟩:=hv.at e5;have hl:=hv.len;rw[hn] at hl;rcases vs with _ | ⟨b1,_ | ⟨b2,_ | ⟨b3,_ | _⟩⟩⟩<;>first | (cases hl; done) | skip
  cases g1; cases g2;refine⟨"tuple",_,iI.lookup,?_,AX (s:=sh c.s₀ (h.push (sliceO .none (.int 2 _) .none)) k) ⟨_,ag _ h1,rfl,_,rfl⟩ (Heap.IsSliceOf.new ..) ?_⟩
  ·exact⟨_,ag _ h1,rfl⟩
  ·exact xd i (λb o e=>ag _ e) hq (o:={ cls:=.type "tuple",data:=.seq #[a1,a2] }) ⟨[a1,a2],rfl,_,_,rfl,i1.up,_,_,rfl,i2.up,rfl⟩ PI rfl
def M9 (rs:List CallR):Tab:=⟨[ln,l5],[La],[],rs⟩
theorem Nm {f:Fs}{c:Cx}(O:c.Ok f)(h:∀ r∈rs,b8 f c r):Wk.Okc ⟨f,M9 rs,ex0⟩ c:=⟨O,⟨h,am.mpr ⟨PI,am.mpr ⟨PI,dz⟩⟩⟩,λU U=>kK⟩
theorem Gr {w:aB}{c:Cx}{x y z:Int}{l:Str}{p:Num}(hw:c.w=w)(H:LwC c [10,3])(n0:-1024<=(fdN z).1)(n1:(fdN z).1<1024)(c0:0<=(fdN z).2)(c1:(fdN z).2<=2)(ok:qW (fdN z).1 (fdN z).2=PG)(e:plNum (fdN z).1 (fdN z).2=edN z):
  Run (wkN w rs) c (rV x y [nm "edge" (.r 12),nm "found" (.r 13)]) (rO w (PD (.s l)) x y z [sN p,sN (edN z),.T [.i (fdN z).1,.i (fdN z).2]]) [(bn w 323).drop 24]:=by
 subst hw;refine Run.tr (C:=[]) (n:=nN x) rfl H (by with_unfolding_all rfl) (by kernel_rfl) (by kernel_rfl) PI λex oe R=>?_;have HP:=H.P;have Hk:=H.k;have Ht:=H.tb;generalize hc:c.hdl ex oe R=c2;have q1:c2.w=c.w:=hc▸rfl;have q2:c2.k=9:=hc▸Hk;have q3:c2.tb=PG:=hc▸Ht;have q4:∀ Os,c2.P (.v (.bool PG)) Os:=hc▸HP;clear hc HP Hk Ht H;refine Run.wk (T:=M9 [placeF c.w (fdN z).1 (fdN z).2 (whN y) (shN y)]) (ext:=ex0) (λ{s} O=>?_) ?_
 ·have g:∀ c3:Cx,c3.w=c2.w->c3.k=c2.k->c3.tb=c2.tb->c3.Ok (wkN c.w rs).f->∀ r∈[placeF c.w (fdN z).1 (fdN z).2 (whN y) (shN y)],b8 (wkN c.w rs).f c3 r:=λc3 h1 h2 h3 O r hr=>by
   cases ay.mp hr;exact mO O (h1.trans q1) (h2.trans q2) (h3.trans q3) n0 n1 c0 c1 (iY y).1 (iY y).2 ok
  exact⟨Nm O.o (g _ rfl rfl rfl O.o),λc3 s3 o3=>Nm o3 (g c3 s3.w s3.k s3.tb o3)⟩
 obtain⟨k1,k2⟩:=JK (iT (z.fdiv 729) (n:=3) (by decide))
 refine Run.rt (.v (.bool (((plNum (fdN z).1 (fdN z).2).x == (edN z).x&&((plNum (fdN z).1 (fdN z).2).y == (edN z).y&&((plNum (fdN z).1 (fdN z).2).z == (edN z).z&&PG)))&&((ltr (plNum (fdN z).1 (fdN z).2).lt == ltr (edN z).lt)&&PG))))
  [.T [.r 15,.s (ltr (plNum (fdN z).1 (fdN z).2).lt),.s (plRow (fdN z).1 (shN y))],sN (plNum (fdN z).1 (fdN z).2),.T [.r 15,.s (ltr (plNum (fdN z).1 (fdN z).2).lt)],.T [.r 12,.s (ltr (edN z).lt)]]
  [-(2:Int)<=0,(0:Int)<2,-(2:Int)<=1,(1:Int)<2,[PV.i (fdN z).1,.i (fdN z).2,.r 0,.i (whN y),.i (shN y)]=[.i (fdN z).1,.i (fdN z).2,.r 0,.i (whN y),.i (shN y)],[SO.G (.P (cu c.w))]=[.G (.P (cu c.w))],-(3:Int)<=2,(2:Int)<3,(729:Int)≠0,aC z 729=PH,(3:Int)≠0,fitsSsize ((z.fdiv 729).fmod 3)=PG,(bR (S' "rgb") ((z.fdiv 729).fmod 3)).isSome=PG]
  (by rw[q1]; kernel_rfl) ⟨by decide,by decide,by decide,by decide,rfl,rfl,by decide,by decide,by decide,bB (by decide),by decide,k1,k2,PI⟩ ?_
 rw[e,beq_self_eq_true,beq_self_eq_true,beq_self_eq_true,beq_self_eq_true];exact q4 _
end Nw
end
section
open PySem PySem.W PySem.Calls PySem.Spec PyProof.Rows
namespace Mine
variable {n c x a:Int}
def yk (p:Num):Num:=vl p (rdFig p) (rdLt p.lt (rdFig p))
def IU (p:Num):Num:=⟨(rdB (yk p)).x / 3,(rdB (yk p)).y / 3,(rdB (yk p)).z / 3,(yk p).lt⟩
theorem ym (p:Num)(N W:Int):rdNext ⟨p,N,W⟩=⟨IU p,N+rdFig p*W,3*W⟩:=rfl
def Ki (n c:Int)(p:Num):Bool:=
 FP p&&(if n=0 then mM p&&decide (p.lt=c) else if n=-1 then !mM p&&pB p&&decide (p.lt=c) else
  !mM p&&!pB p&&nOk (yk p)&&decide (IU p=plNum (n.fdiv 3) c)&&decide (rdFig p=n.fmod 3))
def BM (n c:Int):Bool:=Ki n c (plNum n c)
noncomputable def nY (a k:Nat)(f:Int->Int->Bool):Bool:=(bz k).all λi=>f (((a+i:Nat):Int) - 729) 0&&f (((a+i:Nat):Int) - 729) 1&&f (((a+i:Nat):Int) - 729) 2
theorem B5 {a k:Nat}{f:Int->Int->Bool}(h:nY a k f=PG)(h1:(a:Int) - 729<=n)(h2:n<(a:Int)+(k:Int) - 729)(c0:0<=c)(c2:c<=2):f n c=PG:=by
 have hm:(n+729 - a).toNat∈bz k:=dm.mpr (O6 h1 h2);have q:=(aR.mp h) _ hm;have e:(((a+(n+729 - a).toNat:Nat):Int) - 729)=n:=O5 h1;rw[e] at q;simp only[aq] at q;rcases OR c0 c2 with r | r | r<;>subst r
 ·exact q.1.1
 ·exact q.1.2
 ·exact q.2
def qB (f:Int->Int->Bool):Prop:=∀ n c:Int,-729<=n->n<=730->0<=c->c<=2->f n c=PG
theorem yl (k:Nat)(p:Num)(N W:Int):rdRes (k+1) ⟨p,N,W⟩=if mM p then(N,p.lt) else if pB p then(N - W,p.lt) else rdRes k (rdNext ⟨p,N,W⟩):=rfl
theorem zQ (k:Nat)(p:Num)(N W:Int):kW (k+1) ⟨p,N,W⟩=(FP p&&decide (0<=W)&&decide (W<=100000)&&decide (-100000<=N)&&decide (N<=100000)&&(mM p||pB p||(nOk (yk p)&&kW k (rdNext ⟨p,N,W⟩)))):=rfl
theorem tX (H:qB BM):∀ (j k:Nat) (n c N W:Int),j<k->-(3 ^ j:Nat)<=n->n<(3 ^ j:Nat)->-729<=n->n<=730->0<=c->c<=2->0<=N->N<W->W*(3 ^ j:Nat)<=729->
  rdRes k ⟨plNum n c,N,W⟩=(N+n*W,c)/\kW k ⟨plNum n c,N,W⟩=PG
 | j,0,_,_,_,_,hj,_,_,_,_,_,_,_,_,_=>absurd hj (Nat.not_lt_zero _)
 | j,k+1,n,c,N,W,hj,h1,h2,b1,b2,c0,c2,n0,nW,hW=>by
  have p0:(1:Int)<=(3 ^ j:Nat):=dJ.mpr (Nat.pow_pos (by decide));have W0:=dj n0 (c9 nW);have W1:W<=729:=dj (dj (NT (On W).symm) (NW p0 W0)) hW;have q:=H n c b1 b2 c0 c2;unfold BM Ki at q;rw[yl,zQ];have a1:decide (0<=W)=PG:=decide_eq_true W0;have a2:decide (W<=100000)=PG:=decide_eq_true (dj W1 (by decide));have a3:decide (-100000<=N)=PG:=decide_eq_true (dj (by decide) n0);have a4:decide (N<=100000)=PG:=decide_eq_true (dj (c9 nW) (dj W1 (by decide)));rw[a1,a2,a3,a4];rw[aq] at q;obtain⟨qs,q⟩:=q;rw[qs]
  by_cases e0:n=0
  ·subst e0;rw[if_pos rfl,aq] at q;rw[q.1];refine⟨?_,rfl⟩;rw[if_pos rfl,of_decide_eq_true q.2,Int.zero_mul,gL]
  by_cases e1:n=-1
  ·subst e1;rw[if_neg (by decide),if_pos rfl,aq,aq,Bool.not_eq_true'] at q;obtain⟨⟨q1,q2⟩,q3⟩:=q;rw[q1,q2];refine⟨?_,rfl⟩;rw[if_neg (by decide),if_pos rfl,of_decide_eq_true q3];exact congrArg (·,c) (by rw[OA,Oz,Int.sub_eq_add_neg])
  rw[if_neg e0,if_neg e1] at q;simp only[aq,Bool.not_eq_true'] at q;obtain⟨⟨⟨⟨q1,q2⟩,q3⟩,q4⟩,q5⟩:=q;rw[q1,q2,q3,ym,of_decide_eq_true q4,of_decide_eq_true q5]
  obtain⟨i,rfl⟩:∃ i,j=i+1:=by
   cases j with
   | zero=>exact absurd (Op (de h2) (Int.lt_iff_le_and_ne.mpr ⟨(h1:-1<=n),im e1⟩)) e0
   | succ i=>exact⟨i,rfl⟩
  have e3:((3 ^ (i+1):Nat):Int)=3*(3 ^ i:Nat):=by rw[Nat.pow_succ,gK]; exact fv 3 _
  have f1:n=3*n.fdiv 3+n.fmod 3:=(Int.mul_fdiv_add_fmod n 3).symm;have f2:0<=n.fmod 3:=bu _ (by decide);have f3:n.fmod 3<3:=bJ _ (by decide);rw[e3] at h1 h2;have m1:0<=n.fmod 3*W:=Od f2 W0;have m2:n.fmod 3*W<=2*W:=Int.mul_le_mul_of_nonneg_right (de f3) W0;have r:=tX H i k (n.fdiv 3) c (N+n.fmod 3*W) (3*W) (Nat.lt_of_succ_lt_succ hj) (O4 (by decide) (dj (NT (by rw[OA,Oj])) h1)) (O1 (by decide) (NM h2 (NT (Oj 3 _)))) (O4 (by decide) (dj (by decide) b1)) (de (O1 (by decide) (NJ b2 (by decide)))) c0 c2 (NU n0 m1) (NM (Int.add_lt_add_of_lt_of_le nW m2) (NT (by rw[show(3:Int)=1+2 from rfl,OB,Oz]))) (by rw[e3] at hW; rw[Oj 3 W,Ot]; exact hW);refine⟨?_,?_⟩
  ·rw[if_neg (by decide),if_neg (by decide),r.1];refine congrArg (·,c) ?_;have e4:n*W=3*n.fdiv 3*W+n.fmod 3*W:=by rw[<- OB,<- f1]
   have e5:n.fdiv 3*(3*W)=3*n.fdiv 3*W:=by rw[<- Ot,Oj (n.fdiv 3) 3]
   rw[e4,e5,mK,N1 (n.fmod 3*W)]
  ·rw[r.2]; rfl
theorem tW (H:qB BM)(b1:-729<=n)(b2:n<729)(c0:0<=c)(c2:c<=2):rdRes 24 ⟨plNum n c,0,1⟩=(n,c)/\kW 24 ⟨plNum n c,0,1⟩=PG:=by
 have r:=tX H 6 24 n c 0 1 (by decide) b1 b2 b1 (c9 (kD b2 (by decide))) c0 c2 (by decide) (by decide) (by decide);rw[On,kB] at r;exact r
def HJ (n c:Int)(p:Num):Bool:=
 qW n c&&decide (lift3 (ownRes n c).1.1 (ownRes n c).1.2.1 (ownRes n c).1.2.2 p.lt=p)&&decide (p.lt=(c+((ownRes n c).2 - c)) % 3)&&
 decide (lift3 (p.x+if p.lt=0 then 1 else 0) (p.y+if p.lt=1 then 1 else 0) (p.z+if p.lt=2 then 1 else 0) (plNum (n+1) c).lt=plNum (n+1) c)
def jU (n c:Int):Bool:=BM n c&&HJ n c (plNum n c)
section
variable {α:Type}
def fP (p:Num)(f:Num->α):α:=fI p.x λx=>fI p.y λy=>fI p.z λz=>fI p.lt λl=>f ⟨x,y,z,l⟩
theorem Pr (p:Num)(f:Num->α):fP p f=f p:=by unfold fP; rw[jF,jF,jF,jF]
def fS (s:Bool×Num)(f:Bool×Num->α):α:=bif s.1 then fP s.2 λp=>f (PG,p) else f (PH,s.2)
theorem Pm (s:Bool×Num)(f:Bool×Num->α):fS s f=f s:=by
 obtain⟨b,p⟩:=s;cases b
 ·rfl
 ·exact Pr p λp=>f (PG,p)
def fO (o:(Int×Int×Int)×Int)(f:(Int×Int×Int)×Int->α):α:=fI o.1.1 λa=>fI o.1.2.1 λb=>fI o.1.2.2 λd=>fI o.2 λt=>f ((a,b,d),t)
theorem Pz (o)(f:_->α):fO o f=f o:=by unfold fO; rw[jF,jF,jF,jF]
noncomputable def st (b:Int)(p:Int×List Int):Int×List Int:=if p.1=0\/p.1=-1 then p else(p.1.fdiv b,p.2++[p.1.fmod b])
def vX (b:Int)(g:Int->α)(s:α->Int->α)(F:α->(α->α)->α)(i:Nat):Int->α:=
 PL g (λU r n=>if n=0\/n=-1 then g n else fI (n.fdiv b) λm=>fI (n.fmod b) λd=>F (r m) λa=>F (s a d) λa=>a) i
theorem Pl {b:Int}{R:Int->Nat->Int×List Int}(h0:∀ n,R n 0=(n,[]))(h1:∀ n i,R n (i+1)=st b (R n i))(n:Int):∀ i,R n (i+1)=if n=0\/n=-1 then(n,[]) else((R (n.fdiv b) i).1,n.fmod b :: (R (n.fdiv b) i).2)
 | 0=>by rw[h1,h0,h0]; rfl
 | i+1=>by
  rw[h1,Pl h0 h1 n i,h1 (n.fdiv b)];unfold st
  split
  ·rfl
  ·dsimp only; split<;>rfl
theorem Ps {b:Int}{R:Int->Nat->Int×List Int}(h0:∀ n,R n 0=(n,[]))(h1:∀ n i,R n (i+1)=st b (R n i))(g:Int->α)(s:α->Int->α){F:α->(α->α)->α}(hF:∀ a f,F a f=f a):∀ i n,vX b g s F i n=(R n i).2.reverse.foldl s (g (R n i).1)
 | 0,n=>by rw[h0]; rfl
 | i+1,n=>by
  rw[Pl h0 h1];refine(?_:(if n=0\/n=-1 then g n else fI (n.fdiv b) λm=>fI (n.fmod b) λd=>F (vX b g s F i m) λa=>F (s a d) λa=>a)=_)
  split
  ·rfl
  ·rw[jF,jF,hF,hF,Ps h0 h1 g s hF i,jo,jp]; rfl
end
def sF (a:Bool×Num)(f:Int):Bool×Num:=(a.1&&(nOk a.2&&decide (0<=f)&&decide (f<=8)),nStep a.2 f)
theorem Pd:∀ (l:List Int) (b:Bool) (p:Num),(l.foldl sF (b,p)).2=l.foldl nStep p/\((l.foldl sF (b,p)).1&&(decide (0<=(l.foldl sF (b,p)).2.lt)&&decide ((l.foldl sF (b,p)).2.lt<=2)))=(b&&allOk l p)
 | [],_,_=>⟨rfl,rfl⟩
 | f :: l,b,p=>by
  have h:=Pd l (b&&(nOk p&&decide (0<=f)&&decide (f<=8))) (nStep p f);rw[Pc b] at h;exact h
def v9 (c n:Int):Bool×Num:=vX 9 (λN=>(PG,nInit N c)) sF fS 8 n
def v3 (c n:Int):(Int×Int×Int)×Int:=vX 3 (λN=>((if(0:Int)=c then N else 0,if(1:Int)=c then N else 0,if(2:Int)=c then N else 0),c)) vp fO 12 n
theorem Pp (c n:Int):v9 c n=(plFigs n).foldl sF (PG,plInit n c):=Ps (R:=pRun) (λU=>rfl) (λU U=>rfl) _ _ Pm 8 n
set_option tactic.hygienic true in
theorem PB (c n:Int):v3 c n=ownRes n c:=Ps (R:=ownRun) (λ_=>rfl) (λn i=>by
 refine(?_:ownStep _=_);unfold ownStep st
 split
 ·rename_i h; exact(if_neg λq=>q.elim h.1 h.2).symm
 ·rename_i h; exact(if_pos (Decidable.or_iff_not_not_and_not.mpr h)).symm) _ _ Pz 12 n
def PK (n c:Int)(s:Bool×Num)(q r:Num)(o:(Int×Int×Int)×Int):Bool:=
 (FP s.2&&(if n=0 then mM s.2&&decide (s.2.lt=c) else if n=-1 then !mM s.2&&pB s.2&&decide (s.2.lt=c) else
  !mM s.2&&!pB s.2&&fI (rdFig s.2) (λf=>fI (rdLt s.2.lt f) λl=>fP (vl s.2 f l) λt=>nOk t&&fP (rdB t) λu=>decide (Num.mk (u.x / 3) (u.y / 3) (u.z / 3) t.lt=r))&&decide (rdFig s.2=n.fmod 3)))&&
 (s.1&&(decide (0<=s.2.lt)&&decide (s.2.lt<=2))&&decide (lift3 o.1.1 o.1.2.1 o.1.2.2 s.2.lt=s.2)&&decide (s.2.lt=(c+(o.2 - c)) % 3)&&
  decide (lift3 (s.2.x+if s.2.lt=0 then 1 else 0) (s.2.y+if s.2.lt=1 then 1 else 0) (s.2.z+if s.2.lt=2 then 1 else 0) q.lt=q))
def Pe (n c:Int):Bool:=fI n λn=>fS (v9 c n) λs=>fI (n+1) λm=>fS (v9 c m) λt=>fI (n.fdiv 3) λk=>fS (v9 c k) λu=>fO (v3 c n) λo=>PK n c s t.2 u.2 o
theorem Px (n c:Int):Pe n c=jU n c:=by
 unfold Pe;rw[jF,Pm,jF,Pm,jF,Pm,Pz,PB,Pp,Pp,Pp,(Pd (plFigs (n+1)) _ _).1,(Pd (plFigs (n.fdiv 3)) _ _).1];unfold PK;rw[(Pd (plFigs n) _ _).2,(Pd (plFigs n) _ _).1,jF,jF,Pr,Pr];unfold jU BM Ki HJ;rw[<- Pc (!mM _&&!pB _)]
 rfl
theorem Kh:nY 0 146 Pe=PG:=by decide +kernel
theorem Kg:nY 146 146 Pe=PG:=by decide +kernel
theorem Kf:nY 292 146 Pe=PG:=by decide +kernel
theorem Ke:nY 438 146 Pe=PG:=by decide +kernel
theorem Kd:nY 584 146 Pe=PG:=by decide +kernel
theorem Kc:nY 730 146 Pe=PG:=by decide +kernel
theorem Kb:nY 876 146 Pe=PG:=by decide +kernel
theorem Ka:nY 1022 146 Pe=PG:=by decide +kernel
theorem J9:nY 1168 146 Pe=PG:=by decide +kernel
theorem J8:nY 1314 146 Pe=PG:=by decide +kernel
theorem J7:∀ a∈[0,146,292,438,584,730,876,1022,1168,1314],nY a 146 Pe=PG:=am.mpr ⟨Kh,am.mpr ⟨Kg,am.mpr ⟨Kf,am.mpr ⟨Ke,am.mpr ⟨Kd,am.mpr ⟨Kc,am.mpr ⟨Kb,am.mpr ⟨Ka,am.mpr ⟨J9,am.mpr ⟨J8,λU h=>nomatch h⟩⟩⟩⟩⟩⟩⟩⟩⟩⟩
theorem mD:qB jU:=λn c h1 h2 c0 c2=>
 have m:∀ q,q<10->146*q∈[0,146,292,438,584,730,876,1022,1168,1314]:=by decide +kernel
 have e:(((n+729).toNat:Nat):Int)=n+729:=dG (lN h1 729);have u:(n+729).toNat<146*10:=n9.mp (e▸(NJ (lN h2 729) (by decide):n+729<((146*10:Nat):Int)));have l1:((146*((n+729).toNat / 146):Nat):Int)<=n+729:=e▸dJ.mpr (Nat.mul_div_le (n+729).toNat 146);have l2:n+729<((146*((n+729).toNat / 146):Nat):Int)+146:=e▸n9.mpr (Nat.lt_mul_div_succ (n+729).toNat (by decide:0<146))
 Px n c▸B5 (J7 _ (m ((n+729).toNat / 146) (Nat.div_lt_of_lt_mul u))) (Int.sub_right_le_of_le_add l1) (Int.lt_sub_right_of_add_lt l2) c0 c2
theorem BL (H:qB jU)(h1:-729<=n)(h1':n<=730)(h2:0<=c)(h2':c<=2):qW n c=PG:=by
 have q:=H n c h1 h1' h2 h2';unfold jU HJ at q;simp only[aq] at q;exact q.2.1.1.1
theorem xU (H:qB jU):qB BM:=λn c h1 h2 h3 h4=>by
 have q:=H n c h1 h2 h3 h4;unfold jU at q;exact(aq _ _▸q).1
def rX (k:Nat):Rds->Int×Int:=
 PL (λU=>(0,0)) (λU r s=>if mM s.p then(s.N,s.p.lt) else if pB s.p then(s.N - s.W,s.p.lt) else fP (rdNext s).p λp=>fI (rdNext s).N λN=>fI (rdNext s).W λW=>r ⟨p,N,W⟩) k
theorem Py:∀ k s,rX k s=rdRes k s
 | 0,_=>rfl
 | k+1,s=>by
  refine(?_:(if mM s.p then(s.N,s.p.lt) else if pB s.p then(s.N - s.W,s.p.lt) else fP (rdNext s).p λp=>fI (rdNext s).N λN=>fI (rdNext s).W λW=>rX k ⟨p,N,W⟩)=if mM s.p then(s.N,s.p.lt) else if pB s.p then(s.N - s.W,s.p.lt) else rdRes k (rdNext s));rw[Pr,jF,jF,Py k]
def wp (p:Num):Bool:=fI (rX 24 ⟨p,0,1⟩).1 λn=>fI (rX 24 ⟨p,0,1⟩).2 λc=>decide (-729<=n)&&decide (n<729)&&decide (0<=c)&&decide (c<=2)&&fS (v9 c n) λs=>decide (s.2=p)
def uM (x y z:Int):Bool:=wp ⟨x,y,z,0⟩&&wp ⟨x,y,z,1⟩&&wp ⟨x,y,z,2⟩
noncomputable def Es (f:Int->Int->Bool):Bool:=(bz 9).all λi=>(bz 9).all λj=>f (i:Nat) (j:Nat)
theorem qv {f:Int->Int->Bool}(h:Es f=PG){a b:Int}(a0:0<=a)(a1:a<9)(b0:0<=b)(b1:b<9):f a b=PG:=by
 have q:=(aR.mp ((aR.mp h) a.toNat (dm.mpr (OQ (by decide) a1)))) b.toNat (dm.mpr (OQ (by decide) b1));rwa [dG a0,dG b0] at q
theorem HM:Es (λa b=>uM 0 a b)=PG:=by decide +kernel
theorem HL:Es (λa b=>uM a 0 b)=PG:=by decide +kernel
theorem HK:Es (λa b=>uM a b 0)=PG:=by decide +kernel
theorem BO {y z l:Int}(h:uM x y z=PG)(l0:0<=l)(l2:l<=2):wp ⟨x,y,z,l⟩=PG:=by
 unfold uM at h;simp only[aq] at h;rcases OR l0 l2 with r | r | r<;>subst r
 ·exact h.1.1
 ·exact h.1.2
 ·exact h.2
theorem Dn (a b c:Int):min a (min b c)=a\/min a (min b c)=b\/min a (min b c)=c:=by
 rcases Ol a (min b c) with h | h
 ·exact .inl (kS h)
 ·rw[eJ h];rcases Ol b c with h | h
  ·exact .inr (.inl (kS h))
  ·exact .inr (.inr (eJ h))
theorem FH {m:Int}(h:m<=a)(m0:0<=m)(a1:a<9)(hx:a - m=x):0<=x/\x<9:=⟨hx▸NV h,hx▸NJ (NY a m0) a1⟩
theorem LQ {b m y z:Int}(m0:0<=m)(ma:m<=a)(mb:m<=b)(mc:m<=c)(h:m=a\/m=b\/m=c)(a1:a<9)(b1:b<9)(c1:c<9)(hx:a - m=x)(hy:b - m=y)(hz:c - m=z):
  (x=0/\0<=y/\y<9/\0<=z/\z<9)\/(y=0/\0<=x/\x<9/\0<=z/\z<9)\/(z=0/\0<=x/\x<9/\0<=y/\y<9):=by
 have qx:=FH ma m0 a1 hx;have qy:=FH mb m0 b1 hy;have qz:=FH mc m0 c1 hz;rcases h with rfl | rfl | rfl
 ·exact .inl ⟨hx.symm.trans (wC _),qy.1,qy.2,qz⟩
 ·exact .inr (.inl ⟨hy.symm.trans (wC _),qx.1,qx.2,qz⟩)
 ·exact .inr (.inr ⟨hz.symm.trans (wC _),qx.1,qx.2,qy⟩)
theorem BN {b l:Int}(a0:0<=a)(a1:a<9)(b0:0<=b)(b1:b<9)(c0:0<=c)(c1:c<9)(l0:0<=l)(l2:l<=2):wp (lift3 a b c l)=PG:=by
 unfold lift3;generalize hx:a - min a (min b c)=x;generalize hy:b - min a (min b c)=y;generalize hz:c - min a (min b c)=z;refine BO ?_ l0 l2;rcases LQ (nt.mpr ⟨a0,nt.mpr ⟨b0,c0⟩⟩) (kR _ _) (dj (fY _ _) (kR _ _)) (dj (fY _ _) (fY _ _)) (Dn a b c) a1 b1 c1 hx hy hz with ⟨e,h1,h2,h3,h4⟩ | ⟨e,h1,h2,h3,h4⟩ | ⟨e,h1,h2,h3,h4⟩<;>subst e
 ·exact qv HM h1 h2 h3 h4
 ·exact qv HL h1 h2 h3 h4
 ·exact qv HK h1 h2 h3 h4
structure EdOk (p:Num):Prop where
 r:kW 24 ⟨p,0,1⟩=PG
 n0:-1024<=(rdRes 24 ⟨p,0,1⟩).1
 n1:(rdRes 24 ⟨p,0,1⟩).1<1024
 c0:0<=(rdRes 24 ⟨p,0,1⟩).2
 c1:(rdRes 24 ⟨p,0,1⟩).2<=2
 ok:qW (rdRes 24 ⟨p,0,1⟩).1 (rdRes 24 ⟨p,0,1⟩).2=PG
 e:plNum (rdRes 24 ⟨p,0,1⟩).1 (rdRes 24 ⟨p,0,1⟩).2=p
theorem D6 (H:qB jU){p:Num}(q:wp p=PG):EdOk p:=by
 unfold wp at q;rw[jF,jF,Pm,Pp,(Pd _ _ _).1,Py] at q;simp only[aq,decide_eq_true_eq] at q;generalize hr:rdRes 24 ⟨p,0,1⟩=r at*;obtain⟨⟨⟨⟨q1,q2⟩,q3⟩,q4⟩,q5⟩:=q;have q5:plNum r.1 r.2=p:=q5;have r1:=(tW (xU H) q1 q2 q3 q4).2;rw[q5] at r1;exact⟨r1,by rw[hr]; exact dj (by decide) q1,by rw[hr]; exact kD q2 (by decide),hr▸q3,hr▸q4,hr▸BL H q1 (c9 (kD q2 (by decide))) q3 q4,hr▸q5⟩
theorem D5 (a b c d:Int):EdOk (lift3 (a.fmod 9) (b.fmod 9) (c.fmod 9) (d.fmod 3)):=
 D6 mD (BN (bu _ (by decide)) (bJ _ (by decide)) (bu _ (by decide)) (bJ _ (by decide)) (bu _ (by decide)) (bJ _ (by decide)) (bu _ (by decide)) (de (bJ d (by decide))))
end Mine
end
section
open PySem PySem.W PySem.Calls PySem.Spec PyProof.Rows Mine
namespace Nw
structure NumF (n c:Int):Prop where
 ok:qW n c=PG
 ok1:qW (n+1) c=PG
 own:lft (ownRes n c).1.1 (ownRes n c).1.2.1 (ownRes n c).1.2.2=sN (plNum n c)
 l0:0<=(plNum n c).lt
 l2:(plNum n c).lt<=2
 lt:(plNum n c).lt=(c+gw n).fmod 3
 st:lift3 ((plNum n c).x+if(plNum n c).lt=0 then 1 else 0) ((plNum n c).y+if(plNum n c).lt=1 then 1 else 0) ((plNum n c).z+if(plNum n c).lt=2 then 1 else 0) (plNum (n+1) c).lt=plNum (n+1) c
 rd:rdRes 24 ⟨plNum n c,0,1⟩=(n,c)/\kW 24 ⟨plNum n c,0,1⟩=PG
theorem LJ {n c:Int}(b1:-729<=n)(b2:n<729)(c0:0<=c)(c2:c<=2):NumF n c:=by
 have q:=mD n c b1 (c9 (kD b2 (by decide))) c0 c2;unfold jU HJ at q;simp only[aq,decide_eq_true_eq] at q;obtain⟨-,⟨⟨q0,q1⟩,q2⟩,q3⟩:=q;rw[xn] at q2;have q2':(plNum n c).lt=(c+gw n).fmod 3:=q2.trans (Aj _ (by decide)).symm;have f:=iT (c+gw n) (n:=3) (by decide);exact⟨q0,BL mD (dj b1 (c9 (Int.lt_add_one_of_le (ip n)))) (dj b2 (by decide)) c0 c2,congrArg sN q1,q2'▸f.1,q2'▸de f.2,q2',q3,tW (xU mD) b1 b2 c0 c2⟩
theorem Ds (w:aB)(p:cj)(loose:List Str)(mean:j0->Option af)(mg mb:Str->Option af)(g:aL)(L fa:aj)(cd:af)(s₀:ai)(ns:List Int)(hl:ns.length<=63):Run (wkL w ns []) (lwC w p loose mean mg mb g L fa cd s₀) [nm "script" (.r 0)] (lO ns PF PF []) [bn w 323]:=
 Ju rfl rfl hl λx y z=>Jt rfl rfl λb=>Js rfl ⟨⟨w,p,loose,mean,mg,mb,g,L,fa,cd,s₀,[],[],rfl⟩,rfl,rfl,⟨s₀,rfl⟩,rfl,rfl,λU=>rfl⟩ λc X h1 H I=>Jr h1 H I (Jq h1 H I (Jp h1 H I (Jo h1 H I λc D h1 H hp hD=>Jn h1 H hp hD (by
  obtain⟨n0,n1⟩:=uf x;obtain⟨t0,t1⟩:=lm y;have F:=LJ n0 n1 t0 t1;have E:EdOk (edN z):=D5 _ _ _ _;refine Jm h1 H F.ok (Jl h1 H (GC (O:=[]) h1 H ?_));rw[F.own];exact GB h1 H (congrArg (fk (S' "rgb")) F.lt) (GA h1 H (Gz h1 H (Gy h1 H F.l0 F.l2 F.st (Gx h1 H F.ok1 (Gw h1 H (Gu h1 H E.r (Gs h1 H F.rd.2 F.rd.1 (Gr h1 H E.n0 E.n1 E.c0 E.c1 E.ok E.e))))))))))))
end Nw
end
section
open PySem PySem.W PySem.Calls PySem.Spec PyProof.Rows
namespace Mine
theorem F2 {M:nk}{A:be}{cd:MZ}{s s₁:ai}{cw:ClaimW}{cl:Str->Option aj}{mean:j0->Option af}{args:List WData}{tabs:List (aj×aj)}(hT:TabsAt tabs s₁.heap)
  (hr:∀ a x,cw.raises a x=PH) (hp:∀ a,cw.post a (.bool PG) a=PG)
  (h:codeAny M A cd (λr s'=>r=.ok (.ret (.bool PG))/\(∀ b o,(ghostOf s₁.heap tabs).get? b=PD o->s'.heap.get? b=PD o)/\s'.os=s₁.os/\ju s'.gens/\GrownAll tabs s'.heap) s):
  codeAny M A cd (Ii cw cl mean args s₁) s:=
 codeAny_mono h λr s' ⟨e,k,ho,hb,hg⟩=>by
  have one:∀ b o,s₁.heap.get? b=PD o->s'.heap.get? b=PD o\/∃ q∈tabs,b=q.2:=λb o eb=>by
   by_cases m:b∈tabs.map (·.2)
   ·obtain⟨q,hq,e2⟩:=d7.mp m;exact .inr ⟨q,hq,e2.symm⟩
   ·exact .inl (k b o (ghost_ne eb m))
  refine⟨.inl ⟨.bool PG,.bool PG,[],e,hr _,.bool _,hp _,λU=>⟨sf,λa h=>nomatch h⟩⟩,⟨λb o eb=>?_,λb o eb=>?_⟩,ho,hb⟩
  ·rcases one b o eb with h | ⟨q,hq,rfl⟩
   ·exact .inl h
   ·obtain⟨c1,c2⟩:=hT q hq;obtain⟨ps,hps⟩:=hg.get q hq;obtain rfl:=ac (eb.symm.trans c2);exact .inr (.inl ⟨(c1.tab c2).isCodeTable,rfl,#[],ps,rfl,by rw[Array.empty_append]; exact hps⟩)
  ·rcases one b o eb with h | ⟨q,hq,rfl⟩
   ·exact⟨o,h⟩
   ·obtain⟨ps,hps⟩:=hg.get q hq;exact⟨_,hps⟩
end Mine
end
section
open PySem PySem.W PySem.Calls PySem.Spec PyProof.Rows Mine
namespace Nw
variable {ns:List Int}
theorem Fw {w:aB}{c:Cx}(O:c.Ok (wkL w ns []).f):(wkL w ns []).Ok c:=⟨okL O (λU q=>(nomatch q)),λU U o2=>okL o2 (λU q=>(nomatch q))⟩
theorem JC {h:aL}{P:aj}{line col:Nat}{q:Str}(T:TabNow h P line col q):∃ ps,h.get? P=PD (tabObj ps):=by
 obtain⟨o,e,rfl | ⟨a,rfl,_⟩⟩:=T
 ·exact⟨_,e⟩
 ·exact⟨_,e⟩
theorem KP {w:aB}{p:cj}{loose:List Str}{mean:j0->Option af}{mg mb:Str->Option af}{g h:aL}{L fa l:aj}{cd:af}{oA oB:Obj}{s₀:ai}{vs:List af}{tk:Nat}{m:Str->Option af}(B:ry callerA g [] g)(X:(hd.heap_39 w.params).In g)(T:Top p loose mean mg mb g)(l61:@k9 Nat _ 61 L)(l54:@k9 Nat _ 54 L)
  (hL:g.IsList l vs.toArray) (hI:jr vs ns) (hn:ns.length<=63) (dA:oA.data=.cell PF) (dB:oB.data=.cell PF) (HB:ju s₀.gens) (F:Fr g L h m) (N:gY g L h [(L+1+1,oA),(L+1,oB),(61,tabObj #[]),(54,tabObj #[])]) (ms:m (aa "script")=PD (.ref l)):
  wpAny (MP w) (callerA.deeper (envOfC (aa "law") (fdAt w 323).scope L fa cd)) (execs (bn w 323) (envOfC (aa "law") (fdAt w 323).scope L fa cd)) (λf s=>f=.ret (.bool PG)/\KB g L s₀ s) (λU U=>False) (sh s₀ h tk):=by
 have qA:(lwC w p loose mean mg mb g L fa cd s₀).A (wkL w ns []).f=callerA.deeper (envOfC (aa "law") (fdAt w 323).scope L fa cd):=by kernel_rfl
 rw[<- qA];exact(Ds w p loose mean mg mb g L fa cd s₀ ns hn).at (s:=s₀) (Fw (Go B X T HB)) (Dt l61 l54 hL hI dA dB F N ms)
end Nw
end
section
open PySem PySem.W PySem.Calls PySem.Spec PyProof.Rows
namespace Mine
variable {fa:aj}{pm cd doc:af}{s₁ s₀:ai}{ns:List Int}{vals:List af}{args:List WData}{its:Array af}{cl:Str->Option aj}{mg mb:Str->Option af}{mean:j0->Option af}
theorem K4 {h:aL}{P:Cd}{as:List aj}(hpre:tT.toRowW.claim.pre args=PG)(hlay:WData.layableAll args=PG)(hrd:ReadsAllW tT.toRowW.records cl h vals args as)(hwl:WellAll P h vals args)(hlo:∀ a∈as,(a == sysModules)=PH):
  ∃ l its ns,vals=[.ref l]/\h.IsList l its/\jr its.toList ns/\ns.length<=63:=by
 wrow_args hpre hlay hrd hwl hlo
 exact⟨_,_,_,rfl,by assumption,by assumption,by omega⟩
theorem yR {cm:Str->Option af}{xs:List (Str×aj)}{cells:List (aj×Obj)}{n n':Str}{c c':aj}(X:wG cm xs cells)(e:xs=[(n,c),(n',c')])(e1:cm n=PF)(e2:cm n'=PF):
  ∃ o o',cells=[(c,o),(c',o')]/\o.data=.cell PF/\o'.data=.cell PF:=
 CellsAre.two (e▸X) |>.elim λo z=>z.elim λo' z=>⟨o,o',z.1,e1▸z.2.1,e2▸z.2.2⟩
noncomputable abbrev tb9:List (aj×aj):=[(65,61),(58,54)]
theorem Hn {g:aL}{L:aj}{s':ai}(q:Nw.KB g L s₁ s'):(∀ b o,g.get? b=PD o->s'.heap.get? b=PD o)/\s'.os=s₁.os/\ju s'.gens/\GrownAll tb9 s'.heap:=
 q.elim λs9 q=>q.elim λh9 q=>q.elim λtk9 q=>q.elim λm9 q=>⟨q.2.1▸q.2.2.1.keep,q.1.elim λg e=>q.2.1▸e▸rfl,q.2.1▸q.1.bare,q.2.1▸⟨Nw.JC q.2.2.2.2,Nw.JC q.2.2.2.1,PI⟩⟩
theorem AD {w:aB}(G:Ground hd.view_39 Ir tT.toRowW.records (λU U=>True) w s₀ mg mb s₁.heap)(Y:H9.says w s₁.heap){o:Obj}(ho:s₁.heap.get? fa=PD o)(hd:o.data=.func (docDef dk9.name dk9.params dk9.body dk9.scope pm cd doc))(hcd:s₁.heap.CodeRec cd dk9.name)(hg:s₁.gens=#[]){l:aj}(hL:s₁.heap.IsList l its)(hI:jr its.toList ns)(hn:ns.length<=63):
  wpAny (model tT.prog w) callerA (yZ (.ref fa) [.ref l]) (λv s'=>Ii tT.toRowW.claim cl mean args s₁ (.ok (.ret v)) s') (λe s'=>Ii tT.toRowW.claim cl mean args s₁ (.error e) s') s₁:=
 have X:=km_in_of Y;have hT:TabsAt tb9 s₁.heap:=am.mpr ⟨⟨Ey (c:=65) (P:=61) X (by kernel_rfl),km_tabs_of Y 61 (.head _)⟩,am.mpr ⟨⟨Ey (c:=58) (P:=54) X (by kernel_rfl),km_tabs_of Y 54 (.tail _ (.head _))⟩,λU h=>nomatch h⟩⟩
 enter_call (F2 hT (λU U=>rfl) (λU=>by with_unfolding_all rfl)
  (call_cellsN (binds:=[(aa "script",.ref l)]) (by decide) ho hd G.T.nolimit hcd (by kernel_rfl) (kinds_of ⟨.inl (by kernel_rfl),PI⟩) (by decide +kernel) (λh₁ tk cells F N0 X0=>
   (yR X0 (n:=aa "letter") (n':=aa "table") (c:=s₁.heap.objs.size+1+1) (c':=s₁.heap.objs.size+1) (by kernel_rfl) (by kernel_rfl) (by kernel_rfl)).elim λoA z=>z.elim λoB z=>
    have N:=ghost_news hT F (z.1▸N0);have l0:=ghost_lt hT F
    aU (Q:=λf s=>f=.ret (.bool PG)/\Nw.KB (ghostOf s₁.heap tb9) s₁.heap.objs.size s₁ s) (E:=λU U=>False) (Eq.mp (by kernel_rfl) (Nw.KP (s₀:=s₁) (oA:=oA) (oB:=oB) (l:=l) (vs:=its.toList) (ns:=ns) (fa:=fa) (cd:=cd) (tk:=tk) (ghost_below hT) (ghost_K hT X (by kernel_rfl)) (ghost_top hT G.T) (l0 _ (.head _)) (l0 _ (.tail _ (.head _))) (ghost_list hT hL) hI hn z.2.1 z.2.2 (AllBare.of_eq hg) (ghost_fr hT F) N (by kernel_rfl)))
     (λf s' q=>⟨by rw[q.1],Hn q.2⟩) (λe s' q=>q.elim)) (by kernel_rfl) (by kernel_rfl) (by kernel_rfl)))
theorem KQ {w:aB}(G:Ground hd.view_39 Ir tT.toRowW.records (λU U=>True) w s₀ mg mb s₁.heap)(Y:H9.says w s₁.heap){o:Obj}{dV kV:af}(ho:s₁.heap.get? fa=PD o)(hd:o.data=.func { docDef dk9.name dk9.params dk9.body dk9.scope pm cd doc with defaults:=dV,kwdefaults:=kV })(e1:dV=.none)(e2:kV=.none)(hcd:s₁.heap.CodeRec cd dk9.name)(hg:s₁.gens=#[]){l:aj}(e:vals=[.ref l])(hL:s₁.heap.IsList l its)(hI:jr its.toList ns)(hn:ns.length<=63):
  wpAny (model tT.prog w) callerA (yZ (.ref fa) vals) (λv s'=>Ii tT.toRowW.claim cl mean args s₁ (.ok (.ret v)) s') (λe s'=>Ii tT.toRowW.claim cl mean args s₁ (.error e) s') s₁:=by
 subst e1 e2 e;exact AD G Y ho hd hcd hg hL hI hn
end Mine
end
section
open PySem PySem.W PySem.Calls PySem.Spec PyProof.Rows
theorem PySem.Challenge.cw_ta0123_01_holds : PySem.Challenge.rw_ta0123_01.Holds :=
 Mine.hd λw s₀ s₁ mg mb G Y fa o pm cd doc dV kV ho hd hcd hD U hg args vals as hpre hlay hrd hwl hlo=>
  (Mine.K4 hpre hlay hrd hwl hlo).elim λl z=>z.elim λits z=>z.elim λns z=>
   Mine.KQ G Y ho hd (hD.none (by kernel_rfl)) hD.noKw hcd hg z.1 z.2.1 z.2.2.1 z.2.2.2
end
end
