import PyProof.Rows.All
import Wide.All
import OpenK.AllK
import Wide.FinOn
import KE.KSortTup
import Lean
import PySem.Challenge.RW_ta0041_01
set_option maxRecDepth 100000
set_option compiler.extract_closed false
set_option genSizeOf false
set_option genInjectivity false
set_option bootstrap.genMatcherCode false
set_option linter.all false
set_option Elab.async false
set_option tactic.hygienic false
namespace Internal
open PySem PySem.W PySem.Calls PyProof.Rows
open _root_.Array renaming getElem?_eq_getElem→Ev,getElem?_toList→Fg,toList_append→L3,getElem?_eq_some_iff→QJ,getElem?_eq_none→Sr,length_toList→WP,size_push→a8
open _root_.Bool renaming and_eq_true→A7,eq_iff_iff→CK,and_true→DY,not_eq_true'→Dn,false_ne_true→EE,xor_false→EJ,or_eq_true→E0,and_false→FI,false_eq_true→Gv,false_xor→G7,false_and→G8,true_and→Hm,false_or→Jz,or_eq_false_iff→Lp,or_false→Sj,and_eq_true_iff→WO,not_eq_false'→Y8,and_comm→dp
open _root_.Classical renaming byContradiction→Cr
open _root_.ForInStep renaming yield→Ek
open _root_.Inhabited renaming default→GG
open _root_.Int renaming natCast_nonneg→AZ,toNat_natCast→Ag,le_trans→Av,ofNat_le→A3,ofNat_lt→BR,lt_of_le_of_lt→Bc,toNat→B0,lt_of_lt_of_le→CP,ofNat_inj→Ce,not_lt→Cp,le_of_lt→Da,add_le_add_left→EY,ofNat_sub→Fq,le_add_of_nonneg_right→F7,fmod_eq_emod_of_nonneg→F8,fdiv_eq_ediv_of_nonneg→F9,toNat_of_nonneg→GZ,add_comm→HD,max_eq_right→Hl,sub_nonneg_of_le→Hz,mul_le_mul_of_nonneg_left→H0,le_of_lt_add_one→H1,fmod→H2,lt_trans→Iy,le_add_of_nonneg_left→Jc,neg_nonpos_of_nonneg→J9,add_assoc→J_,fdiv→KI,not_le→K1,min_eq_left→LA,le_antisymm→LB,le_ediv_of_mul_le→LO,neg_le_neg→L0,lt_succ→L1,add_lt_add_right→L2,natAbs_natCast→NT,add_sub_cancel→NU,toNat_lt→N5,self_le_toNat→N6,le_sub_right_of_add_le→RF,add_nonneg→RG,add_lt_add_of_le_of_lt→RH,add_le_add→RI,lt_irrefl→Sq,mul_comm→Ut,ediv_lt_of_lt_mul→WM,ediv_le_of_le_mul→WN,two_mul→Wb,sub_lt_sub_right→Wc,le_refl→Wd,add_one_le_of_lt→We,add_le_add_right→Wf,sub_lt_sub_left→Y7,sub_le_self→dS,natCast_add→dT,le_max_left→dU
open _root_.Int.ofNat renaming inj→O0
open _root_.List renaming mem_cons_self→AB,mem_append_left→AC,getD_eq_getElem?_getD→AE,mem_cons_of_mem→AG,length_map→AH,mem_singleton→AI,getElem?_eq_getElem→AL,mem_cons→AN,length_cons→AP,length_append→AQ,mem_append→AR,mem_map→AU,range→AW,size_toArray→Ab,map_append→Ac,map_cons→Ae,mem_append_right→Ak,all_eq_true→Al,mem_range→An,append_nil→Ao,replicate→Aq,range'→Aw,count_append→A5,append_assoc→A8,map_map→BB,getElem?_map→BD,flatten_append→BF,not_mem_nil→BH,toArray→BL,count_eq_zero→BM,filter_cons_of_pos→BN,getElem?_append_right→BO,getElem_mem→BY,flatten_cons→Bd,filter_append→Be,cons_append→Bg,length_range→Bm,filter_cons_of_neg→Bo,nil_append→Br,mem_of_getElem?→B2,getElem?_eq_some_iff→B4,length_take→CC,mem_filter→CD,getElem?_append_left→CE,length_filter_le→CR,mem_map_of_mem→CY,length_drop→Ca,filter_eq_self→Ck,pairwise_append→Cw,filter_eq_nil_iff→Cy,filter_map→C1,range'_succ→C3,lookup_cons→C4,count_cons_of_ne→C6,mem_range'_1→C8,getElem?_cons_succ→DA,pairwise_cons→DH,countP_append→DI,take_of_length_le→DN,filter_congr→DR,map_nil→DZ,count_cons_self→Dd,all_cons→Dk,perm_ext_iff_of_nodup→Dm,getElem?_drop→EC,countP_cons→ED,length_pos_iff→EW,countP_eq_zero→EX,mem_flatten→Ef,flatten_nil→Eg,exists_cons_of_ne_nil→Ej,range_eq_range'→E1,getElem?_take_of_lt→E8,take_left→FF,drop_left→FG,length→FS,pairwise_lt_range→FV,nodup_cons→Fc,length_nil→Fd,all_append→Fe,map_take→Ff,mem_of_mem_take→F4,mem_or_eq_of_mem_set→GL,drop_eq_getElem_cons→GM,sum_cons→Gd,length_range'→Gs,count_pos_iff→Gu,length_eq_zero_iff→Gz,drop_zero→G6,take_append_drop→HU,mem_iff_getElem?→HV,length_singleton→HW,length_replicate→HX,nodup_range→HZ,map_drop→Hk,getElem?_append→Hu,eq_nil_of_length_eq_zero→Hv,drop_append_of_le_length→Hw,length_set→IC,headD_cons→ID,count_cons→IE,replicate_succ→IN,map_congr_left→IP,filterMap_cons→IQ,append_toArray→IR,map_singleton→I_,lookup_append→I',eq_append_cons_of_mem→JA,getLast?_eq_getElem?→JW,getElem?_eq_none_iff→JX,pairwise_map→Ja,nodup_append→Jb,map_reverse→KC,range_succ_eq_map→Kh,map_id'→Ki,range_succ→Kz,forIn_cons→K0,getElem?_eq_none→K_,getLast?_concat→Ll,getElem?_mapIdx→Lm,forIn_nil→Ln,drop_drop→Lo,take→Ly,drop→Lz,getElem?_range→Mh,getD_cons_succ→Mi,mem_filterMap→M',getElem?_set→Nk,all_map→Nl,take_length→Os,range'_zero→Ot,mem_reverse→Ou,mapIdx_cons→Ov,drop_length→Ow,take_left'→PH,foldl_cons→PJ,countP_nil→PK,countP_eq_length_filter→PL,getLast?_eq_none_iff→RD,extract_eq_take_drop→RE,range'_eq_map_range→Sd,length_erase_of_mem→Se,eq_of_mem_replicate→Sh,getElem?_cons_zero→So,eraseIdx_cons_succ→Sp,getElem_cons_drop→Tk,drop_of_length_le→Tm,drop_eq_nil_of_le→Tn,singleton_append→Ur,countP_eq_length→Us,mem_of_mem_drop→WI,map→WJ,length_eraseIdx→WK,extract_toArray→WL,take_succ_cons→WZ,getD_cons_zero→Wa,range'_append→Y3,filter_filter→Y4,filterMap_map→Y5,contains_cons→Y6,push_toArray→ZI,mem_toArray→a5,isEmpty_iff→a6,any_eq_true→a7,sum_append→bh,mem_mapIdx→bj,mapIdx_nil→bk,take_zero→dP,take_succ→dQ,nodup_nil→dR
open _root_.List.Pairwise renaming nil→FH
open _root_.List.Perm renaming eq_of_pairwise→Eu,refl→N4,length_eq→Si
open _root_.Min renaming min→Uq
open _root_.Nat renaming le_trans→AA,lt_of_lt_of_le→AF,le_refl→AK,le_add_right→AM,add_le_add_left→AV,lt_of_le_of_lt→AY,le_of_lt→Aa,lt_irrefl→As,lt_succ_self→Az,not_lt→A0,add_assoc→A1,le_of_lt_succ→A9,le_succ_of_le→A_,add_le_add→BA,le_of_eq→BC,mul_le_mul_left→BE,zero_le→BI,add_comm→BQ,succ_le_succ→BS,le_succ→BU,ne_of_lt→BX,lt_add_of_pos_right→BZ,add_right_comm→Bb,add_le_add_right→Bf,zero_testBit→Bp,pow_le_pow_right→Bq,zero_add→Bw,succ_pos→Bx,lt_succ_of_lt→By,mul_le_mul_right→B3,lt_trans→B7,lt_of_le_of_ne→B',mod_two_eq_zero_or_one→CB,le_add_left→CM,mod_lt→CO,ne_of_gt→CU,add_sub_cancel_left→CX,testBit_lt_two_pow→Cb,sub_add_cancel→Cc,pos_of_ne_zero→Cd,le_of_ble_eq_true→C7,eq_of_testBit_eq→DJ,testBit_xor→DK,le_antisymm→DL,testBit_two_pow→DQ,sub_self→Dr,sub_pos_of_lt→Ds,pow_succ→Dt,add_zero→Du,add_sub_cancel'→Dx,add_lt_add_left→Dy,sub_le→EF,div_add_mod→ET,le_of_not_lt→Eh,lt_of_succ_lt→E2,xor_assoc→E_,min_le_right→FL,zero_xor→Fa,lt_succ_of_le→Fw,div_lt_of_lt_mul→F6,succ_lt_succ→GK,two_pow_pos→Gq,one_ne_zero→Gr,xor_lt_two_pow→Gy,mul_div_cancel_left→G0,lt_trichotomy→HB,le_of_succ_le→HC,succ_ne_zero→Hi,mod_eq_of_lt→Hj,two_mul→Hy,min_le_left→IL,min_eq_left→IM,mul_lt_mul_left→Ib,xor_zero→Iw,lt_or_ge→Ix,sub_lt→JG,not_le→JH,lt_or_gt_of_ne→JI,add_sub_cancel→JJ,mul_add→Jx,add_mod→Jy,mul_assoc→J7,lt_succ_iff_lt_or_eq→J8,succ_ne_self→KG,exists_eq_add_of_lt→KH,sub_zero→Kx,lt_asymm→Ky,not_lt_zero→K9,le_of_sub_eq_zero→LN,sub_add_eq→Lw,mul_le_mul→Lx,xor_self→N2,le_one_iff_eq_zero_or_eq_one→N3,lt_of_not_le→Oz,sub_lt_left_of_lt_add→SY,lt_pow_two_of_testBit→SZ,lt_of_mul_lt_mul_left→Sb,lt_of_add_lt_add_left→Sc,testBit_mod_two_pow→Tj,mul_comm→Un,lt_of_succ_lt_succ→Uo,sub_eq_zero_of_le→WH,pow_lt_pow_right→WU,le_zero→WV,le_sub_of_add_le→WW,eq_add_of_sub_eq→WX,add_lt_of_lt_sub→WY,add_eq_zero_iff→Y2,one_le_two_pow→ZH,lt_of_sub_pos→a4,min_eq_right→be,max_eq_right→bf,lt_log2_self→bg,testBit_and→dM,max_eq_left→dN,and_le_left→dO,mul_div_le→dm,lt_one_iff→dn
open _root_.Nat.succ renaming inj→Jw
open _root_.Option renaming map_eq_some_iff→Cv,bind_some→Y1
open _root_.Option.some renaming inj→CT
open _root_.Prod renaming fst→WG
open _root_.Prod.mk renaming injEq→GJ,inj→Kw
open _root_.PyProof.Rows renaming MethodCall_→HS,callWith_type→HY,slot_tupleiter_next→JV,Call_Name→Jv,unpackItems_tuple→Ke,getMethod_list_of→Kf,AllBare→Kg,Subscript_→Lv,IsTupIter→Nj,listUpdate_at→Oq,lt_int→QI,iter_tuple→Um,Assign_Tuple→ZG,kws_cons→bZ,entry_tupleiter_next→bb,callWith_builtin_kwB→bc,IsTup→bd,args_tupleiter_next→dL,seqObj→dj,Tuple_→dk
open _root_.PySem renaming wpAny_bind→AJ,Shared→AO,wpAny_pure→AX,Value→Ad,wpAny→Af,Expr→Aj,model→Ar,Str→Ax,sizeLine_eq→Ay,wpAny_holding→BV,Around→Bl,wpAny_mono→B1,interactive→B5,starEach→B_,keywordEach→CZ,Addr→Ch,wpAny_execs_cons→C9,seqIndex_of→C',call→DC,backTo→DO,assign→DV,seqIndex?→Db,FuncData→Dc,nsFind→Df,backToKw→Di,wpAny_newObj_type→D1,seg_execs_cons→D2,holding→D3,eval→D4,assignEach→D5,Stmt→D7,sliceBounds→EA,seg_bind_wrap→EO,wpAny_Name→Ed,call_meets→Ee,wpAny_standAt→Et,sizeLine→Ey,wpAny_assign_Name→FA,spliced→FU,getMethod→F3,relabel→GD,foldedSetIterable→GE,mainGlobals→GV,closureFor→GW,NameKind→GX,Heap→GY,cellsFrom→Ge,assignInOrder→G2,wpAny_Call_Name_kw→G_,wpAny_callSpecial?_slot→HO,strValues→HP,fromIndex→HQ,wpAny_Assign_Name→He,standAt→Hf,recursionLimit→Hg,BindsTo→Hh,wpAny_call→IF,typeIs_str→IG,rawInt→IH,swappedStores→IX,behindInMarks→IY,Program→IZ,execs→Io,callWith_function_kw→Ip,callWith→Iq,bindArgs→Ir,theTreesLotGoes→JB,letOwnedTupleGo→JC,codeAny_builtin→JD,Pos→JE,swapsWith→Ju,wpAny_Expr_any→J4,builtinsNs→J5,subscripted→Kc,codeAny→Kd,pyNext→Ks,Sem→Ku,wpAny_call_entry→LI,codeAmong→LJ,TriplesOk→LK,wpAny_updateSeq→Me,wpAny_specialOf→Mf,wpAny_storeName_local→Ml,wpAny_loadName_local→NP,firstArgMember→NQ,evalArgs_kw→NR,updateSeq→Nd,storeName→Nf,noteFrame→Ng,wpAny_loadName_cell→Nz,swapsWithSole→Om,plainId_quiet→On,intBits_le_64→Oo,wpAny_truthy_bool→P5,wpAny_pyIter_list→P6,wpAny_pyIter_enum→P7,fitsIndex_of→P8,evalArgs→P9,baseText→P_,World→P',Flow→RA,Arguments→RC,wpAny_field→SO,wpAny_BinOp→SP,Seg→SU,wpAny_execs_nil→Sm,notedBy→Te,getItem→Tf,evalAll→Tg,Env→Ti,wpAny_seqItems→Ud,wpAny_If→Ue,pyIter→Uf,defaultsOf→Ug,cellOf→Uh,Protocol→Uk,attributeBase→WR,Slot→WT,slicePick→Yx,seg_again→Yy,pushCells→Yz,cLine→Y0,unpack→ZD,operate→ZE,wpAny_of_eq→bO,wpAny_newFunctionEnv→bP,unpackItems→bQ,numbered→bR,list_append→bS,exec→bT,bindName→bU,bindC→bV,IsRangeIter→bX,codeAny_forLoop_any→dF,wpAny_rule→db,sliceRange→dd,retInt→de,call_enumerate_str→dg,JoinOk→dh
open _root_.PySem.Around renaming under_plainId→Fv
open _root_.PySem.AutoIntOps renaming isub_0→dJ,iadd_0→dK
open _root_.PySem.AutoSeq1 renaming wpAny_loadPart'→GF,list_insert_list_int_val_1→LM
open _root_.PySem.Builtin renaming bitAnd→IJ,bitXor→Kv,bitOr→a3
open _root_.PySem.Builtin.Generator renaming genWake→Lk
open _root_.PySem.Builtin.List renaming listExtendWith→FK,listFitsIndex→M_,listTooLong→Nh,listSameRef→Ni,listItems→Op
open _root_.PySem.Builtin.SmallTypes renaming nextOf→FJ
open _root_.PySem.Builtin.Str renaming occurrences→C2,partsBetween→F1,strKind→HR,glued→LL
open _root_.PySem.Challenge renaming rw_ta0041_01→Gx,pw_ta0041_01→di
open _root_.PySem.Draws renaming strAscii→bY,strWide→dI
open _root_.PySem.ExcName renaming means→QH
open _root_.PySem.F renaming plain_extend_loop→Dw,slot_str_split→ES,slot_list_append→Ez,slot_list_insert→GI,entry_str_split→Gb,args_list_append_2→II,entry_list_append→Iu,entry_extend_loop→Iv,args_str_split_2→JF,slot_str_find→KF,args_list_insert_3→Oy,entry_list_insert→PG,type_list_insert→QD,type_list_append→QE,slot_str_getitem→QF,slot_list_extend→QG,slot_list_index→Q9,slot_list_count→Q_,plain_list_iadd→Q',type_str_split→RB,type_str_find→SW,slot_int_rmul→SX
open _root_.PySem.Flow renaming next→a2
open _root_.PySem.Frame renaming guarded→dH
open _root_.PySem.Heap renaming get?_push_of_some→Am,get?_push_size→A4,size_push→BG,lt_size→BJ,SameBut→Ia,ExtBut→WF
open _root_.PySem.Heap.SameBut renaming update→KB
open _root_.PySem.IntMulOk renaming of_right→Ul,of_left→WE
open _root_.PySem.IsRange renaming new→Sn
open _root_.PySem.NameKind renaming free→Cn,cell→HA
open _root_.PySem.Obj renaming mapSeq→E9,data_mapFields→ZF
open _root_.PySem.PyData renaming canLayAll0→Bi,eqv→DB,canLay0→Dg,depth→EB,depthAll→EN,eqvAll→HT,strOk→dG
open _root_.PySem.SeqAt renaming eqv_refl→QC
open _root_.PySem.Shared renaming setGen→Q8
open _root_.PySem.Spec renaming lookup→WD
open _root_.PySem.Str renaming empty→Ai,ofString→Ap,length_append→A2,join→BK
open _root_.PySem.StrLaws renaming At→D6,sliceText→Gw,sumLen_le→I8,partsFrom→I9,glued_eq_join→KD,subAt_one→Mm,found_one→Mn,subAt_eq→NS,strSub_toList→SQ,sliceText_nat→SR,occ_length_le→SS,replace_one→Th,last_spec→WB,found_iff→WC,occ_head→WS
open _root_.PySem.Txt renaming contains→B6,split→CI,slice→CJ,join→Cf,replace→F5,startswith→G',endswith→Kt,rfind→Mg,slice_le→N0,find→N1,words→Ox,mul→Uj
open _root_.PySem.Value renaming none→D_,type→It,ref→J6,bool→QB
open _root_.PySem.W renaming kla_obj→JZ,tabObj→Lu,Frag→QA,kp_binds→Ui
open _root_.PySem.W.WTm renaming holds→bW
section
@[elab_as_elim] theorem kr{A:Sort u}{a b:A}{P:A→Prop}(h:a=b)(p:P b):P a:=h▸p
@[elab_as_elim] theorem kq{A:Sort u}{a b:A}{P:A→Prop}(h:a=b)(p:P a):P b:=h▸p
local macro_rules | `(tactic|rw[$e:term])=>`(tactic|first|(refine kr $e ?_;try with_reducible rfl)|fail) | `(tactic|rw[←$e:term])=>`(tactic|first|(refine kq $e ?_;try with_reducible rfl)|fail) | `(tactic|rw[$r,$s,$rs,*])=>`(tactic|(rw[$r];rw[$s,$rs,*]))
local macro_rules | `(tactic|show $e:term)=>`(tactic|refine(?_:$e))
section
variable{P:Prop}
def ar:Lean.Syntax:=.node .none `Lean.Parser.Tactic.tacticSeq #[.node .none `Lean.Parser.Tactic.tacticSeq1Indented #[.node .none `null #[.node .none `Lean.Parser.Tactic.tacticRfl #[.atom .none "rfl"]]]]
def ad:Lean.Syntax:=.node .none `Lean.Parser.Tactic.tacticSeq #[.node .none `Lean.Parser.Tactic.tacticSeq1Indented #[.node .none `null #[.node .none `Lean.Parser.Tactic.decide #[.atom .none "decide",.node .none `Lean.Parser.Tactic.optConfig #[.node .none `null #[]]]]]]
theorem dc{p:Prop}[Decidable p](h:autoParam (true=decide p) ar):p:=of_decide_eq_true h.symm
theorem X2{p:A→B→Prop}(a b)(h:p a b):∃a b,p a b:=⟨_,_,h⟩
theorem X3{p:A→B→C→Prop}(a b c)(h:p a b c):∃a b c,p a b c:=⟨_,_,_,h⟩
theorem X4{p:A→B→C→D→Prop}(a b c d)(h:p a b c d):∃a b c d,p a b c d:=⟨_,_,_,_,h⟩
theorem X5{p:A→B→C→D→E→Prop}(a b c d e)(h:p a b c d e):∃a b c d e,p a b c d e:=⟨_,_,_,_,_,h⟩
theorem X6{p:A→B→C→D→E→F→Prop}(a b c d e f)(h:p a b c d e f):∃a b c d e f,p a b c d e f:=⟨_,_,_,_,_,_,h⟩
theorem X7{p:A→B→C→D→E→F→G→Prop}(a b c d e f g)(h:p a b c d e f g):∃a b c d e f g,p a b c d e f g:=⟨_,_,_,_,_,_,_,h⟩
theorem X9{p:A→B→C→D→E→F→G→H→I→Prop}(a b c d e f g i j)(h:p a b c d e f g i j):∃a b c d e f g i j,p a b c d e f g i j:=⟨_,_,_,_,_,_,_,_,_,h⟩
theorem ke{p:A→B→C→D→E→F→G→H→I→J→Prop}(a b c d e f g i j l)(h:p a b c d e f g i j l):∃a b c d e f g i j l,p a b c d e f g i j l:=⟨_,_,_,_,_,_,_,_,_,_,h⟩
theorem lz{p:A→B→C→D→E→F→G→H→I→J→Q→Prop}(a b c d e f g i j l m)(h:p a b c d e f g i j l m):∃a b c d e f g i j l m,p a b c d e f g i j l m:=⟨_,_,_,_,_,_,_,_,_,_,_,h⟩
theorem ly{p:A→B→C→D→E→F→G→H→I→J→Q→L→M→N→O→R→S→Prop}(a b c d e f g i j l m n o x y z q)(h:p a b c d e f g i j l m n o x y z q):∃a b c d e f g i j l m n o x y z q,p a b c d e f g i j l m n o x y z q:=⟨_,_,_,_,_,_,_,_,_,_,_,_,_,_,_,_,_,h⟩
theorem lx{p:A→B→C→D→E→F→G→H→I→J→Q→L→M→N→O→R→S→T→U→V→W→X→Y→Z→Q→Prop}(a b c d e f g i j l m n o x y z q r s t u v w k At)(h:p a b c d e f g i j l m n o x y z q r s t u v w k At):∃a b c d e f g i j l m n o x y z q r s t u v w k At,p a b c d e f g i j l m n o x y z q r s t u v w k At:=⟨_,_,_,_,_,_,_,_,_,_,_,_,_,_,_,_,_,_,_,_,_,_,_,_,_,h⟩
theorem dY{p:A→B→C→D→Prop}(h:∃a b c d,p a b c d)(k:∀a b c d,p a b c d→P):P:=h.elim fun a h=>h.elim fun b h=>h.elim fun c h=>h.elim fun d h=>k a b c d h
theorem l9{p q:A→B→C→D→Prop}(h:∃a b c d,p a b c d∧q a b c d)(k:∀a b c d,p a b c d→q a b c d→P):P:=h.elim fun a h=>h.elim fun b h=>h.elim fun c h=>h.elim fun d h=>k a b c d h.1 h.2
theorem kL{p q r:A→B→C→D→Prop}(h:∃a b c d,p a b c d∧q a b c d∧r a b c d)(k:∀a b c d,p a b c d→q a b c d→r a b c d→P):P:=h.elim fun a h=>h.elim fun b h=>h.elim fun c h=>h.elim fun d h=>k a b c d h.1 h.2.1 h.2.2
theorem fN{p q r s:A→B→C→D→Prop}(h:∃a b c d,p a b c d∧q a b c d∧r a b c d∧s a b c d)(k:∀a b c d,p a b c d→q a b c d→r a b c d→s a b c d→P):P:=h.elim fun a h=>h.elim fun b h=>h.elim fun c h=>h.elim fun d h=>k a b c d h.1 h.2.1 h.2.2.1 h.2.2.2
theorem e8{p:A→B→C→D→E→Prop}(h:∃a b c d e,p a b c d e)(k:∀a b c d e,p a b c d e→P):P:=h.elim fun a h=>h.elim fun b h=>h.elim fun c h=>h.elim fun d h=>h.elim fun e h=>k a b c d e h
theorem l8{p:A→B→C→D→E→F→Prop}(h:∃a b c d e f,p a b c d e f)(k:∀a b c d e f,p a b c d e f→P):P:=h.elim fun a h=>h.elim fun b h=>h.elim fun c h=>h.elim fun d h=>h.elim fun e h=>h.elim fun f h=>k a b c d e f h
theorem l7{p q:A→B→C→D→E→F→Prop}(h:∃a b c d e f,p a b c d e f∧q a b c d e f)(k:∀a b c d e f,p a b c d e f→q a b c d e f→P):P:=h.elim fun a h=>h.elim fun b h=>h.elim fun c h=>h.elim fun d h=>h.elim fun e h=>h.elim fun f h=>k a b c d e f h.1 h.2
theorem l6{p q r:A→B→C→D→E→F→Prop}(h:∃a b c d e f,p a b c d e f∧q a b c d e f∧r a b c d e f)(k:∀a b c d e f,p a b c d e f→q a b c d e f→r a b c d e f→P):P:=h.elim fun a h=>h.elim fun b h=>h.elim fun c h=>h.elim fun d h=>h.elim fun e h=>h.elim fun f h=>k a b c d e f h.1 h.2.1 h.2.2
theorem l4{p:A→B→C→D→E→F→G→Prop}(h:∃a b c d e f g,p a b c d e f g)(k:∀a b c d e f g,p a b c d e f g→P):P:=h.elim fun a h=>h.elim fun b h=>h.elim fun c h=>h.elim fun d h=>h.elim fun e h=>h.elim fun f h=>h.elim fun g h=>k a b c d e f g h
theorem l3{p q:A→B→C→D→E→F→G→H→I→Prop}(h:∃a b c d e f g i j,p a b c d e f g i j∧q a b c d e f g i j)(k:∀a b c d e f g i j,p a b c d e f g i j→q a b c d e f g i j→P):P:=h.elim fun a h=>h.elim fun b h=>h.elim fun c h=>h.elim fun d h=>h.elim fun e h=>h.elim fun f h=>h.elim fun g h=>h.elim fun i h=>h.elim fun j h=>k a b c d e f g i j h.1 h.2
theorem kg{p:A→B→C→D→E→F→G→H→I→J→Prop}(h:∃a b c d e f g i j l,p a b c d e f g i j l)(k:∀a b c d e f g i j l,p a b c d e f g i j l→P):P:=h.elim fun a h=>h.elim fun b h=>h.elim fun c h=>h.elim fun d h=>h.elim fun e h=>h.elim fun f h=>h.elim fun g h=>h.elim fun i h=>h.elim fun j h=>h.elim fun l h=>k a b c d e f g i j l h
theorem l2{p:A→B→C→D→E→F→G→H→I→J→Q→Prop}(h:∃a b c d e f g i j l m,p a b c d e f g i j l m)(k:∀a b c d e f g i j l m,p a b c d e f g i j l m→P):P:=h.elim fun a h=>h.elim fun b h=>h.elim fun c h=>h.elim fun d h=>h.elim fun e h=>h.elim fun f h=>h.elim fun g h=>h.elim fun i h=>h.elim fun j h=>h.elim fun l h=>h.elim fun m h=>k a b c d e f g i j l m h
theorem ER{p q:Prop}(h:p∧q)(k:p→q→P):P:=k h.1 h.2
theorem Nc{p q r:Prop}(h:p∧q∧r)(k:p→q→r→P):P:=k h.1 h.2.1 h.2.2
theorem Ny{p q r s:Prop}(h:p∧q∧r∧s)(k:p→q→r→s→P):P:=k h.1 h.2.1 h.2.2.1 h.2.2.2
theorem kM{p q r s t:Prop}(h:p∧q∧r∧s∧t)(k:p→q→r→s→t→P):P:=k h.1 h.2.1 h.2.2.1 h.2.2.2.1 h.2.2.2.2
theorem mA{p q r s t u:Prop}(h:p∧q∧r∧s∧t∧u)(k:p→q→r→s→t→u→P):P:=k h.1 h.2.1 h.2.2.1 h.2.2.2.1 h.2.2.2.2.1 h.2.2.2.2.2
theorem B8{p:A→Prop}(h:∃a,p a)(k:∀a,p a→P):P:=h.elim fun a h=>k a h
theorem Bz{p q:A→Prop}(h:∃a,p a∧q a)(k:∀a,p a→q a→P):P:=h.elim fun a h=>k a h.1 h.2
theorem K8{p q r:A→Prop}(h:∃a,p a∧q a∧r a)(k:∀a,p a→q a→r a→P):P:=h.elim fun a h=>k a h.1 h.2.1 h.2.2
theorem Tc{p q r s:A→Prop}(h:∃a,p a∧q a∧r a∧s a)(k:∀a,p a→q a→r a→s a→P):P:=h.elim fun a h=>k a h.1 h.2.1 h.2.2.1 h.2.2.2
theorem fO{p q r s t:A→Prop}(h:∃a,p a∧q a∧r a∧s a∧t a)(k:∀a,p a→q a→r a→s a→t a→P):P:=h.elim fun a h=>k a h.1 h.2.1 h.2.2.1 h.2.2.2.1 h.2.2.2.2
theorem P3{p:A→B→Prop}(h:∃a b,p a b)(k:∀a b,p a b→P):P:=h.elim fun a h=>h.elim fun b h=>k a b h
theorem K7{p q:A→B→Prop}(h:∃a b,p a b∧q a b)(k:∀a b,p a b→q a b→P):P:=h.elim fun a h=>h.elim fun b h=>k a b h.1 h.2
theorem Hd{p q r:A→B→Prop}(h:∃a b,p a b∧q a b∧r a b)(k:∀a b,p a b→q a b→r a b→P):P:=h.elim fun a h=>h.elim fun b h=>k a b h.1 h.2.1 h.2.2
theorem dZ{p q r s:A→B→Prop}(h:∃a b,p a b∧q a b∧r a b∧s a b)(k:∀a b,p a b→q a b→r a b→s a b→P):P:=h.elim fun a h=>h.elim fun b h=>k a b h.1 h.2.1 h.2.2.1 h.2.2.2
theorem l'{p q r s t:A→B→Prop}(h:∃a b,p a b∧q a b∧r a b∧s a b∧t a b)(k:∀a b,p a b→q a b→r a b→s a b→t a b→P):P:=h.elim fun a h=>h.elim fun b h=>k a b h.1 h.2.1 h.2.2.1 h.2.2.2.1 h.2.2.2.2
theorem l_{p q r s t u:A→B→Prop}(h:∃a b,p a b∧q a b∧r a b∧s a b∧t a b∧u a b)(k:∀a b,p a b→q a b→r a b→s a b→t a b→u a b→P):P:=h.elim fun a h=>h.elim fun b h=>k a b h.1 h.2.1 h.2.2.1 h.2.2.2.1 h.2.2.2.2.1 h.2.2.2.2.2
theorem ki{p q r s t u v:A→B→Prop}(h:∃a b,p a b∧q a b∧r a b∧s a b∧t a b∧u a b∧v a b)(k:∀a b,p a b→q a b→r a b→s a b→t a b→u a b→v a b→P):P:=h.elim fun a h=>h.elim fun b h=>k a b h.1 h.2.1 h.2.2.1 h.2.2.2.1 h.2.2.2.2.1 h.2.2.2.2.2.1 h.2.2.2.2.2.2
theorem WQ{p:A→B→C→Prop}(h:∃a b c,p a b c)(k:∀a b c,p a b c→P):P:=h.elim fun a h=>h.elim fun b h=>h.elim fun c h=>k a b c h
theorem Q6{p q:A→B→C→Prop}(h:∃a b c,p a b c∧q a b c)(k:∀a b c,p a b c→q a b c→P):P:=h.elim fun a h=>h.elim fun b h=>h.elim fun c h=>k a b c h.1 h.2
theorem V8{p q r:A→B→C→Prop}(h:∃a b c,p a b c∧q a b c∧r a b c)(k:∀a b c,p a b c→q a b c→r a b c→P):P:=h.elim fun a h=>h.elim fun b h=>h.elim fun c h=>k a b c h.1 h.2.1 h.2.2
theorem IW{p q r s:A→B→C→Prop}(h:∃a b c,p a b c∧q a b c∧r a b c∧s a b c)(k:∀a b c,p a b c→q a b c→r a b c→s a b c→P):P:=h.elim fun a h=>h.elim fun b h=>h.elim fun c h=>k a b c h.1 h.2.1 h.2.2.1 h.2.2.2
theorem a0{p q r s t:A→B→C→Prop}(h:∃a b c,p a b c∧q a b c∧r a b c∧s a b c∧t a b c)(k:∀a b c,p a b c→q a b c→r a b c→s a b c→t a b c→P):P:=h.elim fun a h=>h.elim fun b h=>h.elim fun c h=>k a b c h.1 h.2.1 h.2.2.1 h.2.2.2.1 h.2.2.2.2
theorem V7{p q r s t u:A→B→C→Prop}(h:∃a b c,p a b c∧q a b c∧r a b c∧s a b c∧t a b c∧u a b c)(k:∀a b c,p a b c→q a b c→r a b c→s a b c→t a b c→u a b c→P):P:=h.elim fun a h=>h.elim fun b h=>h.elim fun c h=>k a b c h.1 h.2.1 h.2.2.1 h.2.2.2.1 h.2.2.2.2.1 h.2.2.2.2.2
theorem kh{p q r s t u v w:A→B→C→Prop}(h:∃a b c,p a b c∧q a b c∧r a b c∧s a b c∧t a b c∧u a b c∧v a b c∧w a b c)(k:∀a b c,p a b c→q a b c→r a b c→s a b c→t a b c→u a b c→v a b c→w a b c→P):P:=h.elim fun a h=>h.elim fun b h=>h.elim fun c h=>k a b c h.1 h.2.1 h.2.2.1 h.2.2.2.1 h.2.2.2.2.1 h.2.2.2.2.2.1 h.2.2.2.2.2.2.1 h.2.2.2.2.2.2.2
end
section
variable{a b c d e f g h i j k l m n:Nat}{A B C D E F G H I J:Int}
theorem fD(x:a≤b):(max 0 (Uq (a:Int) (b:Int)):Int)=(a:Int):=(congrArg (max 0) (LA (A3.mpr x))).trans (Hl (AZ a))
theorem Sl(x:b≤1):(2*a+b)/2=a:=by rw[Nat.mul_add_div dc,Nat.div_eq_of_lt (Fw x)];rfl
theorem kX(w:a=b+1+c):a-b-1=c:=by rw[w,A1,CX,CX]
theorem kZ:(-1)+((a+1:Nat):Int)=a:=by rw[dT,HD];exact Int.add_neg_cancel_right _ _
theorem kY(x:0<a):(0≤(-1)+(a:Int)∧(-1)+(a:Int)<a)∧B0 ((-1)+(a:Int))=a-1:=by
 obtain⟨k,rfl⟩:=KH x;rw[Bw,kZ];exact⟨⟨AZ k,BR.mpr (Az k)⟩,rfl⟩
theorem k6(x:a<b)(y:b-a=c+1):b=a+c+1:=by rw[A1,←y,Dx (Aa x)]
theorem fY(x:a<32)(y:b=A)(z:1≤b)(w:b≤c-1)(v:d=B)(u:b≤d)(t:¬a=0)(s:¬b=d):b<c:=AY w (JG (Cd fun q=>absurd (AA z w) (by subst q;decide)) dc)
theorem kW(x:a=2*(b+1))(y:a-1=((a-1:Nat):Int))(z:c<a-1):1+c<a:=BQ c 1▸WY z
theorem kV(x:a≤1000000)(y:A<0)(z:(-a)≤A):(-2^63:Int)≤A∧A<2^63:=⟨Av (L0 (Av (A3.mpr x) dc)) z,Iy y dc⟩
theorem k5(x:a<2):((a+1+e)%2+1+e)%2=a:=by rw[A1 _ 1 e,Nat.mod_add_mod,A1 a 1 e,A1,←Hy,Nat.add_mul_mod_self_left,Hj x]
theorem bK(x:(-4)≤A∧A≤4)(y:(-4)≤B∧B≤4)(z:C<D):100*C+A<100*D+B:=CP (show 100*C+A<100*(C+1)+-4 from by rw[Int.mul_add,J_];exact Int.add_lt_add_left (Bc x.2 dc) _) (RI (H0 (We z) dc) y.1)
theorem k4:(max 0 (Uq 1 ((b:Int)+2)):Int)=1:=(congrArg (max 0) (LA (Av (by decide:(1:Int)≤2) (Jc (AZ b))))).trans rfl
theorem k3:(max 0 (Uq ((-1)+((b:Int)+2)) ((b:Int)+2)):Int)=(b:Int)+1:=by
 have e:-1+((b:Int)+2)=b+1:=by rw[HD,J_];rfl
 rw[e,LA (EY dc _),Hl (Av (by decide:(0:Int)≤1) (Jc (AZ b)))]
theorem fC(x:A≤B):A≤(A+B)/2:=(Int.le_ediv_iff_mul_le dc).mpr (by rw[Ut,Wb];exact EY x A)
theorem fB(x:A<B):(A+B)/2<B:=(Int.ediv_lt_iff_lt_mul dc).mpr (by rw[Ut,Wb];exact L2 x B)
theorem bL:A*2=A+A:=(Ut A 2).trans (Wb A)
theorem fJ(x:a≤1000000)(y:B0 A<a):A<2^63:=Bc (N6 A) (Iy (BR.mpr y) (Bc (A3.mpr x) dc))
theorem k9(x:B≤C):(B+C)/2≤C:=WN dc (bL (A:=C)▸Wf x C)
theorem fI(x:B≤C):B≤(B+C)/2:=LO dc (bL (A:=B)▸EY x B)
theorem k8(x:B≤(B+C)/2):B≤C:=Int.le_of_add_le_add_left (bL (A:=B)▸Int.mul_le_of_le_ediv dc x)
theorem fH(x:a<5):(-4)≤(-(a:Int))∧(-(a:Int))≤4:=⟨L0 (A3.mpr (A9 x)),Av (J9 (AZ a)) dc⟩
theorem fG(x:a<5):(-4)≤(a:Int)∧(a:Int)≤4:=⟨Av dc (AZ a),A3.mpr (A9 x)⟩
theorem kb(x:(-4)≤A∧A≤4)(y:(-4)≤B∧B≤4)(z:100*C+A=100*D+B):A=B:=(Int.lt_trichotomy C D).elim (fun h=>absurd z (Int.ne_of_lt (bK x y h))) fun h=>h.elim (fun h=>by subst h;exact Int.add_left_cancel z) fun h=>absurd z (Int.ne_of_gt (bK y x h))
theorem fF:a=2*(a/2)∨a=2*(a/2)+1:=by
 have h:=ET a 2;rcases CB a with e|e
 ·rw[e]at h;exact .inl h.symm
 ·rw[e]at h;exact .inr h.symm
theorem fE(h:k≤8):a+k+8*b≤a+8*(b+1):=by rw[A1,BQ k];exact AV (AV h (8*b)) a
theorem fZ(x:a<2):a=0∨a=1:=(Ix a 1).elim (fun h=>.inl (dn.mp h)) fun h=>.inr (DL (A9 x) h)
theorem Z1(_:(a:Int)<b):a<b:=by simp_all
theorem Z3(x:a=A)(y:1≤a)(z:a≤B∧B≤((b-1:Nat):Int)):((B0 B:Nat):Int)=B∧a≤B0 B∧B0 B≤b-1:=by
 have e:=GZ (Av (AZ a) z.1);exact⟨e,A3.mp (e.symm▸z.1),A3.mp (e.symm▸z.2)⟩
theorem Z5(x:a=A)(y:1≤a):0≤(a:Int):=AZ _
theorem Z9(_:0≤A∧A<7)(_:A<5):B0 A<5:=by simp_all
theorem lw(_:0≤A∧A<7)(_:¬A<5):¬B0 A<5:=by simp_all
theorem lu(_:0≤A∧A<7):A<5↔B0 A<5:=by simp_all
theorem lr(z:1≤A∧A≤((a-1:Nat):Int)):((B0 A:Nat):Int)=A∧1≤B0 A∧B0 A≤a-1:=by
 have e:=GZ (Av dc z.1);exact⟨e,A3.mp (e.symm▸z.1),A3.mp (e.symm▸z.2)⟩
theorem lq(_:97+a=92∨97+a=34∨97+a=41):False:=by simp+arith at*
theorem lp(x:A-B<((a+1:Nat):Int))(y:C=(B+A)/2):A-(C+1)<a:=by
 subst y;have h:A-(B+A)/2≤(a:Int):=(Int.le_total B A).elim (fun q=>Av (Int.sub_le_sub_left (fI q) A) (H1 x)) fun q=>Av (Int.sub_nonpos_of_le (LO dc (bL (A:=A)▸Wf q A))) (AZ a);exact CP (Y7 (L1 _) A) h
theorem lm(x:(a+b)%2=1)(y:¬a%2=1):b%2=1:=(CB b).resolve_left fun h=>absurd x (by rw[Jy,(CB a).resolve_right y,h];decide)
theorem lk(_:a+b+c<b):False:=by simp+arith at*
theorem lj(_:a+b+c=8):b≤1000:=by lia
theorem li(_:0+(0+(a+1)+1)=2):a=0:=by lia
theorem lh(_:0+(a+1)=2):0<a:=by simp_all
theorem lg(_:0≤A)(_:A<a):B0 A<a:=by simp_all
theorem lf(x:0≤A)(y:A<B)(z:C=(A+B)/2):0≤C:=by subst z;exact Int.ediv_nonneg (RG x (Da (Bc x y))) dc
theorem lc(_:0≤A)(_:A≤1000):B0 A≤1000:=by simp_all
theorem fL(x:0≤A)(y:B≤a):B-A<((a+1:Nat):Int):=Bc (Av (dS B x) y) (BR.mpr (Az a))
theorem dX(x:0≤A):¬A<0:=Cp.mpr x
theorem lb(_:0≤a∧a<0+b):¬b≤a:=by simp_all
theorem la(_:97+a=97+b):b=a:=by simp_all
theorem lZ(_:97+a=92):False:=by simp+arith at*
theorem lY(_:A<0)(_:0≤A+a∧A+a<a):B0 (A+(a:Int))<a:=by simp_all
theorem lX(x:A<B)(y:C=(A+B)/2):C+1≤B:=by subst y;exact We (WM dc (bL (A:=B)▸L2 x B))
theorem lW(x:A<B)(y:C=(A+B)/2):C<B:=by subst y;exact WM dc (bL (A:=B)▸L2 x B)
theorem lV(x:A=((a+b+c:Nat):Int))(y:((a+b:Nat):Int)≤B)(z:B<A):B0 B<a+b+c:=by subst x;exact(N5 (Av (AZ _) y)).mpr z
theorem lU(x:A=(B+C)/2)(y:A+1≤D∧D≤C):B≤D∧D≤C:=by subst x;exact⟨Cp.mp fun h=>K1.mpr (Int.lt_of_add_one_le y.1) (LO dc (bL (A:=D)▸RI (Da h) y.2)),y.2⟩
theorem lT(x:A=(B+C)/2)(y:B≤D∧D≤A):B≤D∧D≤C:=by subst x;exact⟨y.1,Av y.2 (k9 (k8 (Av y.1 y.2)))⟩
theorem lS(x:A=a)(y:B=((a+b+c:Nat):Int))(z:A≤C):a≤B0 C:=by subst x;exact A3.mp (Av z (N6 C))
theorem lR(x:A=a)(y:B=((a+b+c:Nat):Int))(z:b+c<d):B-A<d:=by subst x y;rw[A1,dT,HD,NU];exact BR.mpr z
theorem lQ(_:A=B)(_:C=D):¬100*A+C<100*B+D:=by simp_all
theorem fK(x:A=B)(y:C≤a)(z:A<C):A<a:=CP z y
theorem lP(_:A=B):100*A+C<100*B+D↔C<D:=by simp_all
theorem lO(_:A=B):¬A<B:=by simp_all
theorem lM(_:A≤a)(_:a≤1000000)(_:b=a):Uq (B0 A) b+(b-B0 A+1)=Uq (B0 A) a+(a-B0 A+1):=by simp_all
theorem lL(_:A≤a)(_:a≤1000000)(_:b=a):Uq (B0 A) a=B0 A:=by simp_all
theorem hA(_:A≤a)(_:a≤1000000)(_:b=a):Uq (B0 A) b=B0 A:=by simp_all
theorem lK(_:A≤B)(_:¬A<B):A≤A∧A≤B:=by simp_all
theorem lJ(_:a%2=1)(_:a+1=2*b):(a+1)/2=b:=by simp_all
theorem lI(x:a%2=1):(a+1+1)/2=(a+1)/2:=by
 have e:=ET a 2;rw[x]at e;rw[←e];exact(Sl (a:=a/2+1) (b:=1) (AK 1)).trans (Sl (a:=a/2+1) (b:=0) (BI 1)).symm
theorem lH(x:a+(0+b+1)≤9)(y:c≤1):a+(c+b+1)≤60:=by rw[Bw]at x;exact AA (AV (BS (Bf y b)) a) (by rw[BQ 1 b];exact AA (BS x) dc)
theorem lG(x:a+(b+(c+1)+1)=10)(y:a+1≤d∧d<a+1+b):d<10:=AF y.2 (by rw[←x,A1 a,BQ 1 b];exact AV (BS (AM b _)) a)
theorem lF(x:a+(b+(c+1)+1)=10)(y:d=a∨d=a+1+b):d<a+(b+(c+1)+1):=y.elim (fun y=>y▸BZ (Bx _)) fun y=>y▸(A1 a 1 b▸Dy (BQ 1 b▸GK (BZ (Bx c))) a)
theorem lE(x:a+(b+(c+1)+1)=10)(y:d=a∨d=a+1+b):d<10:=y.elim (fun q=>q▸AF (BZ (Bx _)) (BC x)) fun q=>q▸AF (by rw[A1 a,BQ 1 b];exact Dy (GK (BZ (Bx c))) a) (BC x)
theorem lD(x:a+(b+(c+1)+1)=10)(y:d≤b*60):d≤600:=AA y (B3 60 (AA (AA (AA (AM b (c+1)) (BU _)) (CM _ a)) (BC x)))
theorem lC(x:a+(b+(c+1)+1)=10):a+1+b<10:=AF (by rw[A1 a 1 b,BQ 1 b];exact Dy (GK (BZ (Bx c))) a) (BC x)
theorem lB(x:a+2*(b+1)≤2000):a+2+2*b≤2000:=by rw[Bb];exact x
theorem kc(x:a+2*(b+1)≤500):a+2+2*b≤500:=by rw[Bb];exact x
theorem lA(x:a+40*(b+1)≤1000)(y:c≤10)(z:d=2*c)(w:e≤a+2*d):e+40*b≤1000:=by subst z;exact AA (Bf (AA w (AV (BE 2 (BE 2 y)) a)) _) (by rw[A1,BQ (2*(2*10))];exact x)
theorem k'(x:a+40*(b+1)≤1000)(y:c≤10)(z:d=2*c):a+2*d≤2000:=by subst z;exact AA (BA (AA (AM a _) x) (BE 2 (BE 2 y))) dc
theorem k_(x:a+8*(b+1)<700)(y:c=0):a+1+c+8*b<700:=by subst y;exact AY (fE dc:a+1+8*b≤_) x
theorem kI(x:a+8*(b+1)<700)(y:c=1):a+0+c+8*b<700:=AY (by rw[y,Du,A1,Jx,BQ 1];exact AV (AV dc _) a) x
theorem kH(x:a+8*(b+1)<9000)(y:c=0):a+3+c+8*b<9000:=by subst y;exact AY (show a+3+8*b≤a+8*(b+1) from by rw[A1,BQ 3];exact AV (AV (by decide:3≤8) (8*b)) a) x
theorem kG(x:a+8*(b+1)<9000)(y:c=3):a+0+c+8*b<9000:=by subst y;exact AY (fE (by decide:3≤8)) x
theorem kF(x:a+8*(b+1)<9000):a+1+8*b<9000:=AY (by rw[A1,Jx,BQ 1];exact AV (AV dc _) a) x
theorem kE(x:a+8*(b+6)<9000):a+1+1+8*(b+2)<9000:=AY (by rw[A1 a 1 1,A1,BQ (1+1)];exact AV (AA (AV (by decide:2≤32) (8*(b+2))) (BC (Jx 8 (b+2) 4).symm)) a) x
theorem kD(_:a+(b+1)=32)(_:c<a+1)(_:¬c=a):c<a:=by lia
theorem c'(x:a+(b+1)=32):(a:Int)≤1000000:=A3.mpr (AA (AM a _) (AA (BC x) dc))
theorem ao(x:a+(b+1)=32):a+1+b=32:=by rw[Bb];exact x
theorem c_(x:a+(b+1)=32):0≤(a:Int):=AZ _
theorem c9(_:a+(b+1)=5):a+1+b=5:=by lia
theorem c8(x:a+(b+1)=5):a<5:=AF (BZ (Bx b)) (BC x)
theorem kC(x:a+(b+1)=c)(y:d≤2*a)(z:c≤10):d≤1000:=AA y (AA (BE 2 (AA (AM a (b+1)) (AA (BC x) z))) dc)
theorem kB(x:a+(b+1)=c):a+1+b=c:=by rw[Bb];exact x
theorem kA(x:a+(b+1)≤10)(y:c≤900+2*a):c≤1000:=AA y (AA (AV (BE 2 (AA (AM a _) x)) 900) dc)
theorem j'(x:a+(b+1)≤10):a+1+b≤10:=by rw[Bb];exact x
theorem j_(x:a+(b+1)≤100):a+1+b≤100:=by rw[Bb];exact x
theorem j9(x:a+(b+1)≤1000):a+1+b≤1000:=by rw[Bb];exact x
theorem j8(x:a+(b+1)≤5)(y:c≤500+2*a):c≤1000:=AA y (AA (AV (BE 2 (AA (AM a _) x)) 500) dc)
theorem e2(x:a+(b+1)≤5):a+1+b≤5:=by rw[Bb];exact x
theorem j7(x:a+(b+1)≤c):a+1+b≤c:=by rw[Bb];exact x
theorem j6(x:a+(b+c)=2)(y:b=2)(z:0<a):False:=by subst y;lia
theorem j5(x:a+(b+c)=2):b=0∨b=1∨b=2:=by
 have h:b≤2:=x▸AA (AM b c) (CM _ a);clear x;revert h;revert b;decide
theorem c7(x:a+(b+c)=2):b≤2:=x▸AA (AM b c) (CM _ a)
theorem j4(_:a+(b+c)=6):a+(c+1+1)+b=8:=by lia
theorem j3(_:a+0=32)(_:b<32):b<a:=by simp_all
theorem j2(_:a+1=1):a=0:=by simp_all
theorem j1(_:a+1=2):a=1:=by simp_all
theorem j0(x:a+1≤5)(y:b<a)(z:100*(c:Int)+d<100*e+b)(w:e≤f):c≤f:=AA (A0.mp fun h=>absurd z (Cp.mpr (Da (CP (bK (B:=0) (fG (B7 y x)) dc (BR.mpr h)) (EY (AZ d) _))))) w
theorem jz(x:a+1≤5)(y:b<a)(z:100*(c:Int)+(-b)<100*d+(-e))(w:d<f):c<f:=AY (A0.mp fun h=>absurd z (Cp.mpr (Da (Bc (EY (J9 (AZ e)) _) (bK (A:=0) dc (fH (B7 y x)) (BR.mpr h)))))) w
theorem jy(x:a+1≤5)(y:b<c):100*(b:Int)+(-d)<100*c+(-a):=Bc (EY (J9 (AZ d)) _) (bK (A:=0) dc (fH x) (BR.mpr y))
theorem jx(x:a+1≤5)(y:¬b≤c):100*(c:Int)+a<100*b+d:=CP (bK (B:=0) (fG x) dc (BR.mpr (JH.mp y))) (EY (AZ d) _)
theorem c6(x:a+1≤5):a<5:=x
theorem Yp(x:a+1≤5):a≤5:=Aa x
theorem c5(x:a+1≤b):a<b:=x
theorem jw(x:a+b=c):(c:Int)+1=1+a+b:=by subst x;rw[HD,J_];rfl
theorem jv(x:a+b=c):(c:Int)-b=a:=by subst x;exact NU (a:Int) b
theorem ju(x:a+b≤c+1):a/2+b/2≤c:=A0.mp fun h=>absurd (AA (BE 2 h) (AA (by rw[Jx];exact BA (dm a 2) (dm b 2)) x)) (JH.mpr (show c+1<2*(c+1) from by rw[Hy];exact BZ (Bx c)))
theorem jt(x:a-b=c+(d+e))(y:0<d):b+c+d≤a:=by
 have h:b≤a:=Aa (a4 (x▸AF y (AA (AM d e) (CM _ c))));rw[A1,←Dx h,x,←A1 c];exact AV (AM _ _) _
theorem js(x:a-b=c+1)(y:b<a):a-(b+1)=c:=by rw[Lw,x];rfl
theorem jr(_:a-b≤c+1)(_:a-b=a-(b+1)+1):a-(b+1)≤c:=by simp_all
theorem jq(_:a/2=b)(_:a=2*b+1):¬a=2*b:=by lia
theorem jp(_:a/2=b)(_:a=2*b):¬a=2*b+1:=by simp_all
theorem jo(x:a=2*b∧c=2*b):0+1+1+a=2*(b+1)∧0+1+1+c=2*(b+1):=by rw[x.1,x.2,BQ (0+1+1)];exact⟨rfl,rfl⟩
theorem jn(x:a=1∨a=2):a+1+1+(a+1+1)*3≤16000000:=by rcases x with rfl|rfl<;>decide
theorem jm(x:a=1∨a=2):(a:Int)≤1000:=by rcases x with rfl|rfl<;>decide
theorem jl(x:a=1∨a=2):1+a≤1000000:=by rcases x with rfl|rfl<;>decide
theorem jk(x:a=1∨a=2):1+a≤999999:=by rcases x with rfl|rfl<;>decide
theorem jj(x:a=1∨a=2):¬a=0∧a≤1000:=by rcases x with rfl|rfl<;>decide
theorem ji(x:a=34∨a=40∨a=41∨a=92):a<128:=by rcases x with rfl|rfl|rfl|rfl<;>decide
theorem jh(_:a=34∨a=40):a=92∨a=34∨a=40:=by simp_all
theorem jg(x:a=40∨a=41):a<128:=by rcases x with rfl|rfl<;>decide
theorem e1(x:a≤64∨b≤64)(y:c+8*d<9000):c+Uq a b<9900:=AY (BA (AA (AM _ _) (Aa y)) (x.elim (fun x=>AA (IL _ _) x) fun x=>AA (FL _ _) x)) dc
theorem c0(x:a≤b∧b<a+2):b=a∨b=a+1:=(Nat.eq_or_lt_of_le x.1).elim (fun h=>.inl h.symm) fun h=>.inr (DL (A9 x.2) h)
theorem jf(x:Uq a b=c)(y:d≤e)(z:e+f≤c):d≤e∧e<d+(c+1-d):=⟨y,by rw[Dx (AA y (AA (AM e f) (A_ z)))];exact Fw (AA (AM e f) z)⟩
theorem je(x:0<2*a):(2*a-1+1)/2=a:=by rw[Cc x];exact Sl (b:=0) (BI _)
theorem jd(x:0<a):((b+a-1:Nat):Int)=b+(-1)+a:=by
 obtain⟨k,rfl⟩:=KH x;rw[Bw,J_,kZ];rfl
theorem jc(_:0<a):a-(0+1)<a+1:=by simp+arith at*
theorem jb(_:0<a):a<a*2:=by simp_all
theorem ja(_:0<a):¬(a:Int)=0:=by lia
theorem Yo(x:0<a):¬a=0:=CU x
theorem jZ(_:5≤a)(_:b<5):¬b=a:=by lia
theorem O_(x:a<2*b):a/2<b:=F6 x
theorem jY(x:a<b+(c+(d+1)+1))(y:¬a-b-1<c)(z:¬a-b-1=c):a-b-1-c-1<d:=by
 obtain⟨k,e⟩:=KH (B' (A0.mp y) (Ne.symm z));rw[e,A1,CX,JJ];have f:=WX (Cd fun q=>by rw[q]at e;exact absurd e (BX (Bx _))) e;have g:=WX (Eh fun h=>by rw[WH (Aa h)]at f;exact absurd f (BX (Bx _))) f;rw[g,BQ _ b]at x;exact Sc (Uo (Sc x):c+(k+1)<c+(d+1)) |>Uo
theorem cz(x:a<0):False:=absurd x (K9 _)
theorem an(x:a<10)(y:b=10):a<b:=y▸x
theorem jX(_:a<10):a<((10:Nat):Int):=by revert a;decide
theorem e0(_:a<10):(a:Int)≤1000000:=by revert a;decide
theorem Yn(x:a<10):0≤(a:Int):=AZ _
theorem jW(_:a<10):a≤1000000:=by revert a;decide
theorem jV(_:a<2):2*(b+1)+a-2=2*b+a:=by simp+arith at*
theorem jU(x:a<2):2*b+1-a=2*b+(0+1+a)%2:=by obtain rfl|rfl:=N3.mp (A9 x)<;>rfl
theorem jT(_:a<2):(a:Int)<2^64:=by revert a;decide
theorem jS(x:a<2):2*b+a=2*b+(1+1+a)%2:=by obtain rfl|rfl:=N3.mp (A9 x)<;>rfl
theorem jR(x:a<2):0≤2*(b:Int)+1-a:=Hz (Av (A3.mpr (A9 x)) (Jc (Int.mul_nonneg dc (AZ b))))
theorem am(x:a<2):a=0∨a=1:=fZ x
theorem jQ(_:a<2):2≤2*(b+1)+a:=by simp+arith at*
theorem ez(_:a<29):(a:Int)≤1000000:=by revert a;decide
theorem jP(_:a<29):32+1=a+(5+(28-a)):=by revert a;decide
theorem jO(_:a<29):a+5≤33:=by revert a;decide
theorem ey(_:a<29):Uq 5 (33-a)=5:=by revert a;decide
theorem cy(x:a<29):a≤28:=A9 x
theorem jN(_:a<29):a≤33:=by revert a;decide
theorem ew(_:a<32)(_:b≤100)(_:¬a=0):((b-1:Nat):Int)≤b:=by simp+arith at*
theorem jM(_:a<32)(_:¬a=0):0<a:=by revert a;decide
theorem cx(x:a<32):a≤31:=A9 x
theorem eu(_:a<4):a=0∨a=1∨a=2∨a=3:=by revert a;decide
theorem et(_:a<5)(_:97+a=34∨97+a=40∨97+a=41∨97+a=92):False:=by revert a;decide
theorem jL(_:a<5)(_:97+a=92∨97+a=34∨97+a=40):False:=by revert a;decide
theorem cw(_:a<5)(_:97+a=34):False:=by simp+arith at*
theorem jK(_:a<5)(_:97+a=40):False:=by simp+arith at*
theorem jJ(_:a<5)(_:97+a=41):False:=by simp+arith at*
theorem jI(_:a<5)(_:97+a=92):False:=by simp+arith at*
theorem jH(x:a<5)(y:b<5)(z:c<b):((b+c-a:Nat):Int)≤1000000:=A3.mpr (AA (EF _ _) (AA (BA (Aa y) (Aa (B7 z y))) dc))
theorem TX(x:a<5)(y:b<a):b<5:=B7 y x
theorem jG(x:a<5)(y:b=10-2*a)(z:1+c<b)(w:d+(1+1)=10-2*a+(0+0)):d=10-2*(a+1):=by rw[Jx,Lw];exact Nat.eq_sub_of_add_eq w
theorem jF(x:a<5)(y:b=10-2*a):0<b-1:=by subst y;exact(by decide:∀a,a<5→0<10-2*a-1) a x
theorem ep(_:a<5)(_:b=a+2)(_:c=a+2):1≤((a+1:Nat):Int):=by simp+arith at*
theorem jE(_:a<5)(_:b=a+2)(_:c=a+2):c≤1000000:=by lia
theorem Ym(x:a<5)(y:b=5):a<b:=y▸x
theorem eo(_:a<5):a<((5:Nat):Int):=by revert a;decide
theorem jD(_:a<5):a<((7:Nat):Int):=by revert a;decide
theorem jC(_:a<5):(a:Int)<5:=by revert a;decide
theorem al(_:a<5):(a:Int)≤1000000:=by revert a;decide
theorem jB(_:a<5):(-4)≤(a:Int)∧(a:Int)≤4:=by revert a;decide
theorem jA(_:a<5):(-4)≤(-(a:Int))∧(-(a:Int))≤4:=by revert a;decide
theorem i'(_:a<5):0+a≤5:=by revert a;decide
theorem M6(x:a<5):0≤(a:Int):=AZ _
theorem i_(_:a<5):2*a≤100:=by revert a;decide
theorem ek(_:a<5):97+a<256:=by revert a;decide
theorem i9(_:a<5):a=0∨97+a=98∨97+a=99∨97+a=100∨97+a=101:=by revert a;decide
theorem Ma(_:a<5):a=0∨a=1∨a=2∨a=3∨a=4:=by revert a;decide
theorem i8(_:a<5):a≤100:=by revert a;decide
theorem Qy(x:a<5):a≤5:=Aa x
theorem i7(_:a<5):¬97+a=34:=by simp+arith at*
theorem i6(_:a<5):¬40=97+a:=by simp+arith at*
theorem i5(_:a<5):¬46=97+a:=by simp+arith at*
theorem SK(_:a<5):¬97+a=46:=by simp+arith at*
theorem i4(_:a<9):a=0∨a=1∨a=2∨a=3∨a=4∨a=5∨a=6∨a=7∨a=8:=by revert a;decide
theorem i3(x:a<b)(y:a=b∨a=b+1+c):d=e:=absurd x (y.elim (fun h=>by rw[h];exact As _) fun h=>A0.mpr (h▸AA (BU b) (AM (b+1) c)))
theorem i2(x:a<b)(y:b+2≤c)(z:c≤d)(w:d=a∨d=b∨d=b+1):False:=As (b+1) (AF y (AA z (w.elim (fun w=>w▸AA (Aa x) (BU b)) fun w=>w.elim (fun w=>w▸BU b) fun w=>w▸AK _)))
theorem i1(x:a<b)(y:b-a=c+1)(z:b-1-(c+1-1)=a):b-(a+1)=c:=by rw[Lw,y];rfl
theorem i0(x:a<b)(y:b-a=c+1):b-1-(c+1-1)=a:=by rw[k6 x y];exact JJ a c
theorem ak(x:a<b)(y:b≤c∧c<b+2)(z:c=a):False:=As a (AF x (z▸y.1))
theorem iz(x:a<b)(y:129≤a)(z:129≤c)(w:d=c∨d=b∨d=b+1):129≤d:=w.elim (fun q=>q▸z) fun q=>q.elim (fun q=>q▸AA y (Aa x)) fun q=>q▸A_ (AA y (Aa x))
theorem iy(_:a<b)(_:a=b):False:=by lia
theorem iw(_:a<b)(_:a=c):¬b=c:=by lia
theorem cv(x:a<b)(y:b<10)(z:a+1≤c∧c<a+1+(b-(a+1))):c<10:=B7 (Dx x▸z.2) y
theorem cu(x:a<b)(y:b<a):False:=Ky x y
theorem ct(x:a<b)(y:b<a):a=b:=absurd y (Ky x)
theorem iv(x:a<b)(y:b<c)(z:d=a∨d=b):d<c:=z.elim (fun z=>z▸B7 x y) fun z=>z▸y
theorem V1(x:a<b)(y:b<c):a<c:=B7 x y
theorem aj(x:a<b)(y:b≤c):a≤c:=AA (Aa x) y
theorem iu(x:a<b)(y:c<c+1+d)(z:a=c∨a=c+1+d)(w:b=c∨b=c+1+d):a=c∧b=c+1+d:=by
 rcases z with rfl|rfl
 ·exact⟨rfl,w.resolve_left (CU x)⟩
 ·exact(w.elim (fun w=>absurd (w▸x) (Ky y)) fun w=>absurd (w▸x) (As _))
theorem it(x:a<b)(y:c<2)(z:d=2*a+1-c∨d=2*a+c):d<2*b:=AY (m:=2*a+1) (z.elim (fun z=>z▸EF _ _) fun z=>z▸AV (A9 y) _) (AF (Az _) (BE 2 x))
theorem iq(x:a<b)(y:c=a)(z:a=d∨a=e)(w:b=d∨b=e)(v:d<e):a=d:=z.elim id fun q=>absurd x (w.elim (fun r=>by rw[q,r];exact Ky v) fun r=>by rw[q,r];exact As e)
theorem ip(x:a<b)(y:c=a)(z:b=d∨b=e)(w:a=d):b=e:=z.resolve_left fun h=>by rw[w,h]at x;exact As _ x
theorem io(_:a<b)(_:c=b):¬a=c:=by lia
theorem im(x:a<b)(y:¬c%2=1):(c+1)%2=1:=by rw[Jy,(CB c).resolve_right y]
theorem ij(x:a<b)(y:¬c<d):100*(d:Int)+(-b)<100*c+(-a):=RH (H0 (A3.mpr (Eh y)) dc) (Int.neg_lt_neg (BR.mpr x))
theorem ii(x:a<b)(y:¬a=c)(w:a=c∨a=b∨a=b+1):False:=w.elim y fun w=>w.elim (BX x) (BX (By x))
theorem ai(x:a<b):(a:Int)<b:=A3.mpr x
theorem ej(_:a<b):2*a+1<2*b:=by lia
theorem Yl(x:a<b):2*a<2*b:=(Ib dc).mpr x
theorem ah(x:a<b):a+1≤b:=x
theorem ih(x:a<b):b-a=b-(a+1)+1:=by rw[Lw];exact(Cc (Ds x)).symm
theorem cs(x:a<b):a≤b:=Aa x
theorem ig(_:a<b):¬b<a:=by lia
theorem cq(x:a<b):¬b=a:=CU x
theorem ie(x:a=2*(a/2)+1):(a+1)/2=a/2+1:=by
 generalize a/2=k at*;subst x;exact Sl (a:=k+1) (b:=0) (BI 1)
theorem ic(x:a=b+(0+1)+1):(a:Int)-1=1+b:=by subst x;exact(NU ((b:Int)+1) 1).trans (HD _ _)
theorem ib(x:a=b+(0+1)+1):¬a-((1:Nat):Int)<((1:Nat):Int):=by subst x;exact Cp.mpr (RF (A3.mpr (CM 2 b:1+1≤b+2)))
theorem ia(x:a=10-2*b)(y:1+c<a)(z:d+e=f+g)(w:f+e=h+g):d+(e+e)=h+(g+g):=by rw[←A1,z,Bb,w,A1]
theorem iZ(_:a=10-2*b)(_:1+c<a)(_:b=d):d<b+1:=by lia
theorem iY(_:a=10-2*b)(_:1+c<a)(_:b=d):¬d<b:=by lia
theorem cp(x:a=10-2*b)(y:1+c<a):0<a:=AY (BI _) y
theorem iX(x:a=2*(a/2)):(a+1)/2=a/2:=by have h:=Sl (a:=a/2) (AK 1);rwa [←x]at h
theorem cm(x:a=2*(b+1))(y:a-1=((a-1:Nat):Int))(z:c<a-1):1+c<a:=kW x y z
theorem iW(x:a=2*(b+1))(y:a-1=((a-1:Nat):Int)):0<a-1:=by rw[x];show 0<2*b+1;exact Bx _
theorem ei(x:a=2*(b+1))(y:a-1=((a-1:Nat):Int)):¬((a-1:Nat):Int)=0:=by subst x;exact fun h=>Hi (2*b) ((Ce (n:=0)).mp h)
theorem iV(x:a=2*(b+1))(y:a≤10):a-2=2*b:=by rw[x];rfl
theorem eh(_:a=2*(b+1))(_:a≤10):0<a:=by simp_all
theorem ag(x:a=2*(b+1))(y:a≤10):a≤1000000:=AA y dc
theorem iU(x:a=2*(b+1))(y:a≤10):¬a-1=0:=by rw[x];show¬2*b+1=0;exact Hi _
theorem iT(_:a=a+b)(_:b=1):False:=by simp_all
theorem iS(x:a=b+(c+(d+1)+1)):b+(c+1)+1≤a:=by rw[x];exact AV (BS (AV (BS (BI d)) c)) b
theorem TW(_:a=b+(c+d)):b+c≤a:=by simp_all
theorem cj(x:a=b+1)(y:a+1≤c)(z:d≤b)(w:e<d):e<c:=AF w (AA z (AA (Aa (x▸Az b)) (HC y)))
theorem ci(x:a=b+1)(y:a+1≤c):b<c:=by rw[x]at y;exact E2 y
theorem iR(x:a=b+1)(y:a+1≤c):b≤c:=by rw[x]at y;exact Aa (E2 y)
theorem iQ(x:a=b+1)(y:a≤b):False:=by rw[x]at y;exact Nat.not_succ_le_self b y
theorem eg(x:a=b+1)(y:c≤b)(z:a+1≤d)(w:d<c):False:=As d (B7 w (AY y (AF (x▸Az b) (HC z))))
theorem ef(_:a=b+1):b<a:=by lia
theorem iP(_:a=b+1):¬b=a:=by lia
theorem iO(_:a=b+2)(_:c=b+2):((b+1:Nat):Int)≤c:=by simp_all
theorem iN(_:a=b+2):((b+1:Nat):Int)≤a:=by simp_all
theorem iM(_:a=b+2):2≤a:=by simp_all
theorem af(x:a=b-c)(y:c<b):b-(c+1)<a:=x▸Nat.sub_lt_sub_left y (Az c)
theorem iL(x:a=b/2)(y:c=2*d+(b%2+1+e)%2):2*(b/2)+((b%2+1+e)%2+1+e)%2=b:=by rw[k5 (CO _ dc),ET]
theorem iK(_:a=0)(_:b<a):¬c=d:=by simp_all
theorem cg(x:a=10)(y:b<10):b<a:=x▸y
theorem iJ(x:a=10)(y:b≤100)(z:c=b):2*a+b≤1000000:=by subst x;exact AA (AV y 20) dc
theorem iI(x:a=10)(y:b≤100)(z:c=b):2*a+b≤120:=by subst x;exact AV y 20
theorem iH(_:a=10):0+a≤10:=by simp_all
theorem V0(x:a=10):a≤1000000:=AA (BC x) dc
theorem iG(_:a=2):0<a:=by simp_all
theorem iF(_:a=34):a=92∨a=34∨a=40:=by simp_all
theorem iE(_:a=34):a<1114112:=by simp_all
theorem iD(_:a=34):a<128:=by simp_all
theorem iC(_:a=40):a<1114112:=by simp_all
theorem iB(_:a=41):a<1114112:=by simp_all
theorem TV(x:a=5)(y:b<5):b<a:=x▸y
theorem iA(_:a=5)(_:b=a):0<b:=by simp_all
theorem ee(_:a=5):1+a+1≤1000000:=by simp_all
theorem ed(_:a=5):1+a≤1000000:=by simp_all
theorem h_(_:a=5):a+2≤1000000:=by simp_all
theorem h9(_:a=5):2≤a:=by simp_all
theorem h8(_:a=5):a<64:=by simp_all
theorem ae(x:a=5):a≤1000000:=AA (BC x) dc
theorem h7(_:a=92):a=92∨a=34∨a=40:=by lia
theorem h6(_:a=92):a=92∨a=34∨a=41:=by lia
theorem h4(_:a=92):a<1114112:=by simp_all
theorem h3(_:a=b)(_:c/2=b)(_:c=2*b+1):¬c=2*b:=by lia
theorem h2(_:a=b)(_:c/2=b)(_:c=2*b):¬c=2*b+1:=by simp_all
theorem cf(_:a=b)(_:a<b):False:=by lia
theorem h1(_:a=b)(_:a=c+(d+(e+1)+1))(_:f<b):f<c+(d+(e+1)+1):=by simp_all
theorem h0(x:a=b)(y:a=c+(d+(e+1)+1)):c+1+d<b:=by rw[←x,y,A1 c 1 d,BQ 1 d];exact Dy (GK (BZ (Bx e))) c
theorem hy(x:a=b)(y:a=c+(d+(e+1)+1)):c+1+d≤b:=by rw[←x,y,A1 c 1 d,BQ 1 d];exact AV (BS (AM d (e+1))) c
theorem hw(x:a=b)(y:a=c+(d+(e+1)+1)):c+1≤b:=by rw[←x,y];exact AV (BS (BI _)) c
theorem hv(_:a=b)(_:b<a):False:=by lia
theorem hu(_:a=b)(_:b=c):b+1=c+1:=by lia
theorem ht(x:a=b)(y:c=a+2)(z:a+2<d)(v:e≤a)(w:f=a∨f=d∨f=d+1):e≤f:=w.elim (fun w=>w▸v) fun w=>AA v (AA (AA (AM a 2) (Aa z)) (w.elim (fun w=>w▸AK _) fun w=>w▸BU _))
theorem hq(x:a=b)(y:c=a+2)(z:d=a∨d=a+2∨d=a+2+1):a≤d∧d<a+2+2∧¬d=a+1:=z.elim (fun w=>by rw[w];exact⟨AK _,AM (a+1) 3,BX (Az _)⟩) fun z=>z.elim (fun w=>by rw[w];exact⟨AM _ 2,AM (a+3) 1,CU (Az _)⟩) fun w=>by rw[w];exact⟨AM _ 3,Az _,CU (BU (a+2))⟩
theorem ho(_:a=b)(_:c=a)(_:d=b+2):b+2≤d:=by lia
theorem hm(_:a=b)(_:¬c=d)(_:e=d)(_:c=f∨c=f+1+b)(_:d=f+1+b):c=f:=by simp_all
theorem hk(_:a=b)(_:¬c=d)(_:e=d)(_:c=f∨c=f+1+b)(_:d=f):c=f+1+b:=by simp_all
theorem hj(_:a=b):(2*b+1+1)/2=b+1:=by simp+arith at*
theorem hh(_:a=b):(2*b+1)/2=b:=by lia
theorem hg(x:a=b):c+1+a-c=a+1:=by rw[A1,CX,BQ]
theorem ec(_:a=b):a<b+1:=by lia
theorem hf(_:a=b):a≤b+c:=by simp_all
theorem he(_:a=b):c≤c+1+a:=by simp+arith at*
theorem eb(_:a=b):¬a<b:=by lia
theorem hc(x:a≤b+2+2*c):a≤b+2*(c+1):=by rw[Bb]at x;exact x
theorem ha(x:a≤2^10):a*1≤50000:=by rw[Nat.mul_one];exact AA x dc
theorem hZ(x:a≤b+b):a≤2*b:=by rw[Hy];exact x
theorem hY(x:a≤1)(y:b=1):b+a≤16777216:=by subst y;exact AA (AV x 1) dc
theorem hX(x:a≤1)(y:b=3):a+b+a≤16777216:=by subst y;exact AA (BA (Bf x 3) x) dc
theorem hW(x:a≤1)(y:b=3):b+a+b≤16777216:=by subst y;exact AA (Bf (AV x 3) 3) dc
theorem hV(x:a≤1)(y:b=3):a+b≤16777216:=by subst y;exact AA (Bf x 3) dc
theorem hU(x:a≤1)(y:b=3):b+a≤16777216:=by subst y;exact AA (AV x 3) dc
theorem hT(_:a≤10)(_:b=2*a):b≤100:=by lia
theorem ac(_:a≤10)(_:b=2*a):b≤1000000:=by lia
theorem ce(x:a≤10):a≤1000000:=AA x dc
theorem TU(x:a≤100):a≤1000:=AA x dc
theorem SJ(x:a≤100):a≤1000000:=AA x dc
theorem hS(x:a≤1000)(y:b≤a+1)(z:c≤b)(w:d≤c+1):d*1000+d*0≤16000000:=show d*1000≤16000000 from AA (B3 1000 (AA w (BS (AA z (AA y (BS x)))))) dc
theorem hR(x:a≤1000)(y:b≤a+1):0+b≤3000:=by rw[Bw];exact AA y (AA (BS x) dc)
theorem hQ(_:a≤1000)(_:b≤a+2):b≤1000000:=by lia
theorem hP(_:a≤1000):(0≤(-1)+((a:Int)+1)∧(-1)+((a:Int)+1)<a+1)∧B0 ((-1)+((a:Int)+1))=a:=by simp+arith at*
theorem HM(x:a≤1000):a≤1000000:=AA x dc
theorem cc(x:a≤1000):a≤16777216:=AA x dc
theorem ab(x:a≤1000):a≤999998:=AA x dc
theorem cb(x:a≤100000):a≤1000000:=AA x dc
theorem hO(x:a≤1000000)(y:0≤A∧b=B0 A∨A<0∧(-a)≤A∧b=B0 (A+(a:Int))):(-2^63:Int)≤A:=y.elim (fun y=>Av dc y.1) fun y=>(kV x y.1 y.2.1).1
theorem O9(x:a≤1000000):a≤16777216:=AA x dc
theorem hN(_:a≤1000000):¬16777216<a:=by lia
theorem hM(_:a≤2)(_:b=1):b+a+b≤16777216:=by lia
theorem hL(x:a≤2)(y:b=1):b+a+b≤4:=by subst y;exact Bf (AV x 1) 1
theorem hK(_:a≤2)(_:b=1):b+a≤16777216:=by lia
theorem ea(x:a≤2):a=0∨a=1∨a=2:=by revert x;revert a;decide
theorem hJ(x:a≤5)(y:b≤2)(z:c=1):a+(c+b+c)≤9:=by subst z;exact BA x (BA (AV y 1) (AK 1))
theorem aa(x:a≤5):a=0∨a=1∨a=2∨a=3∨a=4∨a=5:=(by decide:∀a,a<6→(a=0∨(a=1∨(a=2∨(a=3∨(a=4∨a=5)))))) a (Fw x)
theorem hI(x:a≤60)(y:b≤c*60):a+b≤c*60+60:=by rw[BQ a];exact BA y x
theorem hH(x:a≤63)(y:¬60≤a):(max 0 (Uq 60 (a:Int)):Int)=(a:Int):=(congrArg (max 0) (Int.min_eq_right (A3.mpr (Aa (Oz y))))).trans (Hl (AZ a))
theorem hG(_:a≤63)(_:¬60≤a):a≤60:=by lia
theorem ca(x:a≤64)(y:b+8*c<9000):b+1+Uq d a<9900:=AY (BA (AY (AM _ _) y) (AA (FL _ _) x)) dc
theorem hF(x:a≤8)(y:b=2)(z:c=1):b+c+a≤16777216:=by subst y z;exact AA (AV x 3) dc
theorem hE(_:a≤900)(_:b=1):a+b≤1000:=by lia
theorem hD(_:a≤900)(_:b=1):a+b≤16777216:=by lia
theorem hC(x:a≤900)(y:b=1):b+a≤1000:=by subst y;exact AA (AV x 1) dc
theorem hB(_:a≤900)(_:b=1):b+a≤16777216:=by lia
theorem Qx(x:a≤900):a≤1000:=AA x dc
theorem aZ(x:a≤b)(y:b<a+c):b-a<c:=SY x y
theorem Qw(x:a≤b)(y:b<a):False:=absurd y (A0.mpr x)
theorem g'(_:a≤b)(_:b=5+2):a≤7:=by simp_all
theorem cZ(x:a≤b)(y:c<a):c<b:=AA y x
theorem g_(x:a≤b)(y:c≤b)(z:d≤e):c+a+d≤e+2*b:=by rw[BQ (c+a),Hy];exact BA z (BA y x)
theorem g9(_:a≤b):B0 ((b:Int)-(a:Int))=b-a:=by simp_all
theorem eZ(_:a≤b):a+(b-a)=b:=by simp_all
theorem g8(x:a≤b):a≤1*(2*b):=by rw[Nat.one_mul,Hy];exact AA x (AM b b)
theorem eY(_:a≤b):b=a+(b-a):=by simp_all
theorem g7(_:a≤b):¬(b:Int)<a:=by simp_all
theorem g6(_:¬A<0)(_:0≤A∧A<a):B0 A<a:=by simp_all
theorem g5(x:¬a%2=1)(y:¬a=0):(a-1+1)/2=(a+1)/2:=by
 rw[Cc (Cd y)];obtain⟨k,rfl⟩:=Nat.dvd_of_mod_eq_zero ((CB a).resolve_right x);rw[Sl (a:=k) (b:=1) (AK _)];exact Sl (a:=k) (b:=0) (BI _)
theorem g4(_:¬a<1):¬a=0:=by lia
theorem cY(x:¬a<5):5≤a:=A0.mp x
theorem eX(_:¬a<b)(_:a≤b):a=b:=by lia
theorem g3(x:¬a<b)(y:¬a-b-1<c)(z:¬a-b-1=c)(v:a-b-1-c-1<d)(w:a=b∨a=b+1+c):e=f:=w.elim (fun w=>(by subst w;rw[Dr]at y z;exact absurd (Cd (Ne.symm z)) y)) fun w=>absurd (kX w) z
theorem g2(x:¬a<b)(y:¬a=b)(z:a-b-1<c)(w:a=b∨a=b+1+c):d=e:=w.elim (fun w=>absurd w y) fun w=>absurd (kX w) (BX z)
theorem g1(x:¬a<b)(y:¬a=b)(z:a-b-1=c):a=b+1+c:=by rw[←z,Nat.sub_sub,Dx (B' (Eh x) (Ne.symm y))]
theorem Yk(x:¬a<b):b≤a:=A0.mp x
theorem g0(_:¬a<b):¬(a:Int)<b:=by simp_all
theorem Vz(x:¬a=0):¬(a:Int)=0:=fun h=>x (Ce.mp h)
theorem gz(x:¬a=1):¬(a:Int)=1:=fun h=>x (Ce.mp h)
theorem gy(x:¬a=2):¬(a:Int)=2:=fun h=>x (Ce.mp h)
theorem gx(_:¬a=b)(_:97+b=97+a):False:=by simp_all
theorem gw(_:¬a=b):¬97+a=97+b:=by simp_all
theorem gv(_:¬a≤b):b≤a:=by lia
theorem gu(x:¬a=b/2)(y:c=b/2)(z:d=2*a+(b%2+1+e)%2):¬2*a+(b%2+1+e)%2=b:=fun w=>x (by rw[←w];exact(Sl (A9 (CO _ dc))).symm)
theorem gt(x:¬a=b)(y:c=b)(z:d/2=b):¬d=2*a+1:=fun h=>x (by rw[←z,h];exact(Sl (AK 1)).symm)
theorem gr(x:¬a=b)(y:c=b)(z:d/2=b):¬d=2*a:=fun h=>x (by rw[←z,h];exact(G0 a dc).symm)
theorem gq(x:¬a=b)(y:¬b=c)(z:¬a=c)(p:a=d∨a=e)(q:b=d∨b=e)(r:c=d∨c=e):False:=p.elim (fun p=>q.elim (fun q=>x (p.trans q.symm)) fun q=>r.elim (fun r=>z (p.trans r.symm)) fun r=>y (q.trans r.symm)) fun p=>q.elim (fun q=>r.elim (fun r=>y (q.trans r.symm)) fun r=>z (p.trans r.symm)) fun q=>x (p.trans q.symm)
theorem gp:((a+1:Nat):Int)-1=a:=by simp+arith at*
theorem gn:(2*a+(0+1+0)%2+1)/2=a+1:=by simp+arith at*
theorem gm:(2*a+(1+1+1)%2+1)/2=a+1:=by simp+arith at*
theorem gl:(2*a+1+1)/2=a+1:=by simp+arith at*
theorem gk:(a:Int)+(b+(c+1))=a+(b+1)+c:=by simp+arith at*
theorem gj:(a:Int)+(b+(c+1))=1+a+(b+c):=by simp+arith at*
theorem gi:(a:Int)+(b+c)=a+b+c:=by simp+arith at*
theorem Yj:a+1=((a+1:Nat):Int):=rfl
theorem gh:(-((-(a:Int))-1))-1=a:=by simp+arith at*
theorem gg:1+(a:Int)+(b+c)=a+1+b+c:=by simp+arith at*
theorem gf:(2*a+1)%2=1:=by simp+arith at*
theorem ge:a+(b+1)+1-a=b+1+1:=by rw[A1 a];exact CX _ _
theorem Vy:(a:Int)≤a:=Wd _
theorem gc:(-1)+((a+1:Nat):Int)=a:=by simp+arith at*
theorem gb:(-1)-(a:Int)<0:=by simp+arith at*
theorem ga:0+(a:Int)*1=a:=by simp+arith at*
theorem gZ:(0+(0+(0+a)+b))%2=(b+a)%2:=by simp+arith at*
theorem gY:A+((a+1:Nat):Int)=A+1+a:=by simp+arith at*
theorem gW:A+a*1=A+a:=by simp+arith at*
theorem gV:A+(B+C)=A+B+C:=by simp+arith at*
theorem gU:a+(0+b)+(c+(d+0))=a+(c+(0+0))+(b+d):=by lia
theorem gT:a+(b+c)+d=a+(b+d)+c:=by simp+arith at*
theorem gS:a+1+b≤a+(b+1):=by simp+arith at*
theorem gR:a+2-a=2:=by simp+arith at*
theorem gQ:a+5-a=5:=by simp+arith at*
theorem gP:(max 0 (Uq ((-2)+((a:Int)+2)) ((a:Int)+2)):Int)=(a:Int):=by
 have e:-2+((a:Int)+2)=a:=by rw[HD,J_];exact Int.add_zero _
 rw[e,LA (F7 dc),Hl (AZ a)]
theorem eW:Uq a b+(b-a+1)=b+1:=by rw[←A1,BQ (Uq a b),Nat.min_comm,Nat.sub_add_min_cancel]
theorem gO:(-1000000:Int)≤0:=dc
theorem gN:(-1:Int)<0:=dc
theorem gM:0+5≤5:=dc
theorem gL:0+a≤a:=by simp+arith at*
theorem Qv:0≤(a:Int):=AZ _
theorem Yi:(0:Int)≤0:=dc
theorem gK:(0:Int)≤1:=dc
theorem eV:(0:Int)≤2:=dc
theorem cX:2+2*a=2*(a+1):=BQ _ _
theorem gJ:2+1≤1000000:=dc
theorem gI:3+4≤1000000:=dc
theorem eU:B0 ((-((-(a:Int))-1))-1)=a:=by simp+arith at*
theorem aY:a%10≤10:=Aa (CO a dc)
theorem gH:a%2<2:=CO a dc
theorem gG:a+(b+1+1)=a+1+b+1:=by simp+arith at*
theorem aX:a+(b+1)=a+1+b:=by simp+arith at*
theorem gF:a+1≤a+6:=by simp+arith at*
theorem gE:a+a=a*2:=by simp+arith at*
theorem gD:a+b<a+(b+1)+1+1:=by lia
theorem eS:a+b<c+(a+(b+d))+1:=by simp+arith at*
theorem gC:a≤a+1∧a+1<a+2+2:=by simp+arith at*
theorem gB:a≤b↔a+1≤0+(b+1):=by simp+arith at*
theorem gA:¬(a:Int)=0↔¬a=0:=by simp+arith at*
theorem eR:0<2:=dc
theorem Yh:0<5:=dc
theorem f':0≤1000000:=dc
theorem eQ:1<2:=dc
theorem Yg:1<5:=dc
theorem cW:1≤a+1:=Bx _
theorem eP:1≤1000:=dc
theorem Yf:2<5:=dc
theorem f_:2≤100:=dc
theorem Ye:3<5:=dc
theorem Yd:4<5:=dc
theorem f9:5≤16777216+1:=dc
theorem eO:5≤1000000:=dc
theorem f8:5≤16777216:=dc
theorem Vx:5≤5:=dc
theorem f6:7≤1000:=dc
theorem eN:7≤1000000:=dc
theorem cV:a<a+1+b:=AM _ _
theorem f5:a=1*a:=by simp+arith at*
theorem f0:a≤a+1+1+1:=by simp+arith at*
theorem fz:a≤a+(b+1)+1:=by simp+arith at*
theorem Vw:a≤a+1+1:=by lia
theorem Vv:a≤a+1:=BU _
theorem aW:a≤a+2:=AM _ _
theorem Yc:a≤a+b:=AM _ _
theorem SI:¬(a:Int)<0:=Cp.mpr (AZ _)
theorem eM:¬0≤(-(a:Int))-1:=by lia
theorem fy:¬97+a=40:=by simp+arith at*
theorem fx:¬97+a=41:=by simp+arith at*
theorem fw:¬1+a=0:=by lia
theorem fv:¬a+1=a+2:=by lia
theorem fu:¬a+1=a:=by lia
theorem ft:¬a+2=a:=by lia
theorem fq:¬0=1:=dc
theorem fo:¬0=2:=dc
theorem fm:¬0=3:=dc
theorem fk:¬0=4:=dc
theorem fj:¬1=2:=dc
theorem fi:¬1=3:=dc
theorem fh:¬1=4:=dc
theorem fg:¬2=3:=dc
theorem ff:¬2=4:=dc
theorem fc:¬3=4:=dc
theorem k7(x:b≤1):(2*a+b)%2=b:=by rw[Nat.mul_add_mod,Hj (Fw x)]
theorem ka(x:a≤1000000)(y:b<a)(z:((0≤A∧b=A.toNat)∨(A<0∧-(a:Int)≤A∧b=(A+a).toNat))):¬A< -2^63∧¬A≥2^63:=⟨Cp.mpr (z.elim (fun w=>Av dc w.1) fun w=>Av (L0 (Av (A3.mpr x) dc)) w.2.1),K1.mpr (z.elim (fun w=>fJ x (w.2▸y)) fun w=>Iy w.1 dc)⟩
end
noncomputable def Up(s A:AO):Prop:=s.heap.objs.size≤A.heap.objs.size∧s.toks≤A.toks
theorem Up.refl(s:AO):Up s s:=⟨AK _,AK _⟩
theorem Up.trans(x:Up s A)(y:Up A s₂):Up s s₂:=⟨AA x.1 y.1,AA x.2 y.2⟩
theorem Tv(h:Runs M B p t C s e A):Up s A:=by
 unfold Up
 induction h<;>(try simp only[Q8,BG,Heap.size_after_update]at*)<;>omega
theorem Wo(h:Wakes M D p g r s res C):Up s C:=by
 unfold Wakes at h
 repeat' split at h
 all_goals first
  |exact h.elim
  |(obtain⟨B,A,hr,_,_,rfl⟩:=h;exact(Tv hr:Up (s.setGen g .running) A))
  |(rw[h.2];exact Up.refl _)
theorem dw(M:Model)(F:Ctx)(B:AO)(t:Ku H):∀(Q:H→JE→AO→Prop)(E:Ad→JE→AO→Prop)(p:JE)(s:AO),Up B s→Sem.wp M F t Q E p s→
  Sem.wp M F t (fun a D C=>Up B C∧Q a D C) (fun e D C=>Up B C∧E e D C) p s:=by
 induction t with
 |pure a=>intro Q E p s hn h;exact⟨hn,h⟩
 |raise e=>intro Q E p s hn h;exact⟨hn,h⟩
 |load a _ k A=>intro Q E p s hn h;refine Bz h fun o I h=>?_;exact⟨o,I,A o Q E p s hn h⟩
 |update a _ f k A=>intro Q E p s hn h;exact⟨h.1,A () Q E p _ ⟨by simpa using hn.1,hn.2⟩ h.2⟩
 |alloc o k A=>intro Q E p s hn h;exact A _ Q E p _ ⟨by have:=hn.1;simp only[BG];exact A_ this,hn.2⟩ h
 |choose J m k A=>intro Q E p s hn h;exact⟨h.1,A _ Q E p _ ⟨hn.1,hn.2⟩ h.2⟩
 |call c hd _ _ k A=>intro Q E p s hn h;refine K7 h fun r C hr h=>?_;exact X2 r C ⟨hr,A r Q E p C (hn.trans (Tv hr)) h⟩
 |genState g k A=>intro Q E p s hn h;refine Bz h fun st hs h=>?_;exact⟨st,hs,A _ Q E p s hn h⟩
 |resume g r _ k A=>intro Q E p s hn h;refine K7 h fun res C G h=>?_;exact X2 res C ⟨G,A res Q E p C (hn.trans (Wo G)) h⟩
 |unsupported _=>intro Q E p s _ h;exact h
 |finish _=>intro Q E p s _ h;exact h
 |register _ _=>intro Q E p s _ h;exact h
 |yield _ _ _ _=>intro Q E p s _ h;exact h
 |fork _ _=>intro Q E p s _ h;exact h
 |await _ _ _ _ _=>intro Q E p s _ h;exact h
 |rule _ k A=>intro Q E p s hn h;exact A _ Q E p _ hn h
 | «at» D k A=>intro Q E p s hn h;exact A _ Q E D s hn h
 |loadIfAlive a k A=>intro Q E p s hn h;exact A _ Q E p s hn h
 |point _ k A=>intro Q E p s hn h;exact A _ Q E p s hn h
 |fresh k A=>intro Q E p s hn h;exact A _ Q E p _ ⟨hn.1,A_ hn.2⟩ h
 |ask k A=>intro Q E p s hn h;exact A _ Q E p s hn h
 |os q _ k A=>intro Q E p s hn h;exact A _ Q E p _ ⟨hn.1,hn.2⟩ h
 |handled own k A=>intro Q E p s hn h;exact A _ Q E p s hn h
 |newGen c k A=>intro Q E p s hn h;exact A _ Q E p _ ⟨hn.1,hn.2⟩ h
 |stack k A=>intro Q E p s hn h;exact A _ Q E p s hn h
 |thread k A=>intro Q E p s hn h;exact A _ Q E p s hn h
theorem CG
  (h:Af M A t (fun a B=>Up s B→Q a B) (fun e B=>Up s B→E e B) s):Af M A t Q E s:=
 B1 (Q:=fun a B=>Up s B∧(Up s B→Q a B)) (E:=fun e B=>Up s B∧(Up s B→E e B))
  (fun F p C=>dw M F s t _ _ p s (Up.refl s) (h F p C)) (fun D D x=>x.2 x.1) fun D D x=>x.2 x.1
noncomputable abbrev AS:=Nat→Prop
noncomputable def Tb:AS:=fun b=>b=115∨b=125
inductive PV where
 |none
 |bool (b:Bool)
 |int (i:Int)
 |str (s:Ax)
 |list (xs:List PV)
 |tup (xs:List PV)
 |clo (k:Nat) (cap:List Int)
structure kJ where
 qual:Ax
 params:RC
 body:Aj
 scope:Scope
 var:Option Ax
 P:Ch
noncomputable def Au(k:Nat):D7:=(di.main.body[k]?).getD (.Pass ⟨0,0,0,0⟩)
noncomputable def SV:D7→Ax×RC×Scope×List D7×List D7×Aj×List ExceptHandler
 |.FunctionDef n a b _ _ _ sc _ _ _=>(n,a,sc,b,[],.Constant .none 0 ⟨0,0,0,0⟩,[])
 |.For t _ b o _=>(Ai,⟨[],[],none,[],[],none,[]⟩,GG,b,o,t,[])
 |.If _ b _ _=>(Ai,⟨[],[],none,[],[],none,[]⟩,GG,b,[],.Constant .none 0 ⟨0,0,0,0⟩,[])
 |.Try b hs _ _ _=>(Ai,⟨[],[],none,[],[],none,[]⟩,GG,b,[],.Constant .none 0 ⟨0,0,0,0⟩,hs)
 |.Expr e _=>(Ai,⟨[],[],none,[],[],none,[]⟩,GG,[],[],e,[])
 |.Return e _=>(Ai,⟨[],[],none,[],[],none,[]⟩,GG,[],[],e.getD (.Constant .none 0 ⟨0,0,0,0⟩),[])
 |_=>(Ai,⟨[],[],none,[],[],none,[]⟩,GG,[],[],.Constant .none 0 ⟨0,0,0,0⟩,[])
noncomputable def Kq(s:D7):RC:=(SV s).2.1
noncomputable def Ba(s:D7):List D7:=(SV s).2.2.2.1
noncomputable def Bu(s:D7):Scope:=(SV s).2.2.1
noncomputable def EV(d:Aj):Aj→Nat×Aj×List Aj×RC×Scope
 |.Starred ..=>(1,d,[],⟨[],[],none,[],[],none,[]⟩,GG)
 |.Slice ..=>(2,d,[],⟨[],[],none,[],[],none,[]⟩,GG)
 |.Tuple ..=>(3,d,[],⟨[],[],none,[],[],none,[]⟩,GG)
 |.Name ..=>(4,d,[],⟨[],[],none,[],[],none,[]⟩,GG)
 |.IfExp _ _ o _=>(0,o,[],⟨[],[],none,[],[],none,[]⟩,GG)
 |.BoolOp _ vs _=>(0,d,vs,⟨[],[],none,[],[],none,[]⟩,GG)
 |.Compare _ _ vs _=>(0,d,vs,⟨[],[],none,[],[],none,[]⟩,GG)
 |.BinOp a _ b _=>(0,a,[b],⟨[],[],none,[],[],none,[]⟩,GG)
 |.Call _ _ ks _=>(0,d,ks.map (·.value),⟨[],[],none,[],[],none,[]⟩,GG)
 |.Lambda a b sc _=>(0,b,[],a,sc)
 |_=>(0,d,[],⟨[],[],none,[],[],none,[]⟩,GG)
noncomputable def cB(qual:Ax)(P:Ch)(var:Option Ax)(e:Aj):kJ:=
 ⟨qual,(EV e e).2.2.2.1,(EV e e).2.1,(EV e e).2.2.2.2,var,P⟩
noncomputable def MG(h:GY)(W:AS)(l:Ch)(cap:List Int):Prop:=
 ¬W l∧∃(vs:Array Ad)(n:Nat),h.get? l=some {cls:=.type "list",data:=.seq vs n}∧vs.size=cap.length∧∀(i:Nat)(v:Ad),vs[i]?=some v→∃t j,cap[i]?=some j∧v=Value.int j t
noncomputable def P4(W:AS)(h:GY)(var:Option Ax)(cl:List (Ax×Ch))(cap:List Int):Prop:=
 match var with
 |none=>cl=[]∧cap=[]
 |some x=>∃(c l:Nat),cl=[(x,c)]∧¬W c∧129≤c∧h.IsCell c (some (.ref l))∧MG h W l cap
noncomputable def Ro(qual:Ax)(P:Ch)(var:Option Ax)(e:Aj):kJ:=cB qual P var ((EV e e).2.2.1.headD e)
noncomputable def BW(s:D7):List D7:=(SV s).2.2.2.1
noncomputable def OW(s:D7):Aj:=(SV s).2.2.2.2.2.1
noncomputable def ZQ(s:D7):List D7:=(SV s).2.2.2.1
noncomputable def cK(e:Aj):Aj:=(EV e e).2.1
noncomputable def eK(k:Nat)(e:Aj):Aj:=((EV e e).2.2.1[k]?).getD (.Constant .none 0 ⟨0,0,0,0⟩)
noncomputable def XT(e:Aj):Aj:=(EV e ((EV e ((EV e e).2.2.1.headD e)).2.1)).2.2.1.headD e
noncomputable def FQ(k:Nat)(b:List D7):D7:=(b[k]?).getD (.Pass ⟨0,0,0,0⟩)
noncomputable def Fy:Nat→kJ
 |0=>Ro "_law_basis.<locals>.<lambda>" 115 (some "rows") (OW (FQ 0 (BW (FQ 1 (Ba (Au 21))))))
 |1=>Ro "_law_basis.<locals>.<lambda>" 115 (some "rows") (OW (FQ 1 (BW (FQ 1 (Ba (Au 21))))))
 |2=>Ro "law.<locals>.<lambda>" 125 (some "table") (XT (eK 2 (OW (FQ 17 (Ba (Au 23))))))
 |3=>Ro "law.<locals>.<lambda>" 125 (some "table") (XT (eK 3 (OW (FQ 17 (Ba (Au 23))))))
 |_=>Ro "law.<locals>.<lambda>" 125 none (cK (OW (FQ 0 (ZQ (FQ 1 (BW (FQ 15 (Ba (Au 23)))))))))
noncomputable def e9(W:AS)(h:GY)(a:Ch)(k:Nat)(cap:List Int):Prop:=
 ∃cl C A B,h.get? a=some (JZ "<lambda>" (Fy k).qual (Fy k).params (Fy k).body (Fy k).scope cl C A B)∧¬W A∧h.CodeRec (.ref A) (Fy k).qual∧P4 W h (Fy k).var cl cap
class inductive VR(W:AS)(h:GY):Ad→PV→Prop where
 |none:VR W h .none .none
 |bool (b:Bool):VR W h (.bool b) (.bool b)
 |int (i:Int) (t:Tok):VR W h (.int i t) (.int i)
 |str (x:Ax) (t:Tok):VR W h (.str x t) (.str x)
 |list {a:Ch} {n:Nat} {vs:Array Ad} {xs:List PV} (ha:¬W a) (ho:h.get? a=some {cls:=.type "list",data:=.seq vs n}) (hl:vs.size=xs.length)
   (hi:∀(i:Nat) v p,vs[i]?=some v→xs[i]?=some p→VR W h v p):VR W h (.ref a) (.list xs)
 |tup {a:Ch} {n:Nat} {vs:Array Ad} {xs:List PV} (ha:¬W a) (ho:h.get? a=some {cls:=.type "tuple",data:=.seq vs n}) (hl:vs.size=xs.length)
   (hi:∀(i:Nat) v p,vs[i]?=some v→xs[i]?=some p→VR W h v p):VR W h (.ref a) (.tup xs)
 |clo {a:Ch} {k:Nat} {cap:List Int} (ha:¬W a) (hc:e9 W h a k cap):VR W h (.ref a) (.clo k cap)
noncomputable def Goes(W:AS)(h:GY)(W':AS)(h':GY):Prop:=∀b o,¬W b→h.get? b=some o→h'.get? b=some o∧¬W' b
theorem Goes.isCell(k:Goes W h W' h')(A:¬W c)(x:h.IsCell c v):h'.IsCell c v∧¬W' c:=
 by refine Bz x fun o B hd=>?_;exact⟨⟨o,(k c o A B).1,hd⟩,(k c o A B).2⟩
theorem Goes.ints(k:Goes W h W' h')(x:MG h W l cap):MG h' W' l cap:=by
 obtain⟨A,vs,n,B,r⟩:=x;exact⟨(k l _ A B).2,vs,n,(k l _ A B).1,r⟩
theorem Goes.capOk(k:Goes W h W' h')(x:P4 W h var cl cap):P4 W' h' var cl cap:=by
 cases var with
 |none=>exact x
 |some y=>
  refine l' x fun c l e C B A hl=>?_;exact X2 c l ⟨e,(k.isCell C A).2,B,(k.isCell C A).1,k.ints hl⟩
theorem VR.goes(k:Goes W h W' h')(x:VR W h v p):VR W' h' v p:=by
 induction x with
 |none=>exact .none
 |bool b=>exact .bool b
 |int i t=>exact .int i t
 |str x t=>exact .str x t
 |list A B hl _ F=>exact .list (k _ _ A B).2 (k _ _ A B).1 hl F
 |tup A B hl _ F=>exact .tup (k _ _ A B).2 (k _ _ A B).1 hl F
 |clo A J=>
  obtain⟨cl,L,H,G,B,C,⟨I,D,vs,t,e,g,r⟩,E⟩:=J;cases e;exact .clo (k _ _ A B).2 (X4 cl L H G ⟨(k _ _ A B).1,(k _ _ C g).2,X4 H D vs t ⟨rfl,(k _ _ C g).1,r⟩,k.capOk E⟩)
noncomputable def DW(W:AS)(h:GY):List Ad→List PV→Prop
 |[],[]=>True
 |v::vs,p::ps=>VR W h v p∧DW W h vs ps
 |_,_=>False
theorem kx(h:l.length=0):l=[]:=Gz.mp h
theorem eC(h:l.length=n+1):∃a A,l=a::A∧A.length=n:=by
 cases l with
 |nil=>cases h
 |cons a l=>exact X2 a l ⟨rfl,Jw h⟩
theorem b'(h:l.length=1):∃a,l=[a]:=by
 refine K7 (eC h) fun a B A h'=>?_;subst A;rw[kx h'];exact⟨a,rfl⟩
theorem fA(h:l.length=2):∃a b,l=[a,b]:=by
 refine K7 (eC h) fun a B A h'=>?_;subst A;refine B8 (b' h') fun b A=>?_;subst A;exact X2 a b rfl
theorem kQ(h:l.length=3):∃a b c,l=[a,b,c]:=by
 refine K7 (eC h) fun a B A h'=>?_;subst A;refine P3 (fA h') fun b c A=>?_;subst A;exact X3 a b c rfl
theorem kP(h:l.length=4):∃a b c d,l=[a,b,c,d]:=by
 refine K7 (eC h) fun a B A h'=>?_;subst A;refine WQ (kQ h') fun b c d A=>?_;subst A;exact X4 a b c d rfl
theorem ku(h:l.length=5):∃a b c d e,l=[a,b,c,d,e]:=by
 refine K7 (eC h) fun a B A h'=>?_;subst A;refine dY (kP h') fun b c d e A=>?_;subst A;exact X5 a b c d e rfl
theorem DW.l0(H:DW W h vs []):vs=[]:=by
 cases vs with
 |nil=>rfl
 |cons v vs=>exact H.elim
theorem DW.l1(H:DW W h vs (p::ps)):∃v us,vs=v::us∧VR W h v p∧DW W h us ps:=by
 cases vs with
 |nil=>exact H.elim
 |cons v vs=>exact X2 v vs ⟨rfl,H.1,H.2⟩
theorem DW.one(H:DW W h vs [p]):∃v,vs=[v]∧VR W h v p:=by
 refine Hd H.l1 fun v us A a b=>?_;subst A;cases b.l0;exact⟨v,rfl,a⟩
theorem DW.two(H:DW W h vs [p,q]):∃v u,vs=[v,u]∧VR W h v p∧VR W h u q:=by
 refine Hd H.l1 fun v us A a b=>?_;subst A;refine Bz b.one fun u A c=>?_;subst A;exact X2 v u ⟨rfl,a,c⟩
theorem DW.three(H:DW W h vs [p,q,r]):∃v u w,vs=[v,u,w]∧VR W h v p∧VR W h u q∧VR W h w r:=by
 refine Hd H.l1 fun v us A a b=>?_;subst A;refine K7 b.two fun u w A c=>?_;subst A;exact X3 v u w ⟨rfl,a,c⟩
theorem DW.four(H:DW W h vs [p,q,r,t]):∃v u w x,vs=[v,u,w,x]∧VR W h v p∧VR W h u q∧VR W h w r∧VR W h x t:=by
 refine Hd H.l1 fun v us A a b=>?_;subst A;refine Q6 b.three fun u w x A c=>?_;subst A;exact X4 v u w x ⟨rfl,a,c⟩
theorem DW.goes(k:Goes W h W' h'):∀{vs:List Ad}{ps:List PV},DW W h vs ps→DW W' h' vs ps
 |[],[],_=>trivial
 |_::_,_::_,⟨a,b⟩=>⟨a.goes k,b.goes k⟩
 |[],_::_,x=>x.elim
 |_::_,[],x=>x.elim
theorem DW.length:∀{vs:List Ad}{ps:List PV},DW W h vs ps→vs.length=ps.length
 |[],[],_=>rfl
 |_::_,_::_,⟨_,b⟩=>by rw[AP,AP,b.length]
 |[],_::_,x=>x.elim
 |_::_,[],x=>x.elim
theorem DW.at:∀{vs:List Ad}{ps:List PV},DW W h vs ps→∀(i:Nat) v p,vs[i]?=some v→ps[i]?=some p→VR W h v p
 |[],[],_,i,v,p,A,_=>by cases A
 |a::vs,b::ps,⟨x,y⟩,0,v,p,A,hp=>by simp at A hp;subst A hp;exact x
 |a::vs,b::ps,⟨x,y⟩,i+1,v,p,A,hp=>y.at i v p (by simpa using A) (by simpa using hp)
 |[],_::_,x,_,_,_,_,_=>x.elim
 |_::_,[],x,_,_,_,_,_=>x.elim
theorem DW.of_at:∀{vs:List Ad}{ps:List PV},vs.length=ps.length→(∀(i:Nat) v p,vs[i]?=some v→ps[i]?=some p→VR W h v p)→DW W h vs ps
 |[],[],_,_=>trivial
 |a::vs,b::ps,hl,hi=>⟨hi 0 a b rfl rfl,DW.of_at (by simpa using hl) fun i v p A hp=>hi (i+1) v p (by simpa using A) (by simpa using hp)⟩
 |[],_::_,hl,_=>by cases hl
 |_::_,[],hl,_=>by cases hl
theorem DW.append:∀{vs ws:List Ad}{ps qs:List PV},DW W h vs ps→DW W h ws qs→DW W h (vs++ws) (ps++qs)
 |[],_,[],_,_,y=>y
 |_::_,_,_::_,_,⟨a,b⟩,y=>⟨a,b.append y⟩
 |[],_,_::_,_,x,_=>x.elim
 |_::_,_,[],_,x,_=>x.elim
theorem VR.listOf(A:¬W a)(B:h.get? a=some {cls:=.type "list",data:=.seq vs.toArray n}) (x:DW W h vs xs):VR W h (.ref a) (.list xs):=
 .list A B (by simpa using x.length) fun i v p C hp=>x.at i v p (by simpa using C) hp
theorem VR.tupOf(A:¬W a)(B:h.get? a=some {cls:=.type "tuple",data:=.seq vs.toArray n}) (x:DW W h vs xs):VR W h (.ref a) (.tup xs):=
 .tup A B (by simpa using x.length) fun i v p C hp=>x.at i v p (by simpa using C) hp
theorem VR.list_inv(x:VR W h v (.list xs)):
  ∃a n vs,v= .ref a∧¬W a∧h.get? a=some {cls:=.type "list",data:=.seq (BL vs) n}∧DW W h vs xs:=by
 cases x with
 | @list a n vs _ A B hl hi=>exact X3 a n vs.toList ⟨rfl,A,by simpa using B,DW.of_at (by simpa using hl) fun i v p C hp=>hi i v p (by simpa using C) hp⟩
theorem VR.tup_inv(x:VR W h v (.tup xs)):
  ∃a n vs,v= .ref a∧¬W a∧h.get? a=some {cls:=.type "tuple",data:=.seq (BL vs) n}∧DW W h vs xs:=by
 cases x with
 | @tup a n vs _ A B hl hi=>exact X3 a n vs.toList ⟨rfl,A,by simpa using B,DW.of_at (by simpa using hl) fun i v p C hp=>hi i v p (by simpa using C) hp⟩
theorem VR.int_inv(x:VR W h v (.int i)):∃t,v= .int i t:=by cases x with|int _ t=>exact⟨t,rfl⟩
theorem VR.str_inv(x:VR W h v (.str y)):∃t,v= .str y t:=by cases x with|str _ t=>exact⟨t,rfl⟩
theorem VR.bool_inv(x:VR W h v (.bool b)):v= .bool b:=by cases x;rfl
theorem VR.none_inv(x:VR W h v .none):v= .none:=by cases x;rfl
theorem Er{h:GY}{a:Ch}(A:h.get? a=some {cls:=.type "list",data:=.seq vs n}):h.IsList a vs:=⟨_,A,rfl,n,rfl⟩
structure Cx where
 mg:Ax→Option Ad
 mb:Ax→Option Ad
 objs:QA
structure TabAt(h:GY)(c P:Ch)(qual:Ax):Prop where
 hd:CodeHd h c P
 tab:∃ps,h.get? P=some (Lu ps)∧LK ps.toList∧∀pos v,LJ pos ps.toList=some v→∃c',v= .ref c'∧129≤c'∧h.CodeRec (.ref c') qual
structure DM(C:Cx)(s:AO):Prop where
 g:s.heap.Ns GV C.mg
 b:s.heap.Ns J5 C.mb
 objs:C.objs.In s.heap
 old:∀a o,C.objs.lookup a=some o→a<129∧¬Tb a
 lim:s.heap.NoLimit
 bm:∃bm o,C.mg "__builtins__"=some (.ref bm)∧bm<129∧¬Tb bm∧bm≠J5∧bm≠GV∧s.heap.get? bm=some o∧o.cls= .type "module"∧o.dict=some J5∧o.data= .plain
 t1:TabAt s.heap 117 115 "_law_basis.<locals>.<lambda>"
 t2:TabAt s.heap 127 125 "law.<locals>.<lambda>"
 low:129≤s.heap.objs.size
 bare:Kg s.gens
noncomputable def Gp(o:Obj):Prop:=∀vs q t,o.data= .fields vs→vs[1]?≠some (.str q t)
theorem Cg(h:129≤b):¬Tb b:=fun hb=>by rcases hb with hb|hb<;>(have A:(b:Nat)=_:=hb;omega)
theorem TabAt.keeps(T:TabAt h c P q)(O:c<129)(I:¬Tb c)(Q:∀o,h.get? P=some o→h'.get? P=some o)
  (k:∀b o,¬Tb b→(b<129∨¬Gp o)→h.get? b=some o→h'.get? b=some o):TabAt h' c P q:=by
 obtain⟨⟨o,vs,f,R,fl,S,J,tx,U,V,r⟩,ps,L,W,E⟩:=T;refine⟨X9 o vs f R fl S J tx U ⟨k c o I (.inl O) V,r⟩,ps,Q _ L,W,fun pos v e=>?_⟩;obtain⟨M,rfl,hl,⟨N,A,D,F,G,H,B,C⟩⟩:=E pos v e;cases G;exact⟨M,rfl,hl,X4 M A D F ⟨rfl,k M A (Cg hl) (.inr fun hp=>hp _ _ _ B C) H,B,C⟩⟩
theorem DM.keepsL(B:DM C s)(F:∀b o,Tb b→s.heap.get? b=some o→E.heap.get? b=some o)
  (k:∀b o,¬Tb b→(b<129∨¬Gp o)→s.heap.get? b=some o→E.heap.get? b=some o) (hz:129≤E.heap.objs.size) (hb:Kg E.gens):DM C E where
 g:=by refine Q6 B.g fun o es A D r=>?_;exact X3 o es A ⟨k _ _ (by unfold Tb;decide) (.inl dc) D,r⟩
 b:=by refine Q6 B.b fun o es A D r=>?_;exact X3 o es A ⟨k _ _ (by unfold Tb;decide) (.inl dc) D,r⟩
 objs:=fun a o e=>k a o (B.old a o e).2 (.inl (B.old a o e).1) (B.objs a o e)
 old:=B.old
 lim:=by obtain⟨I,⟨o,es,A,D,r⟩,q⟩:=B.lim;exact⟨I,X3 o es A ⟨k _ _ (by unfold Tb;decide) (.inl dc) D,r⟩,q⟩
 bm:=by refine ki B.bm fun bm o J G H L h5 M r=>?_;exact X2 bm o ⟨J,G,H,L,h5,k _ _ H (.inl G) M,r⟩
 t1:=B.t1.keeps dc (by unfold Tb;decide) (fun o=>F _ o (.inl rfl)) k
 t2:=B.t2.keeps dc (by unfold Tb;decide) (fun o=>F _ o (.inr rfl)) k
 low:=hz
 bare:=hb
theorem DM.keeps(B:DM C s)(D:∀b o,Tb b→s.heap.get? b=some o→A.heap.get? b=some o)
  (k:∀b o,¬Tb b→(b<129∨¬Gp o)→s.heap.get? b=some o→A.heap.get? b=some o) (hz:s.heap.objs.size≤A.heap.objs.size) (hb:Kg A.gens):DM C A:=B.keepsL D k (AA B.low hz) hb
structure Step(C:Cx)(X:AS)(s s':AO):Prop where
 keep:∀b o,¬X b→s.heap.get? b=some o→s'.heap.get? b=some o
 size:s.heap.objs.size≤s'.heap.objs.size
 gens:∀(g:Nat) st,s.gens[g]?=some st→s'.gens[g]?=some st
 os:s'.os=s.os
 toks:s.toks≤s'.toks
 base:DM C s→DM C s'
noncomputable abbrev D9(C:Cx):=Step C Tb
namespace Step
variable{C:Cx}{X Y:AS}{s s₁ s₂ s':AO}
theorem refl(s:AO):Step C X s s:=⟨fun A A A e=>e,AK _,fun A A e=>e,rfl,AK _,fun b=>b⟩
theorem comp(x:Step C X s s₁)(y:Step C Y s₁ s₂)(h:∀b,Y b→X b∨s.heap.objs.size≤b):Step C X s s₂ where
 keep:=fun b o hb e=>y.keep b o (fun A=>(h b A).elim hb fun hl=>absurd (BJ e) (A0.mpr hl)) (x.keep b o hb e)
 size:=AA x.size y.size
 gens:=fun g st e=>y.gens g st (x.gens g st e)
 os:=y.os.trans x.os
 toks:=AA x.toks y.toks
 base:=fun b=>y.base (x.base b)
theorem trans(x:Step C X s s₁)(y:Step C X s₁ s₂):Step C X s s₂:=x.comp y fun A h=>.inl h
theorem mono(x:Step C X s s₁)(h:∀b,X b→Y b):Step C Y s s₁:={x with keep:=fun b o hb e=>x.keep b o (fun hx=>hb (h b hx)) e}
theorem pure(x:Step C Y s s₁)(h:∀b,Y b→X b∨s.heap.objs.size≤b):Step C X s s₁:=(refl s).comp x h
theorem keeps(k:∀b o,s.heap.get? b=some o→h'.get? b=some o)(hz:s.heap.objs.size≤h'.objs.size)(D:s.toks≤t:=by first|exact AK _|assumption|exact BU _|(dsimp only;omega)):Step C X s {s with heap:=h',toks:=t} where
 keep:=fun b o A e=>k b o e
 size:=hz
 gens:=fun A A e=>e
 os:=rfl
 toks:=D
 base:=fun B=>B.keeps (fun b o A e=>k b o e) (fun b o A A e=>k b o e) hz B.bare
theorem tok(A:s.toks≤t:=by first|exact AK _|assumption|exact BU _|(dsimp only;omega)):Step C X s {s with toks:=t}:=keeps (fun B B e=>e) (AK _) A
theorem push(A:s.toks≤t:=by first|exact AK _|assumption|exact BU _|(dsimp only;omega)):Step C X s {s with heap:=s.heap.push o,toks:=t}:=keeps (fun B B e=>Am _ e) (by rw[BG];exact BU _) A
theorem write(hs:Ia a s.heap h')(A:129≤a)(E:X a)(hp:∀o,s.heap.get? a=some o→Gp o)(F:s.toks≤t:=by first|exact AK _|assumption|exact BU _|(dsimp only;omega)):Step C X s {s with heap:=h',toks:=t} where
 keep:=fun b o hb e=>(hs.2 b fun q=>hb (q▸E)).trans e
 size:=BC hs.1.symm
 gens:=fun D D e=>e
 os:=rfl
 toks:=F
 base:=fun B=>B.keeps (fun b o hb e=>(hs.2 b fun q=>Cg A (q▸hb)).trans e)
  (fun b o D hb e=>(hs.2 b fun q=>by subst q;rcases hb with hb|hb;exact absurd A (JH.mpr hb);exact hb (hp _ e)).trans e) (BC hs.1.symm) B.bare
end Step
theorem HK{h:GY}{a:Ch}(hn:h.Ns a m):∀o,h.get? a=some o→Gp o:=fun o e vs q t hd=>by
 refine V8 hn fun C es D B A _=>?_;cases e.symm.trans B;cases hd.symm.trans A
theorem O4{h:GY}{c:Ch}(hn:h.IsCell c v):∀o,h.get? c=some o→Gp o:=fun o e vs q t hd=>by
 refine Bz hn fun C B A=>?_;cases e.symm.trans B;cases hd.symm.trans A
theorem QZ{h:GY}{a:Ch}{x:Obj}(hx:h.get? a=some x)(hd:x.data= .seq vs n):∀o,h.get? a=some o→Gp o:=fun o e B q t A=>by
 cases e.symm.trans hx;cases hd.symm.trans A
inductive Slot where
 |unb
 |val (p:PV)
 |own (xs:List PV)
 |tk (y:Ax)
 |at (v:Ad) (p:PV)
noncomputable def nameOk(x:Ax):Bool:= !(x==("__debug__":Ax)) && !(x==("__classdict__":Ax))
theorem DF(h:nameOk x=true):(x==("__debug__":Ax))=false:=by
 unfold nameOk at h;simp only[A7,Dn]at h;exact h.1
theorem FE(h:nameOk x=true):x≠("__classdict__":Ax):=by
 unfold nameOk at h;simp only[A7,Dn]at h;exact fun e=>by rw[e]at h;simp at h
structure Good(k:Nat)(A:Bl):Prop where
 handled:A.handled=none
 depth:A.depth+8*k<700
 units:A.units+8*k<9000
theorem Good.deeper(G:Good (k+1) A):Good k (A.deeper env):=⟨G.handled,by have:=G.depth;exact AY (fE (by decide:1≤8)) this,by have:=G.units;exact AY (fE (by decide:3≤8)) this⟩
theorem Good.in1(G:Good (k+1) A):Good k A.in1:=⟨G.handled,by have:=G.depth;exact AY (AV (BE 8 (BU _)) _) this,by have:=G.units;exact kF this⟩
theorem Good.room(G:Good k A):A.depth<Hg:=by have:=G.depth;unfold Hg;exact AY (AM _ _) (B7 this dc)
theorem Good.less(G:Good k A)(h:j≤k):Good j A:=⟨G.handled,by have:=G.depth;exact AY (AV (BE 8 h) _) this,by have:=G.units;exact AY (AV (BE 8 h) _) this⟩
structure Fx where
 env:Ti
 U:AS
 N:AS
 Y:AS
noncomputable def Fx.M(F:Fx):AS:=fun b=>F.U b∨F.N b
noncomputable def Fx.W(F:Fx)(O:AS):AS:=fun b=>F.U b∨F.N b∨O b
noncomputable def Fx.X(F:Fx)(O:AS):AS:=fun b=>Tb b∨F.N b∨O b
noncomputable def DX(s:AO)(F:Fx)(O:AS):Slot→Option Ad→Prop
 |.unb,_=>True
 |.val p,v=>∃x,v=some x∧VR (F.W O) s.heap x p
 |.own xs,v=>∃a n vs,v=some (.ref a)∧O a∧¬F.U a∧¬F.N a∧s.heap.get? a=some {cls:=.type "list",data:=.seq (BL vs) n}∧DW (F.W O) s.heap vs xs
 |.tk y,v=>∃t,v=some (.str y t)∧0<t∧t<s.toks
 |.at u p,v=>v=some u∧VR (F.W O) s.heap u p
noncomputable abbrev Ci:=List (Ax×Slot)
noncomputable def St(F:Fx)(O:AS)(ρ κ:Ci)(s:AO)(V:Ax→Option Ad):Prop:=
  (∃m,s.heap.Ns F.env.locals m∧∀x,F.env.kindOf x=some .local→m x=V x)∧
  (∀x sl,(x,sl)∈ρ→F.env.kindOf x=some .local∨(F.env.kindOf x=some .cell∧∃c,F.env.cells.lookup x=some c∧F.N c∧s.heap.IsCell c (V x)))∧
  (∀x sl,(x,sl)∈κ→(F.env.kindOf x=some .cell∨F.env.kindOf x=some .free)∧∃c,F.env.cells.lookup x=some c∧(129≤c∧¬F.Y c)∧s.heap.IsCell c (V x))∧
  (∀x sl,(x,sl)∈ρ++κ→DX s F O sl (V x))∧
  (∀x y p q a,(x,.own p)∈ρ++κ→(y,.own q)∈ρ++κ→V x=some (.ref a)→V y=some (.ref a)→x=y)
structure Cj(C:Cx)(F:Fx)(O:AS)(ρ κ:Ci)(s:AO):Prop where
 base:DM C s
 kind:F.env.scope.kind= .function
 glob:F.env.globals=GV
 blt:F.env.builtins=J5
 tb:∀b,Tb b→F.U b
 yU:∀b,F.Y b→F.U b
 nU:∀b,F.N b→¬F.Y b
 lt:∀b,F.W O b→b<s.heap.objs.size
 hi:∀b,F.N b∨O b→129≤b
 lN:F.N F.env.locals
 cd:∀x y c,F.env.cells.lookup x=some c→F.env.cells.lookup y=some c→x=y
 nd:((ρ++κ).map (·.1)).Nodup
 ok:((ρ++κ).all fun p=>nameOk p.1)=true
 st:∃V:Ax→Option Ad,St F O ρ κ s V
theorem DX.stepY(x:Step C Z s G)(hz:∀b,Z b→F.U b)(h:DX s F O sl v):DX G F O sl v:=by
 have go:Goes (F.W O) s.heap (F.W O) G.heap:=fun b o hb H=>⟨x.keep b o (fun B=>hb (.inl (hz b B))) H,hb⟩;cases sl with
 |unb=>trivial
 |val p=>refine Bz h fun y e D=>?_;exact⟨y,e,D.goes go⟩
 |own xs=>refine V7 h fun a n vs e E A I J h5=>?_;exact X3 a n vs ⟨e,E,A,I,x.keep _ _ (fun B=>A (hz _ B)) J,h5.goes go⟩
 |tk y=>refine K8 h fun t e E A=>?_;exact⟨t,e,E,AF A x.toks⟩
 | «at» u p=>refine ER h fun e D=>?_;exact⟨e,D.goes go⟩
theorem Cj.stepY(R:Cj C F O ρ κ s)(x:Step C Z s I)(hz:∀b,Z b→Tb b∨F.Y b):Cj C F O ρ κ I where
 base:=x.base R.base
 kind:=R.kind
 glob:=R.glob
 blt:=R.blt
 tb:=R.tb
 yU:=R.yU
 nU:=R.nU
 lt:=fun b hb=>AF (R.lt b hb) x.size
 hi:=R.hi
 lN:=R.lN
 cd:=R.cd
 nd:=R.nd
 ok:=R.ok
 st:=by
  obtain⟨V,⟨m,⟨o,es,J,E,r⟩,L⟩,M,N,P,Q⟩:=R.st;have A:∀c v,129≤c→¬F.Y c→s.heap.IsCell c v→I.heap.IsCell c v:=fun c v S B ⟨o,E,hd⟩=>⟨o,x.keep _ _ (fun q=>(hz c q).elim (Cg S) B) E,hd⟩;refine⟨V,⟨m,X3 o es J ⟨x.keep _ _ (fun q=>(hz _ q).elim (Cg (R.hi _ (.inl R.lN))) (R.nU _ R.lN)) E,r⟩,L⟩,fun y sl B=>?_,fun y sl B=>?_,fun y sl B=>(P y sl B).stepY x fun b hb=>(hz b hb).elim (R.tb b) (R.yU b),Q⟩
  ·rcases M y sl B with h|⟨h,c,G,D,H⟩
   ·exact .inl h
   ·exact .inr ⟨h,c,G,D,A c _ (R.hi c (.inl D)) (R.nU _ D) H⟩
  ·obtain⟨h,c,G,D,H⟩:=N y sl B;exact⟨h,c,G,D,A c _ D.1 D.2 H⟩
theorem Cj.ext(R:Cj C F O ρ κ s)(x:D9 C s A):Cj C F O ρ κ A:=R.stepY x fun B h=>.inl h
theorem Fx.W_M{F:Fx}{O:AS}{h:GY}(x:VR (F.W O) h v p):VR F.M h v p:=
 x.goes fun A A hb B=>⟨B,fun C=>hb (C.elim .inl fun hn=>.inr (.inl hn))⟩
theorem Fx.Ws_M{F:Fx}{O:AS}{h:GY}(x:DW (F.W O) h v p):DW F.M h v p:=
 x.goes fun A A hb B=>⟨B,fun C=>hb (C.elim .inl fun hn=>.inr (.inl hn))⟩
noncomputable def Fx.V(F:Fx)(O:AS)(st:Bool):AS:=if st then F.W O else F.M
theorem Fx.V_tb(R:Cj C F O ρ κ s)(st:Bool):∀b,Tb b→F.V O st b:=fun b hb=>by
 cases st
 ·exact .inl (R.tb b hb)
 ·exact .inl (R.tb b hb)
theorem Fx.V_lt(R:Cj C F O ρ κ s)(st:Bool):∀b,F.V O st b→b<s.heap.objs.size:=fun b hb=>by
 cases st
 ·exact R.lt b (Or.elim hb .inl fun h=>.inr (.inl h))
 ·exact R.lt b hb
theorem Fx.W_V{F:Fx}{O:AS}{st:Bool}(x:VR (F.W O) h v p):VR (F.V O st) h v p:=by
 cases st
 ·exact Fx.W_M x
 ·exact x
theorem Fx.V_M{F:Fx}{O:AS}{st:Bool}(x:VR (F.V O st) h v p):VR F.M h v p:=by
 cases st
 ·exact x
 ·exact Fx.W_M x
theorem VR.ext(x:VR W s.heap v p)(A:∀b,Tb b→W b)(e:D9 C s B):VR W B.heap v p:=
 x.goes fun b o hb D=>⟨e.keep b o (fun E=>hb (A b E)) D,hb⟩
theorem DW.ext(x:DW W s.heap v p)(A:∀b,Tb b→W b)(e:D9 C s B):DW W B.heap v p:=
 x.goes fun b o hb D=>⟨e.keep b o (fun E=>hb (A b E)) D,hb⟩
structure Zx where
 prog:IZ
 w:P'
 C:Cx
noncomputable def b9:Ci→Nat→Ax×Slot
 |[],_=>("",.unb)
 |y::_,0=>y
 |_::l,n+1=>b9 l n
theorem AD:∀{ρ:Ci}(i:Nat)(_:Nat.blt i ρ.length=true),b9 ρ i∈ρ:=by
 intro ρ
 induction ρ with
 |nil=>intro i h;cases i<;>cases h
 |cons a l A=>intro i h;cases i with
  |zero=>exact AB
  |succ i=>exact AG _ (A i h)
structure PE(Z:Zx)(k:Nat)(F:Fx)(ρ κ:Ci)(st:Bool)(e:Aj)(p:PV):Prop where
 ofRun::
 run:
  ∀(A:Bl)(O:AS)(s:AO)(Q:Ad→AO→Prop)(E:Ad→AO→Prop),Good k A→Cj Z.C F O ρ κ s→
   (∀v s',VR (F.V O st) s'.heap v p→D9 Z.C s s'→Q v s')→Af (Ar Z.prog Z.w) A (D4 e F.env) Q E s
structure PB(Z:Zx)(k:Nat)(F:Fx)(ρ κ:Ci)(e:Aj)(b:Bool):Prop where
 ofRun::
 run:
  ∀(A:Bl)(O:AS)(s:AO)(Q:Bool→AO→Prop)(E:Ad→AO→Prop),Good k A→Cj Z.C F O ρ κ s→
   (∀s',D9 Z.C s s'→Q b s')→Af (Ar Z.prog Z.w) A (isTrue e F.env (D4 e F.env)) Q E s
noncomputable def CW(e:Aj):Bool:=(EV e e).1==1
theorem B9(h:CW e=false):B_ (e::es) env=(false,D4 e env)::B_ es env:=by
 cases e<;>first|rfl|cases h
structure JY(Z:Zx)(k:Nat)(F:Fx)(ρ κ:Ci)(st:Bool)(es:List Aj)(ps:List PV):Prop where
 ofRun::
 run:
  ∀(A:Bl)(O:AS)(s:AO)(pos:JE)(Q:List Ad→AO→Prop)(E:Ad→AO→Prop),Good k A→Cj Z.C F O ρ κ s→
   (∀vs s',DW (F.V O st) s'.heap vs ps→D9 Z.C s s'→Q vs s')→Af (Ar Z.prog Z.w) A (FU (DO pos (B_ es F.env))) Q E s
noncomputable def PV.flat:PV→Bool
 |.list _|.tup _|.clo ..=>false
 |_=>true
theorem VR.flat(x:VR W h v p)(hp:p.flat=true):VR W' h' v p:=by
 cases x with
 |none=>exact .none
 |bool b=>exact .bool b
 |int i t=>exact .int i t
 |str x t=>exact .str x t
 |_=>cases hp
section
variable{Z:Zx}{k:Nat}{F:Fx}{ρ κ:Ci}{st:Bool}
theorem PE.up(h:PE Z k F ρ κ false e p)(hp:autoParam (p.flat=true) ar):PE Z k F ρ κ st e p:=
 .ofRun fun A O s Q E G R B=>h.run A O s Q E G R fun v C D x=>B v C (D.flat hp) x
theorem PE.cint:PE Z k F ρ κ st (.Constant (.int i) n pos) (.int i):=.ofRun fun A O s Q E G R B=>by
 show Af _ _ (mkInt i) _ _ _;exact wpAny_mkInt (B _ _ (.int ..) .tok)
theorem PE.cstr:PE Z k F ρ κ st (.Constant (.str x) n pos) (.str x):=.ofRun fun A O s Q E G R B=>by
 show Af _ _ (mkText x) _ _ _;exact wpAny_mkText (B _ _ (.str ..) .tok)
theorem PE.cbool:PE Z k F ρ κ st (.Constant (.bool b) n pos) (.bool b):=.ofRun fun A O s Q E G R B=>by
 show Af _ _ (pure (QB b)) _ _ _;exact AX (B _ _ (.bool ..) (.refl _))
theorem PE.cnone:PE Z k F ρ κ st (.Constant .none n pos) .none:=.ofRun fun A O s Q E G R B=>by
 show Af _ _ (pure D_) _ _ _;exact AX (B _ _ .none (.refl _))
theorem Cj.load(R:Cj C F O ρ κ s)(hx:(x,sl)∈ρ++κ)
  (hd:x≠("__classdict__":Ax)) (I:sl≠ .unb) (h:∀v,DX s F O sl (some v)→Q v s):Af M A (loadName F.env x) Q E s:=by
 obtain⟨V,⟨m,hn,J⟩,L,N,P,S⟩:=R.st;have hs:=P x sl hx;have D:∃v,V x=some v:=by
  cases sl with
  |unb=>exact absurd rfl I
  |val p=>refine Bz hs fun v e _=>?_;exact⟨v,e⟩
  |own p=>refine Q6 hs fun a _ _ e _=>?_;exact⟨_,e⟩
  |tk y=>refine Bz hs fun t e _=>?_;exact⟨_,e⟩
  | «at» u p=>refine ER hs fun e _=>?_;exact⟨_,e⟩
 refine B8 D fun v D=>?_;rw[D]at hs;rcases AR.mp hx with G | G
 ·rcases L x sl G with hl|⟨hl,c,H,_,B⟩
  ·exact NP R.kind hl hn ((J x hl).trans D) (h v hs)
  ·exact Nz R.kind hl H (D▸B) (h v hs)
 ·obtain⟨hl,c,H,_,B⟩:=N x sl G;rcases hl with hl|hl
  ·exact Nz R.kind hl H (D▸B) (h v hs)
  ·exact wpAny_loadName_free R.kind hl H (D▸B) (h v hs) (by simpa using hd)
theorem Cj.nameOk(R:Cj C F O ρ κ s)(hx:(x,sl)∈ρ++κ):nameOk x=true:=Al.mp R.ok _ hx
theorem PE.name(hx:(x,.val p)∈ρ++κ):PE Z k F ρ κ st (.Name x pos) p:=.ofRun fun A O s Q E G R C=>
 Ed (R.load hx (FE (R.nameOk hx)) (by intro h;cases h) fun v B=>by refine Bz B fun _ e D=>?_;cases e;exact C v s (Fx.W_V D) (.refl _)) (DF (R.nameOk hx))
theorem PE.nameO(hx:(x,.own xs)∈ρ++κ):PE Z k F ρ κ false (.Name x pos) (.list xs):=.ofRun fun A O s Q E G R C=>
 Ed (R.load hx (FE (R.nameOk hx)) (by intro h;cases h) fun v B=>by
  refine V7 B fun a n vs e L D H I h5=>?_;cases e;exact C _ s (VR.listOf (W:=F.M) (fun J=>J.elim D H) I (Fx.Ws_M h5)) (.refl _)) (DF (R.nameOk hx))
theorem PE.nameT(hx:(x,.tk y)∈ρ++κ):PE Z k F ρ κ st (.Name x pos) (.str y):=.ofRun fun A O s Q E G R C=>
 Ed (R.load hx (FE (R.nameOk hx)) (by intro h;cases h) fun v B=>by
  refine Bz B fun t e _=>?_;cases e;exact C _ s (.str ..) (.refl _)) (DF (R.nameOk hx))
theorem PE.nameA(hx:(x,.at u p)∈ρ++κ):PE Z k F ρ κ st (.Name x pos) p:=.ofRun fun A O s Q E G R C=>
 Ed (R.load hx (FE (R.nameOk hx)) (by intro h;cases h) fun v B=>by
  refine ER B fun e D=>?_;cases e;exact C _ s (Fx.W_V D) (.refl _)) (DF (R.nameOk hx))
theorem JY.nil:JY Z k F ρ κ st [] []:=.ofRun fun A O s pos Q E G R B=>AX (B [] s trivial (.refl _))
theorem JY.cons(h:PE Z k F ρ κ st e p)(hs:JY Z k F ρ κ st es ps)(C:autoParam (CW e=false) ar):
  JY Z k F ρ κ st (e::es) (p::ps):=.ofRun fun A O s pos Q E G R D=>by
 rw[B9 C];show Af _ _ (D4 e F.env>>=fun v=>(pure [v]:Ku (List Ad))>>=fun here=>D3 here (FU (DO pos (B_ es F.env)))>>=fun r=>pure (here++r)) _ _ _;refine AJ (h.run A O s _ _ G R fun v H I x=>?_);refine AJ (AX (AJ (BV (hs.run A O H pos _ _ G (R.ext x) fun vs J B y=>?_))));exact AX (D _ _ ⟨I.ext (Fx.V_tb R st) y,B⟩ (x.trans y))
theorem KT(D:vs.length≤Ey)
  (h:∀B:AO,D9 C s B→B.heap.get? s.heap.objs.size=some {cls:=.type "list",data:=.seq vs.toArray}→B.heap.objs.size=s.heap.objs.size+1→Q (.ref s.heap.objs.size) B):Af M A (newList vs) Q E s:=
 D1 (h _ (.push (t:=s.toks)) (A4 _ rfl) (BG ..)) (by show vs.toArray.size≤Ey;rw[Ab];exact D)
theorem Ft(D:vs.length≤Ey)
  (h:∀B:AO,D9 C s B→B.heap.get? s.heap.objs.size=some {cls:=.type "tuple",data:=.seq vs.toArray}→B.heap.objs.size=s.heap.objs.size+1→Q (.ref s.heap.objs.size) B):Af M A (newTuple vs) Q E s:=
 D1 (h _ (.push (t:=s.toks)) (A4 _ rfl) (BG ..)) (by show vs.toArray.size≤Ey;rw[Ab];exact D)
theorem Pu{W:AS}{s:AO}(h:∀b,W b→b<s.heap.objs.size):¬W s.heap.objs.size:=fun q=>As _ (h _ q)
theorem PE.list{es:List Aj}{ps:List PV}(h:JY Z k F ρ κ st es ps)(C:ps.length≤1000:=by exact C7 rfl):PE Z k F ρ κ st (.List es pos) (.list ps):=.ofRun fun A O s Q E G R D=>
 List_ (h.run A O s pos _ _ G R fun vs J B x=>KT (by rw[B.length,Ay];exact cc C) fun H y I L=>D _ _
  (VR.listOf (fun q=>Pu (fun b hb=>Fx.V_lt (R.ext x) st b hb) q) I (B.ext (Fx.V_tb R st) y)) (x.trans y))
theorem PE.tuple{es:List Aj}{ps:List PV}(h:JY Z k F ρ κ st es ps)(C:ps.length≤1000:=by exact C7 rfl):PE Z k F ρ κ st (.Tuple es n pos) (.tup ps):=.ofRun fun A O s Q E G R D=>
 dk (h.run A O s pos _ _ G R fun vs J B x=>Ft (by rw[B.length,Ay];exact cc C) fun H y I L=>D _ _
  (VR.tupOf (fun q=>Pu (fun b hb=>Fx.V_lt (R.ext x) st b hb) q) I (B.ext (Fx.V_tb R st) y)) (x.trans y))
end
mutual
noncomputable def PV.d:PV→PyData
 |.none=>.none
 |.bool b=>.bool b
 |.int i=>.int i
 |.str x=>.str x
 |.list xs=>.list (PV.ds xs)
 |.tup xs=>.tuple (PV.ds xs)
 |.clo _ _=>.dict []
noncomputable def PV.ds:List PV→List PyData
 |[]=> []
 |x::xs=>PV.d x::PV.ds xs
end
theorem KR:∀{vs:List Ad}{ps:List PV},vs.length=ps.length→(∀(i:Nat) v p,vs[i]?=some v→ps[i]?=some p→∃A,Reads h v p.d A)→∃A,ReadsAll h vs (PV.ds ps) A
 |[],[],_,_=>⟨[],.nil⟩
 |v::vs,p::ps,hl,hi=>by
  refine B8 (hi 0 v p rfl rfl) fun A r=>?_;refine B8 (KR (vs:=vs) (ps:=ps) (by simpa using hl) fun i v p B hp=>hi (i+1) v p (by simpa using B) (by simpa using hp)) fun bs C=>?_;exact⟨A++bs,.cons r C⟩
 |[],_::_,hl,_=>by cases hl
 |_::_,[],hl,_=>by cases hl
theorem I2:∀{ps:List PV}{i:Nat}{p:PV},Bi (PV.ds ps)=true→ps[i]?=some p→p.d.canLay0=true
 |q::ps,0,p,h,e=>by
  cases e;exact((A7 _ _).mp h).1
 |q::ps,i+1,p,h,e=>by
  exact I2 ((A7 _ _).mp h).2 (by simpa using e)
theorem VR.reads(x:VR W h v p)(A:p.d.canLay0=true):∃B,Reads h v p.d B:=by
 induction x with
 |none=>exact⟨[],.none⟩
 |bool b=>exact⟨[],.bool b⟩
 |int i t=>exact⟨[],.int i t⟩
 |str x t=>exact⟨[],.str x t⟩
 | @list a n vs xs F C hl hi D=>
  refine B8 (KR (vs:=vs.toList) (ps:=xs) (by simpa using hl) fun i v p E hp=>D i v p (by simpa using E) hp (I2 A hp)) fun B r=>?_;exact⟨_,.list C rfl rfl r⟩
 | @tup a n vs xs F C hl hi D=>
  refine B8 (KR (vs:=vs.toList) (ps:=xs) (by simpa using hl) fun i v p E hp=>D i v p (by simpa using E) hp (I2 A hp)) fun B r=>?_;exact⟨_,.tuple C rfl rfl r⟩
 |clo=>cases A
section
variable{Z:Zx}{k:Nat}{F:Fx}{ρ κ:Ci}{st:Bool}
theorem PE.bin2(hl:PE Z k F ρ κ st l p)(hr:PE Z k F ρ κ st r q)
  (H:∀A O s v u Q E,Good k A→Cj Z.C F O ρ κ s→VR (F.V O st) s.heap v p→VR (F.V O st) s.heap u q→(∀x C,VR (F.V O st) C.heap x res→D9 Z.C s C→Q x C)→Af (Ar Z.prog Z.w) A (binaryOp D v u) Q E s):
  PE Z k F ρ κ st (.BinOp l D r pos) res:=.ofRun fun A O s Q E G R I=>
 SP (hl.run A O s _ _ G R fun v B J x=>hr.run A O B _ _ G (R.ext x) fun u s₂ L y=>H A O s₂ v u Q E G ((R.ext x).ext y) (J.ext (Fx.V_tb R st) y) L fun z s₃ hz w=>I z s₃ hz ((x.trans y).trans w))
theorem PE.add(hl:PE Z k F ρ κ false l (.int a))(hr:PE Z k F ρ κ false r (.int b)):PE Z k F ρ κ st (.BinOp l .Add r pos) (.int (a+b)):=
 .up (.bin2 hl hr fun A O s v u Q E G R C D H=>by refine B8 C.int_inv fun t B=>?_;subst B;refine B8 D.int_inv fun I B=>?_;subst B;exact PyProof.Rows.add_int (H _ _ (.int ..) .tok))
theorem PE.sub(hl:PE Z k F ρ κ false l (.int a))(hr:PE Z k F ρ κ false r (.int b)):PE Z k F ρ κ st (.BinOp l .Sub r pos) (.int (a-b)):=
 .up (.bin2 hl hr fun A O s v u Q E G R C D H=>by refine B8 C.int_inv fun t B=>?_;subst B;refine B8 D.int_inv fun I B=>?_;subst B;exact PyProof.Rows.sub_int (H _ _ (.int ..) .tok))
theorem PE.mul(hl:PE Z k F ρ κ false l (.int a))(hr:PE Z k F ρ κ false r (.int b))(C:IntMulOk a b):PE Z k F ρ κ st (.BinOp l .Mult r pos) (.int (a*b)):=
 .up (.bin2 hl hr fun A O s v u Q E G R D H I=>by refine B8 D.int_inv fun t B=>?_;subst B;refine B8 H.int_inv fun J B=>?_;subst B;exact PyProof.Rows.mul_int (I _ _ (.int ..) .tok) C)
theorem PE.mod(hl:PE Z k F ρ κ false l (.int a))(hr:PE Z k F ρ κ false r (.int b))(hb:b≠0):PE Z k F ρ κ st (.BinOp l .Mod r pos) (.int (a.fmod b)):=
 .up (.bin2 hl hr fun A O s v u Q E G R C D H=>by refine B8 C.int_inv fun t B=>?_;subst B;refine B8 D.int_inv fun I B=>?_;subst B;exact PyProof.Rows.mod_int' hb (H _ _ (.int ..) .tok))
theorem PE.fdiv(hl:PE Z k F ρ κ false l (.int a))(hr:PE Z k F ρ κ false r (.int b))(hb:b≠0)(hs:b.natAbs<1073741824):PE Z k F ρ κ st (.BinOp l .FloorDiv r pos) (.int (a.fdiv b)):=
 .up (.bin2 hl hr fun A O s v u Q E G R C D H=>by refine B8 C.int_inv fun t B=>?_;subst B;refine B8 D.int_inv fun I B=>?_;subst B;exact PyProof.Rows.floordiv_int hb (H _ _ (.int ..) .tok) (.inl (PyProof.noPylong_small hs)))
theorem PE.pow(hl:PE Z k F ρ κ false l (.int a))(hr:PE Z k F ρ κ false r (.int n))(hn:0≤n)(C:n≤1000000)(D:a.natAbs<2^64):PE Z k F ρ κ st (.BinOp l .Pow r pos) (.int (a^n.toNat)):=
 .up (.bin2 hl hr fun A O s v u Q E G R H I J=>by refine B8 H.int_inv fun t B=>?_;subst B;refine B8 I.int_inv fun L B=>?_;subst B;exact PyProof.Rows.pow_int_small hn C D (J _ _ (.int ..) .tok))
theorem PE.shl(hl:PE Z k F ρ κ false l (.int a))(hr:PE Z k F ρ κ false r (.int n))(hn:0≤n)(C:n≤1000000)(D:a.natAbs<2^64):PE Z k F ρ κ st (.BinOp l .LShift r pos) (.int (a*2^n.toNat)):=
 .up (.bin2 hl hr fun A O s v u Q E G R H I J=>by refine B8 H.int_inv fun t B=>?_;subst B;refine B8 I.int_inv fun L B=>?_;subst B;exact PyProof.Rows.lshift_int_small hn C D (J _ _ (.int ..) .tok))
theorem PE.shr(hl:PE Z k F ρ κ false l (.int a))(hr:PE Z k F ρ κ false r (.int n))(hn:0≤n):PE Z k F ρ κ st (.BinOp l .RShift r pos) (.int (a.fdiv (2^n.toNat))):=
 .up (.bin2 hl hr fun A O s v u Q E G R C D H=>by refine B8 C.int_inv fun t B=>?_;subst B;refine B8 D.int_inv fun I B=>?_;subst B;exact PyProof.Rows.rshift_int hn (H _ _ (.int ..) .tok))
theorem PE.band(hl:PE Z k F ρ κ false l (.int a))(hr:PE Z k F ρ κ false r (.int b)):PE Z k F ρ κ st (.BinOp l .BitAnd r pos) (.int (IJ a b)):=
 .up (.bin2 hl hr fun A O s v u Q E G R C D H=>by refine B8 C.int_inv fun t B=>?_;subst B;refine B8 D.int_inv fun I B=>?_;subst B;exact PyProof.Rows.and_int (H _ _ (.int ..) .tok))
theorem PE.bxor(hl:PE Z k F ρ κ false l (.int a))(hr:PE Z k F ρ κ false r (.int b)):PE Z k F ρ κ st (.BinOp l .BitXor r pos) (.int (Kv a b)):=
 .up (.bin2 hl hr fun A O s v u Q E G R C D H=>by refine B8 C.int_inv fun t B=>?_;subst B;refine B8 D.int_inv fun I B=>?_;subst B;exact PyProof.Rows.xor_int (H _ _ (.int ..) .tok))
theorem PE.neg(h:PE Z k F ρ κ false e (.int a)):PE Z k F ρ κ st (.UnaryOp .USub e pos) (.int (-a)):=
 .up<| .ofRun fun A O s Q E G R D=>UnaryOp_ (h.run A O s _ _ G R fun v C H x=>by refine B8 H.int_inv fun t B=>?_;subst B;exact PyProof.Rows.neg_int (D _ _ (.int ..) (x.trans .tok)))
theorem PE.addS(hl:PE Z k F ρ κ false l (.str a))(hr:PE Z k F ρ κ false r (.str b))(hz:a.length+b.length≤Ey):PE Z k F ρ κ st (.BinOp l .Add r pos) (.str (a++b)):=
 .up (.bin2 hl hr fun A O s v u Q E G R C D H=>by refine B8 C.str_inv fun t B=>?_;subst B;refine B8 D.str_inv fun I B=>?_;subst B;exact CG (PyProof.Rows.add_str (fun I tk u=>H _ _ (.str ..) (.tok u.2)) hz))
noncomputable def C5(Z:Zx)(k:Nat)(B:CmpOp)(p q:PV)(b:Bool):Prop:=
 ∀A (W:AS) (s:AO) v u (Q:Ad→AO→Prop) E,Good k A→VR W s.heap v p→VR W s.heap u q→(∀t,s.toks≤t→Q (.bool b) {s with toks:=t})→Af (Ar Z.prog Z.w) A (compareOp B v u) Q E s
theorem PE.cmp(hl:PE Z k F ρ κ false l p)(hr:PE Z k F ρ κ false r q)(H:C5 Z k C p q b)(D:autoParam (IY C r=false) ar):PE Z k F ρ κ st (.Compare l [C] [r] pos) (.bool b):=
 .up<| .ofRun fun A O s Q E G R I=>wpAny_Compare1 (hl.run A O s _ _ G R fun v B J x=>hr.run A O B _ _ G (R.ext x) fun u s₂ L y=>H A _ s₂ v u Q E G (J.ext (Fx.V_tb R false) y) L fun t M=>I _ _ (.bool ..) ((x.trans y).trans (.tok M))) D
theorem PB.cmp(hl:PE Z k F ρ κ false l p)(hr:PE Z k F ρ κ false r q)(H:C5 Z k C p q b)(D:autoParam (IY C r=false) ar):PB Z k F ρ κ (.Compare l [C] [r] pos) b:=
 .ofRun fun A O s Q E G R I=>wpAny_isTrue_Compare1 (hl.run A O s _ _ G R fun v B J x=>hr.run A O B _ _ G (R.ext x) fun u s₂ L y=>H A _ s₂ v u _ E G (J.ext (Fx.V_tb R false) y) L fun t M=>P5 (I _ ((x.trans y).trans (.tok M)))) D
theorem C5.eqI:C5 Z k .Eq (.int a) (.int b) (a==b):=fun A W s v u Q E G C D H=>by refine B8 C.int_inv fun t B=>?_;subst B;refine B8 D.int_inv fun I B=>?_;subst B;exact PyProof.Rows.eq_int (H s.toks (AK _))
theorem C5.neI:C5 Z k .NotEq (.int a) (.int b) (a !=b):=fun A W s v u Q E G C D H=>by refine B8 C.int_inv fun t B=>?_;subst B;refine B8 D.int_inv fun I B=>?_;subst B;exact PyProof.Rows.ne_int (H s.toks (AK _))
theorem C5.ltI:C5 Z k .Lt (.int a) (.int b) (decide (a<b)):=fun A W s v u Q E G C D H=>by refine B8 C.int_inv fun t B=>?_;subst B;refine B8 D.int_inv fun I B=>?_;subst B;exact QI (H s.toks (AK _))
theorem C5.gtI:C5 Z k .Gt (.int a) (.int b) (decide (b<a)):=fun A W s v u Q E G C D H=>by refine B8 C.int_inv fun t B=>?_;subst B;refine B8 D.int_inv fun I B=>?_;subst B;exact PyProof.Rows.gt_int (H s.toks (AK _))
theorem C5.geI:C5 Z k .GtE (.int a) (.int b) (decide (b≤a)):=fun A W s v u Q E G C D H=>by refine B8 C.int_inv fun t B=>?_;subst B;refine B8 D.int_inv fun I B=>?_;subst B;exact PyProof.Rows.ge_int (H s.toks (AK _))
theorem C5.eqS:C5 Z k .Eq (.str a) (.str b) (a==b):=fun A W s v u Q E G C D H=>by refine B8 C.str_inv fun t B=>?_;subst B;refine B8 D.str_inv fun I B=>?_;subst B;exact PyProof.Rows.eq_str (H s.toks (AK _))
theorem C5.neS:C5 Z k .NotEq (.str a) (.str b) (a !=b):=fun A W s v u Q E G C D H=>by refine B8 C.str_inv fun t B=>?_;subst B;refine B8 D.str_inv fun I B=>?_;subst B;exact PyProof.Rows.ne_str (H s.toks (AK _))
theorem C5.inS:C5 Z k .In (.str a) (.str b) (B6 b a):=fun A W s v u Q E G C D H=>by refine B8 C.str_inv fun t B=>?_;subst B;refine B8 D.str_inv fun I B=>?_;subst B;exact SB.contains (H s.toks (AK _))
theorem C5.notInS:C5 Z k .NotIn (.str a) (.str b) (!B6 b a):=fun A W s v u Q E G C D H=>by refine B8 C.str_inv fun t B=>?_;subst B;refine B8 D.str_inv fun I B=>?_;subst B;exact SB.notContains (H s.toks (AK _))
theorem VR.not_none(x:VR W h v p)(hp:p≠ .none):v≠ .none:=by
 intro e;subst e;cases x;exact hp rfl
theorem C5.isNone:C5 Z k .Is .none .none true:=fun A W s v u Q E G B C D=>by rw[B.none_inv,C.none_inv];exact is_none_none (D s.toks (AK _))
theorem C5.isNoneF(hp:p≠ .none:=by intro h;cases h):C5 Z k .Is p .none false:=fun A W s v u Q E G B C D=>by rw[C.none_inv];exact is_none_ne (B.not_none hp) (D s.toks (AK _))
theorem C5.isNotB:C5 Z k .IsNot (.bool a) (.bool b) (a !=b):=fun A W s v u Q E G B C D=>by rw[B.bool_inv,C.bool_inv];exact isnot_bool (D s.toks (AK _))
theorem C5.eqD(hp:p.d.canLay0=true)(B:q.d.canLay0=true)(hd:p.d.depth≤64∨q.d.depth≤64):C5 Z k .Eq p q (DB p.d q.d):=fun A W s v u Q E G C D H=>by
 refine B8 (C.reads hp) fun J I=>?_;refine B8 (D.reads B) fun bs rb=>?_;exact SeqAt.compareEq_reads I rb hp B (by have:=G.units;unfold Y0;exact e1 hd this) (H s.toks (AK _))
theorem C5.inL(hp:p.d.canLay0=true)(B:Bi (PV.ds xs)=true)(hd:p.d.depth≤64):C5 Z k .In p (.list xs) ((PV.ds xs).any fun y=>DB y p.d):=fun A W s v u Q E G C D H=>by
 refine B8 (C.reads hp) fun J I=>?_;refine B8 (D.reads B) fun bs rb=>?_;exact SeqAt.in_list_reads rb I B hp (by have:=G.units;unfold Y0;exact ca hd this) (H s.toks (AK _))
theorem C5.notInL(hp:p.d.canLay0=true)(B:Bi (PV.ds xs)=true)(hd:p.d.depth≤64):C5 Z k .NotIn p (.list xs) (!(PV.ds xs).any fun y=>DB y p.d):=fun A W s v u Q E G C D H=>by
 refine B8 (C.reads hp) fun J I=>?_;refine B8 (D.reads B) fun bs rb=>?_;exact SeqAt.notIn_list_reads rb I B hp (by have:=G.units;unfold Y0;exact ca hd this) (H s.toks (AK _))
theorem C5.inT(hp:p.d.canLay0=true)(B:Bi (PV.ds xs)=true)(hd:p.d.depth≤64):C5 Z k .In p (.tup xs) ((PV.ds xs).any fun y=>DB y p.d):=fun A W s v u Q E G C D H=>by
 refine B8 (C.reads hp) fun J I=>?_;refine B8 (D.reads B) fun bs rb=>?_;exact SeqAt.in_tuple_reads rb I B hp (by have:=G.units;unfold Y0;exact ca hd this) (H s.toks (AK _))
noncomputable def MJ(e:Aj):Bool:=(EV e e).1==2
theorem FY(h:MJ A=false)(o i:Ad):Kc A false o i=ZE [o,i] (Tf o i):=by
 cases A<;>first|rfl|cases h
theorem Kk{C B:Aj}{o i:Ad}{T id:String}{G:List Ad}(H:s.TypeIs o T)
  (hl:typeLookup (.type T) "__getitem__"=pure (some (.builtin id))) (h:Af (Ar Z.prog Z.w) A (Tf o i) Q E s)
  (hs:Kc B false o i=ZE G (Tf o i)):
  Af (Ar Z.prog Z.w) A (subscriptTail C B o i) Q E s:=by
 unfold subscriptTail;refine AJ ?_;rw[getitemInPython_of_ne H.not_modules];refine AJ (Mf H hl ?_);have fin:Af (Ar Z.prog Z.w) A (Kc B false o i) (fun r s₃=>Af (Ar Z.prog Z.w) A (letTemporaryGo C o r>>=fun I=>pure r) Q E s₃) E s:=by
  rw[hs];exact wpAny_operating (B1 h (fun r s₃ D=>AJ (wpAny_letTemporaryGo (AX D))) fun I I x=>x)
 first
  |exact AX (AJ fin)
  |exact AJ (AX (AJ fin))
  |exact AJ fin
theorem HI(h:Db i n=some j):j<n∧((0≤i∧j=i.toNat)∨(i<0∧-(n:Int)≤i∧j=(i+n).toNat)):=by
 unfold Db at h;by_cases hi:i<0
 ·simp only[hi,if_true]at h;split at h
  ·rename_i A;simp only[A7,decide_eq_true_eq]at A;cases h;exact⟨lY hi A,.inr ⟨hi,Int.zero_sub (_:Int)▸Int.sub_right_le_of_le_add A.1,rfl⟩⟩
  ·cases h
 ·simp only[hi,if_false]at h;split at h
  ·rename_i A;simp only[A7,decide_eq_true_eq]at A;cases h;exact⟨g6 hi A,.inl ⟨Cp.mp hi,rfl⟩⟩
  ·cases h
theorem PE.itemL(P:PE Z k F ρ κ false H (.list xs))(hi:PE Z k F ρ κ false B (.int i))
  (V:Db i xs.length=some j) (hp:xs[j]?=some p) (hz:xs.length≤1000000) (W:autoParam (p.flat=true) ar) (hs:autoParam (MJ B=false) ar):PE Z k F ρ κ st (.Subscript H B pos) p:=
 .up (hp:=W)<| .ofRun fun A O s Q E G R X=>Lv (P.run A O s _ _ G R fun v N P x=>hi.run A O N _ _ G (R.ext x) fun u s₂ Y y=>by
  refine IW ((P.ext (Fx.V_tb R false) y).list_inv) fun a n vs I c b J=>?_;subst I;refine B8 Y.int_inv fun t I=>?_;subst I;have S:=Er b;have C:vs.toArray.size=xs.length:=by rw[Ab];exact J.length
  refine ER (HI V) fun D L=>?_;have M:vs[j]?=some (vs[j]'(by rw[J.length];exact D)):=AL _;have fin:=X _ s₂ (J.at j _ p M hp) (x.trans y);refine Kk S.typeIs slot_list_getitem.lookup ?_ (FY hs _ _);rcases L with⟨T,rfl⟩|⟨T,U,rfl⟩
  ·exact wpAny_getItem_list S T (fJ hz D) (by simpa using M) fin
  ·exact wpAny_getItem_list_neg S T (by rw[C];exact U) (Av (L0 (Av (A3.mpr hz) dc)) U) (by rw[C];simpa using M) fin)
theorem PE.itemT(N:PE Z k F ρ κ false H (.tup xs))(hi:PE Z k F ρ κ false B (.int i))
  (P:Db i xs.length=some j) (hp:xs[j]?=some p) (hz:xs.length≤1000000) (T:autoParam (p.flat=true) ar) (hs:autoParam (MJ B=false) ar):PE Z k F ρ κ st (.Subscript H B pos) p:=
 .up (hp:=T)<| .ofRun fun A O s Q E G R U=>Lv (N.run A O s _ _ G R fun v L N x=>hi.run A O L _ _ G (R.ext x) fun u s₂ V y=>by
  refine IW ((N.ext (Fx.V_tb R false) y).tup_inv) fun a n vs I X W J=>?_;subst I;refine B8 V.int_inv fun t I=>?_;subst I;have S:bd s₂.heap a vs.toArray:=⟨_,W,rfl,n,rfl⟩;refine ER (HI P) fun D C=>?_;have M:vs[j]?=some (vs[j]'(by rw[J.length];exact D)):=AL _;have fin:=U _ s₂ (J.at j _ p M hp) (x.trans y);refine Kk S.typeIs slot_tuple_getitem.lookup ?_ (FY hs _ _);exact PyProof.Rows.getItem_tuple S (hO hz C) (C.elim (fun w=>fJ hz (w.2▸D)) fun w=>Iy w.1 dc) (by rw[Ab,J.length];exact P) (by simpa using M) fin)
theorem PE.itemS(L:PE Z k F ρ κ false C (.str a))(hi:PE Z k F ρ κ false B (.int i))
  (M:Db i a.length=some j) (N:a.cps[j]?=some c) (hz:a.length≤1000000) (hs:autoParam (MJ B=false) ar):PE Z k F ρ κ st (.Subscript C B pos) (.str ⟨#[c]⟩):=
 .up<| .ofRun fun A O s Q E G R P=>Lv (L.run A O s _ _ G R fun v I L x=>hi.run A O I _ _ G (R.ext x) fun u s₂ S y=>by
  refine B8 L.str_inv fun t D=>?_;subst D;refine B8 S.int_inv fun T D=>?_;subst D;refine ER (HI M) fun J H=>?_;refine Kk (IG _ _ _) QF.lookup ?_ (FY hs _ _);have e:Txt.item a i=⟨#[c]⟩:=by unfold Txt.item Txt.charAt;rw[M];simp[N]
  refine SB.getItem ?_ (by unfold Txt.charAt;rw[M];simp[N]) ?_
  ·unfold fitsSsize;simp only[Dn,Lp,decide_eq_false_iff_not];exact ka hz J H
  ·rw[e];exact P _ _ (.str ..) ((x.trans y).trans .tok))
inductive Hc(Z:Zx)(k:Nat)(F:Fx)(ρ κ:Ci):Option Aj→Option Int→Prop where
 |none:Hc Z k F ρ κ none none
 |some {e:Aj} {i:Int} (h:PE Z k F ρ κ false e (.int i)):Hc Z k F ρ κ (some e) (some i)
theorem Hc.run(h:Hc Z k F ρ κ e x)(G:Good k A)(R:Cj Z.C F O ρ κ s)
  (D:∀v B,IsPart v x→D9 Z.C s B→Q v B):Af (Ar Z.prog Z.w) A (evalPart e F.env) Q E s:=by
 cases h with
 |none=>exact AX (D _ _ .none (.refl _))
 |some h=>exact h.run A O s _ _ G R fun v B H x=>by refine B8 H.int_inv fun t C=>?_;subst C;exact D _ _ (.int ..) x
theorem Hc.slice(hl:Hc Z k F ρ κ l x)(I:Hc Z k F ρ κ u y)(J:Hc Z k F ρ κ t z)(G:Good k A)(R:Cj Z.C F O ρ κ s)
  (L:∀B C D s₃,IsPart B x→IsPart C y→IsPart D z→D9 Z.C s s₃→Q (.ref s₃.heap.objs.size) {s₃ with heap:=s₃.heap.push {cls:=.type "slice",data:=.fields #[B,C,D]}}):
  Af (Ar Z.prog Z.w) A (D4 (.Slice l u t pos) F.env) Q E s:=
 wpAny_Slice (hl.run G R fun B H pl x=>I.run G (R.ext x) fun C s₂ M y=>J.run G ((R.ext x).ext y) fun D s₃ pt z=>L B C D s₃ pl M pt ((x.trans y).trans z))
noncomputable def IS{A:Type}(xs:List A)(lo hi st:Option Int):List A:=
 (dd (EA lo hi st xs.length).1 (EA lo hi st xs.length).2.1 (EA lo hi st xs.length).2.2).filterMap (xs[·]?)
theorem XO(C:DW W h vs xs)(B:List Nat):DW W h (B.filterMap (vs[·]?)) (B.filterMap (xs[·]?)):=by
 induction B with
 |nil=>exact trivial
 |cons i r D=>
  cases hx:vs[i]? with
  |none=>
   have A:xs[i]?=none:=by rw[JX]at hx⊢;rw[←C.length];exact hx
   simp only[IQ,hx,A];exact D
  |some v=>
   have hi:i<xs.length:=by rw[←C.length];exact(B4.mp hx).1
   have A:xs[i]?=some xs[i]:=AL hi;simp only[IQ,hx,A];exact⟨C.at i v _ hx A,D⟩
theorem OE(o i:Ad):Kc (.Slice l u none p) false o i=ZE [i,o] (Tf o i):=rfl
theorem S7(o i:Ad):Kc (.Slice l u (some e) p) false o i=ZE [o,i] (Tf o i):=rfl
theorem U_(o i:Ad):∃A,Kc (.Slice l u t p) false o i=ZE A (Tf o i):=by
 cases t with
 |none=>exact⟨_,OE o i⟩
 |some e=>exact⟨_,S7 o i⟩
theorem PE.sliceG(B:Bool)(U:PE Z k F ρ κ B J (.list xs))(hl:Hc Z k F ρ κ l x)(Y:Hc Z k F ρ κ u y)(b:Hc Z k F ρ κ t z)
  (c:z≠some 0) (hz:xs.length≤1000000) (A:Bl) (O:AS) (s:AO) (Q:Ad→AO→Prop) (E:Ad→AO→Prop) (G:Good k A) (R:Cj Z.C F O ρ κ s)
  (d:∀a T vs,s.heap.objs.size≤a→T.heap.get? a=some {cls:=.type "list",data:=.seq (BL vs)}→DW (F.V O B) T.heap vs (IS xs x y z)→D9 Z.C s T→Q (.ref a) T):
  Af (Ar Z.prog Z.w) A (D4 (.Subscript J (.Slice l u t f) pos) F.env) Q E s:=
 Lv (U.run A O s _ _ G R fun v W U C=>hl.slice Y b G (R.ext C) fun M N P s₃ pl g pt D=>by
  refine IW ((U.ext (Fx.V_tb R B) D).list_inv) fun a n vs V j h L=>?_;subst V;refine B8 (U_ (l:=l) (u:=u) (t:=t) (p:=f) (.ref a) (.ref s₃.heap.objs.size)) fun i S=>?_;have X:(s₃.heap.push {cls:=.type "slice",data:=.fields #[M,N,P]}).IsList a vs.toArray:=Er (Am _ h);refine Kk (Heap.IsList.typeIs (s:={s₃ with heap:=s₃.heap.push {cls:=.type "slice",data:=.fields #[M,N,P]}}) X) slot_list_getitem.lookup ?_ S;refine wpAny_getItem_list_slice X (Heap.IsSliceOf.new ..) pl g pt c ?_ (by rw[Ab,L.length,Ay];exact O9 hz);have H:D9 Z.C s₃ {s₃ with heap:=s₃.heap.push {cls:=.type "slice",data:=.fields #[M,N,P]}}:=.push (t:=s₃.toks);have I:D9 Z.C {s₃ with heap:=s₃.heap.push {cls:=.type "slice",data:=.fields #[M,N,P]}} {s₃ with heap:=(s₃.heap.push {cls:=.type "slice",data:=.fields #[M,N,P]}).push {cls:=.type "list",data:=.seq (Yx vs.toArray x y z)}}:=.push (t:=s₃.toks);have e:=((C.trans D).trans H).trans I;refine d _ _ (Yx vs.toArray x y z).toList (AA (AA C.size D.size) (by show s₃.heap.objs.size≤(s₃.heap.push _).objs.size;rw[BG];exact BU _)) ?_ ?_ e
  ·rw[A4 _ rfl]
  ·have:(Yx vs.toArray x y z).toList=(dd (EA x y z xs.length).1 (EA x y z xs.length).2.1 (EA x y z xs.length).2.2).filterMap (vs[·]?):=by
    unfold Yx;rw[Ab,L.length];simp
   rw[this];exact XO ((L.ext (Fx.V_tb R B) H).ext (Fx.V_tb R B) I) _)
theorem Qz(R:Cj Z.C F O ρ κ s)(h:s.heap.objs.size≤a):¬F.V O st a:=fun q=>As _ (AF (Fx.V_lt R st a q) h)
theorem PE.slice(D:PE Z k F ρ κ st B (.list xs))(hl:Hc Z k F ρ κ l x)(H:Hc Z k F ρ κ u y)(I:Hc Z k F ρ κ t z)
  (J:z≠some 0) (hz:xs.length≤1000000):PE Z k F ρ κ st (.Subscript B (.Slice l u t P) pos) (.list (IS xs x y z)):=.ofRun fun A O s Q E G R L=>
 PE.sliceG st D hl H I J hz A O s Q E G R fun a S vs M N C e=>L _ _ (VR.listOf (Qz R M) N C) e
theorem PE.sliceS(S:PE Z k F ρ κ false D (.str a))(hl:Hc Z k F ρ κ l x)(g:Hc Z k F ρ κ u y)
  (hz:a.length≤1000000):PE Z k F ρ κ st (.Subscript D (.Slice l u none sp) pos) (.str (CJ a x y)):=
 .up<| .ofRun fun A O s Q E G R m=>Lv (S.run A O s _ _ G R fun v Y S C=>hl.slice g .none G (R.ext C) fun U V vt s₃ pl c pt H=>CG<| by
  refine B8 S.str_inv fun t W=>?_;subst W;cases pt;have L:KeptH (fun h=>(∀b o,s₃.heap.get? b=some o→h.get? b=some o)∧s₃.heap.objs.size≤h.objs.size):=fun h ob ⟨k,z⟩=>⟨fun b o e=>Am _ (k b o e),by rw[BG];exact A_ z⟩;have M:(∀b o,s₃.heap.get? b=some o→s₃.heap.get? b=some o)∧s₃.heap.objs.size≤s₃.heap.objs.size:=⟨fun n n e=>e,AK _⟩;have B:a.length≤Ey:=by rw[Ay];exact O9 hz
  have I:∀(X:Ad→AO→Prop)(d:Ad→AO→Prop),(∀(h':GY)(N:Tok)(k:Nat),((∀b o,s₃.heap.get? b=some o→h'.get? b=some o)∧s₃.heap.objs.size≤h'.objs.size)→X (.str (CJ a x y) N) {s₃ with heap:=h',toks:=k})→
    ItemOn (Ar Z.prog Z.w) A d (.str a t) (.ref s₃.heap.objs.size) X {s₃ with heap:=s₃.heap.push {cls:=.type "slice",data:=.fields #[U,V,.none]}}:=fun X d P=>by
   cases pl with
   |none=>cases c with
    |none=>exact SBH.sliceItem_nn L M P B
    |int j p=>exact SBH.sliceItem_ns L M P B
   |int i ui=>cases c with
    |none=>exact SBH.sliceItem_sn L M P B
    |int j p=>exact SBH.sliceItem_ss L M P B
  have fin:∀(h':GY)(N:Tok)(k:Nat),((∀b o,s₃.heap.get? b=some o→h'.get? b=some o)∧s₃.heap.objs.size≤h'.objs.size)→
    (fun a J=>Up {s₃ with heap:=s₃.heap.push {cls:=.type "slice",data:=.fields #[U,V,.none]}} J→Q a J) (.str (CJ a x y) N) {s₃ with heap:=h',toks:=k}:=
   fun h' N At f u=>m _ _ (.str ..) ((C.trans H).trans (.keeps f.1 f.2 u.2))
  obtain⟨T,id,q,r,w⟩:=I (fun a J=>Up {s₃ with heap:=s₃.heap.push {cls:=.type "slice",data:=.fields #[U,V,.none]}} J→Q a J) _ fin;exact Kk r q w (OE _ _))
noncomputable def I3(Z:Zx)(k:Nat)(p:PV)(b:Bool):Prop:=
 ∀A (W:AS) (s:AO) v (Q:Bool→AO→Prop) E,Good k A→VR W s.heap v p→(∀t,s.toks≤t→Q b {s with toks:=t})→Af (Ar Z.prog Z.w) A (truthy v) Q E s
theorem I3.int:I3 Z k (.int a) (a !=0):=fun A W s v Q E G C D=>by refine B8 C.int_inv fun t B=>?_;subst B;exact PyProof.Rows.truthy_int (D s.toks (AK _))
theorem I3.bool:I3 Z k (.bool b) b:=fun A W s v Q E G B C=>by rw[B.bool_inv];exact P5 (C s.toks (AK _))
theorem I3.str(hz:a.length≤1000000):I3 Z k (.str a) ((a.length:Int) !=0):=fun A W s v Q E G C D=>by
 refine B8 C.str_inv fun t B=>?_;subst B;exact PySem.P.truthy_str (K1.mpr (Bc (A3.mpr hz) dc)) (D _ (by first|exact AK _|exact BU _|exact Vw))
theorem I3.list(hz:xs.length≤1000000):I3 Z k (.list xs) (decide (0<xs.length)):=fun A W s v Q E G D H=>by
 refine IW D.list_inv fun a n vs C J I B=>?_;subst C;have e:(!vs.toArray.isEmpty)=decide (0<xs.length):=by
  unfold Array.isEmpty;rw[Ab,B.length];cases xs.length<;>rfl
 exact wpAny_truthy_list (Er I) (by rw[Ab,B.length];exact Bc (A3.mpr hz) dc) (e▸H _ (by first|exact AK _|exact BU _|exact Vw))
theorem PB.plain(h:PE Z k F ρ κ false e p)(H:I3 Z k p b)
  (I:∀(env:Ti)(B:Ku Ad),isTrue e env B=(do let v ←B;Hf e.pos;D3 [v] (truthy v)):=by intros;rfl):PB Z k F ρ κ e b:=.ofRun fun A O s Q E G R J=>
 isTrue_plain (h.run A O s _ _ G R fun v C L x=>H A _ C v _ E G L fun t D=>J _ (x.trans (.tok D))) (I _ _)
theorem PB.not(h:PB Z k F ρ κ e b):PB Z k F ρ κ (.UnaryOp .Not e pos) (!b):=.ofRun fun A O s Q E G R B=>
 isTrue_not (h.run A O s _ _ G R B)
theorem PB.andN:PB Z k F ρ κ (.BoolOp .And [] pos) true:=.ofRun fun A O s Q E G R B=>isTrue_and_nil (B s (.refl _))
theorem PB.orN:PB Z k F ρ κ (.BoolOp .Or [] pos) false:=.ofRun fun A O s Q E G R B=>isTrue_or_nil (B s (.refl _))
theorem PB.and(h:PB Z k F ρ κ e b)(hs:b=true→PB Z k F ρ κ (.BoolOp .And es pos) c):PB Z k F ρ κ (.BoolOp .And (e::es) pos) (b && c):=.ofRun fun A O s Q E G R C=>
 isTrue_and (h.run A O s _ _ G R fun B x=>by
  cases b with
  |false=>exact C B x
  |true=>exact(hs rfl).run A O B _ _ G (R.ext x) fun s₂ y=>C s₂ (x.trans y))
theorem PB.or(h:PB Z k F ρ κ e b)(hs:b=false→PB Z k F ρ κ (.BoolOp .Or es pos) c):PB Z k F ρ κ (.BoolOp .Or (e::es) pos) (b || c):=.ofRun fun A O s Q E G R C=>
 isTrue_or (h.run A O s _ _ G R fun B x=>by
  cases b with
  |true=>exact C B x
  |false=>exact(hs rfl).run A O B _ _ G (R.ext x) fun s₂ y=>C s₂ (x.trans y))
theorem PB.of(h:PB Z k F ρ κ e b)(A:b=c):PB Z k F ρ κ e c:=A▸h
theorem PE.of(h:PE Z k F ρ κ st e p)(A:p=q):PE Z k F ρ κ st e q:=A▸h
theorem PE.and1(h:PE Z k F ρ κ st e p):PE Z k F ρ κ st (.BoolOp C [e] pos) p:=.ofRun fun A O s Q E G R B=>h.run A O s Q E G R B
theorem PE.and(h:PE Z k F ρ κ st e p)(L:I3 Z k p b)(hs:b=true→PE Z k F ρ κ st (.BoolOp .And (D::es) pos) q):
  PE Z k F ρ κ st (.BoolOp .And (e::D::es) pos) (if b then q else p):=.ofRun fun A O s Q E G R I=>
 BoolOp_and (h.run A O s _ _ G R fun v H J x=>L A _ H v _ E G J fun t B=>by
  cases b with
  |false=>exact I v _ (J.ext (Fx.V_tb R st) (Step.tok (C:=Z.C) (t:=t) B)) (x.trans (.tok B))
  |true=>exact(hs rfl).run A O _ _ _ G ((R.ext x).ext (Step.tok (C:=Z.C) (t:=t) B)) fun u s₂ M y=>I u s₂ M ((x.trans (.tok B)).trans y))
theorem PE.or(h:PE Z k F ρ κ st e p)(L:I3 Z k p b)(hs:b=false→PE Z k F ρ κ st (.BoolOp .Or (D::es) pos) q):
  PE Z k F ρ κ st (.BoolOp .Or (e::D::es) pos) (if b then p else q):=.ofRun fun A O s Q E G R I=>
 BoolOp_or (h.run A O s _ _ G R fun v H J x=>L A _ H v _ E G J fun t B=>by
  cases b with
  |true=>exact I v _ (J.ext (Fx.V_tb R st) (Step.tok (C:=Z.C) (t:=t) B)) (x.trans (.tok B))
  |false=>exact(hs rfl).run A O _ _ _ G ((R.ext x).ext (Step.tok (C:=Z.C) (t:=t) B)) fun u s₂ M y=>I u s₂ M ((x.trans (.tok B)).trans y))
theorem PE.ife(h:PB Z k F ρ κ t c)(hb:c=true→PE Z k F ρ κ st b p)(H:c=false→PE Z k F ρ κ st o p):PE Z k F ρ κ st (.IfExp t b o pos) p:=.ofRun fun A O s Q E G R D=>
 IfExp_ (h.run A O s _ _ G R fun B x=>by
  cases c with
  |true=>exact(hb rfl).run A O B _ _ G (R.ext x) fun u s₂ C y=>D u s₂ C (x.trans y)
  |false=>exact(H rfl).run A O B _ _ G (R.ext x) fun u s₂ C y=>D u s₂ C (x.trans y))
theorem PE.cmp2(hl:PE Z k F ρ κ false l p)(S:PE Z k F ρ κ false m q)(hr:b=true→PE Z k F ρ κ false r u)(H:C5 Z k L p q b)(H':b=true→C5 Z k B q u c)
  (I:lastMarks [L,B] [m,r]=false:=by with_unfolding_all rfl):PE Z k F ρ κ st (.Compare l [L,B] [m,r] pos) (.bool (b && c)):=
 .up<| .ofRun fun A O s Q E G R M=>by
  refine Compare_chain (hl.run A O s _ _ G R fun v C T x=>chain_link (S.run A O C _ _ G (R.ext x) fun w s₂ N y=>H A _ s₂ v w _ E G (T.ext (Fx.V_tb R false) y) N fun t J=>P5 ?_)) I;have tk:D9 Z.C s₂ {s₂ with toks:=t}:=.tok J;cases b with
  |false=>exact M _ _ (.bool false) ((x.trans y).trans tk)
  |true=>exact chain_last ((hr rfl).run A O _ _ _ G (((R.ext x).ext y).ext tk) fun z s₃ hz P=>H' rfl A _ s₃ w z Q E G ((N.ext (Fx.V_tb R false) tk).ext (Fx.V_tb R false) P) hz fun U D=>M _ _ (.bool c) ((((x.trans y).trans tk).trans P).trans (.tok D)))
end
noncomputable def Gl(C:Cx)(x:Ax)(f:Ad):Prop:=C.mg x=some f∨(C.mg x=none∧C.mb x=some f)
inductive Fn(C:Cx):Ad→Prop where
 |builtin (id:String):Fn C (.builtin id)
 |type (T:String):Fn C (.type T)
 |func {a:Ch} {o:Obj} {fd:Dc} (ho:C.objs.lookup a=some o) (hd:o.data= .func fd):Fn C (.ref a)
noncomputable def C0(es:List Aj):Bool:=es.all fun e=> !CW e
theorem E3:∀{es:List Aj},C0 es=true→(DO pos (B_ es env)).any (·.1)=false:=by
 intro A
 induction A with
 |nil=>
  intro _;exact rfl
 |cons e es B=>
  intro h;unfold C0 at h;simp only[Dk,A7,Dn]at h;rw[B9 h.1];show(false || (DO pos (B_ es env)).any (·.1))=false;rw[B h.2];rfl
theorem Fu(hn:C0 es=true)
  (h:Af M A (FU (DO pos (B_ es env))) (fun vs B=>Q ⟨vs,[]⟩ B) E s):Af M A (P9 f true (DO pos (B_ es env)) []) Q E s:=by
 cases es with
 |nil=>
  unfold P9;refine AJ (m:=FU (DO pos (B_ [] env))) (B1 h (fun vs B h'=>?_) fun C C x=>x);refine AJ (AX (BV ?_));exact AJ (AX (AJ (AX (AX h'))))
 |cons e es=>
  unfold C0 at hn;simp only[Dk,A7,Dn]at hn;rw[B9 hn.1]at h⊢;exact evalArgs_plain h
noncomputable def Bk(Z:Zx)(k:Nat)(f:Ad)(ps:List PV)(D:List Ax)(ks:List PV)(res:PV):Prop:=
 ∀(A:Bl)(W:AS)(s:AO)(vs B:List Ad)(Q:Ad→AO→Prop)(E:Ad→AO→Prop),Good k A→(∀b,Tb b→W b)→(∀b,W b→b<s.heap.objs.size)→DM Z.C s→
  DW W s.heap vs ps→DW W s.heap B ks→(∀v C,VR W C.heap v res→D9 Z.C s C→Q v C)→Af (Ar Z.prog Z.w) A (DC f vs (D.zip B)) Q E s
section
variable{Z:Zx}{k:Nat}{F:Fx}{ρ κ:Ci}{st:Bool}
theorem EL(R:Cj C F O ρ κ s)(B:F.env.kindOf x=some .globalImplicit)(D:Gl C x f)
  (hd:(x==("__debug__":Ax))=false) (h:Q f s):Af M A (D4 (.Name x pos) F.env) Q E s:=by
 refine Name_function_global R.kind B ?_ hd;have g:s.heap.Ns F.env.globals C.mg:=R.glob▸R.base.g;have b:s.heap.Ns F.env.builtins C.mb:=R.blt▸R.base.b;rcases D with e|⟨e,G⟩
 ·exact loadGlobal_global g e h
 ·exact loadGlobal_builtin g e b G h
theorem PE.glob(B:F.env.kindOf x=some .globalImplicit)(C:Gl Z.C x f)(hp:∀W h,VR W h f p)(hd:autoParam ((x==("__debug__":Ax))=false) ad):PE Z k F ρ κ st (.Name x pos) p:=
 .ofRun fun A O s Q E G R D=>EL R B C hd (D f s (hp _ _) (.refl _))
theorem DG(G:Fn C f)(hn:C0 es=true)
  (h:Af M A (FU (DO pos (B_ es env))) (fun vs B=>DM C B∧Af M A (call f (first++vs)) Q E B) E s):Af M A (Iq pos f first (DO pos (B_ es env)) []) Q E s:=by
 cases G with
 |builtin id=>exact callWith_builtin (E3 hn) (Fu hn (B1 h (fun vs B h'=>h'.2) fun D D x=>x))
 |type T=>exact HY (E3 hn) (Fu hn (B1 h (fun vs B h'=>h'.2) fun D D x=>x))
 |func H hd=>exact callWith_function (Fu hn (B1 h (fun vs B h'=>⟨⟨h'.1.objs _ _ H,hd⟩,h'.2⟩) fun D D x=>x))
theorem PE.call(H:F.env.kindOf x=some .globalImplicit)(I:Gl Z.C x f)(J:Fn Z.C f)
  (B:JY Z k F ρ κ st es ps) (L:Bk Z k f ps [] [] res) (hn:autoParam (C0 es=true) ar) (hd:autoParam ((x==("__debug__":Ax))=false) ad):PE Z k F ρ κ st (.Call (.Name x p) es [] pos) res:=.ofRun fun A O s Q E G R M=>
 Jv rfl (EL R H I hd (DG J hn (B.run A O s pos _ _ G R fun vs N C e=>⟨(R.ext e).base,
  L A (F.V O st) N vs [] Q E G (Fx.V_tb R st) (Fx.V_lt (R.ext e) st) (R.ext e).base C trivial fun v D P S=>M v D P (e.trans S)⟩)))
class inductive aq(Z:Zx)(k:Nat)(F:Fx)(ρ κ:Ci)(st:Bool):List Keyword→List Ax→List PV→Prop where
 |nil:aq Z k F ρ κ st [] [] []
 |cons {n:Ax} {e:Aj} {kp:JE} {r:List Keyword} {p:PV} {ns:List Ax} {ps:List PV} (h:PE Z k F ρ κ st e p) (hr:aq Z k F ρ κ st r ns ps):aq Z k F ρ κ st (⟨some n,e,kp⟩::r) (n::ns) (p::ps)
theorem aq.names(h:aq Z k F ρ κ st r ns ps):
  (Di pos (CZ r env)).all (·.1.isSome)=true∧(Di pos (CZ r env)).any (·.1.isNone)=false∧(Di pos (CZ r env)).filterMap (·.1)=ns:=by
 induction h with
 |nil=>exact⟨rfl,rfl,rfl⟩
 | @cons n e kp r p ns ps h hr A=>
  have e:∃t,Di pos (CZ (⟨some n,e,kp⟩::r) env)=(some n,t)::Di pos (CZ r env):=⟨_,rfl⟩;refine B8 e fun t e=>?_;rw[e];simp only[Dk,List.any_cons,IQ];exact⟨by rw[A.1];rfl,by rw[A.2.1];rfl,by rw[A.2.2]⟩
theorem aq.run(h:aq Z k F ρ κ st r ns ps):∀(A:Bl)(O:AS)(s:AO)(pos:JE)(Q:List Ad→AO→Prop)(E:Ad→AO→Prop),Good k A→Cj Z.C F O ρ κ s→
  (∀vs B,DW (F.V O st) B.heap vs ps→D9 Z.C s B→Q vs B)→Af (Ar Z.prog Z.w) A (Tg ((Di pos (CZ r F.env)).map (·.2))) Q E s:=by
 induction h with
 |nil=>exact fun A O s pos Q E G R C=>kws_nil (C [] s trivial (.refl _))
 |cons h hr H=>exact fun A O s pos Q E G R C=>bZ (h.run A O s _ _ G R fun v B I x=>H A O B pos _ _ G (R.ext x) fun vs J D y=>C _ _ ⟨I.ext (Fx.V_tb R st) y,D⟩ (x.trans y))
theorem PE.callK(V:F.env.kindOf x=some .globalImplicit)(W:Gl Z.C x f)(X:Fn Z.C f)
  (L:JY Z k F ρ κ st (e::es) ps) (H:aq Z k F ρ κ st J Y ks) (b:∀T,f≠ .type T) (c:Bk Z k f ps Y ks res) (hn:autoParam (C0 (e::es)=true) ar) (hd:autoParam ((x==("__debug__":Ax))=false) ad):PE Z k F ρ κ st (.Call (.Name x p) (e::es) J pos) res:=.ofRun fun A O s Q E G R d=>by
 refine G_ (EL R V W hd ?_);refine Nc (H.names (env:=F.env) (pos:=pos)) fun g h i=>?_;have D:=hn;unfold C0 at D;simp only[Dk,A7,Dn]at D;have go:Af (Ar Z.prog Z.w) A (P9 f true (DO pos (B_ (e::es) F.env)) (Di pos (CZ J F.env))) (fun a B=>DM Z.C B∧Af (Ar Z.prog Z.w) A (DC f ([]++a.pos) a.kw) Q E B) E s:=by
  have C:=L.run A O s pos (fun vs B=>Af (Ar Z.prog Z.w) A (Tg ((Di pos (CZ J F.env)).map (·.2))) (fun ks s₂=>DM Z.C s₂∧Af (Ar Z.prog Z.w) A (DC f vs (((Di pos (CZ J F.env)).filterMap (·.1)).zip ks)) Q E s₂) E B) E G R
   fun vs M N x=>H.run A O M pos _ _ G (R.ext x) fun P S I y=>⟨((R.ext x).ext y).base,by
    rw[i];exact c A (F.V O st) S vs P Q E G (Fx.V_tb R st) (Fx.V_lt ((R.ext x).ext y) st) ((R.ext x).ext y).base (N.ext (Fx.V_tb R st) y) I fun v j l z=>d v j l ((x.trans y).trans z)⟩
  rw[B9 D.1]at C⊢;exact NR g C
 cases X with
 |builtin id=>exact bc (E3 hn) h (B1 go (fun a M h'=>h'.2) fun U U x=>x)
 |type T=>exact absurd rfl (b T)
 |func m hd=>exact Ip (B1 go (fun a M h'=>⟨⟨h'.1.objs _ _ m,hd⟩,h'.2⟩) fun U U x=>x)
end
theorem S2:∀{vs:List Ad}{xs:List Ax},DW W h vs (xs.map PV.str)→∃l,vs=HP l∧l.map (·.1)=xs
 |[],[],_=>⟨[],rfl,rfl⟩
 |v::vs,x::xs,⟨a,b⟩=>by
  refine B8 a.str_inv fun t A=>?_;subst A;refine Bz (S2 b) fun l A e=>?_;subst A;exact⟨(x,t)::l,rfl,by rw[Ae,e]⟩
 |[],_::_,x=>x.elim
 |_::_,[],x=>x.elim
theorem TI:∀{vs:List Ad}{xs:List Int},DW W h vs (xs.map PV.int)→IntsAre vs xs
 |[],[],_=>.nil
 |v::vs,x::xs,⟨a,b⟩=>by
  refine B8 a.int_inv fun t A=>?_;subst A;exact .cons _ _ (TI b)
 |[],_::_,x=>x.elim
 |_::_,[],x=>x.elim
theorem UT:∀{vs:List Ad}{xs:List Bool},DW W h vs (xs.map PV.bool)→vs=xs.map QB
 |[],[],_=>rfl
 |v::vs,x::xs,⟨a,b⟩=>by rw[a.bool_inv,UT b];rfl
 |[],_::_,x=>x.elim
 |_::_,[],x=>x.elim
theorem TD:∀(l:List (Ax×Tok)),DW W h (HP l) ((l.map (·.1)).map PV.str)
 |[]=>trivial
 |(x,t)::l=>⟨.str x t,TD l⟩
section
variable{Z:Zx}{k:Nat}{F:Fx}{ρ κ:Ci}{st:Bool}
theorem Bk.lenL(hz:xs.length≤1000000):Bk Z k (.builtin "len") [.list xs] [] [] (.int xs.length):=fun A W s vs I Q E G N hl B H O J=>by
 refine Bz H.one fun v C L=>?_;subst C;refine IW L.list_inv fun a n ws C P M D=>?_;subst C;refine call_len_list (Er M) (by rw[Ab,D.length];exact Bc (A3.mpr hz) dc) ?_;rw[Ab,D.length];exact J _ _ (.int ..) (.tok (by show s.toks≤s.toks+1+1;exact Vw))
theorem Bk.lenS(hz:x.length≤1000000):Bk Z k (.builtin "len") [.str x] [] [] (.int x.length):=fun A W s vs H Q E G L hl B D M I=>by
 refine Bz D.one fun v C J=>?_;subst C;refine B8 J.str_inv fun t C=>?_;subst C;exact PySem.P.len_str (K1.mpr (Bc (A3.mpr hz) dc)) (I _ _ (.int ..) (.tok (by show s.toks≤s.toks+1+1;exact Vw)))
theorem Bk.hex(hz:(P_ "0x" 16 i).length≤Ey):Bk Z k (.builtin "hex") [.int i] [] [] (.str (P_ "0x" 16 i)):=fun A W s vs H Q E G L hl B D M I=>by
 refine Bz D.one fun v C J=>?_;subst C;refine B8 J.int_inv fun t C=>?_;subst C;exact P.hex_of_int (I _ _ (.str ..) .tok) hz
noncomputable def Dh(Z:Zx)(k:Nat)(name:Ax)(B:PV)(ps:List PV)(res:PV):Prop:=
 ∃id:String,(∀(A:Bl)(E:Ad→AO→Prop)(s:AO)(W:AS)(v:Ad)(pl:Ku Bool)(Q:Ad×List Ad→AO→Prop),VR W s.heap v B→Q (.builtin id,[v]) s→Af (Ar Z.prog Z.w) A (F3 v name pl) Q E s)∧
  Bk Z k (.builtin id) (B::ps) [] [] res
theorem PE.meth{o:Aj}{name:Ax}{B pos:JE}{es:List Aj}(N:PE Z k F ρ κ st o P)(H:JY Z k F ρ κ st es ps)(S:Dh Z k name P ps res)(hn:autoParam (C0 es=true) ar)
  (I:∃pl:Ku Bool,D4 (.Call (.Attribute o name B) es [] pos) F.env=(do
   let L ←D4 o F.env
   Hf B.atName
   let (f,first)←D3 [L] (F3 L name pl)
   Iq pos f first (DO pos (B_ es F.env)) []):=by exact⟨_,rfl⟩):PE Z k F ρ κ st (.Call (.Attribute o name B) es [] pos) res:=.ofRun fun A O s Q E G R T=>by
 refine B8 I fun pl I=>?_;refine Bz S fun id U V=>?_;refine HS (pl:=pl) (N.run A O s _ _ G R fun v D M x=>U A E D _ v pl _ M ?_) I;exact DG (C:=Z.C) (.builtin id) hn (H.run A O D pos _ _ G (R.ext x) fun vs s₂ J y=>⟨((R.ext x).ext y).base,
  V A (F.V O st) s₂ (v::vs) [] Q E G (Fx.V_tb R st) (Fx.V_lt ((R.ext x).ext y) st) ((R.ext x).ext y).base ⟨M.ext (Fx.V_tb R st) y,J⟩ trivial fun u s₃ W z=>T u s₃ W ((x.trans y).trans z)⟩)
theorem F'{name:Ax}{id:String}{x:Ax}{A:Bl}{M:Model}{E:Ad→AO→Prop}(B:WT "str" name id)
  (C:typeOf (.builtin id)=pure (.type "method_descriptor")) (G:VR W s.heap v (.str x)) (h:Q (.builtin id,[v]) s):Af M A (F3 v name pl) Q E s:=by
 refine B8 G.str_inv fun t D=>?_;subst D;exact getMethod_builtin (IG _ _ _) PySem.F.plainAttrs_str B C (fun H e=>nomatch e) h
theorem Pm{name:Ax}{id:String}{xs:List PV}{A:Bl}{prog:IZ}{w:P'}(B:WT "list" name id)
  (C:typeOf (.builtin id)=pure (.type "method_descriptor")) (H:VR W s.heap v (.list xs)) (h:Q (.builtin id,[v]) s):Af (Ar prog w) A (F3 v name pl) Q E s:=by
 refine IW H.list_inv fun a n vs D J G I=>?_;subst D;exact Kf B C (Er G) ⟨_,G,rfl⟩ h
theorem Dh.find:Dh Z k "find" (.str x) [.str y] (.int (N1 x y)):=⟨"str.find",fun A E s W v pl Q D h=>F' KF SW D h,fun A W s vs I Q E G M hl B H N J=>by
 refine Hd H.two fun v u C D L=>?_;subst C;refine B8 D.str_inv fun t C=>?_;subst C;refine B8 L.str_inv fun O C=>?_;subst C;exact SC.find (J _ _ (.int ..) .tok)⟩
theorem Dh.rfind:Dh Z k "rfind" (.str x) [.str y] (.int (Mg x y)):=⟨"str.rfind",fun A E s W v pl Q D h=>F' PySem.F.slot_str_rfind PySem.F.type_str_rfind D h,fun A W s vs I Q E G M hl B H N J=>by
 refine Hd H.two fun v u C D L=>?_;subst C;refine B8 D.str_inv fun t C=>?_;subst C;refine B8 L.str_inv fun O C=>?_;subst C;exact SC.rfind (J _ _ (.int ..) .tok)⟩
theorem Dh.startswith:Dh Z k "startswith" (.str x) [.str y] (.bool (G' x y)):=⟨"str.startswith",fun A E s W v pl Q D h=>F' PySem.F.slot_str_startswith PySem.F.type_str_startswith D h,fun A W s vs I Q E G M hl B H N J=>by
 refine Hd H.two fun v u C D L=>?_;subst C;refine B8 D.str_inv fun t C=>?_;subst C;refine B8 L.str_inv fun O C=>?_;subst C;exact SC.startswith (J _ _ (.bool ..) (.refl _))⟩
theorem Dh.endswith:Dh Z k "endswith" (.str x) [.str y] (.bool (Kt x y)):=⟨"str.endswith",fun A E s W v pl Q D h=>F' PySem.F.slot_str_endswith PySem.F.type_str_endswith D h,fun A W s vs I Q E G M hl B H N J=>by
 refine Hd H.two fun v u C D L=>?_;subst C;refine B8 D.str_inv fun t C=>?_;subst C;refine B8 L.str_inv fun O C=>?_;subst C;exact SC.endswith (J _ _ (.bool ..) (.refl _))⟩
theorem Dh.indexS(I:C2 x y 0 x.length 1=i::rest):Dh Z k "index" (.str x) [.str y] (.int i):=⟨"str.index",fun A E s W v pl Q D h=>F' PySem.F.slot_str_index PySem.F.type_str_index D h,fun A W s vs J Q E G N hl B H O L=>by
 refine Hd H.two fun v u C D M=>?_;subst C;refine B8 D.str_inv fun t C=>?_;subst C;refine B8 M.str_inv fun P C=>?_;subst C;exact SC.index I (L _ _ (.int ..) .tok)⟩
theorem Dh.join(D:dh x ys=true):Dh Z k "join" (.str x) [.list (ys.map PV.str)] (.str (Cf x ys)):=⟨"str.join",fun A E s W v pl Q H h=>F' PySem.F.slot_str_join PySem.F.type_str_join H h,fun A W s vs M Q E G R hl B I S N=>by
 refine Hd I.two fun v u C H O=>?_;subst C;refine B8 H.str_inv fun t C=>?_;subst C;refine IW O.list_inv fun a n ws C T P J=>?_;subst C;refine Bz (S2 J) fun l C L=>?_;subst C;exact CG (SC.join (Er P) L D fun U k u=>N _ _ (.str ..) (.tok u.2))⟩
theorem Dh.count{b:Bool}{xs:List Bool}:Dh Z k "count" (.list (xs.map PV.bool)) [.bool b] (.int (xs.count b:Nat)):=⟨"list.count",fun A E s W v pl Q D h=>Pm Q_ PySem.F.type_list_count D h,fun A W s vs L Q E G P hl B H R M=>by
 refine Hd H.two fun v u C D N=>?_;subst C;refine IW D.list_inv fun a n ws C S J I=>?_;subst C;rw[N.bool_inv];have hb:=UT I;subst hb;refine Ee Q_ ⟨_,J,rfl⟩ PySem.F.entry_list_count (PySem.F.args_list_count_2 _ _) (SeqAt.list_countAt a _ n none #[] (.bool b) (isBoolOf b)) ⟨J,fun y O=>?_,?_⟩
 ·refine Bz (AU.mp (a5.mp O)) fun c _ C=>?_;subst C;exact SeqAt.EqAt.bool_bool c b
 ·show Q (.int ((WJ QB xs).countP (isBoolOf b):Nat) s.toks) {s with toks:=s.toks+1};rw[List.countP_map];exact M _ _ (.int ..) .tok⟩
noncomputable def find4(x y:Ax)(i j:Int):Int:=match C2 x y (HQ x.length i) (Uq (HQ x.length j) x.length) 1 with|k::_=>(k:Int)|[]=>-1
theorem Rx(x y:Ax)(i j:Int)(t u v A:Tok):Gives (Builtin.«str.find» ⟨[.str x t,.str y u,.int i v,.int j A],[]⟩) (.int (find4 x y i j)):=by
 show Gives (match C2 x y (HQ x.length i) (Uq (HQ x.length j) x.length) 1 with|k::_=>de k|[]=>(do rule "str.find.not-found";de (-1))) _;unfold find4;cases C2 x y (HQ x.length i) (Uq (HQ x.length j) x.length) 1 with
 |nil=>exact .rule (.of_eq rfl)
 |cons k _=>exact .of_eq rfl
theorem Dh.find4:Dh Z k "find" (.str x) [.str y,.int i,.int j] (.int (find4 x y i j)):=⟨"str.find",fun A E s W v pl Q D h=>F' KF SW D h,fun A W s vs I Q E G N hl B H O J=>by
 obtain⟨v,u,a,b,rfl,D,L,M,hb⟩:=H.four;refine B8 D.str_inv fun t C=>?_;subst C;refine B8 L.str_inv fun P C=>?_;subst C;refine B8 M.int_inv fun ta C=>?_;subst C;refine B8 hb.int_inv fun tb C=>?_;subst C;exact call_gives KF (IG _ _ _) PySem.F.entry_str_find (PySem.F.args_str_find_4 _ _ _ _) (Rx x y i j _ _ _ _) (J _ _ (.int ..) .tok)⟩
theorem Dh.indexL{x:Ax}{xs:List Ax}(hx:x∈xs)(hz:xs.length≤1000000):Dh Z k "index" (.list (xs.map PV.str)) [.str x] (.int (xs.idxOf x:Nat)):=⟨"list.index",fun A E s W v pl Q L h=>Pm Q9 PySem.F.type_list_index L h,fun A W s vs S Q E G X hl B M Y T=>by
 refine Hd M.two fun v u C L U=>?_;subst C;refine IW L.list_inv fun a n ws C b R N=>?_;subst C;refine B8 U.str_inv fun t C=>?_;subst C;refine Bz (S2 N) fun l C O=>?_;subst C;subst O;have J:(l.map (·.1)).idxOf x<(l.map (·.1)).length:=List.idxOf_lt_length_iff.mpr hx;have D:(HP l).length=l.length:=by exact AH _
 have H:∀m (P:m<(HP l).toArray.size),isStrOf x (HP l).toArray[m]=((l.map (·.1))[m]'(by simpa[D]using P)==x):=fun m P=>by
  simp[HP,isStrOf]
 refine Ee Q9 ⟨_,R,rfl⟩ PySem.F.entry_list_index (PySem.F.args_list_index_2 _ _) (SeqAt.list_indexAt a _ n none #[] (.str x t) (isStrOf x) ((l.map (·.1)).idxOf x) (by simpa[D]using J)
  (by simp at hz J;exact CP (BR.mpr J) (Av (A3.mpr hz) dc)) ?_ ?_) ⟨R,fun y V=>?_,T _ _ (.int ..) .tok⟩
 ·rw[H];simpa using List.getElem_idxOf J
 ·intro m P I;rw[H];unfold List.idxOf at I;have:=List.not_of_lt_findIdx I;simpa using this
 ·refine Bz (AU.mp (a5.mp V:y∈l.map _)) fun c _ C=>?_;subst C;exact SeqAt.EqAt.str_str _ _ _ _⟩
end
class inductive Upd:Ci→Ax→Slot→Ci→Prop where
 |here {ρ:Ci} {x:Ax} {s₀ sl:Slot}:Upd ((x,s₀)::ρ) x sl ((x,sl)::ρ)
 |there {ρ ρ':Ci} {x:Ax} {sl:Slot} {y:Ax×Slot} (h:Upd ρ x sl ρ'):Upd (y::ρ) x sl (y::ρ')
noncomputable def d5:Ci→Nat→Slot→Ci
 |[],_,_=> []
 |y::l,0,q=>(y.1,q)::l
 |y::l,n+1,q=>y::d5 l n q
theorem Ah:∀{ρ:Ci}{q:Slot}(i:Nat)(_:Nat.blt i ρ.length=true),Upd ρ (b9 ρ i).1 q (d5 ρ i q):=by
 intro ρ q
 induction ρ with
 |nil=>intro i h;cases i<;>cases h
 |cons a l A=>intro i h;cases i with
  |zero=>exact Upd.here
  |succ i=>exact Upd.there (A i h)
theorem Upd.keys(h:Upd ρ x sl ρ'):ρ'.map (·.1)=ρ.map (·.1):=by
 induction h with
 |here=>rfl
 |there h A=>rw[Ae,Ae,A]
theorem Upd.has(h:Upd ρ x sl ρ'):∃A,(x,A)∈ρ:=by
 induction h with
 |here=>exact⟨_,AB⟩
 |there h B=>exact let ⟨s,hs⟩:=B;⟨s,AG _ hs⟩
theorem Upd.new(h:Upd ρ x sl ρ'):(x,sl)∈ρ':=by
 induction h with
 |here=>exact AB
 |there h A=>exact AG _ A
theorem FR{ρ:Ci}(hn:(ρ.map (·.1)).Nodup)(D:(x,a)∈ρ)(hb:(x,b)∈ρ):a=b:=by
 induction ρ with
 |nil=>cases D
 |cons y ρ E=>
  rw[Ae,Fc]at hn;rcases AN.mp D with e|A<;>rcases AN.mp hb with C | B
  ·rw[←e]at C;exact(Kw C).2.symm
  ·exact absurd (AU.mpr ⟨_,B,by rw[←e]⟩) hn.1
  ·exact absurd (AU.mpr ⟨_,A,by rw[←C]⟩) hn.1
  ·exact E hn.2 A B
theorem Upd.mem(h:Upd ρ x sl ρ')(C:(y,B)∈ρ'):(y=x∧B=sl)∨(y,B)∈ρ:=by
 induction h with
 |here=>
  rcases AN.mp C with e|A
  ·exact .inl ⟨(Kw e).1,(Kw e).2⟩
  ·exact .inr (AG _ A)
 |there h D=>
  rcases AN.mp C with e|A
  ·exact .inr (e▸AB)
  ·exact(D A).elim .inl fun q=>.inr (AG _ q)
theorem Cj.putV{C:Cx}{F:Fx}{O O':AS}{ρ ρ' κ:Ci}(R:Cj C F O ρ κ s)(f:Upd ρ x sl ρ')(gs:∀b,O b→O' b)(At:∀b,O' b→129≤b∧b<s.heap.objs.size)
  (av:DX s F O' sl (some v)) (eq:St F O ρ κ s V) (Gt:∀y B,(y,B)∈ρ++κ→DX s F O' B (V y)) (If:∀y q,(y,.own q)∈ρ++κ→∀q',sl= .own q'→V y≠some v)
  (er:∀s',Cj C F O' ρ' κ s'→St F O' ρ' κ s' (fun y=>if y=x then some v else V y)→Step C F.N s s'→Q () s'):Af M A (Nf F.env x v) Q E s:=by
 have bi:=eq;obtain⟨⟨m,hn,c3⟩,c4,fe,hs,fn⟩:=bi;refine B8 f.has fun d H=>?_;have nd:=R.nd;have bl:∀y B,(y,B)∈κ→y≠x:=fun y B G e=>by
  subst e;rw[Ac,Jb]at nd;exact nd.2.2 y (AU.mpr ⟨_,H,rfl⟩) y (AU.mpr ⟨_,G,rfl⟩) rfl
 have T:(ρ'++κ).map (·.1)=(ρ++κ).map (·.1):=by rw[Ac,Ac,f.keys]
 have g:((ρ'++κ).map (·.1)).Nodup:=T▸nd;have b2:((ρ'++κ).all fun p=>Internal.nameOk p.1)=true:=by
  have:=R.ok;rw[Al]at this⊢;intro p hp;have:p.1∈(ρ++κ).map (·.1):=T▸AU.mpr ⟨p,hp,rfl⟩;refine Bz (AU.mp this) fun q fr e=>?_;rw[←e];exact ‹∀x∈ρ++κ,Internal.nameOk x.1=true› q fr
 let Ns:Ax→Option Ad:=fun y=>if y=x then some v else V y
 have fin:∀(w:Ch)(h':GY)(t:Nat),F.N w→Ia w s.heap h'→s.toks≤t→(∀o,s.heap.get? w=some o→Gp o)→
   (∃m',h'.Ns F.env.locals m'∧∀y,F.env.kindOf y=some .local→m' y=Ns y)→(∀y c,F.env.cells.lookup y=some c→F.N c∨(129≤c∧¬F.Y c)→s.heap.IsCell c (V y)→h'.IsCell c (Ns y)∨F.env.kindOf y=some .local)→
   Q () {s with heap:=h',toks:=t}:=fun w h' t l D df hp b3 U=>by
  have h:Step C F.N s {s with heap:=h',toks:=t}:=.write D (R.hi w (.inl l)) l hp df;have i:∀{B:Slot}{u:Option Ad},DX s F O' B u→DX {s with heap:=h',toks:=t} F O' B u:=fun {B u} Sa=>by
   cases B with
   |unb=>trivial
   |val p=>refine Bz Sa fun y e b4=>?_;exact⟨y,e,b4.goes fun b o hb L=>⟨(D.2 b fun q=>hb (.inr (.inl (q▸l)))).trans L,hb⟩⟩
   |own xs=>refine V7 Sa fun a n vs e q1 q2 q3 q4 q5=>?_;exact X3 a n vs ⟨e,q1,q2,q3,(D.2 a fun q=>q3 (q▸l)).trans q4,q5.goes fun b o hb L=>⟨(D.2 b fun q=>hb (.inr (.inl (q▸l)))).trans L,hb⟩⟩
   |tk y=>refine K8 Sa fun u e q1 q2=>?_;exact⟨u,e,q1,AF q2 df⟩
   | «at» w p=>refine ER Sa fun e b4=>?_;exact⟨e,b4.goes fun b o hb L=>⟨(D.2 b fun q=>hb (.inr (.inl (q▸l)))).trans L,hb⟩⟩
  have Is:St F O' ρ' κ {s with heap:=h',toks:=t} Ns:=by
   refine⟨b3,fun y B G=>?_,fun y B G=>?_,fun y B G=>?_,fun y z p q a G hz fs gd=>?_⟩
   ·have:∃W,(y,W)∈ρ:=(f.mem G).elim (fun e=>⟨d,e.1▸H⟩) fun q=>⟨_,q⟩;refine B8 this fun W N=>?_;rcases c4 y W N with hl|⟨hl,c,Y,j,k⟩
    ·exact .inl hl
    ·refine .inr ⟨hl,c,Y,j,?_⟩;rcases U y c Y (.inl j) k with q|q
     ·exact q
     ·cases hl.symm.trans q
   ·obtain⟨hl,c,Y,j,k⟩:=fe y B G;refine⟨hl,c,Y,j,?_⟩;rcases U y c Y (.inr j) k with q|q
    ·exact q
    ·rcases hl with hl|hl<;>rw[hl]at q<;>cases q
   ·rcases AR.mp G with N | N
    ·by_cases e:y=x
     ·subst e;have:B=sl:=FR g G (AC _ f.new);subst this;show DX _ F O' _ (if y=y then some v else V y);rw[if_pos rfl];exact i av
     ·show DX _ F O' _ (if y=x then some v else V y);rw[if_neg e];exact i (Gt y B (AC _ ((f.mem N).resolve_left fun q=>e q.1)))
    ·show DX _ F O' _ (if y=x then some v else V y);rw[if_neg (bl y B N)];exact i (Gt y B (Ak _ N))
   ·have old:∀u r,(u,Slot.own r)∈ρ'++κ→u≠x→(u,Slot.own r)∈ρ++κ:=fun u r ck cn=>by
     rcases AR.mp ck with q|q
     ·exact AC _ ((f.mem q).resolve_left fun w=>cn w.1)
     ·exact Ak _ q
    have Lt:∀r,(x,Slot.own r)∈ρ'++κ→sl= .own r:=fun r hr=>FR g (AC _ f.new) hr;have P:(if y=x then some v else V y)=some (.ref a):=fs;have S:(if z=x then some v else V z)=some (.ref a):=gd;by_cases I:y=x<;>by_cases J:z=x
    ·rw[I,J]
    ·rw[if_pos I]at P;rw[if_neg J]at S;exact absurd (S.trans P.symm) (If z q (old z q hz J) p (Lt p (I▸G)))
    ·rw[if_neg I]at P;rw[if_pos J]at S;exact absurd (P.trans S.symm) (If y p (old y p G I) q (Lt q (J▸hz)))
    ·rw[if_neg I]at P;rw[if_neg J]at S;exact fn y z p q a (old y p G I) (old z q hz J) P S
  refine er _ {base:=h.base R.base,kind:=R.kind,glob:=R.glob,blt:=R.blt,tb:=R.tb,yU:=R.yU,nU:=R.nU,lt:=fun b hb=>?_,hi:=fun b hb=>?_,lN:=R.lN,cd:=R.cd,nd:=g,ok:=b2,st:=⟨Ns,Is⟩} Is h
  ·refine AF ?_ h.size;rcases hb with hb|hb|hb
   ·exact R.lt b (.inl hb)
   ·exact R.lt b (.inr (.inl hb))
   ·exact(At b hb).2
  ·exact hb.elim (fun q=>R.hi b (.inl q)) fun q=>(At b q).1
 rcases c4 x d H with hl|⟨hl,c,Y,j,k⟩
 ·refine Ml hl hn (fun h' co D=>?_) (by rw[R.kind];rfl);refine fin F.env.locals h' _ R.lN D (BU _) (HK hn) ⟨_,co,fun y G=>?_⟩ fun y c c1 go ⟨o,L,hd⟩=>?_
  ·show(if y=x then some v else m y)=if y=x then some v else V y
   by_cases e:y=x
   ·rw[if_pos e,if_pos e]
   ·rw[if_neg e,if_neg e];exact c3 y G
  ·by_cases e:y=x
   ·exact .inr (e▸hl)
   ·refine .inl ⟨o,(D.2 c fun q=>?_).trans L,by show o.data= .cell (if y=x then some v else V y);rw[if_neg e];exact hd⟩;refine V8 hn fun o' es em X Z _=>?_;rw[←q,L]at X;cases X;cases hd.symm.trans Z
 ·refine wpAny_storeName_cell R.kind hl Y k (fun h' c2 D=>?_);refine fin c h' s.toks j D (AK _) (O4 k) ⟨m,?_,fun y G=>?_⟩ fun y en c1 go ⟨o,L,hd⟩=>?_
  ·refine V8 hn fun o' es em X Z r=>?_;refine X3 o' es em ⟨(D.2 _ fun q=>?_).trans X,Z,r⟩;refine Bz k fun o L hd=>?_;rw[←q,X]at L;cases L;cases Z.symm.trans hd
  ·show m y=if y=x then some v else V y
   rw[if_neg fun e=>by subst e;cases hl.symm.trans G];exact c3 y G
  ·by_cases e:y=x
   ·subst e;cases Y.symm.trans c1;refine .inl ?_;show h'.IsCell c (if y=y then some v else V y);rw[if_pos rfl];exact c2
   ·refine .inl ⟨o,(D.2 en fun q=>e (R.cd y x en c1 (q▸Y))).trans L,by show o.data= .cell (if y=x then some v else V y);rw[if_neg e];exact hd⟩
theorem St.ext(R:Cj C F O ρ κ s)(J:St F O ρ κ s V)(x:D9 C s I):St F O ρ κ I V:=by
 obtain⟨⟨m,⟨o,es,L,E,r⟩,M⟩,N,P,Q,S⟩:=J;have A:∀c v,129≤c→s.heap.IsCell c v→I.heap.IsCell c v:=fun c v T ⟨o,E,hd⟩=>⟨o,x.keep _ _ (Cg T) E,hd⟩;refine⟨⟨m,X3 o es L ⟨x.keep _ _ (Cg (R.hi _ (.inl R.lN))) E,r⟩,M⟩,fun y sl B=>?_,fun y sl B=>?_,fun y sl B=>(Q y sl B).stepY x fun b hb=>R.tb b hb,S⟩
 ·rcases N y sl B with h|⟨h,c,G,D,H⟩
  ·exact .inl h
  ·exact .inr ⟨h,c,G,D,A c _ (R.hi c (.inl D)) H⟩
 ·obtain⟨h,c,G,D,H⟩:=P y sl B;exact⟨h,c,G,D,A c _ D.1 H⟩
theorem Cj.putVal(R:Cj C F O ρ κ s)(H:Upd ρ x (.val p) ρ')(I:VR (F.W O) s.heap v p)
  (J:∀B,Cj C F O ρ' κ B→Step C F.N s B→Q () B):Af M A (Nf F.env x v) Q E s:=by
 refine B8 R.st fun V G=>?_;exact R.putV H (fun D h=>h) (fun b hb=>⟨R.hi b (.inr hb),R.lt b (.inr (.inr hb))⟩) ⟨v,rfl,I⟩ G G.2.2.2.1 (fun D D D D e=>by cases e) fun B h D st=>J B h st
theorem Cj.putTk(R:Cj C F O ρ κ s)(H:Upd ρ x (.tk y) ρ')(I:0<t)(J:t<s.toks)
  (L:∀B,Cj C F O ρ' κ B→Step C F.N s B→Q () B):Af M A (Nf F.env x (.str y t)) Q E s:=by
 refine B8 R.st fun V G=>?_;exact R.putV H (fun D h=>h) (fun b hb=>⟨R.hi b (.inr hb),R.lt b (.inr (.inr hb))⟩) ⟨t,rfl,I,J⟩ G G.2.2.2.1 (fun D D D D e=>by cases e) fun B h D st=>L B h st
theorem DX.grow(R:Cj C F O ρ κ s)(x:D9 C s D)(G:s.heap.objs.size≤a):∀{sl:Slot}{v:Option Ad},DX s F O sl v→DX D F (fun b=>O b∨b=a) sl v
 |.unb,_,_=>trivial
 |.val p,_,⟨y,e,H⟩=>⟨y,e,H.goes fun b o hb A=>⟨x.keep b o (fun B=>hb (.inl (R.tb b B))) A,fun q=>q.elim (fun q=>hb (.inl q)) fun q=>q.elim (fun q=>hb (.inr (.inl q))) fun q=>q.elim (fun q=>hb (.inr (.inr q)))
   fun q=>absurd (BJ A) (A0.mpr (q▸G))⟩⟩
 |.own xs,_,⟨J,n,vs,e,I,E,L,M,h5⟩=>X3 J n vs ⟨e,.inl I,E,L,x.keep _ _ (fun B=>E (R.tb _ B)) M,h5.goes fun b o hb A=>⟨x.keep b o (fun B=>hb (.inl (R.tb b B))) A,fun q=>q.elim (fun q=>hb (.inl q))
   fun q=>q.elim (fun q=>hb (.inr (.inl q))) fun q=>q.elim (fun q=>hb (.inr (.inr q))) fun q=>absurd (BJ A) (A0.mpr (q▸G))⟩⟩
 |.tk y,_,⟨t,e,I,E⟩=>⟨t,e,I,AF E x.toks⟩
 |.at u p,_,⟨e,H⟩=>⟨e,H.goes fun b o hb A=>⟨x.keep b o (fun B=>hb (.inl (R.tb b B))) A,fun q=>q.elim (fun q=>hb (.inl q)) fun q=>q.elim (fun q=>hb (.inr (.inl q))) fun q=>q.elim (fun q=>hb (.inr (.inr q)))
   fun q=>absurd (BJ A) (A0.mpr (q▸G))⟩⟩
theorem Cj.reserve(R:Cj C F O ρ κ s)(G:St F O ρ κ s V)(e:D9 C s B)(H:s.heap.objs.size≤a)(E:a<B.heap.objs.size):
  Cj C F (fun b=>O b∨b=a) ρ κ B∧St F (fun b=>O b∨b=a) ρ κ B V:=by
 have D:=R.ext e;have A:=G.ext R e;have st:St F (fun b=>O b∨b=a) ρ κ B V:=⟨A.1,A.2.1,A.2.2.1,fun y sl I=>(G.2.2.2.1 y sl I).grow R e H,A.2.2.2.2⟩;refine⟨{base:=D.base,kind:=R.kind,glob:=R.glob,blt:=R.blt,tb:=R.tb,yU:=R.yU,nU:=R.nU,lt:=fun b hb=>?_,hi:=fun b hb=>?_,lN:=R.lN,cd:=R.cd,nd:=R.nd,ok:=R.ok,st:=⟨V,st⟩},st⟩
 ·rcases hb with hb|hb|hb|hb
  ·exact D.lt b (.inl hb)
  ·exact D.lt b (.inr (.inl hb))
  ·exact D.lt b (.inr (.inr hb))
  ·exact hb▸E
 ·rcases hb with hb|hb|hb
  ·exact R.hi b (.inl hb)
  ·exact R.hi b (.inr hb)
  ·exact hb▸AA R.base.low H
theorem Cj.mut{C:Cx}{F:Fx}(R:Cj C F O ρ κ s)(hx:(x,.own xs)∈ρ):
  ∃a n vs,O a∧¬F.U a∧¬F.N a∧(∀(M:Model)(A:Bl)(E Q:Ad→AO→Prop),Q (.ref a) s→Af M A (loadName F.env x) Q E s)∧
   ∀s₂,D9 C s s₂→s₂.heap.get? a=some {cls:=.type "list",data:=.seq (BL vs) n}∧DW (F.W O) s₂.heap vs xs∧
    ∀U n' P xs' ρ',Step C (fun b=>Tb b∨b=a) s₂ U→U.heap.get? a=some {cls:=.type "list",data:=.seq (BL P) n'}→DW (F.W O) U.heap P xs'→Upd ρ x (.own xs') ρ'→Cj C F O ρ' κ U:=by
 refine B8 R.st fun V df=>?_;have av:=df;obtain⟨⟨m,hn,co⟩,c1,em,c2,c3⟩:=av;refine V7 (c2 x _ (AC _ hx)) fun a n vs Ns S i d W bi=>?_;have j:129≤a:=R.hi a (.inr S);refine X3 a n vs ⟨S,i,d,fun M A E Q c4=>?_,fun s₂ e=>⟨e.keep _ _ (Cg j) W,bi.ext (fun b hb=>.inl (R.tb b hb)) e,fun U n' P xs' ρ' L bl k l=>?_⟩⟩
 ·rcases c1 x _ hx with hl|⟨hl,c,en,_,f⟩
  ·exact NP R.kind hl hn ((co x hl).trans Ns) c4
  ·exact Nz R.kind hl en (Ns▸f) c4
 ·have nd:=R.nd;have N:(ρ'++κ).map (·.1)=(ρ++κ).map (·.1):=by rw[Ac,Ac,l.keys]
  have v:((ρ'++κ).map (·.1)).Nodup:=N▸nd;have keep:∀b o,¬F.W O b→s.heap.get? b=some o→U.heap.get? b=some o:=fun b o hb G=>
   L.keep b o (fun q=>q.elim (fun q=>hb (.inl (R.tb b q))) fun q=>hb (.inr (.inr (q▸S)))) (e.keep b o (fun q=>hb (.inl (R.tb b q))) G)
  have D:∀b o,129≤b→b≠a→s.heap.get? b=some o→U.heap.get? b=some o:=fun b o hb g G=>L.keep b o (fun q=>q.elim (Cg hb) g) (e.keep b o (Cg hb) G);have I:∀c u,s.heap.IsCell c u→c≠a:=fun c u b2 q=>by refine Bz b2 fun o G hd=>?_;subst q;cases W.symm.trans G;cases hd
  refine {base:=L.base (e.base R.base),kind:=R.kind,glob:=R.glob,blt:=R.blt,tb:=R.tb,yU:=R.yU,nU:=R.nU,lt:=fun b hb=>AF (AF (R.lt b hb) e.size) L.size,hi:=R.hi,lN:=R.lN,cd:=R.cd,nd:=v,ok:=?_,st:=⟨V,?_,fun y J X=>?_,fun y J X=>?_,fun y J X=>?_,fun y z p q b X hz eq er=>?_⟩}
  ·have At:=R.ok;rw[Al]at At⊢;intro p hp;have:p.1∈(ρ++κ).map (·.1):=N▸AU.mpr ⟨p,hp,rfl⟩;refine Bz (AU.mp this) fun q fe e=>?_;rw[←e];exact At q fe
  ·refine Q6 hn fun o es fn G r=>?_;exact⟨m,X3 o es fn ⟨D _ _ (R.hi _ (.inl R.lN)) (fun q=>d (q▸R.lN)) G,r⟩,co⟩
  ·have:∃B,(y,B)∈ρ:=(l.mem X).elim (fun e=>⟨_,e.1▸hx⟩) fun q=>⟨_,q⟩;refine B8 this fun B H=>?_;rcases c1 y B H with hl|⟨hl,c,b3,Gt,If⟩
   ·exact .inl hl
   ·exact .inr ⟨hl,c,b3,Gt,let ⟨o,G,hd⟩:=If;⟨o,D c o (R.hi c (.inl Gt)) (I c _ If) G,hd⟩⟩
  ·obtain⟨hl,c,b3,Gt,If⟩:=em y J X;exact⟨hl,c,b3,Gt,let ⟨o,G,hd⟩:=If;⟨o,D c o Gt.1 (I c _ If) G,hd⟩⟩
  ·have old:∀B,(y,B)∈ρ++κ→y≠x→DX U F O B (V y):=fun B Y g=>by
    have:=c2 y B Y;cases B with
    |unb=>trivial
    |val p=>refine Bz this fun u Z b4=>?_;exact⟨u,Z,b4.goes fun b o hb G=>⟨keep b o hb G,hb⟩⟩
    |own ys=>
     refine V7 this fun Sa Is h Z q1 q2 q3 q4 q5=>?_;have Lt:Sa≠a:=fun q=>g (c3 y x _ _ a Y (AC _ hx) (q▸Z) Ns);exact X3 Sa Is h ⟨Z,q1,q2,q3,D Sa _ (R.hi Sa (.inr q1)) Lt q4,q5.goes fun b o hb G=>⟨keep b o hb G,hb⟩⟩
    |tk z=>refine K8 this fun t Z q1 q2=>?_;exact⟨t,Z,q1,AF (AF q2 e.toks) L.toks⟩
    | «at» u p=>refine ER this fun Z b4=>?_;exact⟨Z,b4.goes fun b o hb G=>⟨keep b o hb G,hb⟩⟩
   by_cases T:y=x
   ·subst T;have:J= .own xs':=FR v X (AC _ l.new);subst this;exact X3 a n' P ⟨Ns,S,i,d,bl,k⟩
   ·rcases AR.mp X with H | H
    ·exact old J (AC _ ((l.mem H).resolve_left fun q=>T q.1)) T
    ·exact old J (Ak _ H) T
  ·have old:∀u r,(u,Slot.own r)∈ρ'++κ→∃r',(u,Slot.own r')∈ρ++κ:=fun u r ck=>by
    rcases AR.mp ck with q|q
    ·rcases l.mem q with w|w
     ·exact⟨xs,AC _ (w.1▸hx)⟩
     ·exact⟨r,AC _ w⟩
    ·exact⟨r,Ak _ q⟩
   refine B8 (old y p X) fun p' H=>?_;refine B8 (old z q hz) fun q' cn=>?_;exact c3 y z p' q' b H cn eq er
structure PO(Z:Zx)(k:Nat)(F:Fx)(ρ κ:Ci)(e:Aj)(xs:List PV):Prop where
 ofRun::
 run:
  ∀(A:Bl)(O:AS)(s:AO)(V:Ax→Option Ad)(Q:Ad→AO→Prop)(E:Ad→AO→Prop),Good k A→Cj Z.C F O ρ κ s→St F O ρ κ s V→
   (∀(a n:Nat) vs s',s.heap.objs.size≤a→Cj Z.C F (fun b=>O b∨b=a) ρ κ s'→St F (fun b=>O b∨b=a) ρ κ s' V→s'.heap.get? a=some {cls:=.type "list",data:=.seq (BL vs) n}→
    DW (F.W (fun b=>O b∨b=a)) s'.heap vs xs→D9 Z.C s s'→Q (.ref a) s')→Af (Ar Z.prog Z.w) A (D4 e F.env) Q E s
inductive IK where
 |val (p:PV)
 |own (xs:List PV)
noncomputable def IK.slot:IK→Internal.Slot
 |.val p=>.val p
 |.own xs=>.own xs
noncomputable def Lj(F:Fx)(O:AS)(s:AO)(v:Ad):IK→Prop
 |.val p=>VR (F.W O) s.heap v p
 |.own xs=>∃a n vs,v= .ref a∧O a∧¬F.U a∧¬F.N a∧s.heap.get? a=some {cls:=.type "list",data:=.seq (BL vs) n}∧DW (F.W O) s.heap vs xs
theorem Lj.slot(h:Lj F O s v ik):DX s F O ik.slot (some v):=by
 cases ik with
 |val p=>exact⟨v,rfl,h⟩
 |own xs=>refine Q6 h fun a n vs A r=>?_;subst A;exact X3 a n vs ⟨rfl,r⟩
theorem Lj.of_slot(h:DX s F O ik.slot (some v)):Lj F O s v ik:=by
 cases ik with
 |val p=>refine Bz h fun x e h=>?_;cases e;exact h
 |own xs=>refine Q6 h fun a n vs e r=>?_;cases e;exact X3 a n vs ⟨rfl,r⟩
noncomputable def Q1(F:Fx)(O:AS)(s:AO):Nat→List Ad→List IK→Prop
 |_,[],[]=>True
 |n₀,v::vs,.val p::iks=>Lj F O s v (.val p)∧Q1 F O s n₀ vs iks
 |n₀,v::vs,.own xs::iks=>Lj F O s v (.own xs)∧(∃a,v= .ref a∧n₀≤a∧Q1 F O s (a+1) vs iks)
 |_,_,_=>False
structure I7(Z:Zx)(k:Nat)(F:Fx)(ρ κ:Ci)(es:List Aj)(iks:List IK):Prop where
 ofRun::
 run:
  ∀(A:Bl)(O:AS)(s:AO)(V:Ax→Option Ad)(pos:JE)(Q:List Ad→AO→Prop)(E:Ad→AO→Prop),Good k A→Cj Z.C F O ρ κ s→St F O ρ κ s V→
   (∀vs s' O',Cj Z.C F O' ρ κ s'→St F O' ρ κ s' V→Q1 F O' s' s.heap.objs.size vs iks→(∀b,O b→O' b)→(∀b,O' b→O b∨s.heap.objs.size≤b)→D9 Z.C s s'→Q vs s')→
    Af (Ar Z.prog Z.w) A (FU (DO pos (B_ es F.env))) Q E s
section
variable{Z:Zx}{k:Nat}{F:Fx}{ρ κ:Ci}{st:Bool}
theorem DX.wider(x:D9 C s H)(A:∀b,Tb b→F.U b)(J:∀b,O b→O' b)(D:∀b,O' b→O b∨s.heap.objs.size≤b)(h:DX s F O sl v):DX H F O' sl v:=by
 have go:∀b o,¬F.W O b→s.heap.get? b=some o→H.heap.get? b=some o∧¬F.W O' b:=fun b o hb I=>⟨x.keep b o (fun q=>hb (.inl (A b q))) I,fun q=>q.elim (fun q=>hb (.inl q)) fun q=>q.elim (fun q=>hb (.inr (.inl q)))
  fun q=>(D b q).elim (fun q=>hb (.inr (.inr q))) fun q=>absurd (BJ I) (A0.mpr q)⟩
 cases sl with
 |unb=>trivial
 |val p=>refine Bz h fun y e E=>?_;exact⟨y,e,E.goes go⟩
 |own xs=>refine V7 h fun a n vs e G B L M h5=>?_;exact X3 a n vs ⟨e,J a G,B,L,x.keep _ _ (fun q=>B (A a q)) M,h5.goes go⟩
 |tk y=>refine K8 h fun t e G B=>?_;exact⟨t,e,G,AF B x.toks⟩
 | «at» u p=>refine ER h fun e E=>?_;exact⟨e,E.goes go⟩
theorem Q1.wider(x:D9 C s E)(A:∀b,Tb b→F.U b)(D:∀b,O b→O' b)(B:∀b,O' b→O b∨s.heap.objs.size≤b):∀{n₀:Nat}{vs:List Ad}{iks:List IK},Q1 F O s n₀ vs iks→Q1 F O' E n₀ vs iks
 |_,[],[],_=>trivial
 |_,v::vs,.val p::iks,⟨a,b⟩=>⟨Lj.of_slot (ik:=.val p) (a.slot.wider x A D B),b.wider x A D B⟩
 |_,v::vs,.own xs::iks,⟨a,c,e,h,b⟩=>⟨Lj.of_slot (ik:=.own xs) (a.slot.wider x A D B),c,e,h,b.wider x A D B⟩
 |_,[],_::_,h=>h.elim
 |_,_::_,[],h=>h.elim
theorem Q1.low:∀{n₀ m:Nat}{vs:List Ad}{iks:List IK},m≤n₀→Q1 F O s n₀ vs iks→Q1 F O s m vs iks
 |_,_,[],[],_,_=>trivial
 |_,_,v::vs,.val p::iks,A,⟨a,b⟩=>⟨a,b.low A⟩
 |_,_,v::vs,.own xs::iks,A,⟨a,c,e,h,b⟩=>⟨a,c,e,AA A h,b⟩
 |_,_,[],_::_,_,h=>h.elim
 |_,_,_::_,[],_,h=>h.elim
theorem I7.nil:I7 Z k F ρ κ [] []:=.ofRun fun A O s V pos Q E G R B C=>AX (C [] s O R B trivial (fun D h=>h) (fun D h=>.inl h) (.refl _))
theorem I7.val(h:PE Z k F ρ κ true e p)(hs:I7 Z k F ρ κ es iks)(I:autoParam (CW e=false) ar):I7 Z k F ρ κ (e::es) (.val p::iks):=.ofRun fun A O s V pos Q E G R J L=>by
 rw[B9 I];show Af _ _ (D4 e F.env>>=fun v=>(pure [v]:Ku (List Ad))>>=fun here=>D3 here (FU (DO pos (B_ es F.env)))>>=fun r=>pure (here++r)) _ _ _;refine AJ (h.run A O s _ _ G R fun v M N x=>?_);refine AJ (AX (AJ (BV (hs.run A O M V pos _ _ G (R.ext x) (J.ext R x) fun vs P O' S C D H B y=>?_))));refine AX (L _ _ O' S C ⟨Lj.of_slot (ik:=.val p) (DX.wider (sl:=.val p) y R.tb H B ⟨v,rfl,N⟩),D.low x.size⟩ H (fun b hb=>(B b hb).imp_right fun q=>AA x.size q) (x.trans y))
theorem I7.own(h:PO Z k F ρ κ e xs)(hs:I7 Z k F ρ κ es iks)(S:autoParam (CW e=false) ar):I7 Z k F ρ κ (e::es) (.own xs::iks):=.ofRun fun A O s V pos Q E G R T U=>by
 rw[B9 S];show Af _ _ (D4 e F.env>>=fun v=>(pure [v]:Ku (List Ad))>>=fun here=>D3 here (FU (DO pos (B_ es F.env)))>>=fun r=>pure (here++r)) _ _ _;refine AJ (h.run A O s V _ _ G R T fun a n vs W I X J N L x=>?_);refine AJ (AX (AJ (BV (hs.run A _ W V pos _ _ G X J fun Y c O' M B C P D y=>?_))));have H:∀b,F.W O b→b≠a:=fun b hb q=>As _ (AF (R.lt b hb) (q▸I));refine AX (U _ _ O' M B ⟨Lj.of_slot (ik:=.own xs) (DX.wider (sl:=.own xs) y R.tb P D (X3 a n vs ⟨rfl,.inr rfl,fun q=>H a (.inl q) rfl,fun q=>H a (.inr (.inl q)) rfl,N,L⟩)),a,rfl,I,C.low (BJ N)⟩
  (fun b hb=>P b (.inl hb)) (fun b hb=>(D b hb).elim (fun q=>q.elim .inl fun q=>.inr (q▸I)) fun q=>.inr (AA x.size q)) (x.trans y))
theorem PO.mk(h:∀(A:Bl)(O:AS)(s:AO)(Q:Ad→AO→Prop)(E:Ad→AO→Prop),Good k A→Cj Z.C F O ρ κ s→
   (∀(a n:Nat) vs B,s.heap.objs.size≤a→B.heap.get? a=some {cls:=.type "list",data:=.seq (BL vs) n}→DW (fun b=>F.W O b∨b=a) B.heap vs xs→D9 Z.C s B→Q (.ref a) B)→Af (Ar Z.prog Z.w) A (D4 e F.env) Q E s):
  PO Z k F ρ κ e xs:=.ofRun fun A O s V Q E G R J L=>h A O s Q E G R fun a n vs B I C D x=>by
 refine ER (R.reserve J x I (BJ C)) fun M H=>?_;exact L a n vs B I M H C (D.goes fun b o hb C=>⟨C,fun q=>hb (q.elim (fun q=>.inl (.inl q)) fun q=>q.elim (fun q=>.inl (.inr (.inl q))) fun q=>q.elim (fun q=>.inl (.inr (.inr q))) .inr)⟩) x
theorem DW.apart(x:DW W h vs xs)(B:∀b o,h.get? b=some o→h'.get? b=some o)(C:h.objs.size≤a):DW (fun b=>W b∨b=a) h' vs xs:=
 x.goes fun b o hb A=>⟨B b o A,fun q=>q.elim hb fun q=>absurd (BJ A) (A0.mpr (q▸C))⟩
theorem PO.list(h:JY Z k F ρ κ true es ps)(C:ps.length≤1000:=by exact C7 rfl):PO Z k F ρ κ (.List es pos) ps:=
 .mk fun A O s Q E G R H=>List_ (h.run A O s pos _ _ G R fun vs D B x=>by
  refine D1 (s:=D) ?_ (by show vs.toArray.size≤Ey;rw[Ab,B.length,Ay];exact cc C);exact H _ 0 vs _ x.size (A4 _ rfl) (DW.apart B (fun b o e=>Am _ e) (AK _)) (x.trans (.push (t:=D.toks))))
class inductive IV:Ci→List (Ax×IK)→Ci→Prop where
 |nil {ρ:Ci}:IV ρ [] ρ
 |cons {ρ ρ₁ ρ':Ci} {x:Ax} {ik:IK} {l:List (Ax×IK)} (h:Upd ρ x ik.slot ρ₁) (hs:IV ρ₁ l ρ'):IV ρ ((x,ik)::l) ρ'
structure kf where
 f:Ad→Ku Unit
 x:Ax
 v:Ad
 ik:IK
theorem Cj.putAll:∀(L:List kf){ρ ρ':Ci}{s:AO}{V:Ax→Option Ad}{Q:Unit→AO→Prop},
  (∀t∈L,∀v Q s,Af M A (Nf F.env t.x v) Q E s→Af M A (t.f v) Q E s)→
  Cj C F O ρ κ s→St F O ρ κ s V→(∀t∈L,Lj F O s t.v t.ik)→(L.Pairwise fun t u=>∀xs ys,t.ik= .own xs→u.ik= .own ys→t.v≠u.v)→
  (∀y q,(y,Slot.own q)∈ρ++κ→∀t∈L,∀xs,t.ik= .own xs→V y≠some t.v)→IV ρ (L.map fun t=>(t.x,t.ik)) ρ'→
  (∀U,Cj C F O ρ' κ U→Step C F.N s U→Q () U)→Af M A (G2 (L.map fun t=>t.f) (L.map fun t=>t.v)) Q E s
 |[],ρ,ρ',s,V,Q,_,R,W,_,_,_,X,Y=>by
  cases X;exact AX (Y s R (.refl _))
 |⟨f,x,v,ik⟩::L,ρ,ρ',s,V,Q,B,R,W,P,S,H,X,Y=>by
  cases X with
  | @cons _ ρ₁ _ _ _ _ h hs=>
  show Af M A (do D3 (L.map fun t=>t.v) (f v);G2 (L.map fun t=>t.f) (L.map fun t=>t.v)) Q E s;have J:DX s F O ik.slot (some v):=Lj.slot (P ⟨f,x,v,ik⟩ AB);refine AJ (BV (B ⟨f,x,v,ik⟩ AB _ _ _ (R.putV h (fun u0 h=>h) (fun b hb=>⟨R.hi b (.inr hb),R.lt b (.inr (.inr hb))⟩) J W W.2.2.2.1 (fun y q I q' e=>?_) fun U l c D=>?_)))
  ·cases ik with
   |val p=>cases e
   |own xs=>exact H y q I _ AB xs rfl
  ·refine Cj.putAll L (fun t N=>B t (AG _ N)) l c (fun t N=>?_) (DH.mp S).2 (fun y q I t N xs e=>?_) hs fun d g T=>Y d g (D.trans T)
   ·
    have:DX s F O t.ik.slot (some t.v):=Lj.slot (P t (AG _ N));refine Lj.of_slot ?_;revert this;cases t.ik with
    |val p=>rintro⟨y,e,r⟩;exact⟨y,e,r.goes fun b o hb i=>⟨D.keep b o (fun q=>hb (.inr (.inl q))) i,hb⟩⟩
    |own xs=>rintro⟨a,n,vs,e,z,At,m,Gt,h5⟩;exact X3 a n vs ⟨e,z,At,m,D.keep _ _ m Gt,h5.goes fun b o hb i=>⟨D.keep b o (fun q=>hb (.inr (.inl q))) i,hb⟩⟩
   ·show(if y=x then some v else V y)≠some t.v;by_cases G:y=x
    ·rw[if_pos G];intro If;have j:ik.slot= .own q:=by
      have nd:=l.nd;exact FR nd (AC _ h.new) (G▸I)
     cases ik with
     |val p=>cases j
     |own ys=>exact(DH.mp S).1 t N ys xs rfl e (CT If)
    ·rw[if_neg G];refine H y q ?_ t (AG _ N) xs e;rcases AR.mp I with I|I
     ·exact AC _ ((h.mem I).resolve_left fun w=>G w.1)
     ·exact Ak _ I
end
inductive Fl where
 |next
 |brk
 |ret (p:PV)
noncomputable def SM(F:Fx)(s:AO):Fl→RA→Prop
 |.next,f=>f= .next
 |.brk,f=>f= .brk
 |.ret p,f=>∃v,f= .ret v∧VR F.U s.heap v p
structure P1(Z:Zx)(k:Nat)(F:Fx)(ρ κ:Ci)(t:D7)(fl:Fl)(ρ':Ci):Prop where
 ofRun::
 run:
  ∀(A:Bl)(O:AS)(s:AO)(Q:RA→AO→Prop)(E:Ad→AO→Prop),Good k A→Cj Z.C F O ρ κ s→
   (∀f s' O',SM F s' fl f→Cj Z.C F O' ρ' κ s'→Step Z.C (F.X O) s s'→(∀b,O' b→O b∨s.heap.objs.size≤b)→Q f s')→Af (Ar Z.prog Z.w) A (bT t F.env) Q E s
structure PS(Z:Zx)(k:Nat)(F:Fx)(ρ κ:Ci)(ts:List D7)(fl:Fl)(ρ':Ci):Prop where
 ofRun::
 run:
  ∀(A:Bl)(O:AS)(s:AO)(Q:RA→AO→Prop)(E:Ad→AO→Prop),Good k A→Cj Z.C F O ρ κ s→
   (∀f s' O',SM F s' fl f→Cj Z.C F O' ρ' κ s'→Step Z.C (F.X O) s s'→(∀b,O' b→O b∨s.heap.objs.size≤b)→Q f s')→Af (Ar Z.prog Z.w) A (Io ts F.env) Q E s
theorem Step.ofN{C:Cx}{F:Fx}(x:Step C F.N s A):Step C (F.X O) s A:=x.mono fun b h=>.inr (.inl h)
theorem Step.ofE{C:Cx}{F:Fx}(x:D9 C s A):Step C (F.X O) s A:=x.mono fun b h=>.inl h
theorem Step.thenX{C:Cx}{F:Fx}(x:Step C (F.X O) s A)(y:Step C (F.X O') A B)(h:∀b,O' b→O b∨s.heap.objs.size≤b):Step C (F.X O) s B:=
 x.comp y fun b hb=>hb.elim (fun q=>.inl (.inl q)) fun q=>q.elim (fun q=>.inl (.inr (.inl q))) fun q=>(h b q).imp_left fun q=>.inr (.inr q)
section
variable{Z:Zx}{k:Nat}{F:Fx}{ρ ρ₁ ρ' κ:Ci}{st:Bool}
theorem PS.nil:PS Z k F ρ κ [] .next ρ:=.ofRun fun A O s Q E G R B=>Sm (B _ s O rfl R (.refl _) fun C h=>.inl h)
theorem PS.cons(h:P1 Z k F ρ κ t .next ρ₁)(hs:PS Z k F ρ₁ κ M fl ρ'):PS Z k F ρ κ (t::M) fl ρ':=.ofRun fun A O s Q E G R N=>
 C9 (h.run A O s _ _ G R fun f C D I H x B=>by
  have J:f= .next:=I;subst J;exact hs.run A D C Q E G H fun f P O' I S y L=>N f P O' I S (x.thenX y B) fun b hb=>(L b hb).elim (fun q=>B b q) fun q=>.inr (AA x.size q))
theorem PS.stop(h:P1 Z k F ρ κ t fl ρ')(hn:fl≠ .next:=by intro h;cases h):PS Z k F ρ κ (t::N) fl ρ':=.ofRun fun A O s Q E G R M=>
 C9 (h.run A O s _ _ G R fun f C D I H x B=>by
  have:=M f C D I H x B;cases fl with
  |next=>exact absurd rfl hn
  |brk=>have J:f= .brk:=I;subst J;exact this
  |ret p=>refine Bz I fun v L _=>?_;subst L;exact this)
theorem PS.one(h:P1 Z k F ρ κ t fl ρ'):PS Z k F ρ κ [t] fl ρ':=by
 cases fl with
 |next=>exact .cons h .nil
 |brk=>exact .stop h
 |ret p=>exact .stop h
theorem P1.pass:P1 Z k F ρ κ (.Pass pos) .next ρ:=.ofRun fun A O s Q E G R B=>wpAny_Pass (B _ s O rfl R (.refl _) fun C h=>.inl h)
theorem P1.brk:P1 Z k F ρ κ (.Break pos) .brk ρ:=.ofRun fun A O s Q E G R B=>wpAny_Break (B _ s O rfl R (.refl _) fun C h=>.inl h)
theorem P1.ret(h:PE Z k F ρ κ false e p):P1 Z k F ρ κ (.Return (some e) pos) (.ret p) ρ:=.ofRun fun A O s Q E G R B=>
 wpAny_Return_some (h.run A O s _ _ G R fun v C D x=>B _ C O ⟨v,rfl,D.goes fun b o hb H=>⟨H,fun q=>hb (.inl q)⟩⟩ (R.ext x) (.ofE x) fun I h=>.inl h)
theorem P1.ifT(h:PB Z k F ρ κ t true)(hb:PS Z k F ρ κ b fl ρ'):P1 Z k F ρ κ (.If t b o pos) fl ρ':=.ofRun fun A O s Q E G R D=>
 Ue (h.run A O s _ _ G R fun B x=>hb.run A O B Q E G (R.ext x) fun f H O' I J y C=>D f H O' I J ((Step.ofE x).trans y) fun b hb=>(C b hb).imp_right fun q=>AA x.size q)
theorem P1.ifF(h:PB Z k F ρ κ t false)(D:PS Z k F ρ κ o fl ρ'):P1 Z k F ρ κ (.If t b o pos) fl ρ':=.ofRun fun A O s Q E G R H=>
 Ue (h.run A O s _ _ G R fun B x=>D.run A O B Q E G (R.ext x) fun f I O' J L y C=>H f I O' J L ((Step.ofE x).trans y) fun b hb=>(C b hb).imp_right fun q=>AA x.size q)
theorem P1.ite(h:PB Z k F ρ κ t c)(hb:c=true→PS Z k F ρ κ b fl ρ')(A:c=false→PS Z k F ρ κ o fl ρ'):P1 Z k F ρ κ (.If t b o pos) fl ρ':=by
 cases c with
 |true=>exact .ifT h (hb rfl)
 |false=>exact .ifF h (A rfl)
theorem P1.asrt(h:PB Z k F ρ κ t true):P1 Z k F ρ κ (.Assert t m pos) .next ρ:=.ofRun fun A O s Q E G R C=>
 wpAny_Assert_holds (h.run A O s _ _ G R fun B x=>⟨rfl,C _ B O rfl (R.ext x) (.ofE x) fun D h=>.inl h⟩)
theorem P1.assign(h:PE Z k F ρ κ true e p)(C:Upd ρ x (.val p) ρ')(hs:autoParam (Ju e (some (.Name x np)) pos.line F.env=pure false) ar):P1 Z k F ρ κ (.Assign [.Name x np] e pos) .next ρ':=.ofRun fun A O s Q E G R D=>
 He (h.run A O s _ _ G R fun v B H y=>(R.ext y).putVal C H fun I J z=>D _ I O rfl J ((Step.ofE y).trans (.ofN z)) fun L h=>.inl h) hs
theorem P1.assignOwn(h:PO Z k F ρ κ e xs)(N:Upd ρ x (.own xs) ρ')(hs:autoParam (Ju e (some (.Name x np)) pos.line F.env=pure false) ar):P1 Z k F ρ κ (.Assign [.Name x np] e pos) .next ρ':=.ofRun fun A O s Q E G R P=>by
 refine B8 R.st fun V J=>?_;have D:∀a,s.heap.objs.size≤a→∀b,F.W O b→b≠a:=fun a H b hb q=>As _ (AF (R.lt b hb) (q▸H));refine He (h.run A O s V _ _ G R J fun a n vs L H B C S I y=>?_) hs;refine B.putV N (fun M h=>h) (fun b hb=>⟨B.hi b (.inr hb),B.lt b (.inr (.inr hb))⟩) (X3 a n vs ⟨rfl,.inr rfl,fun q=>D a H a (.inl q) rfl,fun q=>D a H a (.inr (.inl q)) rfl,S,I⟩) C C.2.2.2.1 (fun y q T d M e=>?_) fun U W M z=>P _ U _ rfl W ((Step.ofE y).trans (.ofN z)) fun b (hb:O b∨b=a)=>hb.imp_right fun(q:b=a)=>q▸H;refine V8 (J.2.2.2.1 y _ T) fun f g X Y c _=>?_;cases e.symm.trans Y;exact D a H a (.inr (.inr c)) rfl
theorem P1.aug(hx:(x,.val p)∈ρ)(h:PE Z k F ρ κ true e q)
  (H:∀A (W:AS) s v u Q E,VR W s.heap v p→VR W s.heap u q→(∀w B,VR W B.heap w r→D9 Z.C s B→Q w B)→Af (Ar Z.prog Z.w) A (inplaceOp J v u) Q E s) (L:Upd ρ x (.val r) ρ'):P1 Z k F ρ κ (.AugAssign (.Name x np) J e pos) .next ρ':=.ofRun fun A O s Q E G R M=>
 wpAny_AugAssign_Name (R.load (AC _ hx) (FE (R.nameOk (AC _ hx))) (by intro h;cases h) fun v D=>by
  refine Bz D fun _ e N=>?_;cases e;exact h.run A O s _ _ G R fun u C I y=>H A _ C v u _ _ (N.ext (fun b hb=>.inl (R.tb b hb)) y) I fun w s₂ P z=>((R.ext y).ext z).putVal L P fun B S T=>M _ B O rfl S ((Step.ofE (y.trans z)).trans (.ofN T)) fun U h=>.inl h)
theorem P1.augSub(hx:(x,.val (.int a))∈ρ)(h:PE Z k F ρ κ false e (.int b))(C:Upd ρ x (.val (.int (a-b))) ρ'):P1 Z k F ρ κ (.AugAssign (.Name x np) .Sub e pos) .next ρ':=
 .aug hx h.up (fun A W s v u Q E D C G=>by refine B8 D.int_inv fun t B=>?_;subst B;refine B8 C.int_inv fun H B=>?_;subst B;exact dJ (G _ _ (.int ..) .tok)) C
theorem P1.augAdd(hx:(x,.val (.int a))∈ρ)(h:PE Z k F ρ κ false e (.int b))(C:Upd ρ x (.val (.int (a+b))) ρ'):P1 Z k F ρ κ (.AugAssign (.Name x np) .Add e pos) .next ρ':=
 .aug hx h.up (fun A W s v u Q E D C G=>by refine B8 D.int_inv fun t B=>?_;subst B;refine B8 C.int_inv fun H B=>?_;subst B;exact dK (G _ _ (.int ..) .tok)) C
theorem P1.augXor(hx:(x,.val (.int a))∈ρ)(h:PE Z k F ρ κ false e (.int b))(C:Upd ρ x (.val (.int (Kv a b))) ρ'):P1 Z k F ρ κ (.AugAssign (.Name x np) .BitXor e pos) .next ρ':=
 .aug hx h.up (fun A W s v u Q E D C G=>by refine B8 D.int_inv fun t B=>?_;subst B;refine B8 C.int_inv fun H B=>?_;subst B;exact PyProof.Rows.ixor_int (G _ _ (.int ..) .tok)) C
theorem Ep(A:s.heap.get? a=some {cls:=.type "list",data:=.seq (BL vs) n}) (B:129≤a) (f:Array Ad→Array Ad) (D:f vs.toArray=ws.toArray):
  ∃E,({s with heap:=s.heap.update a (E9 f)}:AO).heap.get? a=some {cls:=.type "list",data:=.seq (BL ws) E}∧Step C (fun b=>Tb b∨b=a) s {s with heap:=s.heap.update a (E9 f)}:=
 ⟨_,D▸IsL.update (n:=n) A f,Step.write (t:=s.toks) (KB ..) B (.inr rfl) fun o e=>QZ A rfl o e⟩
noncomputable def Fb(Z:Zx)(k:Nat)(name:Ax)(xs ps xs':List PV):Prop:=
 ∃id:String,WT "list" name id∧typeOf (.builtin id)=pure (.type "method_descriptor")∧
  ∀(A:Bl)(s:AO)(W:AS)(a n:Nat)(ws vs:List Ad)(Q:Ad→AO→Prop)(E:Ad→AO→Prop),Good k A→s.heap.get? a=some {cls:=.type "list",data:=.seq (BL ws) n}→DW W s.heap ws xs→DW W s.heap vs ps→
   (∀f B,f ws.toArray=BL B→DW W s.heap B xs'→Q .none {s with heap:=s.heap.update a (E9 f)})→Af (Ar Z.prog Z.w) A (call (.builtin id) (.ref a::vs)) Q E s
theorem Fb.append(hz:xs.length≤1000000):Fb Z k "append" xs [p] (xs++ [p]):=⟨"list.append",Ez,QE,fun A s W a n ws vs Q E G H I B J=>by
 refine Bz B.one fun v C D=>?_;subst C;have B:=D;refine Ee Ez ⟨_,H,rfl⟩ Iu (II _ _) (bS a ws.toArray n v (by rw[Ab,I.length,Ay];exact O9 hz)) ⟨H,?_⟩;exact J _ (ws++ [v]) (by simp) (I.append ⟨B,trivial⟩)⟩
theorem Fb.extend(hz:xs.length+ys.length≤1000000):Fb Z k "extend" xs [.list ys] (xs++ys):=⟨"list.extend",QG,PySem.F.type_list_extend,fun A s W a n ws vs Q E G M I J N=>by
 refine Bz J.one fun v B L=>?_;subst B;have J:=L;refine IW J.list_inv fun b H us B hb C D=>?_;subst B;refine Ee QG ⟨_,M,rfl⟩ PySem.F.entry_list_extend (PySem.F.args_list_extend_2 _ _) (AutoSeq1.list_extend_list_list_0 a ws.toArray n b us.toArray H ?_ (by rw[Ab,I.length,Ay];exact AA (AM _ _) (AA hz dc)) (by rw[Ab,Ab,I.length,D.length,Ay];exact AA hz dc)) ⟨M,C,?_⟩
 ·simp only[Ab,I.length,D.length,A7,not_and,Nh,decide_eq_true_eq];intro _;rw[Ay];exact A0.mpr (AA hz dc)
 ·exact N _ (ws++us) (by simp) (I.append D)⟩
theorem Fb.insert(J:0≤i)(hi:i≤xs.length)(hz:xs.length≤1000000):Fb Z k "insert" xs [.int i,p] (xs.take i.toNat++p::xs.drop i.toNat):=⟨"list.insert",GI,QD,fun A s W a n ws vs Q E G L D B M=>by
 refine Hd B.two fun v u C H N=>?_;subst C;have B:=H;refine B8 B.int_inv fun t C=>?_;subst C;refine Ee GI ⟨_,L,rfl⟩ PG (Oy _ _ _) (LM a ws.toArray n i t u ?_ (by rw[Ab,D.length,Ay];exact O9 hz)) ⟨L,?_⟩
 ·rw[P8 J (Bc hi (Bc (A3.mpr hz) dc))];decide
 ·have hl:=D.length;refine M _ (ws.take i.toNat++u::ws.drop i.toNat) ?_ ?_
  ·have O:¬i<0:=dX J;have P:Uq i.toNat ws.length=i.toNat:=hA hi hz hl;simp only[O,P,if_false,Ab,WL,ZI,IR,RE,G6,Kx];rw[DN (l:=Lz i.toNat ws) (by rw[Ca];exact AK _)];simp
  ·refine DW.of_at ?_ fun j v p B hp=>?_
   ·simp;exact lM hi hz hl
   ·rw[Hu]at B hp;have R:(Ly i.toNat ws).length=i.toNat:=by rw[CC];exact hA hi hz hl
    have S:(Ly i.toNat xs).length=i.toNat:=by rw[CC];exact lL hi hz hl
    rw[R]at B;rw[S]at hp;by_cases I:j<i.toNat
    ·rw[if_pos I,E8 I]at B hp;exact D.at j _ _ B hp
    ·rw[if_neg I]at B hp;cases hd:j-i.toNat with
     |zero=>rw[hd]at B hp;simp at B hp;subst B hp;exact N
     |succ m=>
      rw[hd]at B hp;simp only[DA,EC]at B hp;exact D.at _ _ _ B hp⟩
theorem P1.mutate(hx:(x,.own xs)∈ρ)(V:JY Z k F ρ κ true es ps)(i:Fb Z k name xs ps xs')(j:Upd ρ x (.own xs') ρ')(hn:autoParam (C0 es=true) ar)
  (hi:B5 F.env=false)
  (W:∃pl:Ku Bool,D4 (.Call (.Attribute (.Name x np) name I) es [] pos) F.env=(do
   let e ←D4 (.Name x np) F.env
   Hf I.atName
   let (f,first)←D3 [e] (F3 e name pl)
   Iq pos f first (DO pos (B_ es F.env)) []):=by exact⟨_,rfl⟩):P1 Z k F ρ κ (.Expr (.Call (.Attribute (.Name x np) name I) es [] pos) g) .next ρ':=.ofRun fun A O s Q E G R l=>by
 refine B8 W fun pl W=>?_;refine K8 i fun id N X m=>?_;refine a0 (R.mut hx) fun a n ws J p r L B=>?_;refine J4 (HS (pl:=pl) (Ed (L _ _ _ _ ?_) (DF (R.nameOk (AC _ hx)))) W) hi rfl;refine Nc (B s (.refl _)) fun U t _=>?_;refine Kf N X (Er U) ⟨_,U,rfl⟩ ?_;refine DG (C:=Z.C) (.builtin id) hn (V.run A O s pos _ _ G R fun vs s₂ Y y=>⟨(R.ext y).base,?_⟩);refine Nc (B s₂ y) fun D H P=>?_;refine m A s₂ (F.W O) a n ws vs _ E G D H Y fun f S u T=>?_;refine Bz (Ep (C:=Z.C) D (R.hi a (.inr J)) f u) fun v c M=>?_;have d:DW (F.W O) ({s₂ with heap:=s₂.heap.update a (E9 f)}:AO).heap S xs':=T.goes fun b o hb U=>⟨M.keep b o (fun q=>q.elim (fun q=>hb (.inl (R.tb b q))) fun q=>hb (.inr (.inr (q▸J)))) U,hb⟩;exact l _ _ O rfl (P _ v S xs' ρ' M c d j) ((Step.ofE y).trans (M.mono fun b hb=>hb.elim .inl fun q=>.inr (.inr (q▸J)))) fun w h=>.inl h
end
section
variable{prog:IZ}{w:P'}{A:Bl}{E:Ad→AO→Prop}{s:AO}
theorem O1{l:Ch}{items:Array Ad}{n:Nat}{i:Int}(C:s.heap.get? l=some {cls:=.type "list",data:=.seq items n}) (G:0≤i) (B:i<2^63) (hi:i<items.size)
  (H:Q () {s with heap:=s.heap.update l (E9 (·.setIfInBounds i.toNat v))}):Af (Ar prog w) A (setItem (.ref l) (.int i t) v) Q E s:=by
 have hl:=Er C;have I:=P8 G B;clear B;unfold setItem;refine BV (AJ (wpAny_sequenceKey hl.typeIs dc ?_));refine AJ (HO (name:=Ap "__setitem__") hl.typeIs slot_list_setitem (LI slot_list_setitem hl.typeIs entry_list_setitem ?_ (args_list_setitem _ _ _)));show Af _ _ (Builtin.List.listSubscript? (.int i t)>>=_) _ _ s;refine AJ (wpAny_listSubscript_int I ?_);refine B8 (Int.eq_ofNat_of_zero_le G) fun j D=>?_;subst D;have J:j<items.size:=Z1 hi;have F:items[j]?=some items[j]:=Ev J;show Af _ _ ((seqItemAt l j>>=fun r=>pure (r.map (j, ·)))>>=_) _ _ s;refine AJ (AJ (wpAny_seqItemAt C rfl (AX ?_)));rw[F];show Af _ _ (setSeqItemAt l j v>>=_) _ _ s;refine AJ (wpAny_setSeqItemAt C rfl ?_)
 first
  |exact AJ (AX (AX ⟨.none,rfl,AX H⟩))
  |exact AX ⟨.none,rfl,AX H⟩
theorem Vk(M:t≠H):∀(n i:Nat)(s:AO)(Q:List Ad→AO→Prop),s.heap.IsListIter H t i→s.heap.IsList t items→i+n≤items.size→
  (∀h',h'.IsListIter H t (i+n)→Ia H s.heap h'→Q ((items.toList.drop i).take n) {s with heap:=h'})→Af (Ar prog w) A (draw (.ref H) n) Q E s:=by
 intro N
 induction N with
 |zero=>
  intro i s Q F _ _ O;show Af _ _ (pure []) Q E s;exact AX (by simpa using O s.heap F (Heap.SameBut.refl ..))
 |succ n S=>
  intro i s Q F P I O;have J:i<items.size:=by exact AF (BZ (Bx _)) I
  show Af _ _ (Ks (.ref H)>>=_) Q E s;refine AJ (wpAny_pyNext_list_item F P (x:=items[i]) (by simp[J]) fun R C B=>?_);refine AJ (BV (S (i+1) _ _ C (P.extBut B.extBut M) (j7 I) fun L D G=>AX ?_));have hd:items.toList.drop i=items[i]::items.toList.drop (i+1):=by simp[GM,J]
  have:=O L (by rw[(by exact aX:i+(n+1)=i+1+n)];exact D) (B.trans G);rw[hd,WZ]at this;exact this
theorem Mq(M:A.handled=none)(G:s.heap.IsList t items)
  (N:∀h',WF s.heap.objs.size s.heap h'→Q items.toList {s with heap:=h'}):Af (Ar prog w) A (bQ (.ref t) items.size none) Q E s:=by
 have H:t≠s.heap.objs.size:=by refine Bz G fun o O _=>?_;exact BX (BJ O)
 unfold bQ;refine AJ ?_;unfold notIterableAtAll;refine AJ (Mf G.typeIs slot_list_iter.lookup ?_);refine AX ?_;refine AJ (BV (P6 G ?_));refine AJ (BV (Vk H items.size 0 _ _ ⟨_,A4 _ rfl,rfl,rfl⟩ (G.push _) (gL) fun L C B=>?_));have I:Ly items.size (Lz 0 items.toList)=items.toList:=by
  rw[G6];exact DN (by exact AK _)
 rw[I];rw[if_neg (by simp)];have D:=(G.push {cls:=.type "list_iterator",data:=.fields #[.ref t,.int 0 0]}).extBut B.extBut H;refine AJ (BV (wpAny_pyNext_list_end M C D (by simp) fun J F=>?_));exact AX (N J fun b o hb e=>F b o hb (B.extBut b o hb (Am _ e)))
end
theorem Ew(hx:WF s.heap.objs.size s.heap h')(A:Up s {s with heap:=h'}):D9 C s {s with heap:=h'}:=
 .keeps (t:=s.toks) (fun b o e=>hx b o (BX (BJ e)) e) A.1
inductive e3:PV→List PV→Prop where
 |tup (ps:List PV):e3 (.tup ps) ps
 |list (ps:List PV):e3 (.list ps) ps
theorem e3.run{C:Cx}{W:AS}{s:AO}{v:Ad}{p:PV}{ps:List PV}(hp:e3 p ps)(F:∀b,Tb b→W b)(I:VR W s.heap v p)(J:A.handled=none)
  (L:∀vs G,DW W G.heap vs ps→D9 C s G→Q vs G):Af (Ar prog w) A (bQ v ps.length none) Q E s:=by
 refine CG ?_;cases hp with
 |tup=>
  refine IW I.tup_inv fun a n vs D M H B=>?_;subst D;rw[←B.length,←Ab];exact Ke J ⟨_,H,rfl,n,rfl⟩ fun h' hx u=>L _ _ (B.ext F (Ew (C:=C) hx u)) (Ew hx u)
 |list=>
  refine IW I.list_inv fun a n vs D M H B=>?_;subst D;rw[←B.length,←Ab];exact Mq J (Er H) fun h' hx u=>L _ _ (B.ext F (Ew (C:=C) hx u)) (Ew hx u)
section
variable{Z:Zx}{k:Nat}{F:Fx}{ρ ρ₁ ρ' κ:Ci}{st:Bool}
theorem P1.setItem{x:Ax}{np pos I:JE}{i e:Aj}{xs:List PV}{j:Nat}{p:PV}(hx:(x,.own xs)∈ρ)(f:PE Z k F ρ κ true e p)(hi:PE Z k F ρ κ false i (.int j))(W:j<xs.length)(hz:xs.length≤1000000)(g:Upd ρ x (.own (xs.set j p)) ρ')
  (hs:autoParam (Ju e (some (.Subscript (.Name x np) i I)) pos.line F.env=pure false) ar):P1 Z k F ρ κ (.Assign [.Subscript (.Name x np) i I] e pos) .next ρ':=.ofRun fun A O s Q E G R l=>by
 refine wpAny_Assign_Subscript (f.run A O s _ _ G R fun v T r y=>?_) hs;have J:=R.ext y;refine a0 (J.mut hx) fun a n ws L w At M N=>?_;refine Ed (M _ _ _ _ ?_) (DF (R.nameOk (AC _ hx)));refine hi.run A O T _ _ G J fun If s₂ X z=>?_;refine B8 X.int_inv fun t Y=>?_;subst Y;refine Nc (N s₂ z) fun H B U=>?_;refine O1 H (Qv) (CP (BR.mpr W) (Av (A3.mpr hz) dc)) (by rw[Ab,B.length];exact ai W) ?_;refine Bz (Ep (C:=Z.C) H (R.hi a (.inr L)) (·.setIfInBounds (j:Int).toNat v) (ws:=ws.set j v) (by simp)) fun n' c P=>?_;have V:DW (F.W O) s₂.heap (ws.set j v) (xs.set j p):=DW.of_at (by simp[B.length]) fun m u q D S=>by
  rw[Nk]at D S;by_cases e:j=m
  ·subst e;rw[if_pos rfl]at D S;rw[if_pos (by rw[B.length];exact W)]at D;rw[if_pos W]at S;cases D;cases S;exact r.ext (fun b hb=>.inl (R.tb b hb)) z
  ·rw[if_neg e]at D S;exact B.at m u q D S
 have d:DW (F.W O) ({s₂ with heap:=s₂.heap.update a (E9 (·.setIfInBounds (j:Int).toNat v))}:AO).heap (ws.set j v) (xs.set j p):=V.goes fun b o hb Gt=>⟨P.keep b o (fun q=>q.elim (fun q=>hb (.inl (R.tb b q))) fun q=>hb (.inr (.inr (q▸L)))) Gt,hb⟩;exact l _ _ O rfl (U _ n' _ _ ρ' P c d g) ((Step.ofE (y.trans z)).trans (P.mono fun b hb=>hb.elim .inl fun q=>.inr (.inr (q▸L)))) fun u0 h=>.inl h
theorem P1.del(hx:(x,.own xs)∈ρ)(hi:PE Z k F ρ κ false i (.int c))(l:Db c xs.length=some j)(hz:xs.length≤1000000)(r:Upd ρ x (.own (xs.eraseIdx j)) ρ'):
  P1 Z k F ρ κ (.Delete [.Subscript (.Name x np) i p] pos) .next ρ':=.ofRun fun A O s Q E G R v=>by
 refine ER (HI l) fun S I=>?_;refine a0 (R.mut hx) fun a n ws J w y L M=>?_;refine wpAny_Delete (wpAny_deleteEach_cons (wpAny_delete_Subscript (Ed (L _ _ _ _ ?_) (DF (R.nameOk (AC _ hx))))));refine hi.run A O s _ _ G R fun If s₂ V z=>?_;refine B8 V.int_inv fun t W=>?_;subst W;refine Nc (M s₂ z) fun D B T=>?_;have X:j<ws.length:=by rw[B.length];exact S
 refine P.delItem_list (items:=ws.toArray) (n:=n) (k:=j) D ?_ (by rw[Ab,B.length];exact l) ?_ (by rw[Ab,B.length,Ay];exact O9 hz)
 ·rcases I with⟨Y,e⟩|⟨Y,At,_⟩
  ·exact P8 Y (fJ hz (e▸S))
  ·simp only[M_,A7,decide_eq_true_eq];exact kV hz Y At
 ·refine Bz (Ep (C:=Z.C) D (R.hi a (.inr J)) (fun xs=>xs.eraseIdxIfInBounds j) (ws:=ws.eraseIdx j) (by simp[Array.eraseIdxIfInBounds,X])) fun n' d N=>?_;have f:DW (F.W O) s₂.heap (ws.eraseIdx j) (xs.eraseIdx j):=DW.of_at (by rw[WK,WK,B.length]) fun m u q H U=>by
   rw[List.getElem?_eraseIdx]at H U;by_cases e:m<j
   ·rw[if_pos e]at H U;exact B.at m u q H U
   ·rw[if_neg e]at H U;exact B.at (m+1) u q H U
  have g:DW (F.W O) ({s₂ with heap:=s₂.heap.update a (E9 fun xs=>xs.eraseIdxIfInBounds j)}:AO).heap (ws.eraseIdx j) (xs.eraseIdx j):=f.goes fun b o hb Gt=>⟨N.keep b o (fun q=>q.elim (fun q=>hb (.inl (R.tb b q))) fun q=>hb (.inr (.inr (q▸J)))) Gt,hb⟩;exact wpAny_deleteEach_nil (v _ _ O rfl (T _ n' _ _ ρ' N d g r) ((Step.ofE z).trans (N.mono fun b hb=>hb.elim .inl fun q=>.inr (.inr (q▸J)))) fun u0 h=>.inl h)
end
class inductive HN:List Aj→List Ax→Prop where
 |nil:HN [] []
 |cons {x:Ax} {p:JE} {ts:List Aj} {xs:List Ax} (h:HN ts xs):HN (.Name x p::ts) (x::xs)
theorem HN.each(h:HN A xs)(env:Ti):(D5 A env).length=xs.length∧(D5 A env).findIdx? (·.1)=none:=by
 induction h with
 |nil=>exact⟨rfl,rfl⟩
 | @cons x p A xs h B=>
  have e:D5 (.Name x p::A) env=(false,DV (.Name x p) env)::D5 A env:=rfl;rw[e];exact⟨by rw[AP,AP,B.1],by rw[List.findIdx?_cons];simp[B.2]⟩
class inductive LH:List Aj→List PV→Ci→Ci→Prop where
 |nil {ρ:Ci}:LH [] [] ρ ρ
 |cons {ρ ρ₁ ρ':Ci} {x:Ax} {pos:JE} {p:PV} {ts:List Aj} {ps:List PV} (h:Upd ρ x (.val p) ρ₁) (hs:LH ts ps ρ₁ ρ'):LH (.Name x pos::ts) (p::ps) ρ ρ'
inductive Bind:Aj→PV→Ci→Ci→Prop where
 |name {ρ ρ':Ci} {x:Ax} {pos:JE} {p:PV} (h:Upd ρ x (.val p) ρ'):Bind (.Name x pos) p ρ ρ'
 |tup {ρ ρ':Ci} {ts:List Aj} {n:Nat} {pos:JE} {p:PV} {ps:List PV} (hp:e3 p ps) (h:LH ts ps ρ ρ'):Bind (.Tuple ts n pos) p ρ ρ'
theorem LH.names(h:LH A ps ρ ρ'):∃xs,HN A xs∧xs.length=ps.length:=by
 induction h with
 |nil=>exact⟨[],.nil,rfl⟩
 |cons h hs B=>refine Bz B fun xs C D=>?_;exact⟨_::xs,.cons C,by rw[AP,AP,D]⟩
section
variable{Z:Zx}{k:Nat}{F:Fx}{ρ ρ₁ ρ' κ:Ci}{st:Bool}
theorem LH.run(h:LH H ps ρ ρ'):∀{s:AO}{vs:List Ad}{Q:Unit→AO→Prop},Cj C F O ρ κ s→DW (F.W O) s.heap vs ps→
  (∀D,Cj C F O ρ' κ D→Step C F.N s D→Q () D)→Af M A (G2 ((D5 H F.env).map (·.2)) vs) Q E s:=by
 induction h with
 |nil=>
  intro s vs Q R B I
  match vs,B with
  |[],_=>exact AX (I s R (.refl _))
 | @cons ρ ρ₁ ρ' x pos p H ps L hs N=>
  intro s vs Q R B I
  match vs,B with
  |v::vs,⟨P,B⟩=>
   show Af M A (do D3 vs (DV (.Name x pos) F.env v);G2 ((D5 H F.env).map (·.2)) vs) Q E s;refine AJ (BV (FA (R.putVal L P fun J G x=>N G (B.goes fun b o hb S=>⟨x.keep b o (fun q=>hb (.inr (.inl q))) S,hb⟩) fun D T y=>I D T (x.trans y))))
theorem Bind.run'(h:Bind t p ρ ρ')(M:A.handled=none)(R:Cj C F O ρ κ s)(H:VR (F.W O) s.heap v p)
  (I:∀B,Cj C F O ρ' κ B→Step C (fun b=>Tb b∨F.N b) s B→Q () B):Af (Ar prog w) A (DV t F.env v) Q E s:=by
 cases h with
 |name N=>exact FA (R.putVal N H fun B D x=>I B D (x.mono fun b hb=>.inr hb))
 | @tup _ _ J n pos _ ps hp hb=>
  refine Bz hb.names fun xs hn hl=>?_;refine ER (hn.each F.env) fun P S=>?_;rw[(rfl:DV (.Tuple J n pos) F.env v=(do Hf pos;ZD v (D5 J F.env)))];refine AJ (Et ?_);unfold ZD;rw[P,S,hl];refine AJ (BV (hp.run (C:=C) (fun b hb=>.inl (R.tb b hb)) H M fun vs L G x=>hb.run (R.ext x) G fun B D y=>I B D ((x.mono fun b hb=>.inl hb).trans (y.mono fun b hb=>.inr hb))))
theorem Bind.run(h:Bind t p ρ ρ')(D:A.handled=none)(R:Cj C F O ρ κ s)(G:VR (F.W O) s.heap v p)
  (H:∀B,Cj C F O ρ' κ B→Step C (F.X O) s B→Q () B):Af (Ar prog w) A (DV t F.env v) Q E s:=
 h.run' D R G fun B I x=>H B I (x.mono fun b hb=>hb.imp_right .inl)
theorem LH.keys(h:LH B ps ρ ρ'):ρ'.map (·.1)=ρ.map (·.1):=by
 induction h with
 |nil=>rfl
 |cons h hs A=>rw[A,h.keys]
theorem Bind.keys(h:Bind t p ρ ρ'):ρ'.map (·.1)=ρ.map (·.1):=by
 cases h with
 |name h=>exact h.keys
 |tup _ h=>exact h.keys
theorem P1.assignB(h:PE Z k F ρ κ true e p)(hb:Bind (.Tuple C n B) p ρ ρ')(hs:autoParam (Om [.Tuple C n B] e pos.line F.env=pure false) ar)
  (H:autoParam (IX [.Tuple C n B] e F.env=pure none) ar):P1 Z k F ρ κ (.Assign [.Tuple C n B] e pos) .next ρ':=.ofRun fun A O s Q E G R I=>
 ZG (h.run A O s _ _ G R fun v D J x=>hb.run G.handled (R.ext x) J fun L M y=>I _ L O rfl M ((Step.ofE x).trans y) fun N h=>.inl h) hs H
theorem Q1.facts:∀{n₀:Nat}{vs:List Ad}{iks:List IK}(B:List (Ad→Ku Unit))(xs:List Ax),Q1 F O s n₀ vs iks→B.length=iks.length→xs.length=iks.length→
  ∃L:List kf,L.map (fun t=>t.f)=B∧L.map (fun t=>t.x)=xs∧L.map (fun t=>t.v)=vs∧L.map (fun t=>t.ik)=iks∧L.map (fun t=>(t.x,t.ik))=xs.zip iks∧(∀t∈L,(t.f,t.x)∈B.zip xs)∧(∀t∈L,Lj F O s t.v t.ik)∧(∀t∈L,∀ys,t.ik= .own ys→∃a,t.v= .ref a∧n₀≤a)∧
   (L.Pairwise fun t u=>∀xs ys,t.ik= .own xs→u.ik= .own ys→t.v≠u.v)
 |_,[],[],[],[],_,_,_=>⟨[],rfl,rfl,rfl,rfl,rfl,(by simp),(by simp),(by simp),.nil⟩
 |n₀,v::vs,ik::iks,f::B,x::xs,h,U,hx=>by
  have C:xs.length=iks.length:=by simpa using hx
  have D:B.length=iks.length:=by simpa using U
  cases ik with
  |val p=>
   obtain⟨L,G,H,I,J,M,N,P,E,Q⟩:=Q1.facts B xs h.2 D C;refine⟨⟨f,x,v,.val p⟩::L,by rw[Ae,G],by rw[Ae,H],by rw[Ae,I],by rw[Ae,J],by rw[Ae,M];rfl,?_,?_,?_,.cons (fun u V ys zs e=>by cases e) Q⟩
   ·intro t A;rcases AN.mp A with rfl|A
    ·exact AB
    ·exact AG _ (N t A)
   ·intro t A;rcases AN.mp A with rfl|A
    ·exact h.1
    ·exact P t A
   ·intro t A ys e;rcases AN.mp A with rfl|A
    ·cases e
    ·exact E t A ys e
  |own zs=>
   obtain⟨W,a,rfl,S,X⟩:=h;obtain⟨L,G,H,I,J,M,N,P,E,Q⟩:=Q1.facts B xs X D C;refine⟨⟨f,x,.ref a,.own zs⟩::L,by rw[Ae,G],by rw[Ae,H],by rw[Ae,I],by rw[Ae,J],by rw[Ae,M];rfl,?_,?_,?_,.cons (fun u Y ys ws V e T=>?_) Q⟩
   ·intro t A;rcases AN.mp A with rfl|A
    ·exact AB
    ·exact AG _ (N t A)
   ·intro t A;rcases AN.mp A with rfl|A
    ·exact W
    ·exact P t A
   ·intro t A ys e;rcases AN.mp A with rfl|A
    ·exact⟨a,rfl,S⟩
    ·refine Bz (E t A ys e) fun b R hb=>?_;exact⟨b,R,AA S (HC hb)⟩
   ·refine Bz (E u Y ws e) fun b R hb=>?_;rw[R]at T;cases T;exact As _ hb
 |_,[],_::_,_,_,h,_,_=>h.elim
 |_,_::_,[],_,_,h,_,_=>h.elim
 |_,[],[],_::_,_,_,h,_=>by cases h
 |_,[],[],[],_::_,_,_,h=>by cases h
 |_,_::_,_::_,[],_,_,h,_=>by cases h
 |_,_::_,_::_,_::_,[],_,_,h=>by cases h
theorem O5(h:HN C xs):∀{f:Ad→Ku Unit}{x:Ax},(f,x)∈((D5 C env).map (·.2)).zip xs→∀v Q s,Af M A (Nf env x v) Q E s→Af M A (f v) Q E s:=by
 induction h with
 |nil=>intro f x B;cases B
 | @cons y p C xs h D=>
  intro f x B;have e:((D5 (.Name y p::C) env).map (·.2)).zip (y::xs)=(DV (.Name y p) env,y)::((D5 C env).map (·.2)).zip xs:=rfl;rw[e]at B;rcases AN.mp B with G | B
  ·cases G;exact fun v Q s h=>FA h
  ·exact D B
theorem P1.assignD(h:I7 Z k F ρ κ es iks)(hn:HN H xs)(hl:xs.length=iks.length)(r:IV ρ (xs.zip iks) ρ')
  (hs:autoParam (Om [.Tuple H n B] (.Tuple es d D) pos.line F.env=pure false) ar) (At:IX [.Tuple H n B] (.Tuple es d D) F.env=pure none) (hz:iks.length≤100):P1 Z k F ρ κ (.Assign [.Tuple H n B] (.Tuple es d D) pos) .next ρ':=.ofRun fun A O s Q E G R Gt=>by
 refine B8 R.st fun V f=>?_;refine ER (hn.each F.env) fun W If=>?_;refine ZG (dk (h.run A O s V D _ _ G R f fun vs I J M N P b2 X x=>Ft (C:=Z.C) ?_ fun s₂ y Is Lt=>?_)) hs At
 ·have:vs.length=iks.length:=by
   refine fO (Q1.facts (Aq iks.length fun U=>pure ()) xs P (by exact HX) hl) fun L _ _ S Y _=>?_;rw[←S,←Y,AH,AH]
  rw[this,Ay];exact AA hz dc
 ·rw[(rfl:DV (.Tuple H n B) F.env (.ref I.heap.objs.size)=(do Hf B;ZD (.ref I.heap.objs.size) (D5 H F.env)))];refine AJ (Et ?_);obtain⟨L,g,i,S,Y,j,l,m,o,p⟩:=Q1.facts ((D5 H F.env).map (·.2)) xs (P.wider y R.tb (fun U h=>h) (fun U h=>.inl h)) (by rw[AH,W,hl]) hl;have T:vs.length=xs.length:=by rw[←S,←i,AH,AH]
  unfold ZD;rw[W,If,←T,←Ab];refine AJ (BV (CG (Ke G.handled ⟨_,Is,rfl,0,rfl⟩ fun h' hx u=>?_)));have z:D9 Z.C s₂ {s₂ with heap:=h'}:=Ew hx u;obtain⟨L,g,i,S,Y,j,l,m,o,p⟩:=Q1.facts ((D5 H F.env).map (·.2)) xs (P.wider (y.trans z) R.tb (fun U h=>h) (fun U h=>.inl h)) (by rw[AH,W,hl]) hl;show Af _ _ (G2 ((D5 H F.env).map (·.2)) vs) _ _ _;rw[←g,←S];refine Cj.putAll (C:=Z.C) (κ:=κ) (ρ:=ρ) (O:=J) L (fun t b=>O5 hn (by have:=l t b;exact this)) (M.ext (y.trans z)) (N.ext M (y.trans z)) m p (fun v q Ns t b ys e=>?_) (j▸r) fun s' Sa w=>?_
  ·refine Bz (o t b ys e) fun a av bi=>?_;refine V8 (f.2.2.2.1 v _ Ns) fun b3 _ _ bl c _=>?_;rw[av,bl];intro eq;cases eq;exact As _ (AF (R.lt _ (.inr (.inr c))) bi)
  ·exact Gt _ s' J rfl Sa ((Step.ofE ((x.trans y).trans z)).trans (.ofN w)) X
theorem P1.assignR(h:I7 Z k F ρ κ es iks)(hl:xs.length=iks.length)(Gt:IV ρ (xs.zip iks).reverse ρ')
  (hs:autoParam (Om [.Tuple b n D] (.Tuple es c B) pos.line F.env=pure false) ar) (If:IX [.Tuple b n D] (.Tuple es c B) F.env=pure (some xs)) (hz:iks.length≤100):P1 Z k F ρ κ (.Assign [.Tuple b n D] (.Tuple es c B) pos) .next ρ':=.ofRun fun A O s Q E G R Is=>by
 refine B8 R.st fun V d=>?_;refine Assign_Tuple_swapped (names:=xs) (dk (h.run A O s V B _ _ G R d fun vs f H I J M ck U x=>Ft (C:=Z.C) ?_ fun s₂ y Lt Ns=>?_)) hs If
 ·have:vs.length=iks.length:=by
   refine fO (Q1.facts (Aq iks.length fun T=>pure ()) xs M (by simp) hl) fun L _ _ N W _=>?_;rw[←N,←W,AH,AH]
  rw[this,Ay];exact AA hz dc
 ·obtain⟨L,g,j,N,W,l,m,o,p,r⟩:=Q1.facts (xs.map fun n=>bU F.env n) xs (M.wider y R.tb (fun T h=>h) (fun T h=>.inl h)) (by rw[AH,hl]) hl;have P:vs.length=xs.length:=by rw[←N,←j,AH,AH]
  rw[←P,←Ab];refine CG (Ke G.handled ⟨_,Lt,rfl,0,rfl⟩ fun h' hx u=>?_);have z:D9 Z.C s₂ {s₂ with heap:=h'}:=Ew hx u;obtain⟨L,g,j,N,W,l,m,o,p,r⟩:=Q1.facts (xs.map fun n=>bU F.env n) xs (M.wider (y.trans z) R.tb (fun T h=>h) (fun T h=>.inl h)) (by rw[AH,hl]) hl;have f1:(xs.reverse.map fun n=>bU F.env n)=L.reverse.map fun t=>t.f:=by rw[KC,KC,g]
  have f3:vs.toArray.toList.reverse=L.reverse.map fun t=>t.v:=by rw[KC,N]
  rw[f1,f3];refine Cj.putAll (C:=Z.C) (κ:=κ) (ρ:=ρ) (O:=H) L.reverse (fun t S v Q s h=>?_) (I.ext (y.trans z)) (J.ext I (y.trans z)) (fun t S=>o t (Ou.mp S)) ?_ (fun v q Sa t S ys e=>?_) (by rw[KC,l];exact Gt) fun s' av w=>?_
  ·have At:=m t (Ou.mp S);have:t.f=bU F.env t.x:=by
    rw[HV]at At;refine B8 At fun i hi=>?_;rw[List.getElem?_zip_eq_some]at hi;simp only[BD,Cv]at hi;obtain⟨⟨n,bi,bl⟩,b2⟩:=hi;cases bi.symm.trans b2;exact bl.symm
   rw[this];exact wpAny_bindName h
  ·rw[List.pairwise_reverse];exact r.imp fun h xs ys e X=>(h ys xs X e).symm
  ·refine Bz (p t (Ou.mp S) ys e) fun a b3 b4=>?_;refine V8 (d.2.2.2.1 v _ Sa) fun cn _ _ X Y _=>?_;rw[b3,X];intro eq;cases eq;exact As _ (AF (R.lt _ (.inr (.inr Y))) b4)
  ·exact Is _ s' H rfl av ((Step.ofE ((x.trans y).trans z)).trans (.ofN w)) U
end
theorem Pn(C:s.heap.get? I=some o)(D:o.cls= .type n)
  (hn:(["enumerate","zip","dict_itemiterator","dict_reverseitemiterator","odict_iterator","itertools.zip_longest","itertools.pairwise"].contains n)=false) (h:Q () s):Af M A (JC B (.ref I) v) Q E s:=by
 have go:Af M A (do
   let (.ref r,.ref a):=(J6 I,v)|return
   let o ←load r
   match o.cls,o.data with
   |.type n,.fields vs=>
    if["enumerate","zip","dict_itemiterator","dict_reverseitemiterator","odict_iterator","itertools.zip_longest","itertools.pairwise"].contains n && vs[0]?==some (IH a) then
     rule "for.unpacks-the-owned-tuple"
     updateField r 0 .none
   |_,_=>pure ():Ku Unit) Q E s:=by
  cases v with
  |ref a=>
   refine AJ (wpAny_load C ?_);rw[D];cases hd:o.data with
   |fields vs=>
    simp only[hn,G8,Gv,if_false];exact AX h
   |_=>exact AX h
  |_=>exact AX h
 cases B<;>first|exact AX h|exact go
noncomputable def Re(nm:Bool)(e:Aj):Bool:=(EV e e).1==3 || ((EV e e).1==4 && nm)
structure Wk(Z:Zx)(k:Nat)(nm:Bool)(I:Ch)(fp wr:AS)(xs:List PV)(S:Nat→AO→Prop)(Hold:AS→AO→Prop):Prop where
 sub:∀b,wr b→fp b
 frame:∀i s s',S i s→(∀b o,fp b→s.heap.get? b=some o→s'.heap.get? b=some o)→(∀(g:Nat) st,s.gens[g]?=some st→s'.gens[g]?=some st)→Up s s'→S i s'
 hold:∀W W' s s',Hold W s→Goes W s.heap W' s'.heap→Hold W' s'
 item:∀(tgt:Aj) i p A s W (Q:Ad→AO→Prop) E,Good k A→Re nm tgt=true→xs[i]?=some p→S i s→Hold W s→DM Z.C s→(∀b,wr b→W b)→(∀b,W b→b<s.heap.objs.size)→
  (∀v s',VR W s'.heap v p→S (i+1) s'→Step Z.C wr s s'→Q v s')→
  Af (Ar Z.prog Z.w) A (Ks (.ref I)) (fun r s₁=>∃v,r=some v∧Af (Ar Z.prog Z.w) A (JC tgt (.ref I) v) (fun u0 s₂=>Q v s₂) E s₁) E s
 done:∀A s (Q:Option Ad→AO→Prop) E,Good k A→S xs.length s→DM Z.C s→(∀s',Step Z.C wr s s'→Q none s')→Af (Ar Z.prog Z.w) A (Ks (.ref I)) Q E s
 self:∀i A s (Q:Ad→AO→Prop) E,Good k A→S i s→Q (.ref I) s→Af (Ar Z.prog Z.w) A (Uf (.ref I)) Q E s
structure PI(Z:Zx)(k:Nat)(F:Fx)(ρ κ:Ci)(st nm:Bool)(e:Aj)(xs:List PV):Prop where
 ofRun::
 run:
  ∀(A:Bl)(O:AS)(s:AO)(Q:Ad→AO→Prop)(E:Ad→AO→Prop),Good k A→Cj Z.C F O ρ κ s→
   (∀I fp wr S Hold s',Wk Z k nm I fp wr xs S Hold→S 0 s'→Hold (fun b=>F.W O b∨wr b) s'→(∀b,wr b→s.heap.objs.size≤b)→(∀b,fp b→¬F.V O st b∧b<s'.heap.objs.size)→D9 Z.C s s'→Q (.ref I) s')→
   Af (Ar Z.prog Z.w) A (D4 e F.env) (fun x s₁=>Af (Ar Z.prog Z.w) A (Uf x) Q E s₁) E s
section
variable{Z:Zx}{k:Nat}{F:Fx}{ρ ρ₁ ρ' κ:Ci}{st:Bool}
theorem H8{C:Cx}{s D:AO}{wr:List Ch}(hs:s.gens=D.gens)(H:D.os=s.os)(E:∀b o,b∉wr→s.heap.get? b=some o→D.heap.get? b=some o)(G:Up s D)(A:∀b∈wr,129≤b)
  (hp:∀b∈wr,∀o,s.heap.get? b=some o→Gp o):Step C (fun b=>b∈wr) s D where
 keep:=fun b o hb e=>E b o hb e
 size:=G.1
 gens:=fun g st e=>hs▸e
 os:=H
 toks:=G.2
 base:=fun B=>B.keeps (fun b o hb e=>E b o (fun q=>Cg (A b q) hb) e) (fun b o I hb e=>E b o (fun q=>by
   rcases hb with hb|hb
   ·exact As _ (AF hb (A b q))
   ·exact hb (hp b q o e)) e) G.1 (by rw[←hs];exact B.bare)
theorem Wk.of{I:Ch}{fp wr:List Ch}{xs:List PV}{P:Nat→Ad→Prop}{St:Nat→GY→Prop}{Hold:AS→AO→Prop}(T:String)(U:(["enumerate","zip","dict_itemiterator","dict_reverseitemiterator","odict_iterator","itertools.zip_longest","itertools.pairwise"].contains T)=false)
  (W:∀A:Bl,A.handled=none→Walks Z.prog Z.w A I fp wr xs.length P St) (C:∀b∈wr,129≤b) (V:∀i h,St i h→∃o,h.get? I=some o∧o.cls= .type T)
  (J:∀i h,St i h→∀b∈wr,∀o,h.get? b=some o→Gp o)
  (hold:∀W W' s N,Hold W s→Goes W s.heap W' N.heap→Hold W' N) (X:∀W s i v p,Hold W s→P i v→xs[i]?=some p→VR W s.heap v p):Wk Z k true I (fun b=>b∈fp) (fun b=>b∈wr) xs (fun i s=>St i s.heap) Hold where
 sub:=fun b hb=>(W {} rfl).sub b hb
 frame:=fun i s N h H S S=>(W {} rfl).frame i s.heap N.heap h fun b hb o e=>H b o hb e
 hold:=hold
 item:=fun Y i p A s W' Q E G S hp D a B O c L=>CG ((W A G.handled).item i s _ _ (B4.mp hp).1 D fun v h' tk d M H u=>by
  refine Bz (V _ _ M) fun o f g=>?_;have R:Step Z.C (fun b=>b∈wr) s {s with heap:=h',toks:=tk}:=H8 rfl rfl H u C (J i s.heap D);refine⟨v,rfl,Pn f g U (L v _ (X W' _ i v p (hold W' W' s _ a fun b o hb e=>⟨H b o (fun q=>hb (O b q)) e,hb⟩) d hp) M R)⟩)
 done:=fun A s Q E G D B L=>CG ((W A G.handled).done s _ _ D fun h' tk H u=>L _ (H8 rfl rfl H u C (J _ s.heap D)))
 self:=fun i A s Q E G D L=>(W A G.handled).self i s Q E D L
theorem DE{h:GY}{a:Ch}(B:h.get? a=some o)(hd:o.data= .fields vs)(C:∀q t,vs[1]?≠some (.str q t)):∀o,h.get? a=some o→Gp o:=fun D e ws q t A=>by
 cases e.symm.trans B;cases hd.symm.trans A;exact C q t
theorem Wk.list{I a:Ch}{n:Nat}{vs:List Ad}{xs:List PV}(E:129≤I)(B:a≠I)(hl:vs.length=xs.length):
  Wk Z k true I (fun b=>b∈ [I,a]) (fun b=>b∈ [I]) xs (fun i s=>s.heap.IsListIter I a i∧s.heap.IsList a vs.toArray) (fun W s=>DW W s.heap vs xs):=by
 refine Wk.of (P:=fun i v=>vs.toArray[i]?=some v) (St:=fun i h=>h.IsListIter I a i∧h.IsList a vs.toArray) "list_iterator" dc (fun A G=>?_) (fun b hb=>by rw[AI.mp hb];exact E) (fun i h hs=>let ⟨o,C,D,_⟩:=hs.1;⟨o,C,D⟩)
  (fun i h hs b hb=>?_) (fun W W' s J h g=>h.goes g) (fun W s i v p h H hp=>h.at i v p (by simpa using H) hp)
 ·have:=Walks.list (prog:=Z.prog) (w:=Z.w) G I a B vs.toArray
  rwa [Ab,hl]at this
 ·rw[AI.mp hb];refine K8 hs.1 fun o C D hd=>?_;exact DE C hd (fun q t=>by exact dc)
theorem Wk.tuple{I a:Ch}{vs:List Ad}{xs:List PV}(E:129≤I)(B:a≠I)(hl:vs.length=xs.length):
  Wk Z k true I (fun b=>b∈ [I,a]) (fun b=>b∈ [I]) xs (fun i s=>s.heap.IsTupleIter I a i∧s.heap.IsTuple a vs.toArray) (fun W s=>DW W s.heap vs xs):=by
 refine Wk.of (P:=fun i v=>vs.toArray[i]?=some v) (St:=fun i h=>h.IsTupleIter I a i∧h.IsTuple a vs.toArray) "tuple_iterator" dc (fun A G=>?_) (fun b hb=>by rw[AI.mp hb];exact E) (fun i h hs=>let ⟨o,C,D,_⟩:=hs.1;⟨o,C,D⟩)
  (fun i h hs b hb=>?_) (fun W W' s J h g=>h.goes g) (fun W s i v p h H hp=>h.at i v p (by simpa using H) hp)
 ·have:=Walks.tuple (prog:=Z.prog) (w:=Z.w) G I a B vs.toArray
  rwa [Ab,hl]at this
 ·rw[AI.mp hb];refine K8 hs.1 fun o C D hd=>?_;exact DE C hd (fun q t=>by exact dc)
noncomputable def GN(a:Int)(n:Nat):List PV:=(AW n).map fun i:Nat=>PV.int (a+i)
theorem O3(a:Int)(n:Nat):(GN a n).length=n:=by simp[GN]
theorem Wk.range{I:Ch}{a:Int}{n:Nat}(E:129≤I):
  Wk Z k true I (fun b=>b∈ [I]) (fun b=>b∈ [I]) (GN a n) (fun i s=>bX s.heap I (a+(i:Nat)*1) ((n:Int)-(i:Nat)) 1) (fun W s=>True):=by
 refine Wk.of (P:=fun i v=>∃t,v= .int (a+i*1) t) (St:=fun i h=>bX h I (a+(i:Nat)*1) ((n:Int)-(i:Nat)) 1) "range_iterator" dc (fun A G=>?_) (fun b hb=>by rw[AI.mp hb];exact E) (fun i h hs=>⟨_,hs,rfl⟩)
  (fun i h hs b hb=>?_) (fun C C C C C C=>trivial) (fun W s i v p C H hp=>?_)
 ·rw[O3];exact Walks.range (prog:=Z.prog) (w:=Z.w) G I a 1 n
 ·rw[AI.mp hb];exact DE hs rfl (fun q t=>by simp[IH])
 ·refine B8 H fun t B=>?_;subst B;simp only[GN,BD,Cv]at hp;refine Bz hp fun j D B=>?_;subst B;have:j=i:=by
   rw[B4]at D;refine B8 D fun h e=>?_;simpa using e.symm
  subst this;rw[(by exact gW:a+(j:Int)*1=a+j)];exact .int ..
noncomputable def Cm(x:Ax):List PV:=x.cps.toList.map fun c=>PV.str ⟨#[c]⟩
theorem E4(x:Ax):(Cm x).length=x.cps.size:=by simp[Cm]
theorem Wk.str{I:Ch}{x:Ax}{T:String}{St:Nat→GY→Prop}(J:129≤I)(L:(["enumerate","zip","dict_itemiterator","dict_reverseitemiterator","odict_iterator","itertools.zip_longest","itertools.pairwise"].contains T)=false)
  (W:∀A:Bl,A.handled=none→Walks Z.prog Z.w A I [I] [I] x.cps.size (SignAt x) St) (G:∀i h,St i h→∃t,h.IsStrIter I T x t i):
  Wk Z k true I (fun b=>b∈ [I]) (fun b=>b∈ [I]) (Cm x) (fun i s=>St i s.heap) (fun W s=>True):=by
 refine Wk.of (P:=SignAt x) (St:=St) T L (fun A M=>?_) (fun b hb=>by rw[AI.mp hb];exact J) (fun i h hs=>let ⟨t,o,E,D,_⟩:=G i h hs;⟨o,E,D⟩)
  (fun i h hs b hb=>?_) (fun C C C C C C=>trivial) (fun W s i v p C N hp=>?_)
 ·rw[E4];exact W A M
 ·rw[AI.mp hb];refine Hd (G i h hs) fun t o E D hd=>?_;exact DE E hd (fun q t=>by simp)
 ·refine K7 N fun c u D B=>?_;subst B;simp only[Cm,BD,Cv]at hp;refine Bz hp fun j H B=>?_;subst B;rw[Fg,D]at H;cases H;exact .str ..
noncomputable def numbered(xs:List PV):List PV:=xs.mapIdx fun i p=>.tup [.int i,p]
theorem Wk.enum{e H:Ch}{fp:List Ch}{xs:List PV}{P:Nat→Ad→Prop}{St:Nat→GY→Prop}{Hold:AS→AO→Prop}(D:∀A:Bl,A.handled=none→Draws Z.prog Z.w A H fp xs.length P St)(c:129≤e)(L:129≤H)(d:e≠H)(N:e∉fp)(f:H∈fp)
  (M:∀i h,St i h→∀o,h.get? H=some o→Gp o) (hold:∀W W' s g,Hold W s→Goes W s.heap W' g.heap→Hold W' g) (Is:∀W s i v p,Hold W s→P i v→xs[i]?=some p→VR W s.heap v p):
  Wk Z k false e (fun b=>b∈e::fp) (fun b=>b∈ [e,H]) (numbered xs) (fun i s=>(∃old,IsEnum s.heap e H i old)∧St i s.heap) Hold where
 sub:=fun b hb=>by
  rcases AN.mp hb with rfl|hb
  ·exact AB
  ·rw[AI.mp hb];exact AG _ f
 frame:=fun i s g h Y u0 u0=>⟨let ⟨old,a⟩:=h.1;⟨old,Y e _ AB a⟩,(D {} rfl).frame i _ _ h.2 fun b hb o x=>Y b o (AG _ hb) x⟩
 hold:=hold
 item:=fun j i p A s W Q E G O hp R Lt B S l T=>by
  obtain⟨⟨old,I⟩,C⟩:=R;simp only[numbered,Lm,Cv]at hp;refine Bz hp fun q Gt m=>?_;subst m;have r:∀o,s.heap.get? e=some o→Gp o:=DE I rfl (fun q t=>by simp);refine CG (wpAny_pyNext_enum_itemD (D A.in1 G.handled) I C (B4.mp Gt).1 d N fun x h' tk Ns a U Sa av Y u=>?_);have V:Step Z.C (fun b=>b∈ [e,H]) s {s with heap:=h',toks:=tk+1}:=H8 (wr:=[e,H]) rfl rfl (fun b o hb y=>Y b o (fun q=>hb (by simp[q])) (fun q=>hb (by simp[q])) y) u
   (fun b hb=>by rcases AN.mp hb with rfl|hb;exact c;rw[AI.mp hb];exact L) (fun b hb=>by rcases AN.mp hb with rfl|hb;exact r;rw[AI.mp hb];exact M _ _ C)
  have bi:Goes W s.heap W h':=fun b o hb y=>⟨V.keep b o (fun q=>hb (S b q)) y,hb⟩;have w:¬W s.heap.objs.size:=fun q=>As _ (l _ q);have hx:=Is W {s with heap:=h',toks:=tk+1} i x q (hold W W s _ Lt bi) Ns Gt;refine⟨_,rfl,?_⟩;have bl:s.heap.objs.size≠e:=fun q=>As _ (AF (BJ I) (BC q));have vr:VR W h' (.ref s.heap.objs.size) (.tup [.int i,q]):=VR.tupOf w Sa ⟨.int ..,hx,trivial⟩;cases j with
  |Tuple If n pos=>
   refine CG (wpAny_letOwnedTupleGo_enum a fun z At X u'=>?_);have J:Step Z.C (fun b=>b∈ [e,H]) {s with heap:=h',toks:=tk+1} {s with heap:=z,toks:=tk+1}:=H8 (wr:=[e,H]) rfl rfl (fun b o hb y=>(X.2 b fun q=>hb (by simp[q])).trans y) u'
    (fun b hb=>by rcases AN.mp hb with rfl|hb;exact c;rw[AI.mp hb];exact L) (fun b hb=>by
     rcases AN.mp hb with rfl|hb
     ·exact DE a rfl (fun q t=>by simp)
     ·rw[AI.mp hb];exact M _ _ U)
   refine T _ _ (vr.goes fun b o hb y=>⟨J.keep b o (fun q=>hb (S b q)) y,hb⟩) ⟨⟨_,by simpa using At⟩,(D {} rfl).frame _ _ _ U fun b hb o y=>(X.2 b fun q=>N (q▸hb)).trans y⟩ (V.trans J)
  |_=>cases O
 done:=fun A s Q E G R B T=>by
  obtain⟨⟨old,I⟩,C⟩:=R;rw[(by simp[numbered]:(numbered xs).length=xs.length)]at I C;refine CG (wpAny_pyNext_enum_endD (D A.in1 G.handled) I C fun h' hx u=>T _ ?_);exact H8 (wr:=[e,H]) rfl rfl (fun b o hb y=>hx b o (fun q=>hb (by simp[q])) y) u (fun b hb=>by rcases AN.mp hb with rfl|hb;exact c;rw[AI.mp hb];exact L)
   (fun b hb=>by rcases AN.mp hb with rfl|hb;exact DE I rfl (fun q t=>by exact dc);rw[AI.mp hb];exact M _ _ C)
 self:=fun i A s Q E G R T=>by
  obtain⟨⟨old,I⟩,_⟩:=R;exact P7 I T
end
structure PC(Z:Zx)(k:Nat)(F:Fx)(ρ κ:Ci)(st:Bool)(cls:String)(e:Aj)(xs:List PV):Prop where
 ofRun::
 run:
  ∀(A:Bl)(O:AS)(s:AO)(Q:Ad→AO→Prop)(E:Ad→AO→Prop),Good k A→Cj Z.C F O ρ κ s→
   (∀(a n:Nat) vs s',s'.heap.get? a=some {cls:=.type cls,data:=.seq (BL vs) n}→DW (F.W O) s'.heap vs xs→¬F.V O st a→D9 Z.C s s'→Q (.ref a) s')→Af (Ar Z.prog Z.w) A (D4 e F.env) Q E s
section
variable{Z:Zx}{k:Nat}{F:Fx}{ρ ρ₁ ρ' κ:Ci}{st:Bool}
theorem PC.list(h:PE Z k F ρ κ true e (.list xs)):PC Z k F ρ κ st "list" e xs:=.ofRun fun A O s Q E G R I=>h.run A O s Q E G R fun v J D x=>by
 have L:=Fx.V_M (st:=true) (F:=F) (O:=O) D;refine IW D.list_inv fun a n vs B H M C=>?_;subst B;refine I a n vs J M C ?_ x;cases st
 ·exact fun q=>H (q.elim .inl fun q=>.inr (.inl q))
 ·exact H
theorem PC.tup(h:PE Z k F ρ κ true e (.tup xs)):PC Z k F ρ κ st "tuple" e xs:=.ofRun fun A O s Q E G R H=>h.run A O s Q E G R fun v I J x=>by
 refine IW J.tup_inv fun a n vs B D L C=>?_;subst B;refine H a n vs I L C ?_ x;cases st
 ·exact fun q=>D (q.elim .inl fun q=>.inr (.inl q))
 ·exact D
theorem PC.own(hx:(x,.own xs)∈ρ++κ):PC Z k F ρ κ false "list" (.Name x pos) xs:=.ofRun fun A O s Q E G R C=>
 Ed (R.load hx (FE (R.nameOk hx)) (by intro h;cases h) fun v B=>by
  refine V7 B fun a n vs e J D H I h5=>?_;cases e;exact C a n vs s I h5 (fun q=>q.elim D H) (.refl _)) (DF (R.nameOk hx))
theorem NJ{C:Cx}{O:AS}{s A:AO}(R:Cj C F O ρ κ s)(h:s.heap.objs.size≤A.heap.objs.size){b:Nat}(hb:s.heap.objs.size≤b):¬F.V O st b:=fun q=>As _ (AF (Fx.V_lt R st b q) hb)
theorem PI.list(h:PC Z k F ρ κ st "list" e xs):PI Z k F ρ κ st true e xs:=.ofRun fun A O s Q E G R I=>h.run A O s _ _ G R fun a n vs B C D J x=>by
 have H:=BJ C;refine P6 (Er C) ?_;have y:D9 Z.C B {B with heap:=B.heap.push {cls:=.type "list_iterator",data:=.fields #[.ref a,.int 0 0]}}:=.push (t:=B.toks);refine I _ _ _ _ _ _ (Wk.list (a:=a) (n:=n) (AA (R.ext x).base.low (AK _)) (BX H) D.length) ⟨⟨_,A4 _ rfl,rfl,rfl⟩,Er (Am _ C)⟩
  (D.goes fun b o hb C=>⟨y.keep b o (fun q=>hb (.inl (R.tb b q))) C,fun q=>q.elim hb fun q=>absurd (BJ C) (A0.mpr (BC (AI.mp q).symm))⟩) (fun b hb=>by rw[AI.mp hb];exact x.size) (fun b hb=>?_) (x.trans y)
 rcases AN.mp hb with rfl|hb
 ·exact⟨NJ R x.size x.size,by show B.heap.objs.size<(B.heap.push _).objs.size;rw[BG];exact Az _⟩
 ·rw[AI.mp hb];exact⟨J,by show a<(B.heap.push _).objs.size;rw[BG];exact By H⟩
theorem PI.tup(h:PC Z k F ρ κ st "tuple" e xs):PI Z k F ρ κ st true e xs:=.ofRun fun A O s Q E G R I=>h.run A O s _ _ G R fun a n vs B C D J x=>by
 have H:=BJ C;have L:bd B.heap a vs.toArray:=⟨_,C,rfl,n,rfl⟩;refine Um L ?_;have y:D9 Z.C B {B with heap:=B.heap.push {cls:=.type "tuple_iterator",data:=.fields #[.ref a,.int 0 0]}}:=.push (t:=B.toks);refine I _ _ _ _ _ _ (Wk.tuple (a:=a) (AA (R.ext x).base.low (AK _)) (BX H) D.length) ⟨⟨_,A4 _ rfl,rfl,rfl⟩,⟨_,Am _ C,rfl,n,rfl⟩⟩
  (D.goes fun b o hb C=>⟨y.keep b o (fun q=>hb (.inl (R.tb b q))) C,fun q=>q.elim hb fun q=>absurd (BJ C) (A0.mpr (BC (AI.mp q).symm))⟩) (fun b hb=>by rw[AI.mp hb];exact x.size) (fun b hb=>?_) (x.trans y)
 rcases AN.mp hb with rfl|hb
 ·exact⟨NJ R x.size x.size,by show B.heap.objs.size<(B.heap.push _).objs.size;rw[BG];exact Az _⟩
 ·rw[AI.mp hb];exact⟨J,by show a<(B.heap.push _).objs.size;rw[BG];exact By H⟩
theorem PI.str(h:PE Z k F ρ κ false e (.str x)):PI Z k F ρ κ st true e (Cm x):=.ofRun fun A O s Q E G R H=>h.run A O s _ _ G R fun v B L z=>by
 refine B8 L.str_inv fun t C=>?_;subst C;have I:129≤B.heap.objs.size:=(R.ext z).base.low;have low:∀(o:Obj) b,b∈ [B.heap.objs.size]→¬F.V O st b∧b<(B.heap.push o).objs.size:=fun o b hb=>by
  rw[AI.mp hb];exact⟨NJ R z.size z.size,by rw[BG];exact Az _⟩
 cases J:x.cps.all (· <128)
 ·exact wpAny_pyIter_wide J (H _ _ _ _ _ _ (Wk.str (T:="str_iterator") (St:=fun i h=>h.IsStrIter B.heap.objs.size "str_iterator" x t i) I dc (fun A D=>Walks.strWide D _ x t) fun i h hs=>⟨t,hs⟩) ⟨_,A4 _ rfl,rfl,rfl⟩ trivial
   (fun b hb=>by rw[AI.mp hb];exact z.size) (low _) (z.trans (.push (t:=B.toks))))
 ·exact wpAny_pyIter_ascii J (H _ _ _ _ _ _ (Wk.str (T:="str_ascii_iterator") (St:=fun i h=>h.IsStrIter B.heap.objs.size "str_ascii_iterator" x t i) I dc (fun A D=>Walks.strAscii D _ x t) fun i h hs=>⟨t,hs⟩) ⟨_,A4 _ rfl,rfl,rfl⟩ trivial
   (fun b hb=>by rw[AI.mp hb];exact z.size) (low _) (z.trans (.push (t:=B.toks))))
theorem MZ(R:Cj C F O ρ κ s)(G:F.env.kindOf x=some .globalImplicit)(H:Gl C x (.type T))(hd:(x==("__debug__":Ax))=false) (hs:CW e=false)
  (h:Af M A (D4 e F.env) (fun v B=>Af M A (DC (.type T) [v]) Q E B) E s):Af M A (D4 (.Call (.Name x p) [e] [] pos) F.env) Q E s:=
 Jv rfl (EL R G H hd (HY (E3 (by simp[C0,hs])) (Fu (by simp[C0,hs]) (by
  rw[B9 hs];exact spliced_cons (B1 h (fun v B D=>spliced_nil D) fun I I x=>x)))))
theorem rangeSize_pos(h:a≤b):Builtin.Range.rangeSize a b 1=((b-a).toNat:Int):=by
 rw[rangeSize_one];by_cases q:a<b
 ·rw[if_pos q];exact(GZ (Hz h)).symm
 ·rw[if_neg q,LB h (Cp.mp q),Int.sub_self];rfl
theorem Pd(R:Cj Z.C F O ρ κ s)(y:D9 Z.C s s₂)(hr:IsRange s₂.heap r a b 1 t u v)(B:a≤b)(D:-1000000≤a)(hb:b≤1000000)
  (G:∀I fp wr S Hold C,Wk Z k true I fp wr (GN a (b-a).toNat) S Hold→S 0 C→Hold (fun b=>F.W O b∨wr b) C→(∀b,wr b→s.heap.objs.size≤b)→(∀b,fp b→¬F.V O st b∧b<C.heap.objs.size)→D9 Z.C s C→Q (.ref I) C):Af (Ar Z.prog Z.w) A (Uf (.ref r)) Q E s₂:=by
 refine wpAny_pyIter_range hr (small_one (Av dc D) (Bc (Av B hb) dc) (Av (Av dc D) B) (Bc hb dc)) ?_;rw[rangeSize_pos B];have z:D9 Z.C s₂ {s₂ with heap:=s₂.heap.push {cls:=.type "range_iterator",data:=.fields #[IH a,IH ((b-a).toNat:Int),IH 1]}}:=.push (t:=s₂.toks);refine G _ _ _ _ _ _ (Wk.range (a:=a) (n:=(b-a).toNat) (AA R.base.low y.size)) ?_ trivial (fun b hb=>?_) (fun b hb=>?_) (y.trans z)
 ·have:=A4 s₂.heap (o:={cls:=.type "range_iterator",data:=.fields #[IH a,IH ((b-a).toNat:Int),IH 1]}) rfl;simpa[bX,IH]using this
 ·rw[AI.mp hb];exact y.size
 ·rw[AI.mp hb];exact⟨NJ R y.size y.size,by show s₂.heap.objs.size<(s₂.heap.push _).objs.size;rw[BG];exact Az _⟩
theorem PI.range1{x:Ax}{p pos:JE}{e:Aj}{n:Nat}(I:F.env.kindOf x=some .globalImplicit)(J:Gl Z.C x (.type "range")) (h:PE Z k F ρ κ false e (.int n)) (hn:n≤1000000) (hs:autoParam (CW e=false) ar) (hd:autoParam ((x==("__debug__":Ax))=false) ad):
  PI Z k F ρ κ st true (.Call (.Name x p) [e] [] pos) (GN 0 n):=.ofRun fun A O s Q E G R L=>MZ R I J hd hs (h.run A O s _ _ G R fun v B M y=>by
 refine B8 M.int_inv fun t H=>?_;subst H;refine call_range_1 ?_;have C:D9 Z.C B {B with heap:=B.heap.push {cls:=.type "range",data:=.fields #[.int 0 B.toks,.int n t,.int 1 (B.toks+1)]},toks:=B.toks+1+1}:=.push (by show B.toks≤B.toks+1+1;exact Vw);have D:((n:Int)-0).toNat=n:=rfl;exact Pd (st:=st) (r:=B.heap.objs.size) (a:=0) (b:=n) (t:=B.toks) (u:=t) (v:=B.toks+1) R (y.trans C) (Sn B.heap 0 n 1 _ _ _) (AZ _) (gO) (A3.mpr hn) (by rw[D];exact L))
theorem PI.range2(M:F.env.kindOf x=some .globalImplicit)(N:Gl Z.C x (.type "range")) (h:PE Z k F ρ κ false e (.int a)) (h':PE Z k F ρ κ false H (.int b)) (I:a≤b) (P:-1000000≤a) (hb:b≤1000000) (hs:autoParam (C0 [e,H]=true) ar) (hd:autoParam ((x==("__debug__":Ax))=false) ad):
  PI Z k F ρ κ st true (.Call (.Name x p) [e,H] [] pos) (GN a (b-a).toNat):=.ofRun fun A O s Q E G R S=>
 Jv rfl (EL R M N hd (HY (E3 hs) (Fu hs ((JY.cons (st:=false) h (.cons h' .nil (by simpa[C0]using(by simpa[C0]using hs:CW e=false∧CW H=false).2)) (by simpa[C0]using(by simpa[C0]using hs:CW e=false∧CW H=false).1)).run A O s pos _ _ G R fun vs B J y=>by
  refine Hd J.two fun v u C T U=>?_;subst C;refine B8 T.int_inv fun t C=>?_;subst C;refine B8 U.int_inv fun L C=>?_;subst C;refine call_range_2 ?_;have D:D9 Z.C B {B with heap:=B.heap.push {cls:=.type "range",data:=.fields #[.int a t,.int b L,.int 1 B.toks]},toks:=B.toks+1}:=.push;exact Pd (st:=st) (r:=B.heap.objs.size) (a:=a) (b:=b) (t:=t) (u:=L) (v:=B.toks) R (y.trans D) (Sn B.heap a b 1 _ _ _) I P hb S))))
end
section
variable{prog:IZ}{w:P'}{A:Bl}{E:Ad→AO→Prop}{s:AO}
theorem NW(B:Nj s.heap C t i)(H:bd s.heap t items)(hx:items[i]?=some x)
  (I:∀h',Nj h' C t (i+1)→Ia C s.heap h'→Q x {s with heap:=h'}):Af (Ar prog w) A (FJ (.ref C)) Q E s:=by
 refine K8 (id B) fun o D J hd=>?_;obtain⟨ol,F,_,nl,G⟩:=H;unfold FJ;refine AJ (HO (name:=Ap "__next__") B.typeIs JV (LI JV B.typeIs bb ?_ (dL _)));show Af _ _ (field (.ref C) 0>>=_) _ _ s;refine AJ (SO D hd (x:=.ref t) rfl ?_);show Af _ _ (if(J6 t==D_)=true then _ else _) _ _ s;rw[if_neg (show¬((J6 t==D_)=true) from EE)];show Af _ _ (field (.ref C) 1>>=_) _ _ s;refine AJ (SO D hd (x:=.int i 0) rfl ?_);show Af _ _ (seqItems? (.ref t)>>=_) _ _ s;refine AJ (Ud F G ?_);simp only[Ag,hx];refine AJ (wpAny_setField D hd (by exact dc) (AX ⟨_,rfl,AX (I _ ?_ (KB ..))⟩));exact⟨_,Heap.get?_update_self _ D (Obj.isFreed_of_fields (ZF hd _)),(Obj.cls_mapFields ..).trans J,by
  rw[ZF hd];rfl⟩
theorem OK(H:A.handled=none)(B:Nj s.heap C t i)(I:bd s.heap t items)(hx:items[i]?=none)
  (J:∀h' e,WF C s.heap h'→(∃o,h'.get? e=some o∧o.cls= .type "StopIteration")→E (.ref e) {s with heap:=h'}):Af (Ar prog w) A (FJ (.ref C)) Q E s:=by
 refine K8 (id B) fun o D L hd=>?_;obtain⟨ol,F,_,nl,G⟩:=I;unfold FJ;refine AJ (HO (name:=Ap "__next__") B.typeIs JV (LI JV B.typeIs bb ?_ (dL _)));show Af _ _ (field (.ref C) 0>>=_) _ _ s;refine AJ (SO D hd (x:=.ref t) rfl ?_);show Af _ _ (if(J6 t==D_)=true then _ else _) _ _ s;rw[if_neg (show¬((J6 t==D_)=true) from EE)];show Af _ _ (field (.ref C) 1>>=_) _ _ s;refine AJ (SO D hd (x:=.int i 0) rfl ?_);show Af _ _ (seqItems? (.ref t)>>=_) _ _ s;refine AJ (Ud F G ?_);simp only[Ag,hx];refine AJ (db (AJ (wpAny_setField D hd (by exact dc) ?_)));show Af _ _ (newExc (.type "StopIteration") []>>=_) _ _ _;refine AJ ?_;refine AJ (D1 ?_ (by size_fits));refine AJ (m:=NQ _ _) (bO (a:=D_) (by first|rfl|(simp only[NQ];rfl)) ?_);refine D1 ?_ (by size_fits);refine AJ (wpAny_handled ?_)
 first|rw[(H:A.in1.handled=none)]|rw[H]
 refine AJ (AX (wpAny_throw ?_));exact J _ _ (((KB ..).extBut.push _).push _) ⟨_,A4 _ rfl,rfl⟩
set_option tactic.hygienic true in
set_option maxHeartbeats 1000000 in
theorem OL(l:Ch)(items:Array Ad)(n:Nat):
  Meets (Builtin.«enumerate.__new__» ⟨[.type "enumerate",.ref l],[]⟩) (fun D R s=>s.heap.get? l=some {cls:=.type "tuple",data:=.seq items n}∧
   R (.ok (.ret (.ref (s.heap.push {cls:=.type "tuple_iterator",data:=.fields #[.ref l,.int 0 0]}).objs.size)))
    {s with heap:=(s.heap.push {cls:=.type "tuple_iterator",data:=.fields #[.ref l,.int 0 0]}).push {cls:=.type "enumerate",data:=.fields #[.none,.bool false,.ref s.heap.objs.size,IH 0,.none,.none]}}):=
 .of_wp fun prog w A R s h=>by
  obtain⟨hp,g,d,tk,os⟩:=s;refine ER h fun hl h=>?_;have C:=sub_enumerate;have B:bd (Shared.heap ⟨hp,g,d,tk,os⟩) l items:=⟨_,hl,rfl,n,rfl⟩
  wp_walk using GF hl
  refine wpAny_stack_any fun st=>AX ?_;split
  ·rename_i c _ _ _ _ _;cases (c==It "enumerate")
   ·wp_walk using GF hl,Um B
    exact⟨_,rfl,h⟩
   ·wp_walk using GF hl,Um B
    exact⟨_,rfl,h⟩
  ·wp_walk using GF hl,Um B
   exact⟨_,rfl,h⟩
theorem O8(hl:s.heap.get? l=some {cls:=.type "tuple",data:=.seq items n})
  (h:∀h',IsEnum h' (s.heap.objs.size+1) s.heap.objs.size 0 .none→Nj h' s.heap.objs.size l 0→h'.objs.size=s.heap.objs.size+2→
   (∀b o,s.heap.get? b=some o→h'.get? b=some o)→Q (.ref (s.heap.objs.size+1)) {s with heap:=h'}):Af (Ar prog w) A (call (.type "enumerate") [.ref l]) Q E s:=by
 refine callType_new PySem.F.called_enumerate dc (PySem.F.typeCall_enumerate_1 _) (PySem.F.newCall_enumerate_1 _) (fun obj=>PySem.F.args_object_init_2 obj _) PySem.F.entry_enumerate_new (OL l items n) ⟨hl,?_⟩;have hz:(s.heap.push {cls:=.type "tuple_iterator",data:=.fields #[.ref l,.int 0 0]}).objs.size=s.heap.objs.size+1:=BG ..;show _∧_;rw[hz];have B:IsEnum ((s.heap.push {cls:=.type "tuple_iterator",data:=.fields #[.ref l,.int 0 0]}).push
   {cls:=.type "enumerate",data:=.fields #[.none,.bool false,.ref s.heap.objs.size,IH 0,.none,.none]}) (s.heap.objs.size+1) s.heap.objs.size 0 .none:=by
  have:=A4 (s.heap.push {cls:=.type "tuple_iterator",data:=.fields #[.ref l,.int 0 0]})
   (o:={cls:=.type "enumerate",data:=.fields #[.none,.bool false,.ref s.heap.objs.size,IH 0,.none,.none]}) rfl
  rw[hz]at this;exact this
 exact⟨⟨_,B,rfl⟩,h _ B ⟨_,Am _ (A4 _ rfl),rfl,rfl⟩ (by rw[BG,hz]) fun b o x=>Am _ (Am _ x)⟩
end
theorem YH(J:A.handled=none)(B l:Ch)(H:l≠B)(items:Array Ad):
  Draws prog w A B [B,l] items.size (fun i v=>items[i]?=some v) (fun i h=>Nj h B l i∧bd h l items) where
 live:=fun G G st=>let ⟨o,C,_⟩:=st.1;⟨o,C⟩
 frame:=fun G G G st I=>⟨let ⟨o,C,r⟩:=st.1;⟨o,I B (by exact AB) o C,r⟩,let ⟨o,C,r⟩:=st.2;⟨o,I l (by simp) o C,r⟩⟩
 item:=fun i s Q E hi st L=>by
  refine NW st.1 st.2 (x:=items[i]) (by simp[hi]) fun h' D F=>?_;exact L _ h' s.toks (by simp[hi]) ⟨D,st.2.extBut F.extBut H⟩ F
 done:=fun s Q E st M=>OK J st.1 st.2 (by simp) M
section
variable{Z:Zx}{k:Nat}{F:Fx}{ρ ρ₁ ρ' κ:Ci}{st:Bool}
theorem MS{A:Bl}{O:AS}{s B s₂:AO}{Q:Ad→AO→Prop}{E:Ad→AO→Prop}{xs:List PV}{fp:List Ch}{P:Nat→Ad→Prop}{St:Nat→GY→Prop}{Hold:AS→AO→Prop}(R:Cj Z.C F O ρ κ s)(x:D9 Z.C s B)(y:D9 Z.C B s₂)
  (T:IsEnum s₂.heap (B.heap.objs.size+1) B.heap.objs.size 0 .none) (L:St 0 s₂.heap) (J:s₂.heap.objs.size=B.heap.objs.size+2)
  (D:∀A:Bl,A.handled=none→Draws Z.prog Z.w A B.heap.objs.size fp xs.length P St) (H:∀b∈fp,b<B.heap.objs.size+1∧¬F.V O st b) (M:B.heap.objs.size∈fp)
  (N:∀i h,St i h→∀o,h.get? B.heap.objs.size=some o→Gp o) (hold:∀W W' s C,Hold W s→Goes W s.heap W' C.heap→Hold W' C) (U:∀W s i v p,Hold W s→P i v→xs[i]?=some p→VR W s.heap v p) (V:Hold (fun b=>F.W O b∨b∈ [B.heap.objs.size+1,B.heap.objs.size]) s₂)
  (X:∀I fp wr S Hold C,Wk Z k false I fp wr (Internal.numbered xs) S Hold→S 0 C→Hold (fun b=>F.W O b∨wr b) C→(∀b,wr b→s.heap.objs.size≤b)→(∀b,fp b→¬F.V O st b∧b<C.heap.objs.size)→D9 Z.C s C→Q (.ref I) C):
  Af (Ar Z.prog Z.w) A (Uf (.ref (B.heap.objs.size+1))) Q E s₂:=by
 have G:129≤B.heap.objs.size:=AA R.base.low x.size;refine P7 T (X _ _ _ _ _ _ (Wk.enum D (A_ G) G (KG _) (fun q=>As _ (H _ q).1) M N hold U) ⟨⟨_,T⟩,L⟩ V (fun b hb=>?_) (fun b hb=>?_) (x.trans y))
 ·rcases AN.mp hb with rfl|hb
  ·exact A_ x.size
  ·rw[AI.mp hb];exact x.size
 ·rcases AN.mp hb with rfl|hb
  ·exact⟨NJ R x.size (A_ x.size),by rw[J];exact Az _⟩
  ·exact⟨(H b hb).2,by rw[J];exact By (H b hb).1⟩
theorem PI.enumL{x:Ax}{p pos:JE}{e:Aj}{xs:List PV}(L:F.env.kindOf x=some .globalImplicit)(N:Gl Z.C x (.type "enumerate")) (h:PC Z k F ρ κ st "list" e xs) (hs:autoParam (CW e=false) ar) (hd:autoParam ((x==("__debug__":Ax))=false) ad):
  PI Z k F ρ κ st false (.Call (.Name x p) [e] [] pos) (Internal.numbered xs):=.ofRun fun A O s Q E G R S=>MZ R L N hd hs (h.run A O s _ _ G R fun a n vs B C H T y=>by
 have I:=BJ C;refine CG (call_enumerate_list (Er C) fun h' U M J L u=>?_);have D:D9 Z.C B {B with heap:=h'}:=.keeps (t:=B.toks) L (by rw[J];exact aW);refine MS (st:=st) (P:=fun i v=>vs.toArray[i]?=some v) (St:=fun i h=>h.IsListIter B.heap.objs.size a i∧h.IsList a vs.toArray) (Hold:=fun W s=>DW W s.heap vs xs) (fp:=[B.heap.objs.size,a]) R y D U ⟨M,Er (L _ _ C)⟩ J (fun A V=>?_) (fun b hb=>?_) (by exact AB)
  (fun i h hs=>?_) (fun W W' s Y h g=>h.goes g) (fun W s i v p h X hp=>h.at i v p (by simpa using X) hp) (H.goes fun b o hb C=>⟨D.keep b o (fun q=>hb (.inl (R.tb b q))) C,fun q=>q.elim hb fun q=>absurd (BJ C) (A0.mpr (by rcases AN.mp q with e|e;exact Aa (e▸Az _);exact BC (AI.mp e).symm))⟩) S
 ·have:=Draws.list (prog:=Z.prog) (w:=Z.w) V B.heap.objs.size a (BX I) vs.toArray;have hz:vs.toArray.size=xs.length:=by rw[Ab];exact H.length
  rwa [hz]at this
 ·rcases AN.mp hb with rfl|hb
  ·exact⟨Az _,NJ R y.size y.size⟩
  ·rw[AI.mp hb];exact⟨By I,T⟩
 ·refine K8 hs.1 fun o C c hd=>?_;exact DE C hd (fun q t=>by exact dc))
theorem PI.enumT{x:Ax}{p pos:JE}{e:Aj}{xs:List PV}(L:F.env.kindOf x=some .globalImplicit)(N:Gl Z.C x (.type "enumerate")) (h:PC Z k F ρ κ st "tuple" e xs) (hs:autoParam (CW e=false) ar) (hd:autoParam ((x==("__debug__":Ax))=false) ad):
  PI Z k F ρ κ st false (.Call (.Name x p) [e] [] pos) (Internal.numbered xs):=.ofRun fun A O s Q E G R S=>MZ R L N hd hs (h.run A O s _ _ G R fun a n vs B C H T y=>by
 have I:=BJ C;refine CG (O8 C fun h' U M J L u=>?_);have D:D9 Z.C B {B with heap:=h'}:=.keeps (t:=B.toks) L (by rw[J];exact aW);refine MS (st:=st) (P:=fun i v=>vs.toArray[i]?=some v) (St:=fun i h=>Nj h B.heap.objs.size a i∧bd h a vs.toArray) (Hold:=fun W s=>DW W s.heap vs xs) (fp:=[B.heap.objs.size,a]) R y D U ⟨M,⟨_,L _ _ C,rfl,n,rfl⟩⟩ J (fun A V=>?_) (fun b hb=>?_) (by exact AB)
  (fun i h hs=>?_) (fun W W' s Y h g=>h.goes g) (fun W s i v p h X hp=>h.at i v p (by simpa using X) hp) (H.goes fun b o hb C=>⟨D.keep b o (fun q=>hb (.inl (R.tb b q))) C,fun q=>q.elim hb fun q=>absurd (BJ C) (A0.mpr (by rcases AN.mp q with e|e;exact Aa (e▸Az _);exact BC (AI.mp e).symm))⟩) S
 ·have:=YH (prog:=Z.prog) (w:=Z.w) V B.heap.objs.size a (BX I) vs.toArray;have hz:vs.toArray.size=xs.length:=by rw[Ab];exact H.length
  rwa [hz]at this
 ·rcases AN.mp hb with rfl|hb
  ·exact⟨Az _,NJ R y.size y.size⟩
  ·rw[AI.mp hb];exact⟨By I,T⟩
 ·refine K8 hs.1 fun o C c hd=>?_;exact DE C hd (fun q t=>by simp))
theorem PI.enumS{x:Ax}{p pos:JE}{e:Aj}{y:Ax}(N:F.env.kindOf x=some .globalImplicit)(a:Gl Z.C x (.type "enumerate")) (h:PE Z k F ρ κ false e (.str y)) (hs:autoParam (CW e=false) ar) (hd:autoParam ((x==("__debug__":Ax))=false) ad):
  PI Z k F ρ κ st false (.Call (.Name x p) [e] [] pos) (Internal.numbered (Cm y)):=.ofRun fun A O s Q E G R V=>MZ R N a hd hs (h.run A O s _ _ G R fun v B d z=>by
 refine B8 d.str_inv fun t I=>?_;subst I;refine CG (dg fun h' X D J N u=>?_);have H:D9 Z.C B {B with heap:=h'}:=.keeps (t:=B.toks) N (by rw[J];exact aW);have L:∀(W:AS)(s:AO)(i:Nat)(v:Ad)(p:PV),True→(∃c u,y.cps[i]?=some c∧v= .str ⟨#[c]⟩ u)→(Cm y)[i]?=some p→VR W s.heap v p:=fun W s i v p _ ⟨c,u,P,e⟩ hp=>by
  subst e;simp only[Cm,BD,Cv]at hp;refine Bz hp fun j Y I=>?_;subst I;rw[Fg,P]at Y;cases Y;exact .str ..
 have M:∀b∈ [B.heap.objs.size],b<B.heap.objs.size+1∧¬F.V O st b:=fun b hb=>by rw[AI.mp hb];exact⟨Az _,NJ R z.size z.size⟩
 unfold strIterType at D;cases f:y.cps.all (· <128)<;>rw[f]at D
 ·refine MS (st:=st) (St:=fun i h=>h.IsStrIter B.heap.objs.size "str_iterator" y t i) (Hold:=fun W s=>True) (fp:=[B.heap.objs.size]) R z H X D J (fun A S=>by rw[E4];exact dI S _ y t) M (by exact AB)
   (fun i h hs=>let ⟨o,T,P,hd⟩:=hs;DE T hd (fun q t=>by exact dc)) (fun C C C C C C=>trivial) (fun W s i v p h U hp=>L W s i v p h U hp) trivial V
 ·refine MS (st:=st) (St:=fun i h=>h.IsStrIter B.heap.objs.size "str_ascii_iterator" y t i) (Hold:=fun W s=>True) (fp:=[B.heap.objs.size]) R z H X D J (fun A S=>by rw[E4];exact bY S _ y t) M (by exact AB)
   (fun i h hs=>let ⟨o,T,P,hd⟩:=hs;DE T hd (fun q t=>by exact dc)) (fun C C C C C C=>trivial) (fun W s i v p h U hp=>L W s i v p h U hp) trivial V)
end
noncomputable def Fx.loop(F:Fx)(wr:AS):Fx:={F with U:=fun b=>F.U b∨wr b,Y:=fun b=>F.Y b∨wr b}
theorem Cj.enterV(R:Cj C F O ρ κ s)(S:St F O ρ κ s V)(x:D9 C s E)(T:∀b,wr b→s.heap.objs.size≤b)(L:∀b,wr b→b<E.heap.objs.size)
  (U:∀b,O b→O' b) (D:∀b,O' b→O b∨(s.heap.objs.size≤b∧b<E.heap.objs.size)):Cj C (F.loop wr) O' ρ κ E∧St (F.loop wr) O' ρ κ E V:=by
 have I:=R.ext x;have A:∀b,b<s.heap.objs.size→¬wr b:=fun b hb q=>As _ (AF hb (T b q));have go:∀b o,¬F.W O b→s.heap.get? b=some o→E.heap.get? b=some o∧¬(F.loop wr).W O' b:=fun b o hb B=>⟨x.keep b o (fun q=>hb (.inl (R.tb b q))) B,fun q=>by
  rcases q with(q|q)|q|q
  ·exact hb (.inl q)
  ·exact A b (BJ B) q
  ·exact hb (.inr (.inl q))
  ·rcases D b q with q|⟨q,_⟩
   ·exact hb (.inr (.inr q))
   ·exact As _ (AF (BJ B) q)⟩
 obtain⟨⟨m,⟨o,es,W,B,r⟩,X⟩,Y,Z,d,f⟩:=S;have st:St (F.loop wr) O' ρ κ E V:=by
  refine⟨⟨m,X3 o es W ⟨x.keep _ _ (Cg (R.hi _ (.inl R.lN))) B,r⟩,X⟩,fun y sl H=>?_,fun y sl H=>?_,fun y sl H=>?_,f⟩
  ·rcases Y y sl H with hl|⟨hl,c,M,G,g⟩
   ·exact .inl hl
   ·exact .inr ⟨hl,c,M,G,let ⟨o,B,hd⟩:=g;⟨o,x.keep c o (Cg (R.hi c (.inl G))) B,hd⟩⟩
  ·obtain⟨hl,c,M,G,o,B,hd⟩:=Z y sl H;exact⟨hl,c,M,⟨G.1,fun q=>q.elim G.2 (A c (BJ B))⟩,o,x.keep c o (Cg G.1) B,hd⟩
  ·have:=d y sl H;cases sl with
   |unb=>trivial
   |val p=>refine Bz this fun u e N=>?_;exact⟨u,e,N.goes go⟩
   |own xs=>refine V7 this fun a n vs e P J h Q i=>?_;exact X3 a n vs ⟨e,U a P,fun q=>q.elim J (A a (BJ Q)),h,x.keep _ _ (fun q=>J (R.tb a q)) Q,i.goes go⟩
   |tk z=>refine K8 this fun t e P J=>?_;exact⟨t,e,P,AF J x.toks⟩
   | «at» u p=>refine ER this fun e N=>?_;exact⟨e,N.goes go⟩
 refine⟨{base:=I.base,kind:=R.kind,glob:=R.glob,blt:=R.blt,tb:=fun b hb=>.inl (R.tb b hb),yU:=fun b hb=>hb.imp_left (R.yU b),nU:=fun b hb q=>q.elim (R.nU b hb) (A b (R.lt b (.inr (.inl hb)))),lt:=fun b hb=>?_,hi:=fun b hb=>?_,lN:=R.lN,cd:=R.cd,nd:=R.nd,ok:=R.ok,st:=⟨V,st⟩},st⟩
 ·rcases hb with(hb|hb)|hb|hb
  ·exact I.lt b (.inl hb)
  ·exact L b hb
  ·exact I.lt b (.inr (.inl hb))
  ·rcases D b hb with hb|hb
   ·exact I.lt b (.inr (.inr hb))
   ·exact hb.2
 ·rcases hb with hb|hb
  ·exact R.hi b (.inl hb)
  ·rcases D b hb with hb|hb
   ·exact R.hi b (.inr hb)
   ·exact AA R.base.low hb.1
theorem Cj.enter(R:Cj C F O ρ κ s)(x:D9 C s B)(D:∀b,wr b→s.heap.objs.size≤b)(A:∀b,wr b→b<B.heap.objs.size):Cj C (F.loop wr) O ρ κ B:=
 let ⟨V,E⟩:=R.st
 (R.enterV E x D A (fun G h=>h) fun G h=>.inl h).1
theorem Fx.loop_W{F:Fx}{O wr:AS}:(F.loop wr).W O b↔(F.W O b∨wr b):=by
 constructor
 ·rintro((q|q)|q|q)
  ·exact .inl (.inl q)
  ·exact .inr q
  ·exact .inl (.inr (.inl q))
  ·exact .inl (.inr (.inr q))
 ·rintro((q|q|q)|q)
  ·exact .inl (.inl q)
  ·exact .inr (.inl q)
  ·exact .inr (.inr q)
  ·exact .inl (.inr q)
theorem Cj.leave(R:Cj C (F.loop wr) O ρ κ s)(A:∀b,Tb b→F.U b)(yU:∀b,F.Y b→F.U b):Cj C F O ρ κ s:=by
 obtain⟨V,⟨m,hn,G⟩,H,I,J,L⟩:=R.st;have go:∀b o,¬(F.loop wr).W O b→s.heap.get? b=some o→s.heap.get? b=some o∧¬F.W O b:=fun b o hb M=>⟨M,fun q=>hb (Fx.loop_W.mpr (.inl q))⟩;refine {base:=R.base,kind:=R.kind,glob:=R.glob,blt:=R.blt,tb:=A,yU:=yU,nU:=fun b hb q=>R.nU b hb (.inl q),lt:=fun b hb=>R.lt b (Fx.loop_W.mpr (.inl hb)),hi:=R.hi,lN:=R.lN,cd:=R.cd,nd:=R.nd,ok:=R.ok,st:=⟨V,⟨m,hn,G⟩,H,fun y sl B=>?_,fun y sl B=>?_,L⟩}
 ·obtain⟨hl,c,N,E,P⟩:=I y sl B;exact⟨hl,c,N,⟨E.1,fun q=>E.2 (.inl q)⟩,P⟩
 ·have:=J y sl B;cases sl with
  |unb=>trivial
  |val p=>refine Bz this fun u e D=>?_;exact⟨u,e,D.goes go⟩
  |own xs=>refine V7 this fun a n vs e Q S T U W=>?_;exact X3 a n vs ⟨e,Q,fun q=>S (.inl q),T,U,W.goes go⟩
  |tk z=>exact this
  | «at» u p=>refine ER this fun e D=>?_;exact⟨e,D.goes go⟩
structure e4(PA:Bl→Prop)(Z:Zx)(k:Nat)(F:Fx)(ρ κ:Ci)(t:D7)(fl:Fl)(ρ':Ci):Prop where
 ofRun::
 run:∀(A:Bl)(O:AS)(s:AO)(Q:RA→AO→Prop)(E:Ad→AO→Prop),Good k A→PA A→Cj Z.C F O ρ κ s→
   (∀f s' O',SM F s' fl f→Cj Z.C F O' ρ' κ s'→Step Z.C (F.X O) s s'→(∀b,O' b→O b∨s.heap.objs.size≤b)→Q f s')→Af (Ar Z.prog Z.w) A (bT t F.env) Q E s
structure ZB(PA:Bl→Prop)(Z:Zx)(k:Nat)(F:Fx)(ρ κ:Ci)(ts:List D7)(fl:Fl)(ρ':Ci):Prop where
 ofRun::
 run:∀(A:Bl)(O:AS)(s:AO)(Q:RA→AO→Prop)(E:Ad→AO→Prop),Good k A→PA A→Cj Z.C F O ρ κ s→
   (∀f s' O',SM F s' fl f→Cj Z.C F O' ρ' κ s'→Step Z.C (F.X O) s s'→(∀b,O' b→O b∨s.heap.objs.size≤b)→Q f s')→Af (Ar Z.prog Z.w) A (Io ts F.env) Q E s
class inductive Im(PA:Bl→Prop)(Z:Zx)(k:Nat)(F:Fx)(κ:Ci)(tgt:Aj)(body orelse:List D7):List PV→Ci→Fl→Ci→Prop where
 |done {ρ ρ':Ci} {fl:Fl} (h:∀wr,ZB PA Z k (F.loop wr) ρ κ orelse fl ρ'):Im PA Z k F κ tgt body orelse [] ρ fl ρ'
 |next {p:PV} {xs:List PV} {ρ ρ₁ ρ₂ ρ':Ci} {fl:Fl} (hb:Bind tgt p ρ ρ₁) (h:∀wr,ZB PA Z k (F.loop wr) ρ₁ κ body .next ρ₂) (hr:Im PA Z k F κ tgt body orelse xs ρ₂ fl ρ'):Im PA Z k F κ tgt body orelse (p::xs) ρ fl ρ'
 |brk {p:PV} {xs:List PV} {ρ ρ₁ ρ':Ci} (hb:Bind tgt p ρ ρ₁) (h:∀wr,ZB PA Z k (F.loop wr) ρ₁ κ body .brk ρ'):Im PA Z k F κ tgt body orelse (p::xs) ρ .next ρ'
 |ret {p q:PV} {xs:List PV} {ρ ρ₁ ρ':Ci} (hb:Bind tgt p ρ ρ₁) (h:∀wr,ZB PA Z k (F.loop wr) ρ₁ κ body (.ret q) ρ'):Im PA Z k F κ tgt body orelse (p::xs) ρ (.ret q) ρ'
class inductive Loop(Z:Zx)(k:Nat)(F:Fx)(κ:Ci)(tgt:Aj)(body orelse:List D7):List PV→Ci→Fl→Ci→Prop where
 |done {ρ ρ':Ci} {fl:Fl} (h:∀wr,PS Z k (F.loop wr) ρ κ orelse fl ρ'):Loop Z k F κ tgt body orelse [] ρ fl ρ'
 |next {p:PV} {xs:List PV} {ρ ρ₁ ρ₂ ρ':Ci} {fl:Fl} (hb:Bind tgt p ρ ρ₁) (h:∀wr,PS Z k (F.loop wr) ρ₁ κ body .next ρ₂) (hr:Loop Z k F κ tgt body orelse xs ρ₂ fl ρ'):Loop Z k F κ tgt body orelse (p::xs) ρ fl ρ'
 |brk {p:PV} {xs:List PV} {ρ ρ₁ ρ':Ci} (hb:Bind tgt p ρ ρ₁) (h:∀wr,PS Z k (F.loop wr) ρ₁ κ body .brk ρ'):Loop Z k F κ tgt body orelse (p::xs) ρ .next ρ'
 |ret {p q:PV} {xs:List PV} {ρ ρ₁ ρ':Ci} (hb:Bind tgt p ρ ρ₁) (h:∀wr,PS Z k (F.loop wr) ρ₁ κ body (.ret q) ρ'):Loop Z k F κ tgt body orelse (p::xs) ρ (.ret q) ρ'
section
variable{Z:Zx}{k:Nat}{F:Fx}{ρ ρ₁ ρ' κ:Ci}{st nm:Bool}
theorem SM.up(C:SM (F.loop wr) s fl f)(A:fl≠ .brk):SM F s fl f:=by
 cases fl with
 |next=>exact C
 |brk=>exact absurd rfl A
 |ret p=>refine Bz C fun u B D=>?_;subst B;exact⟨u,rfl,D.goes fun b o hb E=>⟨E,fun q=>hb (.inl q)⟩⟩
theorem Im.inv{P:Prop}(h:Im PA Z k F κ A body orelse (x::xs) ρ fl ρ')(hn:∀ρ₁ ρ₂,Bind A x ρ ρ₁→(∀wr,ZB PA Z k (F.loop wr) ρ₁ κ body .next ρ₂)→Im PA Z k F κ A body orelse xs ρ₂ fl ρ'→P)
  (hb:∀ρ₁,Bind A x ρ ρ₁→(∀wr,ZB PA Z k (F.loop wr) ρ₁ κ body .brk ρ')→fl= .next→P) (hr:∀ρ₁ q,Bind A x ρ ρ₁→(∀wr,ZB PA Z k (F.loop wr) ρ₁ κ body (.ret q) ρ')→fl= .ret q→P):P:=by
 cases h with
 |next a b c=>exact hn _ _ a b c
 |brk a b=>exact hb _ a b rfl
 |ret a b=>exact hr _ _ a b rfl
theorem Im.invN(h:Im PA Z k F κ A body orelse [] ρ fl ρ'):∀wr,ZB PA Z k (F.loop wr) ρ κ orelse fl ρ':=by
 cases h with
 |done h=>exact h
theorem Loop.inv{P:Prop}(h:Loop Z k F κ A body orelse (x::xs) ρ fl ρ')(hn:∀ρ₁ ρ₂,Bind A x ρ ρ₁→(∀wr,PS Z k (F.loop wr) ρ₁ κ body .next ρ₂)→Loop Z k F κ A body orelse xs ρ₂ fl ρ'→P)
  (hb:∀ρ₁,Bind A x ρ ρ₁→(∀wr,PS Z k (F.loop wr) ρ₁ κ body .brk ρ')→fl= .next→P) (hr:∀ρ₁ q,Bind A x ρ ρ₁→(∀wr,PS Z k (F.loop wr) ρ₁ κ body (.ret q) ρ')→fl= .ret q→P):P:=by
 cases h with
 |next a b c=>exact hn _ _ a b c
 |brk a b=>exact hb _ a b rfl
 |ret a b=>exact hr _ _ a b rfl
theorem Loop.invN(h:Loop Z k F κ A body orelse [] ρ fl ρ'):∀wr,PS Z k (F.loop wr) ρ κ orelse fl ρ':=by
 cases h with
 |done h=>exact h
theorem e4.for(hi:PI Z k F ρ κ true nm w xs)(go:Re nm j=true)(hl:Im PA Z k F κ j body orelse xs ρ fl ρ')(en:fl≠ .brk:=by intro h;cases h)
  (hs:∀x,GE w F.env x=pure x:=by intro _;rfl):e4 PA Z k F ρ κ (.For j w body orelse pos) fl ρ':=.ofRun fun A O s Q E G P R eq=>by
 refine wpAny_For (hi.run A O s _ _ G R fun I fp wr S Hold L W gs hx bi z x=>?_) hs;have Y:(A.mark none).handled=none:=G.handled;have bl:Cj Z.C (F.loop wr) O ρ κ L:=R.enter x bi fun b hb=>(z b (W.sub b hb)).2;have e:∀b,fp b→¬F.X O b∧b<L.heap.objs.size:=fun b hb=>⟨fun q=>(z b hb).1 (q.elim (fun q=>.inl (R.tb b q)) .inr),(z b hb).2⟩
 let J:Nat→AO→Prop:=fun n c=>∃i O' l,n=xs.length-i∧i≤xs.length∧S i c∧Cj Z.C (F.loop wr) O' l κ c∧Im PA Z k F κ j body orelse (xs.drop i) l fl ρ'∧Hold (fun b=>F.W O' b∨wr b) c∧
  (∀b,O' b→O b∨L.heap.objs.size≤b)∧Step Z.C (fun b=>F.X O b∨wr b) L c
 have fin:∀(f:RA)(c:AO)(O':AS)(ρ':Ci),Cj Z.C (F.loop wr) O' ρ' κ c→(∀b,O' b→O b∨L.heap.objs.size≤b)→Step Z.C (fun b=>F.X O b∨wr b) L c→
   Cj Z.C F O' ρ' κ c∧Step Z.C (F.X O) s c∧(∀b,O' b→O b∨s.heap.objs.size≤b):=fun f c O' ρ' il d y=>
  ⟨il.leave R.tb R.yU,(Step.ofE (F:=F) (O:=O) x).comp y fun b hb=>hb.elim .inl fun q=>.inr (bi b q),fun b hb=>(d b hb).imp_right fun q=>AA x.size q⟩
 refine dF J (fun n c ir=>?_) xs.length (X3 0 O ρ ⟨rfl,BI _,gs,bl,by simpa using hl,hx,fun b hb=>.inl hb,.refl _⟩);refine kh ir fun i O' l hn b4 ck cn t co d yi=>?_;have c1:∀b,(F.loop wr).W O' b→b<c.heap.objs.size:=cn.lt;rcases Ix i xs.length with g|c2
 ·
  have At:xs.drop i=xs[i]::xs.drop (i+1):=GM g;rw[At]at t;refine B1 (W.item j i xs[i] _ c ((F.loop wr).W O') (fun v s₂=>Af (Ar Z.prog Z.w) (A.mark none) (DV j F.env v) (fun u0 s₂=>Af (Ar Z.prog Z.w) (A.mark none) (Io body F.env) (fun f s₃=>match f with
      |.next|.cont=>∃m,m<n∧J m s₃
      |.brk=>Q .next s₃
      |.ret v=>Q (.ret v) s₃) _ s₂) _ s₂) _ ⟨Y,G.depth,G.units⟩ go (AL g) ck (W.hold _ _ _ _ co fun b o hb p=>⟨p,fun q=>hb (Fx.loop_W.mp q)⟩) cn.base (fun b hb=>Fx.loop_W.mpr (.inr hb)) c1 fun v s₂ er Gt X=>?_)
   (fun r s₂ h=>by obtain⟨v,rfl,h⟩:=h;exact h) fun u0 u0 h=>h
  have U:Cj Z.C (F.loop wr) O' l κ s₂:=cn.stepY X fun b hb=>.inr (.inr hb);have If:Goes (fun b=>F.W O' b∨wr b) c.heap (fun b=>F.W O' b∨wr b) s₂.heap:=fun b o hb p=>⟨X.keep b o (fun q=>hb (.inr q)) p,hb⟩;have Is:=W.hold _ _ _ _ co If;have M:Step Z.C (fun b=>F.X O b∨wr b) L s₂:=yi.trans (X.mono fun b hb=>.inr hb);have c3:∀b,fp b→¬F.X O' b:=fun b hb q=>by
   rcases q with q|q|q
   ·exact(e b hb).1 (.inl q)
   ·exact(e b hb).1 (.inr (.inl q))
   ·rcases d b q with q|q
    ·exact(e b hb).1 (.inr (.inr q))
    ·exact As _ (AF (e b hb).2 q)
  have after:∀(s₃ B:AO)(C:AS)(Lt:Ci),Step Z.C (F.X O') s₂ s₃→Step Z.C (F.X O') s₃ B→(∀b,C b→O' b∨s₃.heap.objs.size≤b)→Step Z.C (fun b=>F.X O b∨wr b) L B∧(∀b,C b→O b∨L.heap.objs.size≤b)∧S (i+1) B∧Hold (fun b=>F.W C b∨wr b) B:=
   fun s₃ B C Lt N T D=>by
    have H:=N.trans T;have Ns:∀b,F.X O' b→F.X O b∨L.heap.objs.size≤b:=fun b hb=>hb.elim (fun q=>.inl (.inl q)) fun q=>q.elim (fun q=>.inl (.inr (.inl q))) fun q=>(d b q).imp_left fun q=>.inr (.inr q);refine⟨M.comp H fun b hb=>(Ns b hb).imp_left .inl,fun b hb=>(D b hb).elim (d b) fun q=>.inr (AA (AA M.size N.size) q),?_,?_⟩
    ·exact W.frame _ _ _ Gt (fun b o hb p=>H.keep b o (c3 b hb) p) H.gens ⟨H.size,H.toks⟩
    ·refine W.hold _ _ _ _ Is fun b o hb p=>⟨H.keep b o (fun q=>hb (.inl (q.elim (fun q=>.inl (R.tb b q)) .inr))) p,fun q=>hb ?_⟩;rcases q with(q|q|q)|q
     ·exact .inl (.inl q)
     ·exact .inl (.inr (.inl q))
     ·exact(D b q).elim (fun q=>.inl (.inr (.inr q))) fun q=>absurd (BJ p) (A0.mpr (AA N.size q))
     ·exact .inr q
  refine t.inv (fun ρ₁ ρ₂ hb h hr=>?_) (fun ρ₁ hb h fe=>?_) fun ρ₁ q hb h fe=>?_
  ·refine Bind.run (F:=F.loop wr) hb Y U er fun s₃ a N=>?_;refine(h wr).run _ O' s₃ _ _ ⟨Y,G.depth,G.units⟩ P a fun f B C Sa V T D=>?_;have av:f= .next:=Sa;subst av;refine Ny (after s₃ B C ρ₂ N T D) fun c4 df fn fr=>?_;exact⟨xs.length-(i+1),af hn g,i+1,C,ρ₂,rfl,g,fn,V,hr,fr,df,c4⟩
  ·refine Bind.run (F:=F.loop wr) hb Y U er fun s₃ a N=>?_;refine(h wr).run _ O' s₃ _ _ ⟨Y,G.depth,G.units⟩ P a fun f B C Sa V T D=>?_;have av:f= .brk:=Sa;subst av;refine Ny (after s₃ B C ρ' N T D) fun c4 df fn fr=>?_;refine Nc (fin .next B C ρ' V df c4) fun em b2 b3=>?_;exact eq _ B C (by rw[fe];exact(rfl:a2= .next)) em b2 b3
  ·refine Bind.run (F:=F.loop wr) hb Y U er fun s₃ a N=>?_;refine(h wr).run _ O' s₃ _ _ ⟨Y,G.depth,G.units⟩ P a fun f B C Sa V T D=>?_;refine Bz Sa fun u fs kw=>?_;subst fs;refine Ny (after s₃ B C ρ' N T D) fun c4 df fn fr=>?_;refine Nc (fin .next B C ρ' V df c4) fun em b2 b3=>?_;exact eq _ B C (by rw[fe];exact⟨u,rfl,kw.goes fun b o hb p=>⟨p,fun q=>hb (.inl q)⟩⟩) em b2 b3
 ·have gd:i=xs.length:=DL b4 c2;subst gd;rw[Ow]at t;refine W.done _ c _ _ ⟨Y,G.depth,G.units⟩ ck cn.base fun s₂ X=>?_
  ·have h:=t.invN;have U:Cj Z.C (F.loop wr) O' l κ s₂:=cn.stepY X fun b hb=>.inr (.inr hb);have M:Step Z.C (fun b=>F.X O b∨wr b) L s₂:=yi.trans (X.mono fun b hb=>.inr hb);refine(h wr).run _ O' s₂ _ _ ⟨Y,G.depth,G.units⟩ P U fun f B C Sa V T D=>?_;have Ns:∀b,F.X O' b→F.X O b∨L.heap.objs.size≤b:=fun b hb=>hb.elim (fun q=>.inl (.inl q)) fun q=>q.elim (fun q=>.inl (.inr (.inl q))) fun q=>(d b q).imp_left fun q=>.inr (.inr q);refine Nc (fin f B C ρ' V (fun b hb=>(D b hb).elim (d b) fun q=>.inr (AA M.size q)) (M.comp T fun b hb=>(Ns b hb).imp_left .inl)) fun em b2 b3=>?_;exact eq f B C (Sa.up en) em b2 b3
theorem PS.g(h:PS Z k F ρ κ B fl ρ'):ZB PA Z k F ρ κ B fl ρ':=.ofRun fun A O s Q E G D R C=>h.run A O s Q E G R C
theorem Loop.g(h:Loop Z k F κ A body orelse xs ρ fl ρ'):Im PA Z k F κ A body orelse xs ρ fl ρ':=by
 induction h with
 |done h=>exact .done fun w=>(h w).g
 |next hb h C B=>exact .next hb (fun w=>(h w).g) B
 |brk hb h=>exact .brk hb fun w=>(h w).g
 |ret hb h=>exact .ret hb fun w=>(h w).g
theorem P1.for(hi:PI Z k F ρ κ true nm B xs)(H:Re nm C=true)(hl:Loop Z k F κ C body orelse xs ρ fl ρ')(D:fl≠ .brk:=by intro h;cases h)
  (hs:∀x,GE B F.env x=pure x:=by intro _;rfl):P1 Z k F ρ κ (.For C B body orelse pos) fl ρ':=.ofRun fun A O s Q E G R I=>(e4.for (PA:=fun J=>True) hi H hl.g D hs).run A O s Q E G trivial R I
end
theorem O7(h:∀y,(y,Cn)∈scope.names→∃c,env.cells.lookup y=some c):
  ∃cl,GW scope env=pure cl∧(∀y c,cl.lookup y=some c→env.cells.lookup y=some c∧(y,Cn)∈scope.names)∧∀y,(y,Cn)∈scope.names→∃c,cl.lookup y=some c:=by
 have go:∀(names:List (Ax×GX))(A:List (Ax×Ch)),(∀y,(y,Cn)∈names→(y,Cn)∈scope.names)→(∀y c,A.lookup y=some c→env.cells.lookup y=some c∧(y,Cn)∈scope.names)→
   ∃cl,(forIn names A (fun(x:Ax×GX)(r:List (Ax×Ch))=>if x.2== .free then(do let a ←Uh env x.1;pure (Ek ((x.1,a)::r)):Ku (ForInStep (List (Ax×Ch)))) else pure (Ek r)):Ku (List (Ax×Ch)))=pure cl∧
    (∀y c,cl.lookup y=some c→env.cells.lookup y=some c∧(y,Cn)∈scope.names)∧(∀y c,A.lookup y=some c→∃C,cl.lookup y=some C)∧∀y,(y,Cn)∈names→∃c,cl.lookup y=some c:=by
  intro names
  induction names with
  |nil=>intro A _ I;exact⟨A,rfl,I,fun y c h=>⟨c,h⟩,fun y B=>by cases B⟩
  |cons x r M=>
   intro A hn I;obtain⟨n,kd⟩:=x;rw[K0];by_cases J:kd= .free
   ·subst J;refine B8 (h n (hn n AB)) fun c N=>?_;have D:Uh env n=pure c:=by unfold Uh;rw[N]
    simp only[beq_self_eq_true,if_true,D,pure_bind];obtain⟨cl,E,F,L,G⟩:=M ((n,c)::A) (fun y B=>hn y (AG _ B)) (fun y C hl=>by
     rw[C4]at hl;cases hb:y==n with
     |true=>rw[hb]at hl;cases hl;rw[beq_iff_eq.mp hb];exact⟨N,hn n AB⟩
     |false=>rw[hb]at hl;exact I y C hl)
    have H:∀y,(∃C,((n,c)::A).lookup y=some C)→∃C,cl.lookup y=some C:=fun y ⟨C,h⟩=>L y C h;refine⟨cl,E,F,fun y C hl=>H y ?_,fun y B=>?_⟩
    ·rw[C4];cases hb:y==n with
     |true=>exact⟨c,rfl⟩
     |false=>exact⟨C,hl⟩
    ·rcases AN.mp B with e|B
     ·cases e;refine H n ⟨c,?_⟩;rw[C4,beq_self_eq_true]
     ·exact G y B
   ·have hb:(kd==Cn)=false:=beq_eq_false_iff_ne.mpr J;simp only[hb,Gv,if_false,pure_bind];obtain⟨cl,E,F,L,G⟩:=M A (fun y B=>hn y (AG _ B)) I;refine⟨cl,E,F,L,fun y B=>?_⟩;rcases AN.mp B with e|B
    ·cases e;exact absurd rfl J
    ·exact G y B
 obtain⟨cl,E,F,_,G⟩:=go scope.names [] (fun O h=>h) (fun y c h=>by simp at h);refine⟨cl,?_,F,G⟩;rw[←E];unfold GW;simp only[bind_pure]
theorem EU:∀(names:List (Ax×GX))(n:Nat)(A:List (Ax×Ch)),Ge n names A=Ge n names []++A
 |[],_,_=>rfl
 |(x,kd)::r,n,A=>by
  unfold Ge;split
  ·rw[EU r (n+1) ((x,n)::A),EU r (n+1) [(x,n)],A8];rfl
  ·exact EU r n A
theorem H_:∀(names:List (Ax×GX))(n:Nat)(y:Ax)(c:Ch),(y,c)∈Ge n names []→(y,HA)∈names
 |[],_,_,_,h=>by cases h
 |(x,kd)::r,n,y,c,h=>by
  unfold Ge at h;split at h
  ·rename_i A;rw[EU]at h;rcases AR.mp h with h|h
   ·exact AG _ (H_ r _ y c h)
   ·cases AI.mp h;rw[(beq_iff_eq.mp A:kd= .cell)];exact AB
  ·exact AG _ (H_ r n y c h)
theorem GA:∀(names:List (Ax×GX))(n:Nat)(y:Ax),(y,HA)∈names→∃c,(Ge n names []).lookup y=some c
 |[],_,_,h=>by cases h
 |(x,kd)::r,n,y,h=>by
  have A:∀(l:List (Ax×Ch))(z:Ax×Ch),(∃c,l.lookup y=some c)∨z.1=y→∃c,(l++ [z]).lookup y=some c:=fun l z hz=>by
   rw[I'];cases hl:l.lookup y with
   |some c=>exact⟨c,rfl⟩
   |none=>
    rcases hz with⟨c,C⟩|hz
    ·cases hl.symm.trans C
    ·obtain⟨E,D⟩:=z;refine⟨D,?_⟩;simp only at hz;subst hz;simp
  unfold Ge;split
  ·rename_i B;rw[EU];rcases AN.mp h with e|h
   ·cases e;exact A _ _ (.inr rfl)
   ·exact A _ _ (.inl (GA r (n+1) y h))
  ·rename_i B;rcases AN.mp h with e|h
   ·cases e;exact absurd (beq_self_eq_true _) B
   ·exact GA r n y h
theorem H4:∀(names:List (Ax×GX))(h:GY),h.objs.size≤(Yz h names).objs.size
 |[],_=>AK _
 |(_,kd)::r,h=>by
  unfold Yz;split
  ·exact AA (by rw[BG];exact BU _) (H4 r _)
  ·exact H4 r h
theorem Eb{env:Ti}:∀{names:List (Ax×GX)}{x:Ax}{kd:GX},names.lookup x=some kd→
  (names.map fun(n,k)=>if(k==Cn && env.scope.kind== .function && env.kindOf n==some .cell) then(n,HA) else(n,k)).lookup x=some (if(kd==Cn && env.scope.kind== .function && env.kindOf x==some .cell) then .cell else kd)
 |[],_,_,h=>by simp at h
 |(n,k)::r,x,kd,h=>by
  have A:=@Eb env r x kd;show List.lookup x ((if(k==Cn && env.scope.kind== .function && env.kindOf n==some .cell)=true then(n,HA) else(n,k))::_)=_;cases hx:x==n with
  |true=>
   simp only[C4,hx]at h;cases h;have:=beq_iff_eq.mp hx;subst this;split<;>simp[C4]
  |false=>
   simp only[C4,hx]at h;by_cases B:(k==Cn && env.scope.kind== .function && env.kindOf n==some .cell)=true
   ·rw[if_pos B];simp only[C4,hx];exact A h
   ·rw[if_neg B];simp only[C4,hx];exact A h
theorem Rg
  (h:Q {scope:=scope,locals:=s.heap.objs.size,globals:=env.globals,cells:=Ge (s.heap.objs.size+1) scope.names []++cl,qual:=env.qual,func:=none,code:=env.code,frame:=env.frame,builtins:=env.builtins}
   {s with heap:=Yz (s.heap.push {cls:=.type "dict",data:=.dict #[]}) scope.names}):Af M A (newFunctionEnv scope env.globals cl [] env.qual none .none (some env)) Q E s:=by
 simp only[newFunctionEnv,Option.isSome_some,if_true];refine AJ (wpAny_alloc ?_);refine AJ (wpAny_layCells _ (fun name kind cells=>by cases B:kind==HA<;>rfl) _ _ _ _ ?_);rw[(BG .. :({s with heap:=s.heap.push {cls:=.type "dict",data:=.dict #[]}}:AO).heap.objs.size=s.heap.objs.size+1),EU];exact AJ (AX (AX h))
section
variable{prog:IZ}{w:P'}{A:Bl}{R:Result→AO→Prop}{s:AO}
theorem Qp(I:Nat→AO→Prop)
  (M:∀n s,I n s→Af (Ar prog w) A (Ks V) (fun r C=>match r with
   |none=>R (.ok .next) C
   |some v=>Af (Ar prog w) A (JC target V v) (fun B D=>Af (Ar prog w) A (DV target env v) (fun B s₂=>
     Af (Ar prog w) A (forIn N true fun c r=>if r=true then do let ok ←isTrue c env (D4 c env);pure (Ek ok) else pure (Ek r)) (fun ok s₃=>
      if ok=true then Af (Ar prog w) A (D4 O env) (fun x F=>
       Af (Ar prog w) A (call (.builtin "list.append") [P,x]) (fun B G=>∃m,m<n∧I m G) (Te (Ar prog w) A env fun e E=>R (.error e) E) F) (Te (Ar prog w) A env fun e E=>R (.error e) E) s₃
      else∃m,m<n∧I m s₃) (Te (Ar prog w) A env fun e E=>R (.error e) E) s₂) (Te (Ar prog w) A env fun e E=>R (.error e) E) D) (Te (Ar prog w) A env fun e E=>R (.error e) E) C) (Te (Ar prog w) A env fun e E=>R (.error e) E) s)
  (n:Nat) (h:I n s):Kd (Ar prog w) A (.compLoop (.ListComp O [⟨target,Q,N,0⟩] scope pos) 0 V P env) R s:=by
 refine codeAny_loop rfl I (fun n s W=>?_) n h;show Af _ A ((compTurn (.ListComp O [⟨target,Q,N,0⟩] scope pos) 0 V P env).onRaise (fun x=>do Ng x env;JB x)) _ _ s;refine wpAny_noted ?_;rw[compTurn_list];refine AJ (Et (AJ (B1 (M n s W) (fun r C H=>?_) fun B B h'=>h')));cases r with
 |none=>exact AX H
 |some v=>
  refine AJ (B1 H (fun B D L=>?_) fun B B h'=>h');refine AJ (B1 L (fun B s₂ S=>AJ (B1 S (fun ok s₃ J=>?_) fun B B h'=>h')) fun B B h'=>h');cases ok with
  |false=>exact AX ⟨rfl,J⟩
  |true=>
   exact AJ (AJ (B1 J (fun x F T=>AJ (B1 T (fun B G U=>AX (AX ⟨rfl,U⟩)) fun B B h'=>h')) fun B B h'=>h'))
end
noncomputable def au(Z:Zx)(k:Nat)(F:Fx)(ρ κ:Ci):List Aj→Bool→Prop
 |[],b=>b=true
 |[c],b=>PB Z k F ρ κ c b
 |_,_=>False
theorem au.run(h:au Z k F ρ κ B b)(G:Good k A)(R:Cj Z.C F O ρ κ s)(D:∀C,D9 Z.C s C→Q b C):
  Af (Ar Z.prog Z.w) A (forIn B true fun c r=>if r=true then do let ok ←isTrue c F.env (D4 c F.env);pure (Ek ok) else pure (Ek r)) Q E s:=by
 match B,h with
 |[],h=>
  have:b=true:=h;subst this;rw[Ln];exact AX (D s (.refl _))
 |[c],h=>
  rw[K0];refine AJ (AJ ((show PB Z k F ρ κ c b from h).run A O s _ _ G R fun C x=>AX ?_));show Af _ _ (forIn [] b _) _ _ _;rw[Ln];exact AX (D C x)
theorem Fm{h:GY}{a:Nat}(e:h.get? a=some o):a<h.objs.size:=BJ e
theorem Qq{h:GY}{a:Nat}(e:h.IsCell a v):a<h.objs.size:=e.lt
theorem Cj.forget(R:Cj C F O ρ κ s)(J:ρ'.map (·.1)=ρ.map (·.1))(D:∀x sl,(x,sl)∈ρ'→sl= .unb):Cj C F O ρ' κ s:=by
 obtain⟨V,⟨m,hn,L⟩,M,N,P,Q⟩:=R.st;have A:(ρ'++κ).map (·.1)=(ρ++κ).map (·.1):=by rw[Ac,Ac,J]
 refine {base:=R.base,kind:=R.kind,glob:=R.glob,blt:=R.blt,tb:=R.tb,yU:=R.yU,nU:=R.nU,lt:=R.lt,hi:=R.hi,lN:=R.lN,cd:=R.cd,nd:=A▸R.nd,ok:=?_,st:=⟨V,⟨m,hn,L⟩,fun x sl hx=>?_,N,fun x sl hx=>?_,fun x y p q a hx S=>?_⟩}
 ·have B:=R.ok;rw[Al]at B⊢;intro p hp;have:p.1∈(ρ++κ).map (·.1):=A▸AU.mpr ⟨p,hp,rfl⟩;refine Bz (AU.mp this) fun q E e=>?_;rw[←e];exact B q E
 ·have:x∈ρ.map (·.1):=J▸AU.mpr ⟨_,hx,rfl⟩;obtain⟨⟨T,G⟩,E,e⟩:=AU.mp this;simp only at e;subst e;exact M T G E
 ·rcases AR.mp hx with hx|hx
  ·rw[D x sl hx];trivial
  ·exact P x sl (Ak _ hx)
 ·have H:(x,Slot.own p)∈κ:=(AR.mp hx).resolve_left fun h=>by have:=D x _ h;cases this
  have I:(y,Slot.own q)∈κ:=(AR.mp S).resolve_left fun h=>by have:=D y _ h;cases this
  exact Q x y p q a (Ak _ H) (Ak _ I)
section
variable{Z:Zx}{k:Nat}{F:Fx}{ρ ρ₁ ρ' κ:Ci}{st:Bool}
structure CS(scope:Scope)(env:Ti)(ρ κ ρc κc:Ci):Prop where
 own:∀x sl,(x,sl)∈ρc→sl= .unb∧(scope.names.lookup x=some .local∨scope.names.lookup x=some .cell)
 cap:∀y sl,(y,sl)∈κc→scope.names.lookup y=some .free∧(y,sl)∈ρ++κ∧env.kindOf y≠some .local
 free:∀y,(y,Cn)∈scope.names→∃sl,(y,sl)∈κc
 nd:((ρc++κc).map (·.1)).Nodup
 ok:((ρc++κc).all fun p=>Internal.nameOk p.1)=true
 kind:scope.kind= .function
 names:∀x∈scope.names,scope.names.lookup x.1=some x.2
theorem P0{fs mE b2:Aj}{mF:List Aj}{scope:Scope}{pos mu:JE}{xs:List PV}(hi:PI Z k F ρ κ mV nm b2 xs)(nZ:Re nm fs=true)(Is:CS scope F.env ρ κ gs U)
  (mW:∀p∈xs,∃mG,Bind fs p gs mG∧∀Y:Fx,Y.env.scope=GD scope F.env→au Z k Y mG U mF (b p)∧(b p=true→PE Z k Y mG U st mE (f p))) (nL:xs.length≤1000000) (hs:∀x,GE b2 F.env x=pure x)
  (A:Bl) (O:AS) (s:AO) (Q:Ad→AO→Prop) (E:Ad→AO→Prop) (G:Good k A) (R:Cj Z.C F O ρ κ s)
  (na:∀(D C n:Nat) vs s' m,s.heap.objs.size≤D→s.heap.objs.size≤C→D≠C→s'.heap.get? D=some {cls:=.type "list",data:=.seq (BL vs) n}→DW (fun c=>F.V O st c∨c=D∨c=C) s'.heap vs ((xs.filter b).map f)→D9 Z.C s s'→s'.heap.Ns C m→
   compPost (Ar Z.prog Z.w) A E use Q (.ref D) C (.ok .next) s'):
  Af (Ar Z.prog Z.w) A (comprehension (.ListComp mE [⟨fs,b2,mF,0⟩] scope pos) scope F.env mu (newList []) false (D4 b2 F.env) use) Q E s:=by
 refine B8 R.st fun V nc=>?_;have nM:=nc;obtain⟨⟨nW,nN,nO⟩,nf,ng,nh,ni⟩:=nM;have hr:∀y sl,(y,sl)∈U→∃c,F.env.cells.lookup y=some c∧129≤c∧¬F.Y c∧s.heap.IsCell c (V y):=fun y sl g=>by
  refine Nc (Is.cap y sl g) fun _ b3 mH=>?_;rcases AR.mp b3 with b3 | b3
  ·rcases nf y sl b3 with hl|⟨_,c,mX,mD,mv⟩
   ·exact absurd hl mH
   ·exact⟨c,mX,R.hi c (.inl mD),R.nU c mD,mv⟩
  ·obtain⟨_,c,mX,mD,mv⟩:=ng y sl b3;exact⟨c,mX,mD.1,mD.2,mv⟩
 obtain⟨cl,nP,c4,mw⟩:=O7 (scope:=scope) (env:=F.env) fun y g=>by
  refine B8 (Is.free y g) fun sl il=>?_;refine Bz (hr y sl il) fun c e _=>?_;exact⟨c,e⟩
 refine wpAny_comprehension_free (cl:=cl) rfl hs nP Is.kind (fun x hx hl=>by have:=Is.names x hx;rw[hl]at this;exact this) ?_;refine hi.run A O s _ _ G R fun I fp wr S Hold B W nj nk mI mY x=>?_;refine D1 (Rg ?_);dsimp only;generalize mZ:B.heap.push {cls:=.type "list",dict:=none,data:=.seq ([]:List Ad).toArray}=Sa;have Lt:Sa.objs.size=B.heap.objs.size+1:=by rw[←mZ,BG]
 generalize mJ:Yz (Sa.push {cls:=.type "dict",data:=.dict #[]}) scope.names=c1;have M:Sa.objs.size+1≤c1.objs.size:=by
  rw[←mJ];have:=H4 scope.names (Sa.push {cls:=.type "dict",data:=.dict #[]});rw[BG]at this;exact this
 have j:∀b o,B.heap.get? b=some o→Sa.get? b=some o:=fun b o e=>mZ▸Am _ e;have T:∀b o,Sa.get? b=some o→c1.get? b=some o:=fun b o e=>mJ▸pushCells_keeps _ _ b o (Am _ e);have ma:D9 Z.C B {B with heap:=c1}:=.keeps (t:=B.toks) (fun b o e=>T b o (j b o e)) (iR Lt M);have mx:c1.get? B.heap.objs.size=some {cls:=.type "list",data:=.seq (BL []) 0}:=T _ _ (mZ▸A4 _ rfl);have nQ:c1.Ns Sa.objs.size (fun u0=>none):=mJ▸(Heap.Ns.new Sa (.type "dict")).keeps (pushCells_keeps _ _);have N:CellsOk c1 (Sa.objs.size+1) (Ge (Sa.objs.size+1) scope.names []):=by
  have:=cellsFrom_ok scope.names (Sa.push {cls:=.type "dict",data:=.dict #[]}) (Sa.objs.size+1) [] ⟨fun u0 u0 nJ=>(nomatch nJ),FH⟩ (by rw[BG];exact AK _);rw[BG,mJ]at this;exact this
 generalize mS:Ge (Sa.objs.size+1) scope.names []=w at N
 let Y:Fx:=⟨{scope:=GD scope F.env,locals:=Sa.objs.size,globals:=F.env.globals,cells:=w++cl,qual:=F.env.qual,func:=none,code:=F.env.code,frame:=F.env.frame,builtins:=F.env.builtins},
  fun b=>F.U b∨F.N b∨wr b∨b=B.heap.objs.size,fun b=>b=Sa.objs.size∨∃y,(y,b)∈w,fun b=>F.Y b∨wr b∨b=B.heap.objs.size⟩
 have P:∀(y:Ax)(c:Nat),(y,c)∈w→Sa.objs.size+1≤c∧c<c1.objs.size:=fun y c H=>⟨(N.empty y c H).2,Qq (N.empty y c H).1⟩;have mK:∀y c,(y,c)∈w→(y,HA)∈scope.names:=fun y c H=>H_ scope.names _ y c (mS▸H);have ir:∀y,scope.names.lookup y=some .free→w.lookup y=none:=fun y g=>by
  cases e:w.lookup y with
  |none=>rfl
  |some c=>
   have:=Is.names _ (mK y c (mem_of_lookup e));cases g.symm.trans this
 have df:∀b,wr b→b<B.heap.objs.size:=fun b hb=>(mY b (W.sub b hb)).2;have nR:∀b,F.W O b→b<s.heap.objs.size:=R.lt;have L:s.heap.objs.size≤B.heap.objs.size:=x.size;have b4:∀y c,(w++cl).lookup y=some c→(∃q,(y,q)∈w∧q=c)∨(w.lookup y=none∧cl.lookup y=some c):=fun y c H=>by
  rw[I']at H;cases e:w.lookup y with
  |some d=>rw[e]at H;cases H;exact .inl ⟨c,mem_of_lookup e,rfl⟩
  |none=>rw[e]at H;exact .inr ⟨rfl,by simpa using H⟩
 have kw:∀(y:Ax)(c:Nat),cl.lookup y=some c→c<s.heap.objs.size:=fun y c H=>by
  refine ER (c4 y c H) fun mX mD=>?_;refine B8 (Is.free y mD) fun sl il=>?_;refine Tc (hr y sl il) fun mb e _ _ mc=>?_;cases mX.symm.trans e;exact Qq mc
 let nS:Ax→Option Ad:=fun y=>if U.any (fun q=>q.1==y) then V y else none
 have bi:∀y sl,(y,sl)∈U→nS y=V y:=fun y sl g=>by
  show(if U.any (fun q=>q.1==y) then V y else none)=V y;rw[if_pos (a7.mpr ⟨(y,sl),g,beq_self_eq_true y⟩)]
 have em:∀y,(∀sl,(y,sl)∉U)→nS y=none:=fun y g=>by
  show(if U.any (fun q=>q.1==y) then V y else none)=none;rw[if_neg];intro h;obtain⟨⟨y',sl⟩,nq,e⟩:=a7.mp h;have:y'=y:=beq_iff_eq.mp e;subst this;exact g sl nq
 have mL:∀y sl,(y,sl)∈gs→∀my,(y,my)∉U:=fun y sl g my b3=>by
  have nd:=Is.nd;rw[Ac,Jb]at nd;exact nd.2.2 y (AU.mpr ⟨_,g,rfl⟩) y (AU.mpr ⟨_,b3,rfl⟩) rfl
 have ln:∀c o,¬F.W O c→s.heap.get? c=some o→c1.get? c=some o∧¬Y.W O c:=fun c o H Ns=>by
  have ck:=Fm Ns;refine⟨T c o (j c o (x.keep c o (fun q=>H (.inl (R.tb c q))) Ns)),fun q=>?_⟩;rcases q with(q|q|q|q)|(q|⟨y,q⟩)|q
  ·exact H (.inl q)
  ·exact H (.inr (.inl q))
  ·exact As _ (AF ck (mI c q))
  ·subst q;exact As _ (AF ck L)
  ·subst q;rw[Lt]at ck;exact A0.mpr L (E2 ck)
  ·have:=(P y c q).1;exact absurd (AF ck L) (A0.mpr (AA (A_ (BU _)) (by rw[Lt]at this;exact this)))
  ·exact H (.inr (.inr q))
 have mz:Cj Z.C Y O gs U {B with heap:=c1}:=by
  refine {base:=((R.ext x).ext ma).base,kind:=Is.kind,glob:=R.glob,blt:=R.blt,tb:=fun b hb=>.inl (R.tb b hb),yU:=fun b hb=>hb.imp (R.yU b) .inr,nU:=fun b hb q=>?_,lt:=fun b hb=>?_,hi:=fun b hb=>?_,lN:=.inl rfl,cd:=fun u v c m0 mM=>?_,nd:=Is.nd,ok:=Is.ok,st:=⟨nS,⟨fun u0=>none,nQ,fun y g=>?_⟩,fun y sl g=>?_,fun y sl g=>?_,fun y sl g=>?_,fun u v p q a m0 mM nX ev=>?_⟩}
  ·have md:Sa.objs.size≤b:=hb.elim (fun e=>e▸AK _) fun⟨y,g⟩=>HC (P y b g).1;rcases q with q|q|q
   ·have:=R.lt b (.inl (R.yU b q));exact absurd (AY md (AF this L)) (by rw[Lt];exact A0.mpr (BU _))
   ·have:=df b q;exact As _ (B7 (AF (Lt▸Az _) md) this)
   ·subst q;exact iQ Lt md
  ·show b<c1.objs.size;rcases hb with(q|q|q|q)|(q|⟨y,q⟩)|q
   ·have:=R.lt b (.inl q);exact cj Lt M L this
   ·have:=R.lt b (.inr (.inl q));exact cj Lt M L this
   ·have:=df b q;exact B7 this (AF (By (Az _)) (by rw[Lt]at M;exact M))
   ·subst q;exact ci Lt M
   ·subst q;exact M
   ·exact(P y b q).2
   ·have:=R.lt b (.inr (.inr q));exact cj Lt M L this
  ·have mT:=R.base.low;rcases hb with(q|⟨y,q⟩)|q
   ·subst q;exact Lt▸A_ (AA mT L)
   ·have:=(P y b q).1;exact AA (AA mT L) (AA (A_ (BU _)) (by rw[Lt]at this;exact this))
   ·exact R.hi b (.inr q)
  ·rcases b4 u c m0 with⟨_,m1,rfl⟩|⟨_,m2⟩<;>rcases b4 v _ mM with⟨_,m3,e⟩|⟨_,m4⟩
   ·subst e;exact name_of_addr N.apart m1 m3
   ·have:=(P u _ m1).1;have:=kw v _ m4;exact(eg Lt L ‹_› this).elim
   ·subst e;have:=(P v _ m3).1;have:=kw u _ m2;exact(eg Lt L ‹_› this).elim
   ·exact R.cd u v c (c4 u c m2).1 (c4 v c m4).1
  ·refine(em y fun sl il=>?_).symm;have hl:=(Is.cap y sl il).1;have:(GD scope F.env).names.lookup y=some .local:=g;rw[show(GD scope F.env).names.lookup y=_ from Eb hl]at this;split at this<;>cases this
  ·refine ER (Is.own y sl g) fun nT mH=>?_;subst nT;rcases mH with mH|mH
   ·exact .inl (by
     show(GD scope F.env).names.lookup y=some .local;rw[show(GD scope F.env).names.lookup y=_ from Eb mH];rfl)
   ·refine .inr ⟨by
     show(GD scope F.env).names.lookup y=some .cell;rw[show(GD scope F.env).names.lookup y=_ from Eb mH];rfl,?_⟩
    refine B8 (GA scope.names (Sa.objs.size+1) y (mem_of_lookup mH)) fun c H=>?_;rw[mS]at H;have nJ:=mem_of_lookup H;refine⟨c,by show(w++cl).lookup y=some c;rw[I',H];rfl,.inr ⟨y,nJ⟩,?_⟩;rw[em y (mL y _ g)];exact(N.empty y c nJ).1
  ·refine Nc (Is.cap y sl g) fun hl b3 mH=>?_;refine Tc (hr y sl g) fun c mX mD mv nr=>?_;refine B8 (mw y (mem_of_lookup hl)) fun mb mf=>?_;have:mb=c:=CT ((c4 y mb mf).1.symm.trans mX);subst this;refine⟨?_,mb,by show(w++cl).lookup y=some mb;rw[I',ir y hl,mf];rfl,⟨mD,fun q=>?_⟩,?_⟩
   ·show(GD scope F.env).names.lookup y=some .cell∨(GD scope F.env).names.lookup y=some .free;rw[show(GD scope F.env).names.lookup y=_ from Eb hl];split
    ·exact .inl rfl
    ·exact .inr rfl
   ·have:=kw y mb mf;rcases q with q|q|q
    ·exact mv q
    ·have:=mI mb q;exact absurd ‹_› (A0.mpr this)
    ·subst q;exact Qw L this
   ·rw[bi y sl g];refine Bz nr fun o Ns hd=>?_;exact⟨o,T _ _ (j _ _ (x.keep _ _ (Cg mD) Ns)),hd⟩
  ·rcases AR.mp g with g|g
   ·rw[(Is.own y sl g).1];trivial
   ·rw[bi y sl g];have:=nh y sl (Is.cap y sl g).2.1;cases sl with
    |unb=>trivial
    |val p=>refine Bz this fun u e mM=>?_;exact⟨u,e,mM.goes ln⟩
    |own ys=>
     refine V7 this fun a n vs e q1 q2 q3 q4 q5=>?_;have mN:=Fm q4;refine X3 a n vs ⟨e,q1,fun q=>?_,fun q=>?_,T _ _ (j _ _ (x.keep _ _ (fun q=>q2 (R.tb a q)) q4)),q5.goes ln⟩
     ·rcases q with q|q|q|q
      ·exact q2 q
      ·exact q3 q
      ·have:=mI a q;exact absurd mN (A0.mpr this)
      ·subst q;exact Qw L mN
     ·rcases q with q|⟨y',q⟩
      ·subst q;exact absurd mN (A0.mpr (Lt▸A_ L))
      ·have:=(P y' a q).1;exact absurd (AF mN L) (A0.mpr (AA (A_ (BU _)) (by rw[Lt]at this;exact this)))
    |tk z=>refine K8 this fun t e q1 q2=>?_;exact⟨t,e,q1,AF q2 (AA x.toks (AK _))⟩
    | «at» u p=>refine ER this fun e mM=>?_;exact⟨e,mM.goes ln⟩
  ·have mO:(u,Slot.own p)∈U:=(AR.mp m0).resolve_left fun h=>by have:=(Is.own u _ h).1;cases this
   have m5:(v,Slot.own q)∈U:=(AR.mp mM).resolve_left fun h=>by have:=(Is.own v _ h).1;cases this
   rw[bi u _ mO]at nX;rw[bi v _ m5]at ev;exact ni u v p q a (Is.cap u _ mO).2.1 (Is.cap v _ m5).2.1 nX ev
 let go:AS:=fun c=>Tb c∨Y.N c∨wr c∨c=B.heap.objs.size
 have en:∀c,Y.N c→B.heap.objs.size<c:=fun c H=>by
  rcases H with q|⟨y,q⟩
  ·subst q;exact ef Lt
  ·have:=(P y c q).1;exact ci Lt this
 have m6:∀c,go c→Y.W O c:=fun c H=>by
  rcases H with q|q|q|q
  ·exact .inl (.inl (R.tb c q))
  ·exact .inr (.inl q)
  ·exact .inl (.inr (.inr (.inl q)))
  ·exact .inl (.inr (.inr (.inr q)))
 have mP:∀c,go c→Y.V O st c:=fun c H=>by
  cases st with
  |true=>exact m6 c H
  |false=>
   rcases H with q|q|q|q
   ·exact .inl (.inl (R.tb c q))
   ·exact .inr q
   ·exact .inl (.inr (.inr (.inl q)))
   ·exact .inl (.inr (.inr (.inr q)))
 have cn:∀c,fp c→c<B.heap.objs.size∧¬Tb c:=fun c H=>⟨(mY c H).2,fun q=>(mY c H).1 (Fx.V_tb R mV c q)⟩;have mh:Hold (Y.W O) {B with heap:=c1}:=W.hold _ _ _ _ nk fun c o H Ns=>⟨T _ _ (j _ _ Ns),fun q=>by
  have ck:=Fm Ns;rcases q with(q|q|q|q)|q|q
  ·exact H (.inl (.inl q))
  ·exact H (.inl (.inr (.inl q)))
  ·exact H (.inr q)
  ·subst q;exact absurd ck (As _)
  ·have:=en c q;exact cu ck this
  ·exact H (.inl (.inr (.inr q)))⟩
 have m7:S 0 {B with heap:=c1}:=W.frame _ _ _ nj (fun c o u0 Ns=>T _ _ (j _ _ Ns)) (fun u0 u0 e=>e) ⟨ma.size,AK _⟩;have eq:129≤B.heap.objs.size:=AA R.base.low L
 let J:Nat→AO→Prop:=fun n s'=>∃i nn vs,n=xs.length-i∧i≤xs.length∧S i s'∧Cj Z.C Y O gs U s'∧Hold (Y.W O) s'∧s'.heap.get? B.heap.objs.size=some {cls:=.type "list",data:=.seq (BL vs) nn}∧
  DW (Y.V O st) s'.heap vs (((xs.take i).filter b).map f)∧Step Z.C go {B with heap:=c1} s'
 have mU:Kd (Ar Z.prog Z.w) A (.compLoop (.ListComp mE [⟨fs,b2,mF,0⟩] scope pos) 0 (.ref I) (.ref B.heap.objs.size) Y.env) (compPost (Ar Z.prog Z.w) A E use Q (.ref B.heap.objs.size) Sa.objs.size) {B with heap:=c1}:=by
  refine Qp J (fun n s' nt=>?_) xs.length (X3 0 0 [] ⟨rfl,BI _,m7,mz,mh,mx,(show DW (Y.V O st) c1 [] (((xs.take 0).filter b).map f) from by rw[dP];exact trivial),.refl _⟩);refine kh nt fun i nn vs hn m8 m9 nA mi nB lv yi=>?_;rcases Ix i xs.length with At|nC
  ·refine Bz (mW xs[i] (BY At)) fun mG c2 nu=>?_;refine ER (nu Y rfl) fun nD nE=>?_;have l0:xs.take (i+1)=xs.take i++ [xs[i]]:=by rw[dQ,AL At];rfl
   refine B1 (W.item fs i xs[i] A s' (Y.W O) (fun v mj=>Af (Ar Z.prog Z.w) A (DV fs Y.env v) (fun u0 s₂=>
     Af (Ar Z.prog Z.w) A (forIn mF true fun c r=>if r=true then do let ok ←isTrue c Y.env (D4 c Y.env);pure (Ek ok) else pure (Ek r)) (fun ok s₃=>
      if ok=true then Af (Ar Z.prog Z.w) A (D4 mE Y.env) (fun x co=>
       Af (Ar Z.prog Z.w) A (call (.builtin "list.append") [.ref B.heap.objs.size,x]) (fun u0 l=>∃m,m<n∧J m l) _ co) _ s₃
      else∃m,m<n∧J m s₃) _ s₂) _ mj) _ G nZ (AL At) m9 mi nA.base (fun c H=>.inl (.inr (.inr (.inl H)))) nA.lt fun v s₂ mM mk Gt=>?_)
    (fun r s₂ h=>by obtain⟨v,rfl,h⟩:=h;exact h) fun u0 u0 h=>h
   have mo:Cj Z.C Y O gs U s₂:=nA.stepY Gt fun c H=>.inr (.inr (.inl H));refine Bind.run' (F:=Y) c2 G.handled mo mM fun s₃ nK av=>?_;refine nD.run G nK fun co If=>?_;have er:Step Z.C go s' s₂:=Gt.mono fun c H=>.inr (.inr (.inl H));have nF:Step Z.C go s₂ s₃:=av.mono fun c H=>H.imp_right .inl;have zE:∀{sa sb:AO},D9 Z.C sa sb→Step Z.C go sa sb:=fun y=>y.mono fun c H=>.inl H;have bl:∀{sa sb:AO}{o:Obj}{X:AS},Step Z.C X sa sb→¬X B.heap.objs.size→sa.heap.get? B.heap.objs.size=some o→sb.heap.get? B.heap.objs.size=some o:=fun y nv e=>y.keep _ _ nv e;have l1:co.heap.get? B.heap.objs.size=some {cls:=.type "list",data:=.seq (BL vs) nn}:=
    bl If (Cg eq) (bl av (fun q=>q.elim (Cg eq) fun q=>As _ (en _ q)) (bl Gt (fun q=>As _ (df _ q)) nB))
   have mB:S (i+1) s₃:=W.frame _ _ _ mk (fun c o H Ns=>av.keep c o (fun q=>q.elim (cn c H).2 fun q=>by have:=en c q;have:=(cn c H).1;exact cu ‹_› this) Ns) av.gens ⟨av.size,av.toks⟩;have mp:∀{sa sb:AO},S (i+1) sa→D9 Z.C sa sb→S (i+1) sb:=fun h y=>W.frame _ _ _ h (fun c o H Ns=>y.keep c o (cn c H).2 Ns) y.gens ⟨y.size,y.toks⟩;have mQ:∀{sa sb:AO},Step Z.C go sa sb→Goes (Y.V O st) sa.heap (Y.V O st) sb.heap:=fun y c o H Ns=>⟨y.keep c o (fun q=>H (mP c q)) Ns,H⟩;have nG:∀{sa sb:AO},Step Z.C go sa sb→Goes (Y.W O) sa.heap (Y.W O) sb.heap:=fun y c o H Ns=>⟨y.keep c o (fun q=>H (m6 c q)) Ns,H⟩;have fe:Step Z.C go s' co:=(er.trans nF).trans (zE If);cases mq:b xs[i]with
   |false=>
    rw[if_neg dc];refine⟨xs.length-(i+1),af hn At,i+1,nn,vs,rfl,At,mp mB If,(nK.ext If).forget c2.keys.symm fun x sl hx=>(Is.own x sl hx).1,W.hold _ _ _ _ mi (nG fe),l1,?_,yi.trans fe⟩;rw[l0,Be,(by simp[mq]:[xs[i]].filter b=[]),Ao];exact lv.goes (mQ fe)
   |true=>
    rw[if_pos rfl];refine(nE mq).run A O co _ _ G (nK.ext If) fun u l m0 fn=>?_;have c3:=bl fn (Cg eq) l1;have mC:Step Z.C go s' l:=fe.trans (zE fn);have mR:=lv.goes (mQ mC);have nH:vs.length≤1000000:=by
     rw[lv.length,AH];exact AA (CR _ _) (AA (by rw[CC];exact FL _ _) nL)
    refine Ee Ez ⟨_,c3,rfl⟩ Iu (II _ _) (bS B.heap.objs.size vs.toArray nn u (by rw[Ab,Ay];exact O9 nH)) ⟨c3,?_⟩;refine Bz (Ep (C:=Z.C) c3 eq (fun x=>x.push u) (ws:=vs++ [u]) (by simp)) fun n' mr gd=>?_;have fr:Step Z.C go l {l with heap:=l.heap.update B.heap.objs.size (E9 fun x=>x.push u)}:=gd.mono fun c H=>H.imp_right fun q=>.inr (.inr q);refine⟨xs.length-(i+1),af hn At,i+1,n',vs++ [u],rfl,At,?_,?_,W.hold _ _ _ _ mi (nG (mC.trans fr)),mr,?_,yi.trans (mC.trans fr)⟩
    ·exact W.frame _ _ _ (mp (mp mB If) fn) (fun c o H Ns=>gd.keep c o (fun q=>q.elim (cn c H).2 fun q=>by have:=(cn c H).1;exact cf q this) Ns) gd.gens ⟨gd.size,gd.toks⟩
    ·refine Cj.forget (Cj.stepY ((nK.ext If).ext fn) gd fun c H=>H.imp_right fun q=>.inr (.inr q)) c2.keys.symm fun x sl hx=>(Is.own x sl hx).1
    ·rw[l0,Be,(by simp[mq]:[xs[i]].filter b=[xs[i]]),Ac];have mO:DW (Y.V O st) ({l with heap:=l.heap.update B.heap.objs.size (E9 fun x=>x.push u)}:AO).heap [u] ([xs[i]].map f):=⟨m0.goes (mQ fr),trivial⟩;exact(mR.goes (mQ fr)).append mO
  ·have nV:i=xs.length:=DL m8 nC;subst nV;rw[Os]at lv;refine W.done A s' _ _ G m9 nA.base fun s₂ Gt=>?_;obtain⟨nY,⟨nI,ms,_⟩,_⟩:=(nA.stepY Gt fun c H=>.inr (.inr (.inl H))).st;have er:Step Z.C go s' s₂:=Gt.mono fun c H=>.inr (.inr (.inl H));have e:D9 Z.C s s₂:=(x.trans ma).comp (yi.trans er) fun c H=>by
    rcases H with q|q|q|q
    ·exact .inl q
    ·exact .inr (by have:=en c q;exact AA L (Aa this))
    ·exact .inr (mI c q)
    ·exact .inr (by subst q;exact L)
   refine na B.heap.objs.size Sa.objs.size nn vs s₂ nI L (Lt▸A_ L) (iP Lt) (Gt.keep _ _ (fun q=>As _ (df _ q)) nB) (lv.goes fun c o H Ns=>⟨er.keep c o (fun q=>H (mP c q)) Ns,fun q=>H ?_⟩) e ms;rcases q with q|q|q
   ·cases st with
    |true=>
     rcases q with q|q|q
     ·exact .inl (.inl q)
     ·exact .inl (.inr (.inl q))
     ·exact .inr (.inr q)
    |false=>
     rcases q with q|q
     ·exact .inl (.inl q)
     ·exact .inl (.inr (.inl q))
   ·exact mP c (.inr (.inr (.inr q)))
   ·exact mP c (.inr (.inl (.inl q)))
 exact codeAny_compStart_list mU (W.self 0 A _ _ _ G m7 mU)
structure a1(Z:Zx)(k:Nat)(F:Fx)(ρ κ:Ci)(st:Bool)(elt tgt iter:Aj)(ifs:List Aj)(scope:Scope)(ys:List PV):Prop where
 ex:∃(xs:List PV)(b:PV→Bool)(f:PV→PV)(ρc κc:Ci)(st₀ nm:Bool),PI Z k F ρ κ st₀ nm iter xs∧Re nm tgt=true∧CS scope F.env ρ κ ρc κc∧
  (∀p∈xs,∃ρp,Bind tgt p ρc ρp∧∀F':Fx,F'.env.scope=GD scope F.env→au Z k F' ρp κc ifs (b p)∧(b p=true→PE Z k F' ρp κc st elt (f p)))∧xs.length≤1000000∧ys=(xs.filter b).map f
 hs:∀x,GE iter F.env x=pure x
theorem Pp(hs:Ia c s.heap h')(A:129≤c)(hn:s.heap.Ns c m):Step C (fun b=>b=c) s {s with heap:=h'}:=
 Step.write (t:=s.toks) hs A rfl (HK hn)
theorem a1.fresh(h:a1 Z k F ρ κ st L M I N scope ys)(A:Bl)(O:AS)(s:AO)(Q:Ad→AO→Prop)(E:Ad→AO→Prop)(G:Good k A)(R:Cj Z.C F O ρ κ s)
  (Y:∀(a n:Nat) vs B,s.heap.objs.size≤a→B.heap.get? a=some {cls:=.type "list",data:=.seq (BL vs) n}→DW (fun b=>F.V O st b∨b=a) B.heap vs ys→D9 Z.C s B→Q (.ref a) B):
  Af (Ar Z.prog Z.w) A (D4 (.ListComp L [⟨M,I,N,0⟩] scope pos) F.env) Q E s:=by
 obtain⟨⟨xs,b,f,d,e,P,nm,hi,g,i,H,S,rfl⟩,hs⟩:=h;rw[eval_ListComp];refine P0 hi g i H S hs A O s Q E G R fun D C n vs B m l X T U V x hn=>⟨m,hn,fun h' W=>?_⟩;have j:Step Z.C (fun b=>b=C) B {B with heap:=h'}:=Pp W (AA R.base.low X) hn;exact Y D n vs _ l (j.keep _ _ T U) (V.goes fun c o J U=>⟨j.keep c o (fun q=>J (.inr (.inr q))) U,fun q=>J (q.imp_right .inl)⟩) (x.comp j fun c J=>.inr (J▸X))
theorem PE.comp(h:a1 Z k F ρ κ st C D B H scope ys):PE Z k F ρ κ st (.ListComp C [⟨D,B,H,0⟩] scope pos) (.list ys):=.ofRun fun A O s Q E G R L=>
 h.fresh A O s Q E G R fun a n vs N M I J x=>L _ _ (VR.listOf (Qz R M) I (J.goes fun b o hb I=>⟨I,fun q=>hb (.inl q)⟩)) x
theorem P1.assignComp(own:Bool)(h:a1 Z k F ρ κ true T U I W scope ys)(av:Upd ρ x (if own then .own ys else .val (.list ys)) ρ')
  (w:Ju (.ListComp T [⟨U,I,W,0⟩] scope pos) (some (.Name x np)) d.line F.env=pure true):P1 Z k F ρ κ (.Assign [.Name x np] (.ListComp T [⟨U,I,W,0⟩] scope pos) d) .next ρ':=.ofRun fun A O s Q E G R b2=>by
 obtain⟨⟨xs,b,f,b3,b4,At,nm,hi,ck,cn,X,Gt,rfl⟩,hs⟩:=h;refine B8 R.st fun V bi=>?_;rw[exec_Assign_Name_used _ _ _ _ w];refine AJ (Et (AJ ?_));show Af _ A (do let _ ←comprehension (.ListComp T [⟨U,I,W,0⟩] scope pos) scope F.env _ (newList []) false (D4 I F.env) (some (DV (.Name x np) F.env))) _ _ s;refine AJ (B1 (P0 (use:=some (DV (.Name x np) F.env)) hi ck cn X Gt hs A O s (fun L M=>Q .next M) E G R fun D C n vs M m N g i Y l y hn=>?_) (fun L M co=>AX (AX co)) fun L L e=>e);show Af _ A (DV (.Name x np) F.env (.ref D)) _ _ _;have p:D<M.heap.objs.size:=Fm Y;have P:C<M.heap.objs.size:=by refine Q6 hn fun o es bl a _=>?_;exact Fm a
 refine ER (R.enterV (O':=fun b=>O b∨b=D) (wr:=fun b=>b=C) bi y (fun b hb=>hb▸g) (fun b hb=>hb▸P) (fun L h=>.inl h) (fun b (hb:O b∨b=D)=>hb.imp_right fun(q:b=D)=>⟨q▸N,q▸p⟩)) fun If t=>?_;have H:∀b,F.W O b→b<s.heap.objs.size:=R.lt;have go:∀c o,¬(F.V O true c∨c=D∨c=C)→M.heap.get? c=some o→M.heap.get? c=some o∧¬(F.loop fun b=>b=C).W (fun b=>O b∨b=D) c:=fun c o Is Y=>⟨Y,fun q=>Is (by
  rcases q with(q|q)|q|q|q
  ·exact .inl (.inl q)
  ·exact .inr (.inr q)
  ·exact .inl (.inr (.inl q))
  ·exact .inl (.inr (.inr q))
  ·exact .inr (.inl q))⟩
 have fin:∀(B:AO)(O':AS),Cj Z.C (F.loop fun b=>b=C) O' ρ' κ B→(∀b,O' b→O b∨b=D)→Step Z.C F.N M B→∃m,B.heap.Ns C m∧∀h',Ia C B.heap h'→Q .next {B with heap:=h'}:=fun B O' J Lt z=>by
  have S:B.heap.Ns C m:=by
   refine Q6 hn fun o es bl a r=>?_;exact X3 o es bl ⟨z.keep _ _ (fun q=>by have:=H C (.inr (.inl q));exact Qw g this) a,r⟩
  refine⟨m,S,fun h' Ns=>?_⟩;have j:Step Z.C (fun b=>b=C) B {B with heap:=h'}:=Pp Ns (AA R.base.low g) S;refine b2 .next _ O' rfl ((J.stepY j fun b hb=>.inr (.inr hb)).leave R.tb R.yU) (((Step.ofE y).trans (.ofN z)).comp j fun b hb=>.inr (hb▸g)) fun b hb=>(Lt b hb).imp_right fun(q:b=D)=>q▸N
 cases own with
 |true=>
  refine FA (Cj.putV (F:=F.loop fun b=>b=C) If av (fun L h=>h) (fun b hb=>⟨If.hi b (.inr hb),If.lt b (.inr (.inr hb))⟩) (X3 D n vs ⟨rfl,.inr rfl,fun q=>?_,fun q=>?_,Y,l.goes go⟩) t t.2.2.2.1 (fun z q hz q' L e=>?_) fun B J L z=>?_)
  ·rcases q with q|q
   ·have:=H D (.inl q);exact Qw N this
   ·exact absurd q i
  ·have:=H D (.inr (.inl q));exact Qw N this
  ·refine V8 (bi.2.2.2.1 z _ hz) fun c3 n' c1 c2 u _=>?_;cases e.symm.trans c2;have:=H D (.inr (.inr u));exact Qw N this
  ·refine Bz (fin B _ J (fun L h=>h) z) fun m' u Sa=>?_;exact⟨m',u,Sa⟩
 |false=>
  have v:Cj Z.C (F.loop fun b=>b=C) O ρ κ M:=R.enter y (fun b hb=>hb▸g) (fun b hb=>hb▸P);refine FA (Cj.putVal (F:=F.loop fun b=>b=C) v av ?_ fun B J z=>?_)
  ·refine VR.listOf (n:=n) (vs:=vs) (fun q=>?_) Y (l.goes fun c o Is Y=>⟨Y,fun q=>Is (by
    rcases q with(q|q)|q|q
    ·exact .inl (.inl q)
    ·exact .inr (.inr q)
    ·exact .inl (.inr (.inl q))
    ·exact .inl (.inr (.inr q)))⟩)
   rcases q with(q|q)|q|q
   ·have:=H D (.inl q);exact Qw N this
   ·exact absurd q i
   ·have:=H D (.inr (.inl q));exact Qw N this
   ·have:=H D (.inr (.inr q));exact Qw N this
  ·refine Bz (fin B _ J (fun L h=>.inl h) z) fun m' u Sa=>?_;exact⟨m',u,Sa⟩
end
noncomputable def SL(h:GY)(U:AS):Internal.Slot→Ad→Prop
 |.val p,v=>VR U h v p
 |.at u p,v=>v=u∧VR U h v p
 |_,_=>False
noncomputable def V'(h:GY)(U:AS):List (Ax×Ad)→Ci→Prop
 |[],[]=>True
 |(x,v)::r,(y,sl)::A=>x=y∧SL h U sl v∧V' h U r A
 |_,_=>False
theorem V'.at:∀{bs:List (Ax×Ad)}{ρ:Ci},V' h U bs ρ→∀x sl,(x,sl)∈ρ→∃v,(x,v)∈bs∧SL h U sl v
 |[],[],_,x,sl,hx=>by cases hx
 |(y,v)::r,(z,s)::D,⟨e,A,hr⟩,x,sl,hx=>by
  subst e;rcases AN.mp hx with e|hx
  ·cases e;exact⟨v,AB,A⟩
  ·refine Bz (hr.at x sl hx) fun u B C=>?_;exact⟨u,AG _ B,C⟩
 |[],_::_,h,_,_,_=>h.elim
 |_::_,[],h,_,_,_=>h.elim
theorem V'.keys:∀{bs:List (Ax×Ad)}{ρ:Ci},V' h U bs ρ→bs.map (·.1)=ρ.map (·.1)
 |[],[],_=>rfl
 |(y,v)::r,(z,s)::A,⟨e,B,hr⟩=>by rw[Ae,Ae,hr.keys,e]
 |[],_::_,h=>h.elim
 |_::_,[],h=>h.elim
theorem SL.goes(g:Goes U h W h')(x:SL h U sl v):SL h' W sl v:=by
 cases sl with
 |val p=>exact VR.goes g x
 | «at» u p=>exact⟨x.1,x.2.goes g⟩
 |_=>exact x.elim
theorem Of(kindOf:Ax→Option GX):∀(bs:List (Ax×Ad))(m:Ax→Option Ad)(x:Ax),(∀v,(x,v)∉bs)→bindL kindOf bs m x=m x
 |[],_,_,_=>rfl
 |(y,v)::r,m,x,h=>by
  unfold bindL;rw[Of kindOf r _ x fun v A=>h v (AG _ A)];split
  ·show(if x=y then some v else m x)=m x;rw[if_neg fun e=>by subst e;exact h v AB]
  ·rfl
theorem Og(kindOf:Ax→Option GX):∀(bs:List (Ax×Ad))(m:Ax→Option Ad)(x:Ax),(∀v,(x,v)∉bs)→bV kindOf bs m x=m x
 |[],_,_,_=>rfl
 |(y,v)::r,m,x,h=>by
  unfold bV;rw[Og kindOf r _ x fun v A=>h v (AG _ A)];split
  ·rfl
  ·show(if x=y then some v else m x)=m x;rw[if_neg fun e=>by subst e;exact h v AB]
theorem SD(kindOf:Ax→Option GX):∀(bs:List (Ax×Ad))(m C:Ax→Option Ad)(x:Ax)(v:Ad),(bs.map (·.1)).Nodup→(x,v)∈bs→
  (if kindOf x=some .local then bindL kindOf bs m x else bV kindOf bs C x)=some v
 |[],_,_,_,_,_,h=>by cases h
 |(y,u)::r,m,C,x,v,nd,h=>by
  rw[Ae,Fc]at nd;rcases AN.mp h with e|h
  ·refine ER (Kw e) fun D E=>?_;subst D E;have A:∀w,(x,w)∉r:=fun w F=>nd.1 (AU.mpr ⟨_,F,rfl⟩);by_cases B:kindOf x=some .local
   ·rw[if_pos B];unfold bindL;rw[if_pos B,Of kindOf r _ x A];show(if x=x then some v else m x)=some v;rw[if_pos rfl]
   ·rw[if_neg B];unfold bV;rw[if_neg B,Og kindOf r _ x A];show(if x=x then some v else C x)=some v;rw[if_pos rfl]
  ·unfold bindL bV;exact SD kindOf r _ _ x v nd.2 h
section
variable{Z:Zx}{k:Nat}
structure az(C:Cx)(a:Ch)(fd:Dc)(body:List D7):Prop where
 obj:∃o,C.objs.lookup a=some o∧o.data= .func fd
 body:fd.body= .stmts body
 clo:fd.closure=[]
 glob:fd.globals=GV
 blt:fd.builtins=J5
 code:∀h:GY,C.objs.In h→h.CodeRec fd.code fd.qualname
 co:fd.scope.isCoroutine=false
 kind:fd.scope.kind= .function
structure dC(F:Fx)(fd:Dc):Prop where
 scope:F.env.scope=fd.scope
 code:F.env.code=fd.code
 qual:F.env.qual=fd.qualname++".<locals>."
theorem Jq(G:Good (k+1) A)(B:DM Z.C s)(L:az Z.C a fd body)(g:fd.scope.isGenerator=false)
  (Lt:∀b,Tb b→U b) (Sa:∀b,U b→b<s.heap.objs.size) (O:Hh s fd args binds) (P:V' s.heap U binds bs) (i:∀x sl,(x,sl)∈us→sl= .unb) (Ns:∀x sl,(x,sl)∈bs++us→fd.scope.names.lookup x=some .local∨fd.scope.names.lookup x=some .cell)
  (Q:((bs++us).map (·.1)).Nodup) (r:((bs++us).all fun p=>Internal.nameOk p.1)=true)
  (S:∀(F:Fx)(M:AO),dC F fd→F.U=U→F.env.frame=some F.env.locals→(∀b,F.N b→s.heap.objs.size≤b)→Cj Z.C F (fun H=>False) (bs++us) [] M→D9 Z.C s M→Af (Ar Z.prog Z.w) (A.deeper F.env) (Io body F.env) (fun f T=>R (.ok (.ret (match f with|.ret v=>v|_=>.none))) T) (fun e T=>Af (Ar Z.prog Z.w) (A.deeper F.env) (leaving F.env e) (fun H s₃=>R (.error e) s₃) (fun av s₃=>R (.error av) s₃) T) M):
  Kd (Ar Z.prog Z.w) A (.call (.ref a) args) R s:=by
 refine Bz L.obj fun o n hd=>?_;refine codeAny_call_function G.room (B.objs _ _ n) hd L.co g L.body (L.code _ B.objs) (O _ _ _ _ ?_);rw[L.clo];have I:=P.keys;have t:∀x v,(x,v)∈binds→∃sl,(x,sl)∈bs:=fun x v hx=>by
  have:x∈bs.map (·.1):=I▸AU.mpr ⟨_,hx,rfl⟩;obtain⟨⟨y,sl⟩,C,e⟩:=AU.mp this;simp only at e;subst e;exact⟨sl,C⟩
 refine CG (wpAny_newFunctionEnv_cells L.kind (fun q bi=>?_) fun env N M x u=>⟨B.lim.keeps x.toInCall.keep,codeAny_func ?_⟩)
 ·refine B8 (t q.1 q.2 bi) fun sl At=>?_;rcases Ns q.1 sl (AC _ At) with h|h
  ·exact .inl h
  ·refine B8 (GA fd.scope.names (s.heap.objs.size+1) q.1 (mem_of_lookup h)) fun c d=>?_;exact .inr ⟨h,by rw[d];rfl⟩
 ·refine K7 x.done fun h' tk D W=>?_;have e:D9 Z.C s M:=by
   subst D;exact .keeps W u.1 u.2
  have X:env.scope=fd.scope:=by rw[N];rfl
  have Gt:env.cells=Ge (s.heap.objs.size+1) fd.scope.names []:=by rw[N];rfl
  have j:env.locals=s.heap.objs.size:=by rw[N];rfl
  let F:Fx:=⟨env,U,fun b=>b=env.locals∨∃y,env.cells.lookup y=some b,fun H=>False⟩
  have J:∀b,F.N b→s.heap.objs.size≤b:=fun b hb=>by
   rcases hb with q|⟨y,q⟩
   ·rw[q,j];exact AK _
   ·have:=x.above y b (mem_of_lookup q);rw[j]at this;exact Aa this
  have l:∀b,F.N b→b<M.heap.objs.size:=fun b hb=>by
   rcases hb with q|⟨y,q⟩
   ·subst q;refine Q6 x.toInCall.ns fun o _ _ h _=>?_;exact Fm h
   ·exact Qq (x.cell y b q)
  let V:Ax→Option Ad:=fun y=>if env.kindOf y=some .local then bindL env.kindOf binds (fun H=>none) y else bV env.kindOf binds (fun H=>none) y
  have E:∀y,env.kindOf y=fd.scope.names.lookup y:=fun y=>by rw[←X];rfl
  have go:Goes U s.heap (F.W fun H=>False) M.heap:=fun b o hb n=>⟨e.keep b o (fun q=>hb (Lt b q)) n,fun q=>q.elim hb fun q=>q.elim (fun q=>absurd (Fm n) (A0.mpr (J b q))) id⟩;have Y:∀y q,(y,Internal.Slot.own q)∉bs++us:=fun y q C=>by
   rcases AR.mp C with C|C
   ·refine Bz (P.at y _ C) fun v _ h=>?_;exact h
   ·have:=i y _ C;cases this
  have m:Cj Z.C F (fun H=>False) (bs++us) [] M:=by
   refine {base:=e.base B,kind:=by show env.scope.kind=_;rw[X];exact L.kind,glob:=by show env.globals=_;rw[N];exact L.glob,blt:=by show env.builtins=_;rw[N];exact L.blt,tb:=Lt,yU:=fun b hb=>hb.elim,nU:=fun b H hb=>hb,lt:=fun b hb=>?_,hi:=fun b hb=>?_,lN:=.inl rfl,cd:=fun u v c bl If=>name_of_addr x.apart (mem_of_lookup bl) (mem_of_lookup If),nd:=by rw[Ao];exact Q,ok:=by rw[Ao];exact r,st:=⟨V,⟨_,x.toInCall.ns,fun y C=>?_⟩,fun y sl C=>?_,fun y sl C=>(nomatch C),fun y sl C=>?_,fun y z p q b2 C H H H=>?_⟩}
   ·rcases hb with q|q|q
    ·exact AF (Sa b q) e.size
    ·exact l b q
    ·exact q.elim
   ·rcases hb with q|q
    ·exact AA B.low (J b q)
    ·exact q.elim
   ·show _=if env.kindOf y=some .local then _ else _
    rw[if_pos C]
   ·rcases Ns y sl C with h|h
    ·exact .inl ((E y).trans h)
    ·refine .inr ⟨(E y).trans h,?_⟩;refine B8 (GA fd.scope.names (s.heap.objs.size+1) y (mem_of_lookup h)) fun c d=>?_;rw[←Gt]at d;refine⟨c,d,.inr ⟨y,d⟩,?_⟩;have:V y=bV env.kindOf binds (fun H=>none) y:=by
      show(if env.kindOf y=some .local then _ else _)=_;rw[if_neg (by rw[E y,h];decide)]
     rw[this];exact x.cell y c d
   ·rw[Ao]at C;rcases AR.mp C with C|C
    ·refine Bz (P.at y sl C) fun v If hs=>?_;have Is:V y=some v:=SD env.kindOf binds (fun H=>none) (fun H=>none) y v (by
      rw[I];rw[Ac,Jb]at Q;exact Q.1) If
     rw[Is];have D:=hs.goes go;cases sl with
     |val p=>exact⟨v,rfl,D⟩
     | «at» w p=>exact⟨by rw[D.1],D.1▸D.2⟩
     |_=>exact D.elim
    ·rw[i y sl C];trivial
   ·rw[Ao]at C;exact absurd C (Y y p)
  exact S F M ⟨X,by show env.code=_;rw[N];rfl,by show env.qual=_;rw[N];rfl⟩ rfl (by show env.frame=some env.locals;rw[N];rfl) J m e
theorem M4(G:Good (k+1) A)(B:DM Z.C s)(S:az Z.C a fd body)(H:fd.scope.isGenerator=false)
  (T:∀b,Tb b→U b) (V:∀b,U b→b<s.heap.objs.size) (C:Hh s fd args binds) (L:V' s.heap U binds bs) (M:∀x sl,(x,sl)∈us→sl= .unb) (W:∀x sl,(x,sl)∈bs++us→fd.scope.names.lookup x=some .local∨fd.scope.names.lookup x=some .cell)
  (N:((bs++us).map (·.1)).Nodup) (O:((bs++us).all fun p=>Internal.nameOk p.1)=true)
  (D:∀(F:Fx)(I:AO)(Q:Bl),dC F fd→F.U=U→Good k Q→(∀b,F.N b→s.heap.objs.size≤b)→Cj Z.C F (fun X=>False) (bs++us) [] I→D9 Z.C s I→∀(E:Ad→AO→Prop),(Af (Ar Z.prog Z.w) Q (Io body F.env) (fun f P=>R (.ok (.ret (match f with|.ret v=>v|_=>.none))) P) E I)):
  Kd (Ar Z.prog Z.w) A (.call (.ref a) args) R s:=
 Jq G B S H T V C L M W N O fun F I Y c X d J e=>D F I _ Y c G.deeper d J e _
end
class inductive Mb(Z:Zx)(k:Nat)(F:Fx)(κ:Ci)(test:Aj)(body:List D7):Nat→Ci→Ci→Prop where
 |done {ρ:Ci} (h:PB Z k F ρ κ test false):Mb Z k F κ test body 0 ρ ρ
 |step {n:Nat} {ρ ρ₁ ρ':Ci} (h:PB Z k F ρ κ test true) (hb:PS Z k F ρ κ body .next ρ₁) (hr:Mb Z k F κ test body n ρ₁ ρ'):Mb Z k F κ test body (n+1) ρ ρ'
section
variable{Z:Zx}{k:Nat}{F:Fx}{ρ ρ' κ:Ci}
theorem P1.while(h:Mb Z k F κ B body n ρ ρ'):P1 Z k F ρ κ (.While B body [] pos) .next ρ':=.ofRun fun A O s Q E G R U=>by
 let J:Nat→AO→Prop:=fun n I=>∃C O',Mb Z k F κ B body n C ρ'∧Cj Z.C F O' C κ I∧(∀b,O' b→O b∨s.heap.objs.size≤b)∧Step Z.C (F.X O) s I
 have P:Good k (A.mark none):=⟨G.handled,G.depth,G.units⟩;refine wpAny_While (codeAny_whileLoop J (fun n I V=>?_) n (X2 ρ O ⟨h,R,fun Y h=>.inl h,.refl _⟩));refine dZ V fun C O' hl N D S=>?_;cases hl with
 |done h=>
  refine h.run _ O' I _ _ P N fun s₂ y=>?_;rw[if_neg dc];exact Sm (U .next s₂ O' rfl (N.ext y) (S.trans (.ofE y)) D)
 | @step n _ ρ₁ _ h hb hr=>
  refine h.run _ O' I _ _ P N fun s₂ y=>?_;rw[if_pos rfl];refine hb.run _ O' s₂ _ _ P (N.ext y) fun f s₃ L W M z H=>?_;have T:f= .next:=W;subst T;have X:Step Z.C (F.X O) s s₃:=(S.trans (.ofE y)).thenX z D;exact⟨n,Az _,ρ₁,L,hr,M,fun b hb=>(H b hb).elim (D b) fun q=>.inr (AA (S.trans (Step.ofE y)).size q),X⟩
theorem PS.freeze(hx:(x,.own xs)∈ρ)(M:Upd ρ x (.val (.list xs)) ρ₁)(h:PS Z k F ρ₁ κ l fl ρ'):PS Z k F ρ κ l fl ρ':=.ofRun fun A O s Q E G R r=>by
 refine B8 R.st fun V t=>?_;obtain⟨⟨m,hn,v⟩,At,Gt,d,g⟩:=t;refine V7 (d x _ (AC _ hx)) fun a n vs i If S T N U=>?_
 let C:AS:=fun b=>O b∧b≠a
 have sub:∀b,F.W C b→F.W O b:=fun b hb=>hb.imp_right fun q=>q.imp_right fun q=>q.1;have D:(ρ₁++κ).map (·.1)=(ρ++κ).map (·.1):=by rw[Ac,Ac,M.keys]
 have J:((ρ₁++κ).map (·.1)).Nodup:=D▸R.nd;have go:∀b o,¬F.W O b→s.heap.get? b=some o→s.heap.get? b=some o∧¬F.W C b:=fun b o hb Is=>⟨Is,fun q=>hb (sub b q)⟩;have old:∀y sl,(y,sl)∈ρ₁++κ→y≠x→(y,sl)∈ρ++κ:=fun y sl I W=>by
  rcases AR.mp I with q|q
  ·exact AC _ ((M.mem q).resolve_left fun w=>W w.1)
  ·exact Ak _ q
 refine h.run A C s Q E G {base:=R.base,kind:=R.kind,glob:=R.glob,blt:=R.blt,tb:=R.tb,yU:=R.yU,nU:=R.nU,lt:=fun b hb=>R.lt b (sub b hb),hi:=fun b hb=>R.hi b (hb.imp_right fun q=>q.1),lN:=R.lN,cd:=R.cd,nd:=J,ok:=?_,st:=⟨V,⟨m,hn,v⟩,fun y sl I=>?_,Gt,fun y sl I=>?_,fun y z p q b I hz Lt Ns=>?_⟩} fun f s' O' Sa av y X=>?_
 ·have P:=R.ok;rw[Al]at P⊢;intro p hp;have:p.1∈(ρ++κ).map (·.1):=D▸AU.mpr ⟨p,hp,rfl⟩;refine Bz (AU.mp this) fun q bi e=>?_;rw[←e];exact P q bi
 ·have:∃H,(y,H)∈ρ:=(M.mem I).elim (fun e=>⟨_,e.1▸hx⟩) fun q=>⟨_,q⟩;refine B8 this fun H Y=>?_;exact At y H Y
 ·by_cases B:y=x
  ·subst B;have:sl= .val (.list xs):=FR J I (AC _ M.new);subst this;exact⟨.ref a,i,VR.listOf (fun q=>q.elim S fun q=>q.elim T fun q=>q.2 rfl) N (U.goes go)⟩
  ·have:=d y sl (old y sl I B);cases sl with
   |unb=>trivial
   |val p=>refine Bz this fun u e bl=>?_;exact⟨u,e,bl.goes go⟩
   |own ys=>
    refine V7 this fun j n' c e q1 q2 q3 q4 q5=>?_;refine X3 j n' c ⟨e,⟨q1,fun q=>B ?_⟩,q2,q3,q4,q5.goes go⟩;subst q;exact g y x _ _ j (old y _ I B) (AC _ hx) e i
   |tk z=>exact this
   | «at» u p=>exact⟨this.1,this.2.goes go⟩
 ·by_cases B:y=x<;>by_cases L:z=x
  ·rw[B,L]
  ·subst B;have:=FR J I (AC _ M.new);cases this
  ·subst L;have:=FR J hz (AC _ M.new);cases this
  ·exact g y z p q b (old y _ I B) (old z _ hz L) Lt Ns
 ·exact r f s' O' Sa av (y.mono fun b hb=>hb.imp_right fun q=>q.imp_right fun q=>q.1) fun b hb=>(X b hb).imp_left fun q=>q.1
end
section
variable{Z:Zx}{k:Nat}{F:Fx}{ρ ρ' κ:Ci}{st:Bool}
structure PF(Z:Zx)(k:Nat)(F:Fx)(ρ κ:Ci)(st:Bool)(e:Aj)(xs:List PV):Prop where
 ofRun::
 run:
  ∀(A:Bl)(O:AS)(s:AO)(Q:Ad→AO→Prop)(E:Ad→AO→Prop),Good k A→Cj Z.C F O ρ κ s→
   (∀(a n:Nat) vs s',s.heap.objs.size≤a→s'.heap.get? a=some {cls:=.type "list",data:=.seq (BL vs) n}→DW (fun b=>F.V O st b∨b=a) s'.heap vs xs→D9 Z.C s s'→Q (.ref a) s')→Af (Ar Z.prog Z.w) A (D4 e F.env) Q E s
theorem PF.pe(h:PF Z k F ρ κ st e xs):PE Z k F ρ κ st e (.list xs):=.ofRun fun A O s Q E G R D=>
 h.run A O s Q E G R fun a n vs I H B C x=>D _ _ (VR.listOf (Qz R H) B (C.goes fun b o hb B=>⟨B,fun q=>hb (.inl q)⟩)) x
theorem PF.po(h:PF Z k F ρ κ true e xs):PO Z k F ρ κ e xs:=.mk fun A O s Q E G R B=>h.run A O s Q E G R B
theorem DW.flat:∀{vs:List Ad}{xs:List PV},DW W h vs xs→xs.all PV.flat=true→DW W' h' vs xs
 |[],[],_,_=>trivial
 |_::_,_::_,⟨a,b⟩,A=>by
  rw[Dk,A7]at A;exact⟨a.flat A.1,b.flat A.2⟩
 |[],_::_,h,_=>h.elim
 |_::_,[],h,_=>h.elim
theorem PF.up(h:PF Z k F ρ κ false e xs)(C:xs.all PV.flat=true):PF Z k F ρ κ st e xs:=.ofRun fun A O s Q E G R D=>
 h.run A O s Q E G R fun a n vs H I J B x=>D a n vs H I J (B.flat C) x
theorem DW.andNew{W:AS}{s:AO}{o:Obj}(A:DW W s.heap vs xs):DW (fun b=>W b∨b=s.heap.objs.size) (s.heap.push o) vs xs:=A.apart (fun b o e=>Am _ e) (AK _)
theorem PF.add(hl:PE Z k F ρ κ st l (.list xs))(hr:PE Z k F ρ κ st r (.list ys))(hz:xs.length+ys.length≤1000000):PF Z k F ρ κ st (.BinOp l .Add r pos) (xs++ys):=.ofRun fun A O s Q E G R J=>
 SP (hl.run A O s _ _ G R fun v C L x=>hr.run A O C _ _ G (R.ext x) fun u s₂ M y=>by
  refine IW ((L.ext (Fx.V_tb R st) y).list_inv) fun a n vs B S N D=>?_;subst B;refine IW M.list_inv fun b m us B hb I H=>?_;subst B;refine P.add_list N I ?_ (by rw[Ab,Ab,D.length,H.length,Ay];exact AA hz dc);have z:D9 Z.C s₂ {s₂ with heap:=s₂.heap.push {cls:=.type "list",data:=.seq (vs.toArray++us.toArray)}}:=.push (t:=s₂.toks);refine J _ 0 (vs++us) _ (AA x.size y.size) ?_ ((D.append H).andNew) ((x.trans y).trans z);rw[IR];exact A4 _ rfl)
theorem PE.addL(hl:PE Z k F ρ κ st l (.list xs))(hr:PE Z k F ρ κ st r (.list ys))(hz:xs.length+ys.length≤1000000):PE Z k F ρ κ st (.BinOp l .Add r pos) (.list (xs++ys)):=(PF.add hl hr hz).pe
noncomputable def Sy(xs:List PV)(n:Int):List PV:=(Aq n.toNat xs).flatten
theorem DW.flatten(B:DW W h vs xs):∀n:Nat,DW W h (Aq n vs).flatten (Aq n xs).flatten:=by
 intro A
 induction A with
 |zero=>
  exact trivial
 |succ n C=>
  rw[IN,IN,Bd,Bd];exact B.append (C)
theorem Qi(L:List (List Ad)):∀A:List Ad,List.foldl (fun B C=>B++C) A.toArray (L.map BL)=(A++L.flatten).toArray:=by
 induction L with
 |nil=>intro A;simp
 |cons x L D=>intro A;rw[Ae,PJ,IR,D,Bd,A8]
theorem PF.mul(hl:PE Z k F ρ κ st l (.list xs))(hr:PE Z k F ρ κ false r (.int n))(M:0≤n)(hn:n≤1000)(hz:xs.length≤1000):PF Z k F ρ κ st (.BinOp l .Mult r pos) (Sy xs n):=.ofRun fun A O s Q E G R P=>
 SP (hl.run A O s _ _ G R fun v D S x=>hr.run A O D _ _ G (R.ext x) fun u s₂ V y=>by
  refine IW ((S.ext (Fx.V_tb R st) y).list_inv) fun a m vs C d H I=>?_;subst C;refine B8 V.int_inv fun t C=>?_;subst C;have J:=I.length;have B:vs.length*n.toNat≤1000000:=by
   have W:vs.length≤1000:=J▸hz;have X:n.toNat≤1000:=lc M hn;exact AA (Lx W X) dc
  refine wpAny_binaryOp_repeat_ref (T:="list") (U:="int") dc ⟨_,H,rfl⟩ (fun Y=>typeIs_int Y n t) noFill_list_mul PySem.F.fills_int_mul SX repeat_list PySem.F.slot_int_index.lookup
   (Ee SX (typeIs_int s₂ n t) PySem.F.entry_int_rmul (PySem.F.args_int_rmul_2 _ _) (int___rmul___int_list n t a vs.toArray m)
    ⟨H,rfl,⟨_,H,rfl⟩,Ee PySem.F.slot_list_mul ⟨_,H,rfl⟩ PySem.F.entry_list_mul (PySem.F.args_list_mul_2 _ _)
     (AutoListH.list___mul___list_int_3 a vs.toArray m n t (by simp[M_];exact⟨Av dc M,Bc hn dc⟩) (by rw[Ab];exact A0.mpr (AA B dc)) (by rw[Ab];simp only[Nh,decide_eq_true_eq];rw[Ay];exact hN B)) ⟨H,?_⟩⟩)
  have z:∀o,D9 Z.C s₂ {s₂ with heap:=s₂.heap.push o}:=fun o=>.push (t:=s₂.toks);have L:List.foldl (fun b c=>b++c) #[] (Aq (if vs.toArray.isEmpty=true then 0 else n.toNat) vs.toArray)=(Aq n.toNat vs).flatten.toArray:=by
   by_cases N:vs=[]
   ·subst N;simp
   ·rw[if_neg (by simp[N])];have:=Qi (Aq n.toNat vs) [];simpa[List.map_replicate]using this
  rw[L];exact P _ 0 _ _ (AA x.size y.size) (A4 _ rfl) ((I.flatten n.toNat).andNew) ((x.trans y).trans (z _)))
theorem PE.mulS(hl:PE Z k F ρ κ false l (.str a))(hr:PE Z k F ρ κ false r (.int n))(C:MulOk a n):PE Z k F ρ κ st (.BinOp l .Mult r pos) (.str (Uj a n)):=
 .up (.bin2 hl hr fun A O s v u Q E G R D H I=>by
  refine B8 D.str_inv fun t B=>?_;subst B;refine B8 H.int_inv fun J B=>?_;subst B;exact CG (SB.mul C fun J k u=>I _ _ (.str ..) (.tok u.2)))
theorem PF.copy(L:F.env.kindOf x=some .globalImplicit)(M:Gl Z.C x (.type "list")) (h:PE Z k F ρ κ st e (.list xs)) (hz:xs.length≤1000000) (hs:autoParam (CW e=false) ar) (hd:autoParam ((x==("__debug__":Ax))=false) ad):
  PF Z k F ρ κ st (.Call (.Name x p) [e] [] pos) xs:=.ofRun fun A O s Q E G R N=>MZ R L M hd hs (h.run A O s _ _ G R fun v B P y=>by
 refine IW P.list_inv fun a n vs J U S D=>?_;subst J;refine CG (call_list_seq a (.inl rfl) S rfl rfl (fun h' T C H u=>?_) (by rw[Ab,D.length,Ay];exact O9 hz));have I:D9 Z.C B {B with heap:=h'}:=.keeps (t:=B.toks) C u.1;exact N _ T vs _ y.size H (D.apart C (AK _)) (y.trans I))
theorem Wz:∀(xs:List Int)(a:Int),(xs++ [a]).sum=xs.sum+a:=by
 intro A
 induction A with
 |nil=>
  intro a;simp
 |cons x xs B=>
  intro a;rw[Bg,Gd,Gd,B a];exact gV
theorem ZU(xs:List Int):∀n,n≤xs.length→preSum (fun i=>xs.getD i 0) n=(xs.take n).sum:=by
 intro A
 induction A with
 |zero=>
  intro _;rfl
 |succ n B=>
  intro h;have B:=B (Aa h);have h':n<xs.length:=c5 h;have e:xs.take (n+1)=xs.take n++ [xs[n]]:=by rw[dQ,AL h'];rfl
  have C:xs.getD n 0=xs[n]:=by rw[AE,AL h'];rfl
  rw[e,Wz,←B,←C];rfl
theorem Z2(h:IntsAre vs ns):∀(i:Nat)(v:Ad),vs[i]?=some v→∃t,v= .int (ns.getD i 0) t:=by
 induction h with
 |nil=>intro i v h;cases h
 |cons n u h B=>
  intro i v A;cases i with
  |zero=>simp at A;exact⟨u,A.symm⟩
  |succ i=>simpa using B i v (by simpa using A)
theorem Bk.sum{xs:List Int}(hz:xs.length≤1000000):Bk Z k (.builtin "sum") [.list (xs.map PV.int)] [] [] (.int xs.sum):=fun A W s vs O Q E G S hl B L T P=>by
 refine Bz L.one fun v C M=>?_;subst C;refine IW M.list_inv fun a n ws C U N H=>?_;subst C;have I:=Fm N;have D:=TI H;have J:ws.toArray.size=xs.length:=by rw[Ab,H.length,AH]
 refine CG (call_sum_walkG (P6 (Er N) (X7 s.heap.objs.size _ _ _ _ _ (fun i=>xs.getD i 0) ⟨rfl,Walks.list (show A.in1.handled=none from G.handled) s.heap.objs.size a (BX I) ws.toArray,⟨⟨_,A4 _ rfl,rfl,rfl⟩,Er (Am _ N)⟩,fun b hb=>?_,fun i v M=>?_,fun h' tk V R u=>?_⟩)))
 ·show(b:Nat)<(s.heap.push _).objs.size;rw[BG];rcases AN.mp hb with rfl|hb
  ·exact Az _
  ·rw[AI.mp hb];exact By I
 ·exact Z2 D i v (by simpa using M)
 ·rw[J,ZU xs _ (AK _),Os];refine P _ _ (.int ..) (.keeps (fun b o e=>R b o (fun q=>?_) (Am _ e)) u.1 u.2);rw[AI.mp q]at e;exact As _ (Fm e)
end
theorem QQ:∀(l:List Ad),LK l→LK (l++ [.int a t,.int b u,c]):=fun l h=>by
 fun_induction LK l with
 |case1=>exact trivial
 |case2 x t y u z rest A=>exact A h
 |case3=>exact h.elim
theorem TT{pos A:JE}:∀(l:List Ad),LK l→LJ A (l++ [IH pos.line,IH pos.col,c])=some v→LJ A l=some v∨v=c:=fun l h e=>by
 fun_induction LK l with
 |case1=>
  simp only[Br,LJ,IH]at e;split at e
  ·cases e;exact .inr rfl
  ·cases e
 |case2 x t y u z rest C=>
  simp only[Bg,LJ]at e⊢;split
  ·rename_i B;rw[if_pos B]at e;exact .inl e
  ·rename_i B;rw[if_neg B]at e;exact C h e
 |case3=>exact h.elim
theorem DM.tabs(B:DM C s)(k:∀b o,¬Tb b→s.heap.get? b=some o→A.heap.get? b=some o)(hz:s.heap.objs.size≤A.heap.objs.size)(hb:Kg A.gens)
  (t1:TabAt A.heap 117 115 "_law_basis.<locals>.<lambda>") (t2:TabAt A.heap 127 125 "law.<locals>.<lambda>"):DM C A where
 g:=by refine Q6 B.g fun o es D E r=>?_;exact X3 o es D ⟨k _ _ (by unfold Tb;decide) E,r⟩
 b:=by refine Q6 B.b fun o es D E r=>?_;exact X3 o es D ⟨k _ _ (by unfold Tb;decide) E,r⟩
 objs:=fun a o e=>k a o (B.old a o e).2 (B.objs a o e)
 old:=B.old
 lim:=by obtain⟨G,⟨o,es,D,E,r⟩,q⟩:=B.lim;exact⟨G,X3 o es D ⟨k _ _ (by unfold Tb;decide) E,r⟩,q⟩
 bm:=by refine ki B.bm fun bm o H I F J h5 L r=>?_;exact X2 bm o ⟨H,I,F,J,h5,k _ _ F L,r⟩
 t1:=t1
 t2:=t2
 low:=AA B.low hz
 bare:=hb
theorem TabAt.stays(T:TabAt h c P q)(I:¬Tb c)(O:∀o,h.get? P=some o→h'.get? P=some o)(k:∀b o,¬Tb b→h.get? b=some o→h'.get? b=some o):TabAt h' c P q:=by
 obtain⟨⟨o,vs,f,Q,fl,R,J,tx,S,U,r⟩,ps,L,V,C⟩:=T;refine⟨X9 o vs f Q fl R J tx S ⟨k c o I U,r⟩,ps,O _ L,V,fun pos v e=>?_⟩;obtain⟨M,rfl,hl,⟨N,A,B,D,E,F,G,H⟩⟩:=C pos v e;cases E;exact⟨M,rfl,hl,X4 M A B D ⟨rfl,k M A (Cg hl) F,G,H⟩⟩
section
variable{Z:Zx}{k:Nat}{F:Fx}{ρ ρ' κ:Ci}{st:Bool}
inductive TabOf:Ch→Ch→Ax→Prop where
 |basis:TabOf 117 115 "_law_basis.<locals>.<lambda>"
 |law:TabOf 127 125 "law.<locals>.<lambda>"
theorem TabOf.at(t:TabOf c P q)(B:DM C s):TabAt s.heap c P q:=by
 cases t with
 |basis=>exact B.t1
 |law=>exact B.t2
theorem TabOf.low(t:TabOf c P q):¬Tb c∧Tb P∧P≠GV∧(P:Nat)<129:=by
 cases t<;>(unfold Tb;decide)
theorem XV
  (t:TabOf c P qual) (B:DM C s) (n:env.globals=GV) (U:env.code= .ref c) (p:GW scope env=pure D)
  (h:∀(f I:Nat) G pm x,s.heap.objs.size≤f→(129≤I∧I<x.heap.objs.size)→x.heap.get? f=some (JZ "<lambda>" qual params body scope D pm I G)→x.heap.CodeRec (.ref I) qual→D9 C s x→Q (.ref f) x):
  Af (Ar prog w) A (makeFunction "<lambda>" qual params (.expr body) scope env [] [] [] pos i) Q E s:=by
 refine Ny t.low fun Lt y Ns Sa=>?_;obtain⟨av,ps,z,Is,Y⟩:=t.at B;obtain⟨bm,ob,c2,b2,b3,b4,c3,c4,df,em,en⟩:=B.bm;have bi:bm≠P:=fun q=>b3 (q▸y);have At:s.heap.BuiltinsAt C.mg P:=X2 bm ob ⟨c2,b4,c3,bi,c4,df,em,en⟩;cases bl:LJ pos ps.toList with
 |some eq=>
  refine K8 (Y pos eq bl) fun I ck hl V=>?_;subst ck;refine CG (kla_makeFunctionHit (mg:=C.mg) p n B.g U av z Is bl At fun G h' tk er cn u=>?_);have j:∀b o,s.heap.get? b=some o→(h'.push (JZ "<lambda>" qual params body scope D ((C.mg "__name__").getD .none) I G)).get? b=some o:=fun b o e=>Am _ (er b o e);have e:D9 C s {s with heap:=h'.push (JZ "<lambda>" qual params body scope D ((C.mg "__name__").getD .none) I G),toks:=tk}:=.keeps j u.1 u.2;refine fN V fun a J H M N L O R=>?_;cases N;refine h h'.objs.size I G _ _ cn ⟨hl,?_⟩ (A4 _ rfl) (X4 I J H M ⟨rfl,j _ _ L,O,R⟩) e;exact Fm (j _ _ L)
 |none=>
  refine CG (kla_makeFunction (mg:=C.mg) p n B.g U av z Is bl (Ne.symm Ns) At fun I G h' tk hx d Gt V co u=>?_);have l:∀b o,b≠P→s.heap.get? b=some o→(h'.push (JZ "<lambda>" qual params body scope D ((C.mg "__name__").getD .none) I G)).get? b=some o:=fun b o hb e=>Am _ (hx b o hb e);have S:∀b o,¬Tb b→s.heap.get? b=some o→(h'.push (JZ "<lambda>" qual params body scope D ((C.mg "__name__").getD .none) I G)).get? b=some o:=fun b o hb e=>l b o (fun q=>hb (q▸y)) e;have W:(h'.push (JZ "<lambda>" qual params body scope D ((C.mg "__name__").getD .none) I G)).CodeRec (.ref I) qual:=by
   refine fN V fun a J H M N L O R=>?_;cases N;exact X4 I J H M ⟨rfl,Am _ L,O,R⟩
  have g:129≤(I:Nat):=AA B.low d;have T:TabAt (h'.push (JZ "<lambda>" qual params body scope D ((C.mg "__name__").getD .none) I G)) c P qual:=by
   refine l3 av fun o vs f tf fl tg c1 tx tt fe r=>?_;refine⟨X9 o vs f tf fl tg c1 tx tt ⟨S c o Lt fe,r⟩,_,Am _ co,?_,fun If v e=>?_⟩
   ·rw[L3];exact QQ _ Is
   ·rw[L3]at e;rcases TT _ Is e with e|e
    ·obtain⟨X,rfl,hl,⟨a,J,H,M,N,L,O,R⟩⟩:=Y If v e;cases N;exact⟨X,rfl,hl,X4 X J H M ⟨rfl,S X J (Cg hl) L,O,R⟩⟩
    ·exact⟨I,e,g,W⟩
  have e:D9 C s {s with heap:=h'.push (JZ "<lambda>" qual params body scope D ((C.mg "__name__").getD .none) I G),toks:=tk}:={
   keep:=fun b o hb e=>S b o hb e
   size:=u.1
   gens:=fun u0 u0 e=>e
   os:=rfl
   toks:=u.2
   base:=fun m=>by
    cases t with
    |basis=>exact m.tabs (fun b o hb e=>S b o hb e) u.1 m.bare T (m.t2.stays (by unfold Tb;decide) (fun o e=>l 125 o dc e) fun b o hb e=>S b o hb e)
    |law=>exact m.tabs (fun b o hb e=>S b o hb e) u.1 m.bare (m.t1.stays (by unfold Tb;decide) (fun o e=>l 115 o dc e) fun b o hb e=>S b o hb e) T}
  exact h h'.objs.size I G _ _ (AA d (Aa Gt)) ⟨g,by show(I:Nat)<(h'.push _).objs.size;rw[BG];exact By Gt⟩ (A4 _ rfl) W e
end
noncomputable def JT(Z:Zx)(k:Nat)(kk:Nat)(cap:List Int)(ps:List PV)(res:PV):Prop:=
 ∀(A:Bl)(W:AS)(s:AO)(v:Ad)(vs:List Ad)(Q:Ad→AO→Prop)(E:Ad→AO→Prop),Good k A→(∀b,Tb b→W b)→(∀b,W b→b<s.heap.objs.size)→DM Z.C s→
  VR W s.heap v (.clo kk cap)→DW W s.heap vs ps→(∀u B,VR W B.heap u res→D9 Z.C s B→Q u B)→Af (Ar Z.prog Z.w) A (DC v vs) Q E s
noncomputable def Oa(kk:Nat)(cap:List Int):Ci:=match (Fy kk).var with
 |none=> []
 |some x=> [(x,.val (.list (cap.map PV.int)))]
section
variable{Z:Zx}{k:Nat}
theorem KY(hb:∀cl pm av d v,Ir (kla_fn "<lambda>" (Fy kk).qual (Fy kk).params (Fy kk).body (Fy kk).scope cl pm (.ref av) d) ⟨[v],[]⟩=pure [(x,v)])
  (hx:(Fy kk).scope.names.lookup x=some .local) (f:∀y,(Fy kk).var=some y→(Fy kk).scope.names.lookup y=some .free∧y≠x∧Internal.nameOk y=true) (bi:Internal.nameOk x=true)
  (bl:(Fy kk).scope.isCoroutine=false) (g:(Fy kk).scope.isGenerator=false) (J:(Fy kk).scope.kind= .function) (R:∀y∈(Fy kk).scope.names,y.2≠ .cell)
  (S:∀F:Fx,F.env.scope=(Fy kk).scope→PE Z k F [(x,.val p)] (Oa kk cap) false (Fy kk).body res):JT Z (k+1) kk cap [p] res:=fun A W s v vs Q E G fe hl B b2 b3 fn=>by
 refine Bz b3.one fun u T fr=>?_;subst T;cases b2 with
 | @clo a _ _ ln fs=>
 refine fN fs fun cl pm av d Y gd m I=>?_;refine IF (kla_callFunE G.room Y rfl bl g rfl m ?_);rw[hb];refine AX (CG (bP R (fun y C=>by cases AI.mp C;exact hx) (fun h' r w up=>⟨B.lim.fresh _ w,kla_codeExpr ?_⟩) J));have D:∀b o,s.heap.get? b=some o→h'.get? b=some o:=fun b o e=>(w.2 b (BX (Fm e))).trans (Am _ e);have e:D9 Z.C s {s with heap:=h',toks:=s.toks+ [(x,u)].length}:=.keeps D up.1 up.2
 let env:Ti:=newEnv (Fy kk).scope s.heap.objs.size GV cl ((Fy kk).qual++".<locals>.") (some a) (.ref av) none J5
 let F:Fx:=⟨env,W,fun b=>b=s.heap.objs.size,fun O=>False⟩
 have P:s.heap.objs.size<h'.objs.size:=by refine Q6 r fun o _ _ h _=>?_;exact Fm h
 have go:Goes W s.heap (F.W fun O=>False) h':=fun b o hb Y=>⟨D b o Y,fun q=>q.elim hb fun q=>q.elim (fun q=>by have:=Fm Y;have q':b=s.heap.objs.size:=q;exact cf q this) id⟩;have At:∃V:Ax→Option Ad,V x=some u∧(∀y sl,(y,sl)∈Oa kk cap→y≠x∧F.env.kindOf y=some .free∧(∃c:Nat,cl.lookup y=some c∧129≤c∧h'.IsCell c (V y))∧DX {s with heap:=h',toks:=s.toks+ [(x,u)].length} F (fun O=>False) sl (V y)∧Internal.nameOk y=true∧∃p,sl= .val p)∧
   ((Oa kk cap).map (·.1)).Nodup∧(∀y z c,cl.lookup y=some c→cl.lookup z=some c→y=z)∧(∀y,y≠x→F.env.kindOf y=some .local→V y=none):=by
  unfold Oa P4 at*;cases U:(Fy kk).var with
  |none=>
   rw[U]at I;refine⟨fun z=>if z=x then some u else none,by simp,fun y sl C=>(nomatch C),dR,fun y z c C=>?_,fun y C O=>by simp[C]⟩;rw[I.1]at C;cases C
  |some y=>
   rw[U]at I;obtain⟨c,l,rfl,gs,X,N,b4,ws,n,Gt,If,ck⟩:=I;refine Nc (f y U) fun L H cn=>?_;refine⟨fun z=>if z=x then some u else if z=y then some (.ref l) else none,by simp,fun z sl hz=>?_,by exact dc,fun y' z' em Is Lt=>?_,fun z hz co=>?_⟩
   ·cases AI.mp hz;refine⟨H,L,⟨c,by simp[C4],X,?_⟩,⟨.ref l,by simp[H],?_⟩,cn,_,rfl⟩
    ·simp only[H,if_false,if_true];exact N.keeps D
    ·refine VR.list (fun q=>(go l _ b4 Gt).2 q) (D _ _ Gt) (by rw[If,AH]) fun i v q b2 en=>?_;refine K7 (ck i v b2) fun t j hr T=>?_;subst T;rw[BD,hr]at en;cases en;exact .int ..
   ·rw[C4]at Is Lt;cases eq:y'==y with
    |true=>cases er:z'==y with
     |true=>rw[beq_iff_eq.mp eq,beq_iff_eq.mp er]
     |false=>rw[er]at Lt;cases Lt
    |false=>rw[eq]at Is;cases Is
   ·have c1:z≠y:=fun q=>by
     subst q;have:F.env.kindOf z=some .free:=L;cases this.symm.trans co
    simp[hz,c1]
 refine fO At fun V Ns M c2 c3 c4=>?_;have Sa:Cj Z.C F (fun O=>False) [(x,.val p)] (Oa kk cap) {s with heap:=h',toks:=s.toks+ [(x,u)].length}:=by
  refine {base:=e.base B,kind:=J,glob:=rfl,blt:=rfl,tb:=fe,yU:=fun b hb=>hb.elim,nU:=fun b O hb=>hb,lt:=fun b hb=>?_,hi:=fun b hb=>?_,lN:=rfl,cd:=c3,nd:=?_,ok:=?_,st:=⟨V,⟨_,r,fun y C=>?_⟩,fun y sl C=>?_,fun y sl C=>?_,fun y sl C=>?_,fun y z p q lv C O O O=>?_⟩}
  ·rcases hb with q|q|q
   ·exact B7 (hl b q) P
   ·rw[(q:b=s.heap.objs.size)];exact P
   ·exact q.elim
  ·rcases hb with q|q
   ·rw[(q:b=s.heap.objs.size)];exact B.low
   ·exact q.elim
  ·rw[Ur,Ae,Fc];refine⟨fun hs=>?_,c2⟩;obtain⟨⟨y,sl⟩,C,il⟩:=AU.mp hs;exact(M y sl C).1 il
  ·rw[Ur,Dk,bi,Hm,Al];rintro⟨y,sl⟩ C;exact(M y sl C).2.2.2.2.1
  ·show[(x,u)].reverse.lookup y=V y;by_cases H:y=x
   ·subst H;rw[Ns];simp
   ·rw[c4 y H C];simp[C4,beq_eq_false_iff_ne.mpr H]
  ·cases AI.mp C;exact .inl hx
  ·obtain⟨_,Is,⟨c,Lt,ir,kw⟩,_⟩:=M y sl C;exact⟨.inr Is,c,Lt,⟨ir,fun q=>q⟩,kw⟩
  ·rcases AR.mp C with C|C
   ·cases AI.mp C;exact⟨u,Ns,fr.goes go⟩
   ·exact(M y sl C).2.2.2.1
  ·rcases AR.mp C with C|C
   ·cases AI.mp C
   ·obtain⟨_,_,_,_,_,_,h⟩:=M y _ C;cases h
 refine((S F) rfl).run _ _ _ _ _ G.deeper Sa fun v' s' df y=>fn v' s' (df.goes fun b o hb Y=>⟨Y,fun q=>hb (.inl q)⟩) (e.trans y)
end
noncomputable def Fz(xs:List Int)(i:Nat)(x:Int):List Int:=xs.take i++x::xs.drop i
noncomputable def Jt(Z:Zx)(k:Nat)(f:Ad)(xs:List Int)(ps:List PV)(F:List Ax)(ks:List PV)(xs':List Int):Prop:=
 ∀(A:Bl)(W:AS)(s:AO)(a n:Nat)(ws vs B:List Ad)(Q:Ad→AO→Prop)(E:Ad→AO→Prop),Good k A→(∀b,Tb b→W b)→(∀b,W b→b<s.heap.objs.size)→DM Z.C s→W a→129≤a→
  s.heap.get? a=some {cls:=.type "list",data:=.seq (BL ws) n}→DW W s.heap ws (xs.map PV.int)→DW W s.heap vs ps→DW W s.heap B ks→
  (∀D G C,Step Z.C (fun b=>Tb b∨b=a) s D→D.heap.get? a=some {cls:=.type "list",data:=.seq (BL C) G}→(∀W h,DW W h C (xs'.map PV.int))→Q .none D)→Af (Ar Z.prog Z.w) A (DC f (.ref a::vs) (F.zip B)) Q E s
theorem Pr(xs:List Int):(xs.map PV.int).all PV.flat=true:=by
 rw[Al];intro p hp;refine Bz (AU.mp hp) fun i _ A=>?_;subst A;rfl
section
variable{Z:Zx}{k:Nat}{F:Fx}{ρ ρ' κ:Ci}
theorem Xq(bi:(V,.at (.ref a) (.list (xs.map PV.int)))∈ρ)(X:(xl,.val (.int i))∈ρ)(hx:(U,.val (.int x))∈ρ)(Y:0≤i)(hi:i≤xs.length)(hz:xs.length≤1000000)
  (c:∃pl:Ku Bool,D4 (.Call (.Attribute (.Name V np) "insert" L) [.Name xl d,.Name U g] [] pos) F.env=(do
   let ov ←D4 (.Name V np) F.env
   Hf L.atName
   let (f,first)←D3 [ov] (F3 ov "insert" pl)
   Iq pos f first (DO pos (B_ [.Name xl d,.Name U g] F.env)) []))
  (G:Good k A) (R:Cj Z.C F O ρ [] s) (M:129≤a)
  (bl:∀m o P,Step Z.C (fun b=>Tb b∨b=a) s m→m.heap.get? a=some {cls:=.type "list",data:=.seq (BL P) o}→(∀W h,DW W h P ((Fz xs i.toNat x).map PV.int))→Q .next m):
  Af (Ar Z.prog Z.w) A (bT (.Expr (.Call (.Attribute (.Name V np) "insert" L) [.Name xl d,.Name U g] [] pos) Lt) F.env) Q E s:=by
 obtain⟨pl,c⟩:=c;have q:B5 F.env=false:=by unfold B5;rw[R.kind];rfl
 have I:=AC (bs:=([]:Ci)) bi;refine J4 (HS (pl:=pl) (Ed (R.load I (FE (R.nameOk I)) (by intro h;cases h) fun v H=>?_) (DF (R.nameOk I))) c) q rfl;obtain⟨e,H⟩:=H;cases e;have r:=H;cases r with
 | @list _ n B _ ck t hl u=>
 refine Kf GI QD (Er t) ⟨_,t,rfl⟩ ?_;have w:JY Z k F ρ [] true [.Name xl d,.Name U g] [.int i,.int x]:=.cons (.name (AC _ X)) (.cons (.name (AC _ hx)) .nil);refine DG (C:=Z.C) (.builtin _) rfl (w.run A O s pos _ _ G R fun vs s₂ z y=>⟨(R.ext y).base,?_⟩);have D:s₂.heap.get? a=some {cls:=.type "list",data:=.seq (BL B.toList) n}:=by simpa using y.keep _ _ (Cg M) t
 have N:DW (F.W O) s₂.heap B.toList (xs.map PV.int):=DW.ext (C:=Z.C) (DW.of_at (by simpa using hl) fun i v p H hp=>u i v p (by simpa using H) hp) (fun b hb=>.inl (R.tb b hb)) y;obtain⟨id,Ns,b2,cn⟩:=Fb.insert (Z:=Z) (k:=k) (xs:=xs.map PV.int) (p:=.int x) Y (by simpa using hi) (by simpa using hz);obtain⟨v1,v2,rfl,At,Gt⟩:=z.two;obtain⟨t1,rfl⟩:=At.int_inv;obtain⟨t2,rfl⟩:=Gt.int_inv;refine Ee GI ⟨_,D,rfl⟩ PG (Oy _ _ _) (LM a _ n i t1 (.int x t2) ?_ (by rw[Ab,N.length,AH,Ay];exact O9 hz)) ⟨D,?_⟩
 ·rw[P8 Y (Bc hi (Bc (A3.mpr hz) dc))];decide
 ·have J:B.toList.length=xs.length:=by rw[N.length,AH]
  obtain⟨o,If,Is⟩:=Ep (C:=Z.C) D M (fun xs=>have k:=if i<0 then(i+(xs.size:Int)).toNat else Uq i.toNat xs.size;(xs.extract 0 k).push (.int x t2)++xs.extract k) (ws:=B.toList.take i.toNat++ .int x t2::B.toList.drop i.toNat) (by
   have b3:¬i<0:=dX Y;have b4:Uq i.toNat B.toList.length=i.toNat:=hA hi hz J;simp only[b3,b4,if_false,Ab,WL,ZI,IR,RE,G6,Kx];rw[DN (l:=Lz i.toNat B.toList) (by rw[Ca];exact AK _)];simp)
  refine bl _ o _ ((y.mono fun b hb=>.inl hb).trans Is) If fun W h=>?_;have Sa:=N.flat (W':=W) (h':=h) (Pr xs);have S:DW W h (B.toList.take i.toNat) ((xs.take i.toNat).map PV.int):=DW.of_at (by simp[J]) fun j v p H hp=>by
   rw[Ff]at hp;by_cases av:j<i.toNat
   ·rw[E8 av]at H hp;exact Sa.at j v p H hp
   ·rw[K_ (by rw[CC];exact AA (IL _ _) (Eh av))]at H;cases H
  have T:DW W h (B.toList.drop i.toNat) ((xs.drop i.toNat).map PV.int):=DW.of_at (by simp[J]) fun j v p H hp=>by
   rw[Hk]at hp;rw[EC]at H hp;exact Sa.at _ v p H hp
  unfold Fz;rw[Ac,Ae];exact S.append ⟨.int ..,T⟩
theorem Jt.fn(bi:az Z.C N fd body)(O:fd.scope.isGenerator=false)
  (J:body=[P,.Expr (.Call (.Attribute (.Name C np) "insert" H) [.Name xl Lt,.Name d vp] [] pos) Ns])
  (L:∀(U:AS)(s:AO)(a:Nat) vs D,DM Z.C s→VR U s.heap (.ref a) (.list (xs.map PV.int))→DW U s.heap vs ps→DW U s.heap D ks→∃binds,Hh s fd ⟨.ref a::vs,bl.zip D⟩ binds∧V' s.heap U binds ((C,.at (.ref a) (.list (xs.map PV.int)))::bs))
  (g:∀y sl,(y,sl)∈us→sl= .unb) (b2:∀y,y=C∨(∃sl,(y,sl)∈bs++us)→fd.scope.names.lookup y=some .local∨fd.scope.names.lookup y=some .cell)
  (h:((C::(bs++us).map (·.1))).Nodup) (S:Internal.nameOk C=true∧((bs++us).all fun p=>Internal.nameOk p.1)=true)
  (b3:∀(F:Fx)(a:Nat),dC F fd→P1 Z k F ((C,.at (.ref a) (.list (xs.map PV.int)))::(bs++us)) [] P .next ((C,.at (.ref a) (.list (xs.map PV.int)))::ρ'))
  (j:(xl,.val (.int i))∈ρ') (hx:(d,.val (.int x))∈ρ') (b4:0≤i) (hi:i≤xs.length) (hz:xs.length≤1000000)
  (ck:∀env:Ti,∃pl:Ku Bool,D4 (.Call (.Attribute (.Name C np) "insert" H) [.Name xl Lt,.Name d vp] [] pos) env=(do
   let ov ←D4 (.Name C np) env
   Hf H.atName
   let (f,first)←D3 [ov] (F3 ov "insert" pl)
   Iq pos f first (DO pos (B_ [.Name xl Lt,.Name d vp] env)) [])):Jt Z (k+1) (.ref N) xs ps bl ks (Fz xs i.toNat x):=fun A W s a n ws vs D Q E G cn hl B co I l m r T c1=>by
 let U:AS:=fun b=>W b∧b≠a
 have sub:∀b,U b→W b:=fun b hb=>hb.1;have go:Goes W s.heap U s.heap:=fun b o hb l=>⟨l,fun q=>hb q.1⟩;have t:∀b,Tb b→U b:=fun b hb=>⟨cn b hb,fun q=>Cg I (q▸hb)⟩;refine Bz (L U s a vs D B (VR.listOf (fun q=>q.2 rfl) l (m.goes go)) (r.goes go) (T.goes go)) fun binds M u=>?_;refine IF (M4 (U:=U) (bs:=(C,.at (.ref a) (.list (xs.map PV.int)))::bs) (us:=us) G B bi O t (fun b hb=>hl b hb.1) M u g (fun y sl c2=>b2 y ?_) (by simpa using h) (by simpa[S.1]using S.2) fun F s' c3 v c4 Sa V R e df=>?_)
 ·rcases AN.mp c2 with q|q
  ·exact .inl (Kw q).1
  ·exact .inr ⟨sl,q⟩
 ·subst J;refine C9 ((b3 F a v).run c3 _ s' _ _ Sa R fun f s₂ av w X y At=>?_);have Y:f= .next:=w;subst Y;refine C9 (Xq (AB) (AG _ j) (AG _ hx) b4 hi hz (ck F.env) Sa X I fun s₃ n' Gt z If c=>?_);refine Sm ?_;have Is:Step Z.C (fun b=>Tb b∨b=a) s s₃:=((e.mono fun b hb=>.inl hb).comp y fun b hb=>hb.elim (fun q=>.inl (.inl q)) fun q=>q.elim (fun q=>.inr (V b q)) fun q=>q.elim).trans z;exact c1 s₃ n' Gt Is If c
end
noncomputable def Dq(Z:Zx)(k:Nat)(F:Fx)(ρ κ:Ci)(A:List D7)(fl:Fl):Prop:=∃ρ',PS Z k F ρ κ A fl ρ'
theorem Dq.cons(h:P1 Z k F ρ κ t .next ρ₁)(hs:Dq Z k F ρ₁ κ A fl):Dq Z k F ρ κ (t::A) fl:=by refine B8 hs fun ρ' h'=>?_;exact⟨ρ',.cons h h'⟩
theorem Dq.stop(h:P1 Z k F ρ κ t fl ρ')(hn:fl≠ .next:=by intro h;cases h):Dq Z k F ρ κ (t::A) fl:=⟨ρ',.stop h hn⟩
theorem Dq.freeze(hx:(x,.own xs)∈ρ)(A:Upd ρ x (.val (.list xs)) ρ₁)(h:Dq Z k F ρ₁ κ B fl):Dq Z k F ρ κ B fl:=by refine B8 h fun ρ' h'=>?_;exact⟨ρ',.freeze hx A h'⟩
theorem Dq.consX(h:∃ρ₁,P1 Z k F ρ κ t .next ρ₁∧Dq Z k F ρ₁ κ A fl):Dq Z k F ρ κ (t::A) fl:=by refine Bz h fun _ B C=>?_;exact .cons B C
theorem P1.ifWhileT{Z:Zx}{k:Nat}{F:Fx}{ρ κ:Ci}{t A:Aj}{body o:List D7}{B pos:JE}{R:Ci→Prop}(h:PB Z k F ρ κ t true)(C:∃j ρ₁,Mb Z k F κ A body j ρ ρ₁∧R ρ₁):∃ρ₁,P1 Z k F ρ κ (.If t [.While A body [] B] o pos) .next ρ₁∧R ρ₁:=
 by refine K7 C fun _ ρ₁ w r=>?_;exact⟨ρ₁,.ifT h (.one (.while w)),r⟩
theorem P1.ifWhileF{Z:Zx}{k:Nat}{F:Fx}{ρ κ:Ci}{t A:Aj}{body o:List D7}{B pos:JE}{R:Ci→Prop}(h:PB Z k F ρ κ t false)(C:∃j ρ₁,Mb Z k F κ A body j ρ ρ₁∧R ρ₁):∃ρ₁,P1 Z k F ρ κ (.If t o [.While A body [] B] pos) .next ρ₁∧R ρ₁:=
 by refine K7 C fun _ ρ₁ w r=>?_;exact⟨ρ₁,.ifF h (.one (.while w)),r⟩
noncomputable def NO(c:Int→Bool):Nat→Int→Int→Int
 |0,lo,_=>lo
 |n+1,lo,hi=>if lo<hi then(if c ((lo+hi).fdiv 2) then NO c n ((lo+hi).fdiv 2+1) hi else NO c n lo ((lo+hi).fdiv 2)) else lo
theorem NO.c2(c:Int→Bool){n lo hi}:NO c (n+1) lo hi=if lo<hi then(if c ((lo+hi).fdiv 2) then NO c n ((lo+hi).fdiv 2+1) hi else NO c n lo ((lo+hi).fdiv 2)) else lo:=rfl
section
variable{Z:Zx}{k:Nat}{F:Fx}
theorem TS{G:Aj}{body:List D7}{κ:Ci}{r:Int→Int→Slot→Ci}{c:Int→Bool}{L:Int}(H:∀lo hi A,PB Z k F (r lo hi A) κ G (decide (lo<hi)))
  (M:∀lo hi A m,m=(lo+hi).fdiv 2→0≤lo→lo<hi→hi≤L→0≤m→m<hi→lo≤m→PS Z k F (r lo hi A) κ body .next (if c m then r (m+1) hi (.val (.int m)) else r lo m (.val (.int m)))):
  ∀(n:Nat)(lo hi:Int)(A:Slot),0≤lo→hi≤L→hi-lo<n→∃j E C,Mb Z k F κ G body j (r lo hi A) (r (NO c n lo hi) E C)
 |0,lo,hi,A,I,J,hn=>by
  have h:=H lo hi A;rw[decide_eq_false (fun h=>absurd hn (Cp.mpr (Hz (Da h))))]at h;exact X3 0 hi A (.done h)
 |n+1,lo,hi,A,I,J,hn=>by
  rw[NO.c2];by_cases B:lo<hi
  ·rw[if_pos B];have h:=H lo hi A;rw[decide_eq_true B]at h;generalize N:(lo+hi).fdiv 2=m;have D:m=(lo+hi)/2:=by rw[←N,F9 _ (eV)]
   have b:=M lo hi A m N.symm I B J (lf I B D) (lW B D) (D▸fI (Da B));cases O:c m with
   |true=>
    rw[O]at b;refine WQ (TS H M n (m+1) hi (.val (.int m)) (Av (Av I (D▸fC (Da B))) (F7 dc)) J (lp hn D)) fun j E C w=>?_;exact X3 (j+1) E C (.step h b w)
   |false=>
    rw[O]at b;refine WQ (TS H M n lo m (.val (.int m)) I (Av (D▸Da (fB B)) J) (CP (Wc (D▸fB B) _) (H1 hn))) fun j E C w=>?_;exact X3 (j+1) E C (.step h b w)
  ·rw[if_neg B];have h:=H lo hi A;rw[decide_eq_false B]at h;exact X3 0 hi A (.done h)
theorem UZ{C:Aj}{body:List D7}{κ:Ci}{r:Int→Int→Slot→Ci}{c:Int→Bool}{L:Int}{n:Nat}{lo hi:Int}{A:Slot}{R:Ci→Prop}(E:0≤lo)(G:hi≤L)(hn:hi-lo<n)(H:∀D B,R (r (NO c n lo hi) D B))(I:∀lo hi A,PB Z k F (r lo hi A) κ C (decide (lo<hi)))
  (J:∀lo hi A m,m=(lo+hi).fdiv 2→0≤lo→lo<hi→hi≤L→0≤m→m<hi→lo≤m→PS Z k F (r lo hi A) κ body .next (if c m then r (m+1) hi (.val (.int m)) else r lo m (.val (.int m)))):∃j ρ₁,Mb Z k F κ C body j (r lo hi A) ρ₁∧R ρ₁:=
 let ⟨j,D,B,w⟩:=TS I J n lo hi A E G hn
 X2 j _ ⟨w,H D B⟩
theorem Ht{xs:List Int}{m:Int}(A:0≤m)(B:m<xs.length):Db m (xs.map PV.int).length=some m.toNat∧(xs.map PV.int)[m.toNat]?=some (.int (xs.getD m.toNat 0)):=by
 have h:m.toNat<xs.length:=lg A B;refine⟨by rw[AH];exact C' A B,?_⟩;rw[BD,AL h,AE,AL h];rfl
noncomputable def Hs(xs:List Int)(x lo:Int)(hi key:PV)(A:Slot):Ci:=[("a",.val (.list (xs.map PV.int))),("x",.val (.int x)),("lo",.val (.int lo)),("hi",.val hi),("key",.val key),("mid",A)]
theorem UV(xs:List Int)(x lo hi:Int)(D:0≤lo)(I:hi≤xs.length)(hz:xs.length≤1000000)(n:Nat)(hn:hi-lo<n)(E:PV)(B:P1 Z k F (Hs xs x lo E .none .unb) [] (FQ 1 (Ba (Au 4))) .next (Hs xs x lo (.int hi) .none .unb)):
  Dq Z k F (Hs xs x lo E .none .unb) [] (Ba (Au 4)) (.ret (.int (NO (fun m=>decide (xs.getD m.toNat 0<x)) n lo hi))):=by
 conv=>arg 6;whnf
 unfold Hs at*;refine Dq.cons (P1.ifF (PB.of (PB.cmp (PE.name (p:=.int lo) (AD 2 rfl)) PE.cint C5.ltI) (decide_eq_false (dX D))) PS.nil) ?_;refine Dq.cons B ?_;refine Dq.consX (P1.ifWhileT (PB.cmp (PE.name (p:=.none) (AD 4 rfl)) PE.cnone C5.isNone) (UZ (r:=fun lo hi A=> [("a",.val (.list (xs.map PV.int))),("x",.val (.int x)),("lo",.val (.int lo)),("hi",.val (.int hi)),("key",.val .none),("mid",A)]) (c:=fun m=>decide (xs.getD m.toNat 0<x)) (L:=xs.length) (n:=n) D I hn ?_ ?_ ?_))
 ·exact fun J G=>Dq.stop (P1.ret (PE.name (AD 2 rfl)))
 ·exact fun lo hi A=>PB.cmp (PE.name (p:=.int lo) (AD 2 rfl)) (PE.name (p:=.int hi) (AD 3 rfl)) C5.ltI
 ·intro lo hi A m H Q R M N h5 S;refine ER (Ht (xs:=xs) N (fK H M h5)) fun O P=>?_;refine PS.cons (P1.assign ((PE.fdiv (PE.add (PE.name (p:=.int lo) (AD 2 rfl)) (PE.name (p:=.int hi) (AD 3 rfl))) PE.cint dc dc).of (by rw[H]:PV.int ((lo+hi).fdiv 2)= .int m)) (Ah 5 rfl)) ?_;refine PS.one (P1.ite (PB.cmp (PE.itemL (PE.name (p:=.list (xs.map PV.int)) (AD 0 rfl)) (PE.name (p:=.int m) (AD 5 rfl)) O P (by simpa using hz)) (PE.name (p:=.int x) (AD 1 rfl)) C5.ltI) (fun C=>?_) fun C=>?_)
  ·rw[if_pos C];exact PS.one (P1.assign (PE.add (PE.name (p:=.int m) (AD 5 rfl)) PE.cint) (Ah 2 rfl))
  ·rw[if_neg (by rw[C];decide)];exact PS.one (P1.assign (PE.name (p:=.int m) (AD 5 rfl)) (Ah 3 rfl))
end
section
variable{Z:Zx}{k:Nat}{F:Fx}{ρ κ:Ci}{st:Bool}
theorem PE.callClo(hx:(x,.val (.clo kk cap))∈ρ++κ)(I:JY Z k F ρ κ false es ps)(T:JT Z k kk cap ps res)(U:autoParam (res.flat=true) ar)(hn:autoParam (C0 es=true) ar):
  PE Z k F ρ κ st (.Call (.Name x p) es [] pos) res:=.up (hp:=U)<| .ofRun fun A O s Q E G R V=>
 Jv rfl ((PE.name (st:=false) hx).run A O s _ _ G R fun v H S y=>by
  have J:=S;cases J with
  | @clo a _ _ W L=>
  refine l9 L fun cl M N B X _=>?_;refine callWith_function (o:=JZ "<lambda>" (Fy kk).qual (Fy kk).params (Fy kk).body (Fy kk).scope cl M N B) (fd:=kla_fn "<lambda>" (Fy kk).qual (Fy kk).params (Fy kk).body (Fy kk).scope cl M (.ref N) B) (Fu hn (I.run A O H pos _ _ G (R.ext y) fun vs s₂ P z=>?_));have C:=S.ext (Fx.V_tb R false) z;have D:s₂.heap.get? a=some (JZ "<lambda>" (Fy kk).qual (Fy kk).params (Fy kk).body (Fy kk).scope cl M N B):=z.keep _ _ (fun q=>W (Fx.V_tb R false _ q)) X;exact⟨⟨D,rfl⟩,T A (F.V O false) s₂ _ vs Q E G (Fx.V_tb R false) (Fx.V_lt ((R.ext y).ext z) false) ((R.ext y).ext z).base C P fun u s₃ Y w=>V u s₃ Y ((y.trans z).trans w)⟩)
theorem Qr(xs:List Int)(x lo hi:Int)(D:0≤lo)(I:hi≤xs.length)(hz:xs.length≤1000000)(n:Nat)(hn:hi-lo<n)(E:PV)(B:P1 Z k F (Hs xs x lo E .none .unb) [] (FQ 1 (Ba (Au 2))) .next (Hs xs x lo (.int hi) .none .unb)):
  Dq Z k F (Hs xs x lo E .none .unb) [] (Ba (Au 2)) (.ret (.int (NO (fun m=> !decide (x<xs.getD m.toNat 0)) n lo hi))):=by
 conv=>arg 6;whnf
 unfold Hs at*;refine Dq.cons (P1.ifF (PB.of (PB.cmp (PE.name (p:=.int lo) (AD 2 rfl)) PE.cint C5.ltI) (decide_eq_false (dX D))) PS.nil) ?_;refine Dq.cons B ?_;refine Dq.consX (P1.ifWhileT (PB.cmp (PE.name (p:=.none) (AD 4 rfl)) PE.cnone C5.isNone) (UZ (r:=fun lo hi A=> [("a",.val (.list (xs.map PV.int))),("x",.val (.int x)),("lo",.val (.int lo)),("hi",.val (.int hi)),("key",.val .none),("mid",A)]) (c:=fun m=> !decide (x<xs.getD m.toNat 0)) (L:=xs.length) (n:=n) D I hn ?_ ?_ ?_))
 ·exact fun J G=>Dq.stop (P1.ret (PE.name (AD 2 rfl)))
 ·exact fun lo hi A=>PB.cmp (PE.name (p:=.int lo) (AD 2 rfl)) (PE.name (p:=.int hi) (AD 3 rfl)) C5.ltI
 ·intro lo hi A m H Q R M N h5 S;refine ER (Ht (xs:=xs) N (fK H M h5)) fun O P=>?_;refine PS.cons (P1.assign ((PE.fdiv (PE.add (PE.name (p:=.int lo) (AD 2 rfl)) (PE.name (p:=.int hi) (AD 3 rfl))) PE.cint dc dc).of (by rw[H]:PV.int ((lo+hi).fdiv 2)= .int m)) (Ah 5 rfl)) ?_;refine PS.one (P1.ite (PB.cmp (PE.name (p:=.int x) (AD 1 rfl)) (PE.itemL (PE.name (p:=.list (xs.map PV.int)) (AD 0 rfl)) (PE.name (p:=.int m) (AD 5 rfl)) O P (by simpa using hz)) C5.ltI) (fun C=>?_) fun C=>?_)
  ·rw[if_neg (by rw[C];decide)];exact PS.one (P1.assign (PE.name (p:=.int m) (AD 5 rfl)) (Ah 3 rfl))
  ·rw[if_pos (by rw[C];decide)];exact PS.one (P1.assign (PE.add (PE.name (p:=.int m) (AD 5 rfl)) PE.cint) (Ah 2 rfl))
theorem YS(xs:List Int)(x lo hi:Int)(kk:Nat)(cap:List Int)(g:Int→Int)(N:∀v∈xs,JT Z k kk cap [.int v] (.int (g v)))(E:0≤lo)(O:hi≤xs.length)(hz:xs.length≤1000000)(n:Nat)(hn:hi-lo<n)(G:PV)(C:P1 Z k F (Hs xs x lo G (.clo kk cap) .unb) [] (FQ 1 (Ba (Au 2))) .next (Hs xs x lo (.int hi) (.clo kk cap) .unb)):
  Dq Z k F (Hs xs x lo G (.clo kk cap) .unb) [] (Ba (Au 2)) (.ret (.int (NO (fun m=> !decide (x<g (xs.getD m.toNat 0))) n lo hi))):=by
 conv=>arg 6;whnf
 unfold Hs at*;refine Dq.cons (P1.ifF (PB.of (PB.cmp (PE.name (p:=.int lo) (AD 2 rfl)) PE.cint C5.ltI) (decide_eq_false (dX E))) PS.nil) ?_;refine Dq.cons C ?_;refine Dq.consX (P1.ifWhileF (PB.cmp (PE.name (p:=.clo kk cap) (AD 4 rfl)) PE.cnone C5.isNoneF) (UZ (r:=fun lo hi A=> [("a",.val (.list (xs.map PV.int))),("x",.val (.int x)),("lo",.val (.int lo)),("hi",.val (.int hi)),("key",.val (.clo kk cap)),("mid",A)]) (c:=fun m=> !decide (x<g (xs.getD m.toNat 0))) (L:=xs.length) (n:=n) E O hn ?_ ?_ ?_))
 ·exact fun P H=>Dq.stop (P1.ret (PE.name (AD 2 rfl)))
 ·exact fun lo hi A=>PB.cmp (PE.name (p:=.int lo) (AD 2 rfl)) (PE.name (p:=.int hi) (AD 3 rfl)) C5.ltI
 ·intro lo hi A m I S T J M h5 U;refine ER (Ht (xs:=xs) M (fK I J h5)) fun Q R=>?_;have B:xs.getD m.toNat 0∈xs:=by
   have h:m.toNat<xs.length:=(N5 M).mpr (CP h5 J);rw[AE,AL h];exact BY h
  refine PS.cons (P1.assign ((PE.fdiv (PE.add (PE.name (p:=.int lo) (AD 2 rfl)) (PE.name (p:=.int hi) (AD 3 rfl))) PE.cint dc dc).of (by rw[I]:PV.int ((lo+hi).fdiv 2)= .int m)) (Ah 5 rfl)) ?_;refine PS.one (P1.ite (PB.cmp (PE.name (p:=.int x) (AD 1 rfl)) (PE.callClo (kk:=kk) (cap:=cap) (AD 4 rfl) (.cons (PE.itemL (PE.name (p:=.list (xs.map PV.int)) (AD 0 rfl)) (PE.name (p:=.int m) (AD 5 rfl)) Q R (by simpa using hz)) .nil) (N _ B)) C5.ltI) (fun D=>?_) fun D=>?_)
  ·rw[if_neg (by rw[D];decide)];exact PS.one (P1.assign (PE.name (p:=.int m) (AD 5 rfl)) (Ah 3 rfl))
  ·rw[if_pos (by rw[D];decide)];exact PS.one (P1.assign (PE.add (PE.name (p:=.int m) (AD 5 rfl)) PE.cint) (Ah 2 rfl))
theorem YW(xs:List Int)(x lo hi:Int)(kk:Nat)(cap:List Int)(g:Int→Int)(N:∀v∈xs,JT Z k kk cap [.int v] (.int (g v)))(E:0≤lo)(O:hi≤xs.length)(hz:xs.length≤1000000)(n:Nat)(hn:hi-lo<n)(G:PV)(C:P1 Z k F (Hs xs x lo G (.clo kk cap) .unb) [] (FQ 1 (Ba (Au 4))) .next (Hs xs x lo (.int hi) (.clo kk cap) .unb)):
  Dq Z k F (Hs xs x lo G (.clo kk cap) .unb) [] (Ba (Au 4)) (.ret (.int (NO (fun m=>decide (g (xs.getD m.toNat 0)<x)) n lo hi))):=by
 conv=>arg 6;whnf
 unfold Hs at*;refine Dq.cons (P1.ifF (PB.of (PB.cmp (PE.name (p:=.int lo) (AD 2 rfl)) PE.cint C5.ltI) (decide_eq_false (dX E))) PS.nil) ?_;refine Dq.cons C ?_;refine Dq.consX (P1.ifWhileF (PB.cmp (PE.name (p:=.clo kk cap) (AD 4 rfl)) PE.cnone C5.isNoneF) (UZ (r:=fun lo hi A=> [("a",.val (.list (xs.map PV.int))),("x",.val (.int x)),("lo",.val (.int lo)),("hi",.val (.int hi)),("key",.val (.clo kk cap)),("mid",A)]) (c:=fun m=>decide (g (xs.getD m.toNat 0)<x)) (L:=xs.length) (n:=n) E O hn ?_ ?_ ?_))
 ·exact fun P H=>Dq.stop (P1.ret (PE.name (AD 2 rfl)))
 ·exact fun lo hi A=>PB.cmp (PE.name (p:=.int lo) (AD 2 rfl)) (PE.name (p:=.int hi) (AD 3 rfl)) C5.ltI
 ·intro lo hi A m I S T J M h5 U;refine ER (Ht (xs:=xs) M (fK I J h5)) fun Q R=>?_;have B:xs.getD m.toNat 0∈xs:=by
   have h:m.toNat<xs.length:=(N5 M).mpr (CP h5 J);rw[AE,AL h];exact BY h
  refine PS.cons (P1.assign ((PE.fdiv (PE.add (PE.name (p:=.int lo) (AD 2 rfl)) (PE.name (p:=.int hi) (AD 3 rfl))) PE.cint dc dc).of (by rw[I]:PV.int ((lo+hi).fdiv 2)= .int m)) (Ah 5 rfl)) ?_;refine PS.one (P1.ite (PB.cmp (PE.callClo (kk:=kk) (cap:=cap) (AD 4 rfl) (.cons (PE.itemL (PE.name (p:=.list (xs.map PV.int)) (AD 0 rfl)) (PE.name (p:=.int m) (AD 5 rfl)) Q R (by simpa using hz)) .nil) (N _ B)) (PE.name (p:=.int x) (AD 1 rfl)) C5.ltI) (fun D=>?_) fun D=>?_)
  ·rw[if_pos D];exact PS.one (P1.assign (PE.add (PE.name (p:=.int m) (AD 5 rfl)) PE.cint) (Ah 2 rfl))
  ·rw[if_neg (by rw[D];decide)];exact PS.one (P1.assign (PE.name (p:=.int m) (AD 5 rfl)) (Ah 3 rfl))
end
structure GC(h:GY)(fd:Dc):Prop where
 b2:∃t,∀(s:AO),s.heap=h→∀a x,Hh s fd ⟨[a,x],[]⟩ [("a",a),("x",x),("lo",(.int 0 t)),("hi",.none),("key",.none)]
 b3:∀(s:AO),s.heap=h→∀a x lo,Hh s fd ⟨[a,x,lo],[]⟩ [("a",a),("x",x),("lo",lo),("hi",.none),("key",.none)]
 b3k:∀(s:AO),s.heap=h→∀a x lo kv,Hh s fd ⟨[a,x,lo],[("key",kv)]⟩ [("a",a),("x",x),("lo",lo),("hi",.none),("key",kv)]
 b4:∀(s:AO),s.heap=h→∀a x lo hi,Hh s fd ⟨[a,x,lo,hi],[]⟩ [("a",a),("x",x),("lo",lo),("hi",hi),("key",.none)]
 b4k:∀(s:AO),s.heap=h→∀a x lo hi kv,Hh s fd ⟨[a,x,lo,hi],[("key",kv)]⟩ [("a",a),("x",x),("lo",lo),("hi",hi),("key",kv)]
theorem GC.bind2(D:GC s.heap fd)(a x:Ad):∃t,Hh s fd ⟨[a,x],[]⟩ [("a",a),("x",x),("lo",(.int 0 t)),("hi",.none),("key",.none)]:=D.b2.imp fun A h=>h s rfl a x
structure K6(C:Cx)(i:Nat)(a:Ch)(fd:Dc):Prop where
 ok:az C a fd (Ba (Au i))
 sc:fd.scope=Bu (Au i)
 pr:fd.params=Kq (Au i)
section
variable{Z:Zx}{k:Nat}
theorem Bk.bis{i:Nat}(I:i=2∨i=4){a:Ch}{fd:Dc}(T:K6 Z.C i a fd)(D:∀h,Z.C.objs.In h→GC h fd){ps ks:List PV}{c:List Ax}{xs:List Int}{x lo r:Int}{hi key:PV}
  (hb:∀F:Fx,F.env.scope=Bu (Au i)→Dq Z k F (Hs xs x lo hi key .unb) [] (Ba (Au i)) (.ret (.int r)))
  (J:∀(W:AS)(s:AO) vs H,DM Z.C s→DW W s.heap vs ps→DW W s.heap H ks→∃binds,Hh s fd ⟨vs,c.zip H⟩ binds∧V' s.heap W binds [("a",.val (.list (xs.map PV.int))),("x",.val (.int x)),("lo",.val (.int lo)),("hi",.val hi),("key",.val key)]):Bk Z (k+1) (.ref a) ps c ks (.int r):=by
 refine fun A W s vs H Q E G d hl B P M g=>?_;refine Bz (J W s vs H B P M) fun binds S U=>?_;refine IF (M4 (us:=[("mid",.unb)]) G B T.ok (by rcases I with h|h<;>subst h<;>rw[T.sc]<;>rfl) d hl S U (fun y sl V=>by cases AI.mp V;rfl) (fun y sl V=>?_) ?_ ?_ fun F j l X Y m N R e w=>?_)
 ·refine .inl ?_;have:y∈(["a","x","lo","hi","key","mid"]:List Ax):=CY (f:=fun q:Ax×Internal.Slot=>q.1) V;rw[T.sc];rcases I with h|h<;>subst h<;>simp only[AN,BH,or_false]at this<;>rcases this with h|h|h|h|h|h<;>subst h<;>rfl
 ·show(["a","x","lo","hi","key","mid"]:List Ax).Nodup;decide
 ·rfl
 ·subst Y;refine B8 (hb F (X.scope.trans T.sc)) fun ρ' h=>?_;refine B1 (h.run l _ j (fun f C=>∃v,VR F.U C.heap v (.int r)∧D9 Z.C s C∧v=(match f with|.ret v=>v|_=>.none)) _ m R fun f C O' O z y n=>?_) (fun f C h=>?_) fun o o h=>h
  ·refine Bz O fun v L p=>?_;subst L;exact⟨v,p,e.comp y fun b hb=>hb.elim .inl fun q=>q.elim (fun q=>.inr (N b q)) fun q=>q.elim,rfl⟩
  ·refine K8 h fun v t u L=>?_;subst L;exact g _ C t u
end
section
variable{Z:Zx}{k:Nat}{F:Fx}{xs:List Int}{x lo hi:Int}{key:PV}
theorem Nt(A:i=2∨i=4):P1 Z k F (Hs xs x lo (.int hi) key .unb) [] (FQ 1 (Ba (Au i))) .next (Hs xs x lo (.int hi) key .unb):=by
 rcases A with h|h<;>subst h<;>(conv=>arg 6;whnf)<;>unfold Hs<;>exact P1.ifF (PB.cmp (PE.name (p:=.int hi) (AD 3 rfl)) PE.cnone C5.isNoneF) PS.nil
theorem OU(A:i=2∨i=4)(hz:xs.length≤1000000)(B:F.env.kindOf "len"=some .globalImplicit) (C:Gl Z.C "len" (.builtin "len")):P1 Z k F (Hs xs x lo .none key .unb) [] (FQ 1 (Ba (Au i))) .next (Hs xs x lo (.int xs.length) key .unb):=by
 have hl:Bk Z k (.builtin "len") [.list (xs.map PV.int)] [] [] (.int xs.length):=by
  have:=Bk.lenL (Z:=Z) (k:=k) (xs:=xs.map PV.int) (by simpa using hz)
  rwa [AH]at this
 rcases A with h|h<;>subst h<;>(conv=>arg 6;whnf)<;>unfold Hs<;>exact P1.ifT (PB.cmp (PE.name (p:=.none) (AD 3 rfl)) PE.cnone C5.isNone) (PS.one (P1.assign (PE.up (PE.call B C (.builtin _) (.cons (PE.name (p:=.list (xs.map PV.int)) (AD 0 rfl)) .nil) hl)) (Ah 3 rfl)))
end
section
variable{Z:Zx}{k:Nat}{xs:List Int}{x lo hi:Int}{a:Ch}{fd:Dc}
noncomputable def Vr(xs:List Int)(x lo hi:Int):Int:=NO (fun m=>decide (xs.getD m.toNat 0<x)) (xs.length+1) lo hi
noncomputable def Sk(xs:List Int)(x lo hi:Int):Int:=NO (fun m=> !decide (x<xs.getD m.toNat 0)) (xs.length+1) lo hi
theorem kU(T:K6 Z.C 4 a fd)(D:∀h,Z.C.objs.In h→GC h fd)(E:0≤lo)(G:hi≤xs.length)(hz:xs.length≤1000000):Bk Z (k+1) (.ref a) [.list (xs.map PV.int),.int x,.int lo,.int hi] [] [] (.int (Vr xs x lo hi)):=
 Bk.bis (.inr rfl) T D (fun F R=>UV xs x lo hi E G hz (xs.length+1) (fL E G) (.int hi) (Nt (.inr rfl))) fun W s vs H B C A=>by
  obtain⟨I,J,L,M,rfl,N,O,P,Q⟩:=C.four;obtain rfl:=A.l0;exact⟨_,(D _ B.objs).b4 _ rfl I J L M,rfl,N,rfl,O,rfl,P,rfl,Q,rfl,.none,trivial⟩
theorem kR(T:K6 Z.C 2 a fd)(D:∀h,Z.C.objs.In h→GC h fd)(E:0≤lo)(G:hi≤xs.length)(hz:xs.length≤1000000):Bk Z (k+1) (.ref a) [.list (xs.map PV.int),.int x,.int lo,.int hi] [] [] (.int (Sk xs x lo hi)):=
 Bk.bis (.inl rfl) T D (fun F R=>Qr xs x lo hi E G hz (xs.length+1) (fL E G) (.int hi) (Nt (.inl rfl))) fun W s vs H B C A=>by
  obtain⟨I,J,L,M,rfl,N,O,P,Q⟩:=C.four;obtain rfl:=A.l0;exact⟨_,(D _ B.objs).b4 _ rfl I J L M,rfl,N,rfl,O,rfl,P,rfl,Q,rfl,.none,trivial⟩
theorem k2(T:K6 Z.C 4 a fd)(D:∀h,Z.C.objs.In h→GC h fd)(H:Gl Z.C "len" (.builtin "len")) (hz:xs.length≤1000000):Bk Z (k+1) (.ref a) [.list (xs.map PV.int),.int x] [] [] (.int (Vr xs x 0 xs.length)):=
 Bk.bis (.inr rfl) T D (fun F C=>UV xs x 0 xs.length (Yi) (Vy) hz (xs.length+1) (L1 _) .none (OU (.inr rfl) hz (by show F.env.scope.names.lookup _=_;rw[C];rfl) H)) fun W s vs I B E A=>by
  refine Hd E.two fun J L G M N=>?_;subst G;obtain rfl:=A.l0;refine B8 (GC.bind2 (D _ B.objs) J L) fun t hb=>?_;exact⟨_,hb,rfl,M,rfl,N,rfl,.int ..,rfl,.none,rfl,.none,trivial⟩
theorem k1(T:K6 Z.C 2 a fd)(D:∀h,Z.C.objs.In h→GC h fd)(H:Gl Z.C "len" (.builtin "len")) (hz:xs.length≤1000000):Bk Z (k+1) (.ref a) [.list (xs.map PV.int),.int x] [] [] (.int (Sk xs x 0 xs.length)):=
 Bk.bis (.inl rfl) T D (fun F C=>Qr xs x 0 xs.length (Yi) (Vy) hz (xs.length+1) (L1 _) .none (OU (.inl rfl) hz (by show F.env.scope.names.lookup _=_;rw[C];rfl) H)) fun W s vs I B E A=>by
  refine Hd E.two fun J L G M N=>?_;subst G;obtain rfl:=A.l0;refine B8 (GC.bind2 (D _ B.objs) J L) fun t hb=>?_;exact⟨_,hb,rfl,M,rfl,N,rfl,.int ..,rfl,.none,rfl,.none,trivial⟩
end
section
variable{Z:Zx}{k:Nat}{F:Fx}{xs:List Int}{x lo:Int}{hi:PV}
noncomputable def Le(a:Nat)(xs:List Int)(x lo:Int)(hi key:PV):Ci:=[("a",.at (.ref a) (.list (xs.map PV.int))),("x",.val (.int x)),("lo",.val (.int lo)),("hi",.val hi),("key",.val key)]
theorem Ru(A:F.env.kindOf "bisect_right"=some .globalImplicit) (B:Gl Z.C "bisect_right" (.ref b)) (C:Fn Z.C (.ref b)) (D:Bk Z k (.ref b) [.list (xs.map PV.int),.int x,.int lo,hi] [] [] (.int r)):
  P1 Z k F (Le a xs x lo hi .none) [] (FQ 0 (Ba (Au 1))) .next (Le a xs x r hi .none):=by
 conv=>arg 6;whnf
 unfold Le;exact P1.ifT (PB.cmp (PE.name (p:=.none) (AD 4 rfl)) PE.cnone C5.isNone) (PS.one (P1.assign (PE.up (PE.call A B C (.cons (PE.nameA (u:=.ref a) (p:=.list (xs.map PV.int)) (AD 0 rfl)) (.cons (PE.name (p:=.int x) (AD 1 rfl)) (.cons (PE.name (p:=.int lo) (AD 2 rfl)) (.cons (PE.name (p:=hi) (AD 3 rfl)) .nil)))) D)) (Ah 2 rfl)))
theorem Xs(A:F.env.kindOf "bisect_left"=some .globalImplicit) (B:Gl Z.C "bisect_left" (.ref b)) (C:Fn Z.C (.ref b)) (D:Bk Z k (.ref b) [.list (xs.map PV.int),.int x,.int lo,hi] [] [] (.int r)):
  P1 Z k F (Le a xs x lo hi .none) [] (FQ 0 (Ba (Au 3))) .next (Le a xs x r hi .none):=by
 conv=>arg 6;whnf
 unfold Le;exact P1.ifT (PB.cmp (PE.name (p:=.none) (AD 4 rfl)) PE.cnone C5.isNone) (PS.one (P1.assign (PE.up (PE.call A B C (.cons (PE.nameA (u:=.ref a) (p:=.list (xs.map PV.int)) (AD 0 rfl)) (.cons (PE.name (p:=.int x) (AD 1 rfl)) (.cons (PE.name (p:=.int lo) (AD 2 rfl)) (.cons (PE.name (p:=hi) (AD 3 rfl)) .nil)))) D)) (Ah 2 rfl)))
theorem VZ(A:F.env.kindOf "bisect_right"=some .globalImplicit) (B:Gl Z.C "bisect_right" (.ref b)) (C:Fn Z.C (.ref b)) (D:JT Z k kk cap [.int x] (.int y)) (E:Bk Z k (.ref b) [.list (xs.map PV.int),.int y,.int lo,hi] ["key"] [.clo kk cap] (.int r)):
  P1 Z k F (Le a xs x lo hi (.clo kk cap)) [] (FQ 0 (Ba (Au 1))) .next (Le a xs x r hi (.clo kk cap)):=by
 conv=>arg 6;whnf
 unfold Le;exact P1.ifF (PB.cmp (PE.name (p:=.clo kk cap) (AD 4 rfl)) PE.cnone C5.isNoneF) (PS.one (P1.assign (PE.up (PE.callK A B C (.cons (PE.nameA (u:=.ref a) (p:=.list (xs.map PV.int)) (AD 0 rfl)) (.cons (PE.callClo (kk:=kk) (cap:=cap) (AD 4 rfl) (.cons (PE.name (p:=.int x) (AD 1 rfl)) .nil) D) (.cons (PE.name (p:=.int lo) (AD 2 rfl)) (.cons (PE.name (p:=hi) (AD 3 rfl)) .nil)))) (.cons (PE.name (p:=.clo kk cap) (AD 4 rfl)) .nil) (by intro T h;cases h) E)) (Ah 2 rfl)))
theorem Vb(A:F.env.kindOf "bisect_left"=some .globalImplicit) (B:Gl Z.C "bisect_left" (.ref b)) (C:Fn Z.C (.ref b)) (D:JT Z k kk cap [.int x] (.int y)) (E:Bk Z k (.ref b) [.list (xs.map PV.int),.int y,.int lo,hi] ["key"] [.clo kk cap] (.int r)):
  P1 Z k F (Le a xs x lo hi (.clo kk cap)) [] (FQ 0 (Ba (Au 3))) .next (Le a xs x r hi (.clo kk cap)):=by
 conv=>arg 6;whnf
 unfold Le;exact P1.ifF (PB.cmp (PE.name (p:=.clo kk cap) (AD 4 rfl)) PE.cnone C5.isNoneF) (PS.one (P1.assign (PE.up (PE.callK A B C (.cons (PE.nameA (u:=.ref a) (p:=.list (xs.map PV.int)) (AD 0 rfl)) (.cons (PE.callClo (kk:=kk) (cap:=cap) (AD 4 rfl) (.cons (PE.name (p:=.int x) (AD 1 rfl)) .nil) D) (.cons (PE.name (p:=.int lo) (AD 2 rfl)) (.cons (PE.name (p:=hi) (AD 3 rfl)) .nil)))) (.cons (PE.name (p:=.clo kk cap) (AD 4 rfl)) .nil) (by intro T h;cases h) E)) (Ah 2 rfl)))
end
section
variable{Z:Zx}{k:Nat}{xs:List Int}{x lo hi:Int}{a:Ch}{fd:Dc}
theorem fW(T:K6 Z.C 2 a fd)(D:∀h,Z.C.objs.In h→GC h fd)(H:Gl Z.C "len" (.builtin "len")) (G:0≤lo) (hz:xs.length≤1000000):Bk Z (k+1) (.ref a) [.list (xs.map PV.int),.int x,.int lo,.none] [] [] (.int (Sk xs x lo xs.length)):=
 Bk.bis (.inl rfl) T D (fun F C=>Qr xs x lo xs.length G (Vy) hz (xs.length+1) (Bc (dS _ G) (BR.mpr (Az _))) .none (OU (.inl rfl) hz (by show F.env.scope.names.lookup _=_;rw[C];rfl) H)) fun W s vs I B E A=>by
  obtain⟨J,L,M,N,rfl,O,P,Q,R⟩:=E.four;obtain rfl:=A.l0;exact⟨_,(D _ B.objs).b4 _ rfl J L M N,rfl,O,rfl,P,rfl,Q,rfl,R,rfl,.none,trivial⟩
noncomputable def aT(g:Int→Int)(xs:List Int)(x lo hi:Int):Int:=NO (fun m=>decide (g (xs.getD m.toNat 0)<x)) (xs.length+1) lo hi
noncomputable def aO(g:Int→Int)(xs:List Int)(x lo hi:Int):Int:=NO (fun m=> !decide (x<g (xs.getD m.toNat 0))) (xs.length+1) lo hi
theorem fX(T:K6 Z.C 4 a fd)(D:∀h,Z.C.objs.In h→GC h fd)(C:∀v∈xs,JT Z k kk cap [.int v] (.int (g v)))(H:0≤lo)(I:hi≤xs.length)(hz:xs.length≤1000000):Bk Z (k+1) (.ref a) [.list (xs.map PV.int),.int x,.int lo,.int hi] ["key"] [.clo kk cap] (.int (aT g xs x lo hi)):=
 Bk.bis (.inr rfl) T D (fun F V=>YW xs x lo hi kk cap g C H I hz (xs.length+1) (fL H I) (.int hi) (Nt (.inr rfl))) fun W s vs J B E A=>by
  obtain⟨L,M,N,O,rfl,P,Q,R,S⟩:=E.four;refine Bz A.one fun kv G U=>?_;subst G;exact⟨_,(D _ B.objs).b4k _ rfl L M N O kv,rfl,P,rfl,Q,rfl,R,rfl,S,rfl,U,trivial⟩
theorem fV(T:K6 Z.C 2 a fd)(D:∀h,Z.C.objs.In h→GC h fd)(C:∀v∈xs,JT Z k kk cap [.int v] (.int (g v)))(H:0≤lo)(I:hi≤xs.length)(hz:xs.length≤1000000):Bk Z (k+1) (.ref a) [.list (xs.map PV.int),.int x,.int lo,.int hi] ["key"] [.clo kk cap] (.int (aO g xs x lo hi)):=
 Bk.bis (.inl rfl) T D (fun F V=>YS xs x lo hi kk cap g C H I hz (xs.length+1) (fL H I) (.int hi) (Nt (.inl rfl))) fun W s vs J B E A=>by
  obtain⟨L,M,N,O,rfl,P,Q,R,S⟩:=E.four;refine Bz A.one fun kv G U=>?_;subst G;exact⟨_,(D _ B.objs).b4k _ rfl L M N O kv,rfl,P,rfl,Q,rfl,R,rfl,S,rfl,U,trivial⟩
theorem Lh(c:Int→Bool):∀(n:Nat)(lo hi:Int),0≤lo→lo≤hi→lo≤NO c n lo hi∧NO c n lo hi≤hi:=by
 intro C
 induction C with
 |zero=>
  intro lo hi _ h;exact⟨Wd _,h⟩
 |succ n D=>
  intro lo hi E h;rw[NO.c2];by_cases A:lo<hi
  ·rw[if_pos A];generalize F:(lo+hi).fdiv 2=m;have B:m=(lo+hi)/2:=by rw[←F,F9 _ (eV)]
   split
   ·have:=D (m+1) hi (Av (Av E (B▸fC (Da A))) (F7 dc)) (lX A B);exact lU B this
   ·have:=D lo m E (B▸fI (Da A));exact lT B this
  ·rw[if_neg A];exact lK h A
end
section
variable{Z:Zx}{k:Nat}{xs:List Int}{x lo hi r:Int}{a b:Ch}{fd fb:Dc}
theorem Va(B:i=1∨i=3):∃np D E A pos C,Ba (Au i)=[FQ 0 (Ba (Au i)),.Expr (.Call (.Attribute (.Name "a" np) "insert" A) [.Name "lo" D,.Name "x" E] [] pos) C]∧
  ∀env:Ti,∃pl:Ku Bool,D4 (.Call (.Attribute (.Name "a" np) "insert" A) [.Name "lo" D,.Name "x" E] [] pos) env=(do
   let F ←D4 (.Name "a" np) env
   Hf A.atName
   let (f,first)←D3 [F] (F3 F "insert" pl)
   Iq pos f first (DO pos (B_ [.Name "lo" D,.Name "x" E] env)) []):=by
 rcases B with h|h<;>subst h<;>exact X6 _ _ _ _ _ _ ⟨rfl,fun env=>⟨_,rfl⟩⟩
theorem Jt.ins(A:i=1∨i=3)(T:K6 Z.C i a fd)(I:0≤r)(hr:r≤xs.length)(hz:xs.length≤1000000)
  (B:∀(U:AS)(s:AO)(a:Nat) vs C,DM Z.C s→VR U s.heap (.ref a) (.list (xs.map PV.int))→DW U s.heap vs ps→DW U s.heap C ks→∃binds,Hh s fd ⟨.ref a::vs,J.zip C⟩ binds∧V' s.heap U binds (Le a xs x lo h key))
  (L:∀(F:Fx)(c:Nat),F.env.scope=Bu (Au i)→P1 Z k F (Le c xs x lo h key) [] (FQ 0 (Ba (Au i))) .next (Le c xs x r h key)):Jt Z (k+1) (.ref a) xs ps J ks (Fz xs r.toNat x):=by
 refine l7 (Va A) fun np N O G pos H hb M=>?_;refine Jt.fn (bs:=[("x",.val (.int x)),("lo",.val (.int lo)),("hi",.val h),("key",.val key)]) (us:=[]) (ρ':=[("x",.val (.int x)),("lo",.val (.int r)),("hi",.val h),("key",.val key)]) T.ok (by rcases A with h|h<;>subst h<;>rw[T.sc]<;>rfl) hb B (fun y sl D=>by cases D) (fun y D=>?_) ?_ ⟨rfl,rfl⟩ (fun F c E=>L F c (E.scope.trans T.sc)) (by simp) (by exact AB) I hr hz M
 ·refine .inl ?_;have:y∈(["a","x","lo","hi","key"]:List Ax):=by
   rcases D with h|⟨sl,h⟩
   ·rw[h];exact AB
   ·exact AG _ (CY (f:=fun q:Ax×Internal.Slot=>q.1) h)
  rw[T.sc];rcases A with h|h<;>subst h<;>simp only[AN,BH,or_false]at this<;>rcases this with h|h|h|h|h<;>subst h<;>rfl
 ·show(["a","x","lo","hi","key"]:List Ax).Nodup;decide
theorem K6.fn(T:K6 C i a fd):Fn C (.ref a):=by refine Bz T.ok.obj fun _ A hd=>?_;exact .func A hd
theorem kz(T:K6 Z.C 1 a fd)(D:∀h,Z.C.objs.In h→GC h fd)(A:K6 Z.C 2 b fb)(I:∀h,Z.C.objs.In h→GC h fb)(hn:Gl Z.C "bisect_right" (.ref b)) (J:Gl Z.C "len" (.builtin "len")) (hz:xs.length≤1000000):
  Jt Z (k+2) (.ref a) xs [.int x] [] [] (Fz xs (Sk xs x 0 xs.length).toNat x):=by
 have C:=Lh (fun m=> !decide (x<xs.getD m.toNat 0)) (xs.length+1) 0 xs.length (Yi) (AZ _);refine Jt.ins (x:=x) (lo:=0) (h:=.none) (key:=.none) (.inl rfl) T C.1 C.2 hz (fun U s c vs L B hl E M=>?_) fun F c G=>Ru (by show F.env.scope.names.lookup _=_;rw[G];rfl) hn A.fn (fW A I J (Yi) hz);refine Bz E.one fun v H N=>?_;subst H;obtain rfl:=M.l0;refine B8 (GC.bind2 (D _ B.objs) (.ref c) v) fun t hb=>?_;exact⟨_,hb,rfl,⟨rfl,hl⟩,rfl,N,rfl,.int ..,rfl,.none,rfl,.none,trivial⟩
theorem ky(T:K6 Z.C 1 a fd)(D:∀h,Z.C.objs.In h→GC h fd)(A:K6 Z.C 2 b fb)(N:∀h,Z.C.objs.In h→GC h fb)(hn:Gl Z.C "bisect_right" (.ref b)) (E:0≤lo) (O:lo≤hi) (M:hi≤xs.length) (hz:xs.length≤1000000):
  Jt Z (k+2) (.ref a) xs [.int x,.int lo,.int hi] [] [] (Fz xs (Sk xs x lo hi).toNat x):=by
 have C:=Lh (fun m=> !decide (x<xs.getD m.toNat 0)) (xs.length+1) lo hi E O;refine Jt.ins (x:=x) (lo:=lo) (h:=.int hi) (key:=.none) (.inl rfl) T (Av E C.1) (Av C.2 M) hz (fun U s c vs P B hl G Q=>?_) fun F c H=>Ru (by show F.env.scope.names.lookup _=_;rw[H];rfl) hn A.fn (kR A N E M hz);refine IW G.three fun v R S I V J L=>?_;subst I;obtain rfl:=Q.l0;exact⟨_,(D _ B.objs).b4 _ rfl (.ref c) v R S,rfl,⟨rfl,hl⟩,rfl,V,rfl,J,rfl,L,rfl,.none,trivial⟩
theorem k0(T:K6 Z.C 3 a fd)(D:∀h,Z.C.objs.In h→GC h fd)(A:K6 Z.C 4 b fb)(N:∀h,Z.C.objs.In h→GC h fb)(hn:Gl Z.C "bisect_left" (.ref b)) (E:0≤lo) (O:lo≤hi) (M:hi≤xs.length) (hz:xs.length≤1000000):
  Jt Z (k+2) (.ref a) xs [.int x,.int lo,.int hi] [] [] (Fz xs (Vr xs x lo hi).toNat x):=by
 have C:=Lh (fun m=>decide (xs.getD m.toNat 0<x)) (xs.length+1) lo hi E O;refine Jt.ins (x:=x) (lo:=lo) (h:=.int hi) (key:=.none) (.inr rfl) T (Av E C.1) (Av C.2 M) hz (fun U s c vs P B hl G Q=>?_) fun F c H=>Xs (by show F.env.scope.names.lookup _=_;rw[H];rfl) hn A.fn (kU A N E M hz);refine IW G.three fun v R S I V J L=>?_;subst I;obtain rfl:=Q.l0;exact⟨_,(D _ B.objs).b4 _ rfl (.ref c) v R S,rfl,⟨rfl,hl⟩,rfl,V,rfl,J,rfl,L,rfl,.none,trivial⟩
theorem fP(T:K6 Z.C 1 a fd)(D:∀h,Z.C.objs.In h→GC h fd)(C:K6 Z.C 2 b fb)(R:∀h,Z.C.objs.In h→GC h fb)(hn:Gl Z.C "bisect_right" (.ref b)) (E:∀P,k≤P→∀v∈x::xs,JT Z P kk cap [.int v] (.int (g v)))
  (H:0≤lo) (S:lo≤hi) (Q:hi≤xs.length) (hz:xs.length≤1000000):
  Jt Z (k+2) (.ref a) xs [.int x,.int lo,.int hi] ["key"] [.clo kk cap] (Fz xs (aO g xs (g x) lo hi).toNat x):=by
 have G:=Lh (fun m=> !decide (g x<g (xs.getD m.toNat 0))) (xs.length+1) lo hi H S;refine Jt.ins (x:=x) (lo:=lo) (h:=.int hi) (key:=.clo kk cap) (.inl rfl) T (Av H G.1) (Av G.2 Q) hz (fun U s c vs V B hl I W=>?_) fun F c J=>VZ (by show F.env.scope.names.lookup _=_;rw[J];rfl) hn C.fn (E _ (Vv) x AB) (fV C R (fun v L=>E _ (AK _) v (AG _ L)) H Q hz);refine IW I.three fun v X Y A L M N=>?_;subst A;refine Bz W.one fun kv A O=>?_;subst A;exact⟨_,(D _ B.objs).b4k _ rfl (.ref c) v X Y kv,rfl,⟨rfl,hl⟩,rfl,L,rfl,M,rfl,N,rfl,O,trivial⟩
theorem fQ(T:K6 Z.C 3 a fd)(D:∀h,Z.C.objs.In h→GC h fd)(C:K6 Z.C 4 b fb)(R:∀h,Z.C.objs.In h→GC h fb)(hn:Gl Z.C "bisect_left" (.ref b)) (E:∀P,k≤P→∀v∈x::xs,JT Z P kk cap [.int v] (.int (g v)))
  (H:0≤lo) (S:lo≤hi) (Q:hi≤xs.length) (hz:xs.length≤1000000):
  Jt Z (k+2) (.ref a) xs [.int x,.int lo,.int hi] ["key"] [.clo kk cap] (Fz xs (aT g xs (g x) lo hi).toNat x):=by
 have G:=Lh (fun m=>decide (g (xs.getD m.toNat 0)<g x)) (xs.length+1) lo hi H S;refine Jt.ins (x:=x) (lo:=lo) (h:=.int hi) (key:=.clo kk cap) (.inr rfl) T (Av H G.1) (Av G.2 Q) hz (fun U s c vs V B hl I W=>?_) fun F c J=>Vb (by show F.env.scope.names.lookup _=_;rw[J];rfl) hn C.fn (E _ (Vv) x AB) (fX C R (fun v L=>E _ (AK _) v (AG _ L)) H Q hz);refine IW I.three fun v X Y A L M N=>?_;subst A;refine Bz W.one fun kv A O=>?_;subst A;exact⟨_,(D _ B.objs).b4k _ rfl (.ref c) v X Y kv,rfl,⟨rfl,hl⟩,rfl,L,rfl,M,rfl,N,rfl,O,trivial⟩
end
section
variable{Z:Zx}{k:Nat}{F:Fx}{ρ ρ' κ:Ci}{st:Bool}
theorem Xp(x:VR W h v (.list (cap.map PV.int))):∃l,v= .ref l∧MG h W l cap:=by
 refine IW x.list_inv fun a n vs A D E B=>?_;subst A;refine⟨a,rfl,D,vs.toArray,n,E,by rw[Ab,B.length,AH],fun i v C=>?_⟩;have hl:=B.length;rw[AH]at hl;rw[List.getElem?_toArray]at C;have hi:i<cap.length:=hl▸(B4.mp C).1;refine B8 ((B.at i v (.int cap[i]) C (by rw[BD,AL hi];rfl)).int_inv) fun t A=>?_;subst A;exact X2 t _ ⟨AL hi,rfl⟩
noncomputable def Ok(F:Fx)(ρ κ:Ci)(scope:Scope)(kk:Nat)(cap:List Int):Prop:=
 match (Fy kk).var with
 |none=>cap=[]∧GW scope F.env=pure []
 |some x=>(x,Internal.Slot.val (.list (cap.map PV.int)))∈ρ++κ∧F.env.kindOf x≠some .local∧∀c,F.env.cells.lookup x=some c→GW scope F.env=pure [(x,c)]
theorem Qc(R:Cj Z.C F O ρ κ s)
  (y:∀b,W' b→Tb b∨(F.W O b∧∃vs n,s.heap.get? b=some {cls:=.type "list",data:=.seq vs n})) (t:TabOf c P (Fy kk).qual) (J:F.env.code= .ref c) (Ns:F.env.qual++"<lambda>"=(Fy kk).qual)
  (hp:params=(Fy kk).params) (hb:body=(Fy kk).body) (j:scope=(Fy kk).scope) (T:Ug params F.env=([],[])) (S:Ok F ρ κ scope kk cap) (Sa:∀v D,VR W' D.heap v (.clo kk cap)→D9 Z.C s D→Q v D):
  Af (Ar Z.prog Z.w) A (D4 (.Lambda params body scope pos) F.env) Q E s:=by
 have G:∀b,129≤b→W' b→F.W O b∧∃vs n,s.heap.get? b=some {cls:=.type "list",data:=.seq vs n}:=fun b h q=>(y b q).resolve_left (Cg h);have go:∃C,GW scope F.env=pure C∧∀D,D9 Z.C s D→P4 W' D.heap (Fy kk).var C cap:=by
  unfold Ok at S;unfold P4;cases U:(Fy kk).var with
  |none=>rw[U]at S;exact⟨[],S.2,fun D u0=>⟨rfl,S.1⟩⟩
  |some x=>
   rw[U]at S;refine Nc S fun hx av L=>?_;refine fO R.st fun V ck bi bl b2 cn=>?_;refine Bz (b2 x _ hx) fun v m W=>?_;refine Bz (Xp W) fun l p hl=>?_;subst p;have b3:∃c,F.env.cells.lookup x=some c∧129≤c∧s.heap.IsCell c (V x):=by
    rcases AR.mp hx with h|h
    ·rcases bi x _ h with h|⟨_,c,X,M,N⟩
     ·exact absurd h av
     ·exact⟨c,X,R.hi c (.inl M),N⟩
    ·obtain⟨_,c,X,M,N⟩:=bl x _ h;exact⟨c,X,M.1,N⟩
   refine K8 b3 fun c X M N=>?_;refine⟨_,L c X,fun D e=>X2 c l ⟨rfl,fun q=>?_,M,?_,fun q=>?_,?_⟩⟩
   ·obtain⟨_,vs,n,Y⟩:=G c M q;refine Bz N fun o B hd=>?_;cases Y.symm.trans B;cases hd
   ·rw[m]at N;refine Bz N fun o B hd=>?_;exact⟨o,e.keep _ _ (Cg M) B,hd⟩
   ·rcases y l q with h|h
    ·exact hl.1 (.inl (R.tb _ h))
    ·exact hl.1 h.1
   ·obtain⟨b4,vs,n,Y,r⟩:=hl;exact X2 vs n ⟨e.keep _ _ (fun q=>b4 (.inl (R.tb _ q))) Y,r⟩
 refine Bz go fun C L a=>?_;refine kla_eval T ?_;rw[Ns];refine XV t R.base R.glob J L fun f z u pm D At d Y H e=>?_;subst hp hb j;refine Sa _ D (.clo (fun q=>?_) (X4 C pm z u ⟨Y,fun q=>?_,H,a D e⟩)) e
 ·obtain⟨_,vs,n,B⟩:=G f (AA R.base.low At) q;exact As _ (AF (Fm B) At)
 ·obtain⟨_,vs,n,B⟩:=G z d.1 q;refine fN H fun Gt If w Is g I i Lt=>?_;cases g;rw[e.keep _ _ (Cg d.1) B]at I;cases I;cases i
theorem SF(G:Good k A)(R:Cj Z.C F O ρ κ s)(C:(x==("__debug__":Ax))=false)
  (B:∀(M:Model)(A:Bl)(E Q:Ad→AO→Prop),Q (.ref a) s→Af M A (loadName F.env x) Q E s) (D:JY Z k F ρ κ st es ps) (J:∀vs H,DW (F.V O st) H.heap vs ps→D9 Z.C s H→Q (.ref a::vs) H):
  Af (Ar Z.prog Z.w) A (FU (DO pos (B_ (.Name x np::es) F.env))) Q E s:=by
 rw[B9 rfl];show Af _ _ (D4 (.Name x np) F.env>>=fun v=>(pure [v]:Ku (List Ad))>>=fun here=>D3 here (FU (DO pos (B_ es F.env)))>>=fun r=>pure (here++r)) _ _ _;refine AJ (Ed (B _ _ _ _ ?_) C);refine AJ (AX (AJ (BV (D.run A O s pos _ _ G R fun vs L I y=>?_))));exact AX (J _ _ I y)
theorem Rv(R:Cj Z.C F O ρ κ s)(G:O a)(y:D9 Z.C s s₂)
  (B:∀A H C xs' ρ',Step Z.C (fun b=>Tb b∨b=a) s₂ A→A.heap.get? a=some {cls:=.type "list",data:=.seq (BL C) H}→DW (F.W O) A.heap C xs'→Upd ρ x (.own xs') ρ'→Cj Z.C F O ρ' κ A)
  (D:Step Z.C (fun b=>Tb b∨b=a) s₂ A) (I:A.heap.get? a=some {cls:=.type "list",data:=.seq (BL E) H}) (J:DW (F.W O) A.heap E xs') (L:Upd ρ x (.own xs') ρ'):Cj Z.C F O ρ' κ A∧Step Z.C (F.X O) s A:=
 ⟨B _ H E xs' ρ' D I J L,(Step.ofE y).trans (D.mono fun b hb=>hb.elim .inl fun q=>.inr (.inr (q▸G)))⟩
structure Li(Z:Zx)(k:Nat)(F:Fx)(ρ κ:Ci)(e:Aj)(ρ':Ci):Prop where
 ofRun::
 run:
  ∀(A:Bl)(O:AS)(s:AO)(Q:Ad→AO→Prop)(E:Ad→AO→Prop),Good k A→Cj Z.C F O ρ κ s→(∀s',Cj Z.C F O ρ' κ s'→Step Z.C (F.X O) s s'→Q .none s')→Af (Ar Z.prog Z.w) A (D4 e F.env) Q E s
theorem Li.call(hx:(x,.own (xs.map PV.int))∈ρ)(U:F.env.kindOf f=some .globalImplicit)(V:Gl Z.C f g)(W:Fn Z.C g)(N:JY Z k F ρ κ true es ps)
  (hi:Jt Z k g xs ps [] [] xs') (X:Upd ρ x (.own (xs'.map PV.int)) ρ') (hn:autoParam (C0 es=true) ar) (hd:autoParam ((f==("__debug__":Ax))=false) ad):Li Z k F ρ κ (.Call (.Name f p) (.Name x np::es) [] pos) ρ':=.ofRun fun A O s Q E G R Y=>by
 refine a0 (R.mut hx) fun a n ws D c d H I=>?_;refine Jv rfl (EL R U V hd (DG (C:=Z.C) W hn (SF G R (DF (R.nameOk (AC _ hx))) H N fun vs s₂ P y=>⟨(R.ext y).base,?_⟩)));refine Nc (I s₂ y) fun J B L=>?_;refine hi A (F.W O) s₂ a n ws vs [] Q E G (fun b hb=>.inl (R.tb b hb)) (R.ext y).lt (R.ext y).base (.inr (.inr D)) (R.hi a (.inr D)) J B P trivial fun e l h S T M=>?_;refine ER (Rv R D y L S T (M _ _) X) fun i j=>?_;exact Y e i j
theorem Li.callK(hx:(x,.own (xs.map PV.int))∈ρ)(m:F.env.kindOf f=some .globalImplicit)(o:Gl Z.C f (.ref C))(u:Fn Z.C (.ref C))(X:JY Z k F ρ κ true es ps)(Y:ps.all PV.flat=true)
  (t:TabOf c P (Fy kk).qual) (M:F.env.code= .ref c) (w:F.env.qual++"<lambda>"=(Fy kk).qual) (hp:params=(Fy kk).params) (hb:body=(Fy kk).body) (d:scope=(Fy kk).scope) (T:Ug params F.env=([],[])) (At:Ok F ρ κ scope kk cap)
  (hi:Jt Z k (.ref C) xs ps [I] [.clo kk cap] xs') (Gt:Upd ρ x (.own (xs'.map PV.int)) ρ') (hn:autoParam (C0 es=true) ar) (hd:autoParam ((f==("__debug__":Ax))=false) ad):Li Z k F ρ κ (.Call (.Name f p) (.Name x np::es) [⟨some I,.Lambda params body scope e,kp⟩] pos) ρ':=.ofRun fun A O s Q E G R If=>by
 refine a0 (R.mut hx) fun a n ws N Is Lt S D=>?_;have U:129≤a:=R.hi a (.inr N);refine G_ (EL R m o hd ?_);have go:Af (Ar Z.prog Z.w) A (P9 (.ref C) true (DO pos (B_ (.Name x np::es) F.env)) (Di pos (CZ [⟨some I,.Lambda params body scope e,kp⟩] F.env))) (fun r B=>DM Z.C B∧Af (Ar Z.prog Z.w) A (DC (.ref C) ([]++r.pos) r.kw) Q E B) E s:=by
  have L:=SF (st:=true) (np:=np) (pos:=pos) (Q:=fun vs B=>Af (Ar Z.prog Z.w) A (Tg ((Di pos (CZ [⟨some I,.Lambda params body scope e,kp⟩] F.env)).map (·.2))) (fun ks s₂=>DM Z.C s₂∧Af (Ar Z.prog Z.w) A (DC (.ref C) vs (((Di pos (CZ [⟨some I,.Lambda params body scope e,kp⟩] F.env)).filterMap (·.1)).zip ks)) Q E s₂) E B) (E:=E) G R (DF (R.nameOk (AC _ hx))) S X
   fun vs B g y=>bZ (Qc (W':=fun b=>Tb b∨b=a) (R.ext y) (fun b hb=>hb.imp_right fun(q:b=a)=>by subst q;exact⟨.inr (.inr N),_,_,(D B y).1⟩) t M w hp hb d T At fun v s₂ h z=>kws_nil ⟨((R.ext y).ext z).base,by
    refine Nc (D s₂ (y.trans z)) fun H J V=>?_;refine hi A (fun b=>Tb b∨b=a) s₂ a n ws vs [v] Q E G (fun b hb=>.inl hb) (fun b hb=>hb.elim (fun q=>((R.ext y).ext z).lt b (.inl (R.tb b q))) fun(q:b=a)=>by subst q;exact Fm H) ((R.ext y).ext z).base (.inr rfl) U H (J.flat (Pr xs)) (g.flat Y) ⟨h,trivial⟩ fun l n' Ns i j W=>?_;refine ER (Rv R N (y.trans z) V i j (W _ _) Gt) fun Sa av=>?_;exact If l Sa av⟩)
  rw[B9 rfl]at L⊢;exact NR rfl L
 cases u with
 |func bi hd=>exact Ip (B1 go (fun a l h'=>⟨⟨h'.1.objs _ _ bi,hd⟩,h'.2⟩) fun u0 u0 x=>x)
theorem Li.ife(h:PB Z k F ρ κ t c)(hb:c=true→Li Z k F ρ κ b ρ')(I:c=false→Li Z k F ρ κ o ρ'):Li Z k F ρ κ (.IfExp t b o pos) ρ':=.ofRun fun A O s Q E G R J=>
 IfExp_ (h.run A O s _ _ G R fun B x=>by
  have D:=R.ext x;have C:∀H,Cj Z.C F O ρ' κ H→Step Z.C (F.X O) B H→Q .none H:=fun H L y=>J H L ((Step.ofE x).trans y);cases c with
  |true=>exact(hb rfl).run A O B Q E G D C
  |false=>exact(I rfl).run A O B Q E G D C)
theorem P1.ins(h:Li Z k F ρ κ e ρ')(hi:B5 F.env=false)(hs:autoParam (Ju e none B.line F.env=pure false) ar):P1 Z k F ρ κ (.Expr e B) .next ρ':=.ofRun fun A O s Q E G R C=>
 J4 (h.run A O s _ _ G R fun D H x=>C _ D O rfl H x fun I h=>.inl h) hi hs
end
theorem b6(a b:Nat):(a^^^b) % 2+(a &&& b) % 2=(a ||| b) % 2:=by
 have A:(a^^^b) % 2=(a % 2)^^^(b % 2):=Nat.xor_mod_two_pow (n:=1);have B:(a &&& b) % 2=(a % 2) &&& (b % 2):=Nat.and_mod_two_pow (n:=1);have C:(a ||| b) % 2=(a % 2) ||| (b % 2):=Nat.or_mod_two_pow (n:=1);rw[A,B,C];rcases CB a with h|h<;>rcases CB b with g|g<;>rw[h,g]<;>rfl
theorem XR(n a b:Nat)(h:a+b≤n):(a^^^b)+(a &&& b)=a ||| b:=by
 induction n generalizing a b with
 |zero=>
  obtain rfl:=WV.mp (AA (AM a b) h);obtain rfl:=WV.mp (AA (CM b 0) h);rfl
 |succ n A=>
  by_cases B:a+b=0
  ·obtain rfl:=(Y2.mp B).1;obtain rfl:=(Y2.mp B).2;rfl
  have A:=A (a/2) (b/2) (ju h);rw[←Nat.xor_div_two,←Nat.and_div_two,←Nat.or_div_two]at A;rw[←ET (a^^^b) 2,←ET (a &&& b) 2,←ET (a ||| b) 2,Nat.add_add_add_comm,b6,←Jx,A]
theorem Js(a b:Nat):IJ (a:Int) (b:Int)=((a &&& b:Nat):Int):=by
 unfold IJ;rw[decide_eq_true (Qv:(0:Int)≤a),decide_eq_true (Qv:(0:Int)≤b)];rfl
theorem Vs(a b:Nat):a3 (a:Int) (b:Int)=((a ||| b:Nat):Int):=by
 unfold a3 IJ Builtin.bitNot;rw[decide_eq_false (eM:¬(0:Int)≤-a-1),decide_eq_false (eM:¬(0:Int)≤-b-1)];have A:(-(-(a:Int)-1)-1).toNat=a:=eU;have B:(-(-(b:Int)-1)-1).toNat=b:=eU;simp only[A,B];exact gh
theorem IA(a b:Nat):Kv (a:Int) (b:Int)=((a^^^b:Nat):Int):=by
 unfold Kv;rw[Vs,Js];have:=XR (a+b) a b (AK _);exact jv this
noncomputable def M2:List (PyData×PyData):=[(.int 1,.str "OPTIMIZED"),(.int 2,.str "NEWLOCALS"),(.int 4,.str "VARARGS"),(.int 8,.str "VARKEYWORDS"),(.int 16,.str "NESTED"),(.int 32,.str "GENERATOR"),(.int 64,.str "NOFREE"),(.int 128,.str "COROUTINE"),(.int 256,.str "ITERABLE_COROUTINE"),(.int 512,.str "ASYNC_GENERATOR")]
structure Nx(C:Cx):Prop where
 g:Gl C "COMPILER_FLAG_NAMES" (.ref 51)
 tab:∀h,C.objs.In h→∀prog w,IntTab prog w h 51 M2
noncomputable def Lf(n:Nat):Ax:=P_ "0x" 16 n
noncomputable def C_(i:Nat):Ax:=match i with
 |0=>"OPTIMIZED" |1=>"NEWLOCALS" |2=>"VARARGS" |3=>"VARKEYWORDS" |4=>"NESTED" |5=>"GENERATOR" |6=>"NOFREE" |7=>"COROUTINE" |8=>"ITERABLE_COROUTINE" |9=>"ASYNC_GENERATOR"
 |i=>Lf (2^i)
theorem Ve(hi:i<32):(WD (.int ((2^i:Nat):Int)) M2).getD (.str (Lf (2^i)))= .str (C_ i):=
 (List.map_inj_left (f:=fun i=>(WD (.int ((2^i:Nat):Int)) M2).getD (.str (Lf (2^i)))) (g:=fun i=>.str (C_ i)) (l:=AW 32)).mp (by kernel_rfl) i (An.mpr hi)
section
variable{Z:Zx}{k:Nat}{F:Fx}{ρ κ:Ci}{st:Bool}
theorem PE.flagGet(M:Nx Z.C)(T:F.env.kindOf "COMPILER_FLAG_NAMES"=some .globalImplicit) (U:PE Z k F ρ κ false B (.int i)) (V:PE Z k F ρ κ false H (.str d)) (hn:C0 [B,H]=true)
  (hl:(WD (.int i) M2).getD (.str d)= .str y) (b:y.length≤1000000)
  (N:∃pl:Ku Bool,D4 (.Call (.Attribute (.Name "COMPILER_FLAG_NAMES" p) "get" J) [B,H] [] pos) F.env=(do
   let S ←D4 (.Name "COMPILER_FLAG_NAMES" p) F.env
   Hf J.atName
   let (f,first)←D3 [S] (F3 S "get" pl)
   Iq pos f first (DO pos (B_ [B,H] F.env)) []):=by exact⟨_,rfl⟩):PE Z k F ρ κ st (.Call (.Attribute (.Name "COMPILER_FLAG_NAMES" p) "get" J) [B,H] [] pos) (.str y):=.ofRun fun A O s Q E G R W=>by
 refine B8 N fun pl N=>?_;refine HS (pl:=pl) (EL R T M.g dc ?_) N;refine getMethod_intTab_get (D:=M2) (M.tab _ R.base.objs _ _) ?_;have hs:CW B=false∧CW H=false:=by simpa[C0]using hn
 refine DG (C:=Z.C) (.builtin _) hn ((JY.cons (st:=false) U (.cons V .nil hs.2) hs.1).run A O s pos _ _ G R fun vs s₂ P y=>⟨(R.ext y).base,?_⟩);refine Hd P.two fun v u I L X=>?_;subst I;refine B8 L.int_inv fun t I=>?_;subst I;refine B8 X.str_inv fun Y I=>?_;subst I;refine call_get2_intTab (D:=M2) (M.tab _ (R.ext y).base.objs _ _) (PyProof.V.Flat.str d Y) fun v L=>?_;rw[hl]at L;refine B8 L.str_inv fun a I=>?_;subst I;exact W _ _ (.str ..) (y.trans .tok)
end
theorem RV(a:Int)(n:Nat):GN a (n+1)= .int a::GN (a+1) n:=by
 unfold GN;rw[Kh,Ae,BB];congr 1
 ·simp
 ·apply IP;intro i hi;exact congrArg PV.int gY
noncomputable def F_:Nat→Nat→Nat→List Ax
 |0,_,f=> [Lf f]
 |n+1,i,f=>if f.testBit i then(if f^^^2^i=0 then[C_ i] else C_ i::F_ n (i+1) (f^^^2^i)) else F_ n (i+1) f
theorem F_.c1:F_ 0 A f=[Lf f]:=rfl
theorem F_.c2:F_ (n+1) i f=if f.testBit i then(if f^^^2^i=0 then[C_ i] else C_ i::F_ n (i+1) (f^^^2^i)) else F_ n (i+1) f:=rfl
noncomputable def D'(f:Nat):Ax:=Cf ", " (F_ 32 0 f)
theorem X_(hi:i<32):(C_ i).length≤20∧(Lf (2^i)).length≤20:=
 of_decide_eq_true (Al.mp (by kernel_rfl:(AW 32).all (fun i=>decide ((C_ i).length≤20∧(Lf (2^i)).length≤20))=true) i (An.mpr hi))
theorem bH(h:f<2^33)(A:f % 2^32=0):f=0∨f=4294967296:=by
 have q:=ET f (2^32);rw[A]at q;rcases J8.mp (F6 (h:f<2^32*2)) with e|e
 ·rw[dn.mp e]at q;exact .inl q.symm
 ·rw[e]at q;exact .inr q.symm
theorem ZR(h:f<2^33)(hb:∀j<32,f.testBit j=false):(Lf f).length≤20:=by
 have B:f % 2^32=0:=by
  apply DJ;intro j;rw[Tj,Bp];by_cases A:j<32
  ·rw[hb j A];simp
  ·simp[A]
 have:f=0∨f=4294967296:=bH h B;rcases this with h|h<;>subst h<;>exact C7 rfl
theorem aV(f i:Nat):f &&& 2^i=if f.testBit i then 2^i else 0:=by
 apply DJ;intro j;rw[dM,DQ];by_cases h:i=j
 ·subst h;cases hb:f.testBit i
  ·simp
  ·simp
 ·rw[decide_eq_false h,FI];cases f.testBit i
  ·simp
  ·rw[if_pos rfl,DQ,decide_eq_false h]
section
variable{Z:Zx}{k:Nat}{F:Fx}
noncomputable def KS(f:Nat)(ns:Internal.Slot)(i fl:Internal.Slot):Ci:=[("flags",.val (.int (f:Int))),("names",ns),("i",i),("flag",fl)]
noncomputable def Rc:D7:=FQ 1 (Ba (Au 7))
noncomputable def DP(s:D7):Aj:=(SV s).2.2.2.2.2.1
noncomputable def EG(s:D7):List D7:=(SV s).2.2.2.2.1
noncomputable def Xt(s:D7):List D7:=(SV s).2.2.2.1
structure ZA(F:Fx)(C:Cx):Prop where
 sc:F.env.scope=Bu (Au 7)
 fl:Nx C
 hx:Gl C "hex" (.builtin "hex")
 rg:Gl C "range" (.type "range")
theorem ZA.loop(h:ZA F C):ZA (F.loop wr) C:=⟨h.sc,h.fl,h.hx,h.rg⟩
theorem ZA.kind(h:ZA F C)(x:Ax)(hx:(Bu (Au 7)).names.lookup x=some kd):F.env.kindOf x=some kd:=by show F.env.scope.names.lookup _=_;rw[h.sc];exact hx
theorem ZA.inter(h:ZA F C):B5 F.env=false:=by unfold B5;rw[h.sc];rfl
theorem Zd(U:ZA F Z.C):∀(n i f:Nat)(A:List Ax)(Q O:Internal.Slot),i+n=32→f<2^33→(∀j<i,f.testBit j=false)→A.length≤i→
  ∃R H I,Loop Z k F [] (DP Rc) (BW Rc) (EG Rc) (GN i n) (KS f (.own (A.map PV.str)) Q O) .next (KS R (.own ((A++F_ n i f).map PV.str)) H I):=by
 intro W
 induction W with
 |zero=>
  intro i f A Q O hi V hb D;have X:i=32:=hi;subst X;refine X3 f Q O (Loop.done fun wr=>?_);have B:=U.loop (wr:=wr)
  conv=>arg 6;whnf
  unfold KS;refine PS.one (P1.mutate (xs':=(A++F_ 0 32 f).map PV.str) (AD 1 rfl) (.cons (PE.call (B.kind _ rfl) B.hx (.builtin _) (.cons (PE.name (p:=.int f) (AD 0 rfl)) .nil) (Bk.hex (by have:=ZR V hb;unfold Lf at this;rw[Ay];exact AA this dc))) .nil) ?_ (Ah 1 rfl) rfl B.inter);have:=Fb.append (Z:=Z) (k:=k) (xs:=A.map PV.str) (p:=.str (Lf f)) (by rw[AH];exact AA D dc)
  rwa [(by simp[F_.c1,F_.c2]:(A++F_ 0 32 f).map PV.str=A.map PV.str++ [.str (Lf f)])]
 |succ n e=>
  intro i f A Q O hi V hb D;rw[RV];have J:i<32:=AF (BZ (Bx _)) (BC hi);have E:Bind (DP Rc) (.int i) (KS f (.own (A.map PV.str)) Q O) (KS f (.own (A.map PV.str)) (.val (.int i)) O):=.name (Ah 2 rfl);have L:=X_ J;have Y:(1:Int)*2^(i:Int).toNat=((2^i:Nat):Int):=by simp
  have S:=aV f i;have T:0<2^i:=Gq i;have G:∀(P:Fx)(ns:Internal.Slot){p1 m o:JE},PB Z k P (KS f ns (.val (.int i)) (.val (.int ((2^i:Nat):Int)))) [] (.BinOp (.Name "flags" p1) .BitAnd (.Name "flag" m) o) (f.testBit i):=fun P ns g g g=>by
   unfold KS;refine PB.of (PB.plain (PE.band (PE.name (p:=.int f) (AD 0 rfl)) (PE.name (p:=.int ((2^i:Nat):Int)) (AD 3 rfl))) I3.int (by intro _ _;rfl)) ?_;rw[Js,S];cases f.testBit i
   ·rfl
   ·simp only[if_true,bne_iff_ne,ne_eq];exact ja T
  cases C:f.testBit i with
  |false=>
   have N:∀j<i+1,f.testBit j=false:=fun j c=>by
    rcases J8.mp c with h|h
    ·exact hb j h
    ·rw[h];exact C
   refine WQ (e (i+1) f A (.val (.int i)) (.val (.int ((2^i:Nat):Int))) (ao hi) V N (A_ D)) fun R H I hl=>?_;refine X3 R H I (.next (ρ₂:=KS f (.own (A.map PV.str)) (.val (.int i)) (.val (.int ((2^i:Nat):Int)))) E (fun wr=>?_) ?_)
   rotate_right
   ·rw[show F_ (n+1) i f=F_ n (i+1) f by rw[F_.c2,C];rfl];exact hl
   have B:=U.loop (wr:=wr)
   conv=>arg 6;whnf
   refine PS.cons (P1.assign (p:=.int ((2^i:Nat):Int)) ((PE.shl PE.cint (PE.name (p:=.int i) (AD 2 rfl)) (c_ hi) (c' hi) dc).of (by rw[Y])) (Ah 3 rfl)) ?_;refine PS.one (P1.ifF ((G _ _).of C) PS.nil)
  |true=>
   have N:∀j<i+1,(f^^^2^i).testBit j=false:=fun j c=>by
    rw[DK,DQ];rcases J8.mp c with h|h
    ·rw[hb j h,decide_eq_false (CU h)];rfl
    ·rw[h,C,decide_eq_true rfl];rfl
   have d:f^^^2^i<2^33:=Gy V (WU dc (Fw (AA (AM _ _) (BC hi))));have l:P1 Z k F [] [] (.Pass ⟨0,0,0,0⟩) .next []:=P1.pass;have M:∀(P:Fx)(B:ZA P Z.C),P1 Z k P (KS f (.own (A.map PV.str)) (.val (.int i)) (.val (.int ((2^i:Nat):Int)))) [] (FQ 0 (Xt (FQ 1 (BW Rc)))) .next (KS f (.own ((A++ [C_ i]).map PV.str)) (.val (.int i)) (.val (.int ((2^i:Nat):Int)))):=fun P B=>by
    conv=>arg 6;whnf
    unfold KS;refine P1.mutate (AD 1 rfl) (.cons (PE.flagGet B.fl (B.kind _ rfl) (PE.name (p:=.int ((2^i:Nat):Int)) (AD 3 rfl)) (PE.call (B.kind _ rfl) B.hx (.builtin _) (.cons (PE.name (p:=.int ((2^i:Nat):Int)) (AD 3 rfl)) .nil) (Bk.hex (by have:=L.2;unfold Lf at this;rw[Ay];exact AA this dc))) rfl (Ve J) (AA L.1 dc)) .nil) ?_ (Ah 1 rfl) rfl B.inter;have:=Fb.append (Z:=Z) (k:=k) (xs:=A.map PV.str) (p:=.str (C_ i)) (by rw[AH];exact AA D (AA (AM _ _) (AA (BC hi) dc)))
    rwa [(by simp:(A++ [C_ i]).map PV.str=A.map PV.str++ [.str (C_ i)])]
   by_cases hz:f^^^2^i=0
   ·refine X3 (f^^^2^i) (.val (.int i)) (.val (.int ((2^i:Nat):Int))) (.brk E fun wr=>?_);have B:=U.loop (wr:=wr);rw[show F_ (n+1) i f=[C_ i] by rw[F_.c2,C,hz];rfl]
    conv=>arg 6;whnf
    refine PS.cons (P1.assign (p:=.int ((2^i:Nat):Int)) ((PE.shl PE.cint (PE.name (p:=.int i) (AD 2 rfl)) (c_ hi) (c' hi) dc).of (by rw[Y])) (Ah 3 rfl)) ?_;refine PS.one (P1.ifT ((G _ _).of C) (PS.cons (M _ B) ?_));refine PS.cons (P1.augXor (a:=f) (b:=((2^i:Nat):Int)) (AD 0 rfl) (PE.name (AD 3 rfl)) (ρ':=KS (f^^^2^i) _ _ _) (by rw[IA];exact Ah 0 rfl)) ?_;refine PS.one (P1.ifT (PB.of (PB.not (PB.plain (PE.name (p:=.int ((f^^^2^i:Nat):Int)) (AD 0 rfl)) I3.int (by intro _ _;rfl))) (by rw[hz];rfl)) ?_);exact PS.one P1.brk
   ·refine WQ (e (i+1) (f^^^2^i) (A++ [C_ i]) (.val (.int i)) (.val (.int ((2^i:Nat):Int))) (ao hi) d N (by rw[AQ];exact BS D)) fun R H I hl=>?_;refine X3 R H I (.next (ρ₂:=KS (f^^^2^i) (.own ((A++ [C_ i]).map PV.str)) (.val (.int i)) (.val (.int ((2^i:Nat):Int)))) E (fun wr=>?_) ?_)
    rotate_right
    ·rw[show A++F_ (n+1) i f=A++ [C_ i]++F_ n (i+1) (f^^^2^i) by rw[F_.c2,C,if_pos rfl,if_neg hz];simp];exact hl
    have B:=U.loop (wr:=wr)
    conv=>arg 6;whnf
    refine PS.cons (P1.assign (p:=.int ((2^i:Nat):Int)) ((PE.shl PE.cint (PE.name (p:=.int i) (AD 2 rfl)) (c_ hi) (c' hi) dc).of (by rw[Y])) (Ah 3 rfl)) ?_;refine PS.one (P1.ifT ((G _ _).of C) (PS.cons (M _ B) ?_));refine PS.cons (P1.augXor (a:=f) (b:=((2^i:Nat):Int)) (AD 0 rfl) (PE.name (AD 3 rfl)) (ρ':=KS (f^^^2^i) _ _ _) (by rw[IA];exact Ah 0 rfl)) ?_;refine PS.one (P1.ifF (PB.of (PB.not (PB.plain (PE.name (p:=.int ((f^^^2^i:Nat):Int)) (AD 0 rfl)) I3.int (by intro _ _;rfl))) ?_) PS.nil);simp only[Y8,bne_iff_ne,ne_eq];exact Vz hz
end
structure J2(C:Cx)(i:Nat)(a:Ch)(fd:Dc):Prop where
 t:K6 C i a fd
 df:fd.defaults= .none
 kd:fd.kwdefaults= .none
noncomputable def LR(ps:List PV):List Internal.Slot:=ps.map .val
noncomputable def T7(sc:Scope)(ns:List Ax):Bool:=ns.all fun x=>(sc.names.lookup x==some .local || sc.names.lookup x==some .cell) && Internal.nameOk x
section
variable{Z:Zx}{k:Nat}
theorem US:∀{ns:List Ax}{vs:List Ad}{ps:List PV},DW W h vs ps→V' h W (ns.zip vs) (ns.zip (LR ps))
 |[],vs,ps,_=>trivial
 |n::ns,[],[],_=>trivial
 |n::ns,v::vs,p::ps,⟨a,b⟩=>⟨rfl,a,US b⟩
 |_::_,[],_::_,x=>x.elim
 |_::_,_::_,[],x=>x.elim
theorem Wg{ns:List Ax}(h:ps.length=ns.length):(ns.zip (LR ps)).map (·.1)=ns:=by
 rw[(rfl:(fun x:Ax×Internal.Slot=>x.1)=WG),List.map_fst_zip];simp[LR,h]
theorem Bk.fnS{i:Nat}{a:Ch}{fd:Dc}(T:J2 Z.C i a fd)(ns un:List Ax)(hl:ps.length=ns.length)(L:(Bu (Au i)).isGenerator=false)
  (hb:∀vs:List Ad,vs.length=ns.length→Ir fd ⟨vs,[]⟩=pure (ns.zip vs)) (S:T7 (Bu (Au i)) (ns++un)=true) (U:(ns++un).Nodup)
  (V:∀F:Fx,F.env.scope=Bu (Au i)→F.env.code=fd.code→F.env.qual=fd.qualname++".<locals>."→Dq Z k F (ns.zip (LR ps)++un.map fun x=>(x,Internal.Slot.unb)) [] (Ba (Au i)) (.ret res)):Bk Z (k+1) (.ref a) ps [] [] res:=fun A W s vs X Q E G l Y B M j m=>by
 have N:vs.length=ns.length:=M.length.trans hl;have D:(ns.zip (LR ps)++un.map fun x=>(x,Internal.Slot.unb)).map (·.1)=ns++un:=by
  rw[Ac,Wg hl,BB];congr 1;exact List.map_id _
 have H:∀x sl,(x,sl)∈ns.zip (LR ps)++(un.map fun x=>(x,Internal.Slot.unb))→(fd.scope.names.lookup x=some .local∨fd.scope.names.lookup x=some .cell)∧Internal.nameOk x=true:=fun x sl hx=>by
  have n:x∈ns++un:=D▸CY (f:=fun q:Ax×Internal.Slot=>q.1) hx;have:=Al.mp S x n;rw[T.t.sc];simpa using this
 have c:([]:List Ax).zip X=[]:=by rfl
 refine IF (M4 (bs:=ns.zip (LR ps)) (us:=un.map fun x=>(x,Internal.Slot.unb)) (binds:=ns.zip vs) G B T.t.ok (by rw[T.t.sc];exact L) l Y (by rw[c];exact .of_eq (hb vs N)) (US M) (fun y sl d=>?_) (fun y sl d=>(H y sl d).1) (by rw[D];exact U) (Al.mpr fun p hp=>(H p.1 p.2 hp).2) fun F o r I g t O R e If=>?_)
 ·refine Bz (AU.mp d) fun x _ e=>?_;cases e;rfl
 ·subst g;refine B8 (V F (I.scope.trans T.t.sc) I.code I.qual) fun ρ' h=>?_;refine B1 (h.run r _ o (fun f C=>∃v,VR F.U C.heap v res∧D9 Z.C s C∧v=(match f with|.ret v=>v|_=>.none)) _ t R fun f C O' P Is y u=>?_) (fun f C h=>?_) fun w w h=>h
  ·refine Bz P fun v J z=>?_;subst J;exact⟨v,z,e.comp y fun b hb=>hb.elim .inl fun q=>q.elim (fun q=>.inr (O b q)) fun q=>q.elim,rfl⟩
  ·refine K8 h fun v At Gt J=>?_;subst J;exact m _ C At Gt
theorem J2.bind(T:J2 C i a fd)(h:∀A:Dc,Ir {A with params:=Kq (Au i),defaults:=.none,kwdefaults:=.none} args=pure r):Ir fd args=pure r:=by
 have e:fd={fd with params:=Kq (Au i),defaults:=.none,kwdefaults:=.none}:=by
  obtain⟨F,B,D⟩:=T;obtain⟨G,H,E⟩:=F;cases fd;simp only at B D E;subst B D E;rfl
 rw[e];exact h fd
theorem T2(T:J2 Z.C 7 a fd)(A:Nx Z.C)(hx:Gl Z.C "hex" (.builtin "hex")) (hr:Gl Z.C "range" (.type "range")) (G:f<2^33) (B:dh ", " (F_ 32 0 f)=true):Bk Z (k+1) (.ref a) [.int f] [] [] (.str (D' f)):=by
 refine Bk.fnS T ["flags"] ["names","i","flag"] rfl rfl (fun vs H=>?_) rfl dc fun F C I I=>?_
 ·refine B8 (b' H) fun v D=>?_;subst D;exact T.bind fun J=>rfl
 ·have E:ZA F Z.C:=⟨C,A,hx,hr⟩;show Dq Z k F (KS f .unb .unb .unb) [] _ _
  conv=>arg 6;whnf
  refine WQ (Zd (k:=k) E 32 0 f [] .unb .unb rfl G (fun j B=>absurd B (K9 _)) (AK _)) fun N L M hl=>?_;rw[Br]at hl;refine Dq.cons (ρ₁:=KS f (.own []) .unb .unb) (P1.assignOwn (PO.list .nil) (Ah 1 rfl)) ?_;refine Dq.cons (P1.for (PI.range1 (E.kind _ rfl) hr (n:=32) (PE.cint (i:=((32:Nat):Int))) dc) rfl hl) ?_;unfold KS;exact Dq.stop (P1.ret (PE.meth (st:=false) PE.cstr (.cons (PE.nameO (xs:=(F_ 32 0 f).map PV.str) (AD 1 rfl)) .nil) (Dh.join B)))
end
open Builtin Builtin.Str
section
variable{prog:IZ}{w:P'}{A:Bl}{E:Ad→AO→Prop}{s:AO}{x:Ax}{t:Tok}{Q:Ad→AO→Prop}
theorem Uv(C:x.length≤Ey)(B:(spaceWords x (x.length+1)).length≤Ey)
  (h:∀l D,s.toks≤D→l.map (·.1)=Ox x→Q (.ref s.heap.objs.size) {s with toks:=D,heap:=s.heap.push {cls:=.type "list",data:=.seq (HP l).toArray}}):Af (Ar prog w) A (call (.builtin "str.split") [.str x t]) Q E s:=by
 refine Ee ES (IG _ _ _) Gb (PySem.F.args_str_split_1 _) (meets_str_split_space x t C B) ?_;cases F:spaceWords x (x.length+1)==[(0,x.length)]
 ·simp only[Gv,if_false];rw[strsFrom_eq];exact h (bR s.toks (PySem.wordsOf x)) _ (AM _ _) ((numbered_texts _ _).trans (if_neg (ne_true_of_eq_false F)).symm)
 ·simp only[if_true];exact h [(x,t)] _ (AK _) (if_pos F).symm
theorem U8(H:(y.length==0)=false)(F:x.length≤Ey)(C:(partsBetween x (occurrences x y 0 x.length (x.length+1)) y.length).length≤Ey)
  (G:∀l I,s.toks≤I→l.map (·.1)=CI x y→Q (.ref s.heap.objs.size) {s with toks:=I,heap:=s.heap.push {cls:=.type "list",data:=.seq (HP l).toArray}}):Af (Ar prog w) A (call (.builtin "str.split") [.str x t,.str y u]) Q E s:=by
 cases B:(decide (x.length<y.length) || decide (strKind x<strKind y))
 ·cases D:(occurrences x y 0 x.length (x.length+1)).isEmpty
  ·refine Ee ES (IG _ _ _) Gb (JF _ _) (meets_str_split_sep x y t u B H D F C) ?_;show wants Q E _ {s with toks:=_,heap:=s.heap.push {cls:=.type "list",data:=.seq (strsFrom s.toks (partsBetween x (occurrences x y 0 x.length (x.length+1)) y.length)).toArray}};rw[strsFrom_eq];exact G (bR s.toks _) _ (AM _ _) ((numbered_texts _ _).trans ((if_neg (ne_true_of_eq_false B)).trans (if_neg (ne_true_of_eq_false D))).symm)
  ·exact Ee ES (IG _ _ _) Gb (JF _ _) (meets_str_split_not_found x y t u B H D)
    (G [(x,t)] _ (AK _) ((if_neg (ne_true_of_eq_false B)).trans (if_pos D)).symm)
 ·exact Ee ES (IG _ _ _) Gb (JF _ _) (meets_str_split_cannot_occur x y t u B)
   (G [(x,t)] _ (AK _) (if_pos B).symm)
end
section
variable{Z:Zx}{k:Nat}{F:Fx}{ρ κ:Ci}{st:Bool}
theorem PF.split(V:PE Z k F ρ κ false o (.str x))(J:PE Z k F ρ κ false e (.str y))(W:y.length≠0)(L:x.length≤1000000)(H:(partsBetween x (occurrences x y 0 x.length (x.length+1)) y.length).length≤2000000)(hn:autoParam (C0 [e]=true) ar)
  (M:∃pl:Ku Bool,D4 (.Call (.Attribute o "split" D) [e] [] pos) F.env=(do
   let T ←D4 o F.env
   Hf D.atName
   let (f,first)←D3 [T] (F3 T "split" pl)
   Iq pos f first (DO pos (B_ [e] F.env)) []):=by exact⟨_,rfl⟩):PF Z k F ρ κ st (.Call (.Attribute o "split" D) [e] [] pos) ((CI x y).map PV.str):=.ofRun fun A O s Q E G R X=>by
 refine B8 M fun pl M=>?_;refine HS (pl:=pl) (V.run A O s _ _ G R fun v I U z=>F' ES RB U ?_) M;refine DG (C:=Z.C) (.builtin _) hn ((JY.cons (st:=false) J .nil (by simpa[C0]using hn)).run A O I pos _ _ G (R.ext z) fun vs s₂ N P=>⟨((R.ext z).ext P).base,?_⟩);refine Bz N.one fun u B Y=>?_;subst B;refine B8 U.str_inv fun t B=>?_;subst B;refine B8 Y.str_inv fun a B=>?_;subst B;refine U8 (by simpa using W) (by rw[Ay];exact O9 L) (by rw[Ay];exact AA H dc) fun l tk S hl=>?_;refine X _ 0 (HP l) _ (z.trans P).size (A4 _ rfl) ?_ ((z.trans P).trans (.push S));rw[←hl];exact TD l
theorem PF.words(U:PE Z k F ρ κ false o (.str x))(I:x.length≤1000000)(D:(spaceWords x (x.length+1)).length≤2000000)
  (J:∃pl:Ku Bool,D4 (.Call (.Attribute o "split" B) [] [] pos) F.env=(do
   let S ←D4 o F.env
   Hf B.atName
   let (f,first)←D3 [S] (F3 S "split" pl)
   Iq pos f first (DO pos (B_ [] F.env)) []):=by exact⟨_,rfl⟩):PF Z k F ρ κ st (.Call (.Attribute o "split" B) [] [] pos) ((Ox x).map PV.str):=.ofRun fun A O s Q E G R V=>by
 refine B8 J fun pl J=>?_;refine HS (pl:=pl) (U.run A O s _ _ G R fun v H T z=>F' ES RB T ?_) J;refine DG (C:=Z.C) (.builtin _) rfl (JY.nil.run (st:=false) A O H pos _ _ G (R.ext z) fun vs s₂ L M=>⟨((R.ext z).ext M).base,?_⟩);obtain rfl:=L.l0;refine B8 T.str_inv fun t N=>?_;subst N;refine Uv (by rw[Ay];exact O9 I) (by rw[Ay];exact AA D dc) fun l tk P hl=>?_;refine V _ 0 (HP l) _ (z.trans M).size (A4 _ rfl) ?_ ((z.trans M).trans (.push P));rw[←hl];exact TD l
theorem PF.signs(P:F.env.kindOf x=some .globalImplicit)(S:Gl Z.C x (.type "list")) (h:PE Z k F ρ κ false e (.str y)) (hz:y.length≤1000000) (hs:autoParam (CW e=false) ar) (hd:autoParam ((x==("__debug__":Ax))=false) ad):
  PF Z k F ρ κ st (.Call (.Name x p) [e] [] pos) (Cm y):=.ofRun fun A O s Q E G R T=>MZ R P S hd hs (h.run A O s _ _ G R fun v B L z=>by
 refine B8 L.str_inv fun t D=>?_;subst D;refine CG (call_list_str G.handled y t (fun h' tk M U H I C u=>?_) (by have:y.cps.size=y.length:=rfl;rw[Ay];exact this▸AA hz dc));have J:D9 Z.C B {B with heap:=h',toks:=tk}:=.keeps H u.1 u.2;refine T _ U M.toList _ z.size (by simpa using I) (DW.of_at ?_ fun i v p L hp=>?_) (z.trans J)
 ·rw[E4];simpa using C.1
 ·refine K7 (C.2 i v (by simpa using L)) fun c u V D=>?_;subst D;unfold Cm at hp;rw[BD]at hp;have N:y.cps.toList[i]?=some c:=by simpa using V
  rw[N]at hp;cases hp;exact .str ..)
end
noncomputable def Bv:Ax:="..."
noncomputable def DT:List Ax→Ax→Int→Int→Bool
 |[],_,_,_=>true
 |w::ws,A,s,e=>if find4 A w s e<0 then false else DT ws A (find4 A w s e+w.length) e
theorem DT.c1:DT [] A B C=true:=rfl
theorem DT.c2:DT (w::ws) A s e=if find4 A w s e<0 then false else DT ws A (find4 A w s e+w.length) e:=rfl
noncomputable def Hp(ws:List Ax)(A:Ax)(st:Int):Bool:=
 let w:=ws.getLast?.getD Ai
 if w.length=0 then(if st>A.length then false else DT ws A st A.length)
 else if Kt A w then(if st>(A.length:Int)-w.length then false else DT ws.dropLast A st ((A.length:Int)-w.length)) else false
noncomputable def Ik(ws:List Ax)(A:Ax):Bool:=
 let w:=ws.headD Ai
 if w.length=0 then Hp ws A 0 else if G' A w then Hp ws.tail A w.length else false
noncomputable def Hq(want A:Ax):Bool:=if B6 want Bv then Ik (CI want Bv) A else want==A
section
variable{Z:Zx}{k:Nat}{F:Fx}
noncomputable def IU(want A:Ax)(ws B C w:Internal.Slot):Ci:=[("want",.val (.str want)),("got",.val (.str A)),("ws",ws),("startpos",B),("endpos",C),("w",w)]
noncomputable def UM:D7:=FQ 9 (Ba (Au 10))
structure ZC(F:Fx)(C:Cx):Prop where
 sc:F.env.scope=Bu (Au 10)
 dt:∃t,Gl C "ELLIPSIS_MARKER" (.str Bv t)
 ln:Gl C "len" (.builtin "len")
theorem ZC.loop(h:ZC F C):ZC (F.loop wr) C:=⟨h.sc,h.dt,h.ln⟩
theorem ZC.kind(h:ZC F C)(x:Ax)(hx:(Bu (Au 10)).names.lookup x=some kd):F.env.kindOf x=some kd:=by show F.env.scope.names.lookup _=_;rw[h.sc];exact hx
theorem aG(M:ZC F Z.C)(P:A.length≤1000000):∀(ws:List Ax)(C B:Int)(H:Internal.Slot),(∀w∈ws,w.length≤1000000)→
  ∃ρ',Loop Z k F [] (DP UM) (BW UM) (EG UM) (ws.map PV.str) (IU want A ls (.val (.int C)) (.val (.int B)) H) (if DT ws A C B then .next else .ret (.bool false)) ρ':=by
 intro I
 induction I with
 |nil=>
  intro C B H J;exact⟨_,.done fun wr=>PS.nil⟩
 |cons w ws N=>
  intro C B H J;have L:=J w AB;have E:Bind (DP UM) (.str w) (IU want A ls (.val (.int C)) (.val (.int B)) H) (IU want A ls (.val (.int C)) (.val (.int B)) (.val (.str w))):=.name (Ah 5 rfl);by_cases D:find4 A w C B<0
  ·rw[(by rw[DT.c2,if_pos D]:DT (w::ws) A C B=false),if_neg dc];refine⟨IU want A ls (.val (.int (find4 A w C B))) (.val (.int B)) (.val (.str w)),.ret E fun wr=>?_⟩
   conv=>arg 6;whnf
   refine PS.cons (ρ₁:=IU want A ls (.val (.int (find4 A w C B))) (.val (.int B)) (.val (.str w))) (P1.assign (PE.up (PE.meth (PE.name (p:=.str A) (AD 1 rfl)) (.cons (PE.name (p:=.str w) (AD 5 rfl)) (.cons (PE.name (p:=.int C) (AD 3 rfl)) (.cons (PE.name (p:=.int B) (AD 4 rfl)) .nil))) Dh.find4)) (Ah 3 rfl)) ?_;exact PS.stop (P1.ifT (PB.of (PB.cmp (PE.name (p:=.int (find4 A w C B)) (AD 3 rfl)) PE.cint C5.ltI) (decide_eq_true D)) (PS.one (P1.ret PE.cbool))) (by intro h;cases h)
  ·rw[(by rw[DT.c2,if_neg D]:DT (w::ws) A C B=DT ws A (find4 A w C B+w.length) B)];refine B8 (N (find4 A w C B+w.length) B (.val (.str w)) fun v O=>J v (AG _ O)) fun ρ' hl=>?_;refine⟨ρ',.next E (fun wr=>?_) hl⟩;have G:=M.loop (wr:=wr)
   conv=>arg 6;whnf
   refine PS.cons (ρ₁:=IU want A ls (.val (.int (find4 A w C B))) (.val (.int B)) (.val (.str w))) (P1.assign (PE.up (PE.meth (PE.name (p:=.str A) (AD 1 rfl)) (.cons (PE.name (p:=.str w) (AD 5 rfl)) (.cons (PE.name (p:=.int C) (AD 3 rfl)) (.cons (PE.name (p:=.int B) (AD 4 rfl)) .nil))) Dh.find4)) (Ah 3 rfl)) ?_;refine PS.cons (P1.ifF (PB.of (PB.cmp (PE.name (p:=.int (find4 A w C B)) (AD 3 rfl)) PE.cint C5.ltI) (decide_eq_false D)) PS.nil) ?_;exact PS.one (P1.augAdd (a:=find4 A w C B) (b:=w.length) (AD 3 rfl) (PE.call (G.kind _ rfl) G.ln (.builtin _) (.cons (PE.name (p:=.str w) (AD 5 rfl)) .nil) (Bk.lenS L)) (Ah 3 rfl))
theorem Dq.ofX(h:∃ρ',P1 Z k F ρ κ t (if c then .next else .ret p) ρ')(hs:c=true→∀ρ',Dq Z k F ρ' κ A fl)(hr:c=false→fl= .ret p):Dq Z k F ρ κ (t::A) fl:=by
 refine B8 h fun ρ' h=>?_;cases c with
 |true=>exact Dq.cons h (hs rfl ρ')
 |false=>rw[hr rfl];exact Dq.stop h
theorem YF(G:ZC F Z.C)(H:A.length≤1000000)(ws:List Ax)(B C:Int)(E:Internal.Slot)(I:∀w∈ws,w.length≤1000000)(hz:ws.length≤1000000)(c:Bool)(D:c=if B>C then false else DT ws A B C):
  Dq Z k F (IU want A (.own (ws.map PV.str)) (.val (.int B)) (.val (.int C)) E) [] ((Ba (Au 10)).drop 8) (.ret (.bool c)):=by
 subst D
 conv=>arg 6;whnf
 by_cases h:B>C
 ·rw[if_pos h];exact Dq.stop (P1.ifT (PB.of (PB.cmp (PE.name (p:=.int B) (AD 3 rfl)) (PE.name (p:=.int C) (AD 4 rfl)) C5.gtI) (decide_eq_true h)) (PS.one (P1.ret PE.cbool)))
 ·rw[if_neg h];refine Dq.cons (P1.ifF (PB.of (PB.cmp (PE.name (p:=.int B) (AD 3 rfl)) (PE.name (p:=.int C) (AD 4 rfl)) C5.gtI) (decide_eq_false h)) PS.nil) ?_;refine Dq.freeze (x:="ws") (xs:=ws.map PV.str) (ρ₁:=IU want A (.val (.list (ws.map PV.str))) (.val (.int B)) (.val (.int C)) E) (AD 2 rfl) (Ah 2 rfl) ?_;refine B8 (aG (k:=k) G H (want:=want) (ls:=.val (.list (ws.map PV.str))) ws B C E I) fun ρ' hl=>?_;refine Dq.ofX (c:=DT ws A B C) (p:=.bool false) ⟨ρ',P1.for (PI.list (PC.list (PE.name (p:=.list (ws.map PV.str)) (AD 2 rfl)))) rfl hl (by cases DT ws A B C<;>intro h<;>cases h)⟩ (fun D ρ'=>?_) fun D=>by rw[D]
  rw[D];exact Dq.stop (P1.ret PE.cbool)
end
theorem MR(f:A→B):∀(xs:List A)(i:Nat),(xs.map f).eraseIdx i=(xs.eraseIdx i).map f
 |[],i=>by rfl
 |x::xs,0=>rfl
 |x::xs,i+1=>by simp only[Ae,Sp,MR f xs i]
theorem LF:∀(xs:List A),xs.eraseIdx (xs.length-1)=xs.dropLast
 |[]=>rfl
 |[x]=>rfl
 |x::y::xs=>by
  have:=LF (y::xs);simp only[AP,JJ]at this⊢;rw[Sp,this];rfl
theorem Xj(h:ws≠ []):(ws.map PV.str)[ws.length-1]?=some (.str (ws.getLast?.getD Ai)):=by
 rw[BD,←JW];cases hl:ws.getLast? with
 |none=>exact absurd (RD.mp hl) h
 |some w=>rfl
theorem Xi(h:ws≠ []):ws.getLast?.getD Ai∈ws:=by
 cases hl:ws.getLast? with
 |none=>exact absurd (RD.mp hl) h
 |some w=>exact List.mem_of_getLast? hl
theorem VJ(h:n≠0):Db (-1) n=some (n-1):=by
 unfold Db;obtain⟨m,rfl⟩:∃m,n=m+1:=⟨n-1,(Cc (Cd h)).symm⟩;have A:(-1:Int)<0:=gN;have B:(-1:Int)+((m+1:Nat):Int)=(m:Int):=gc;simp only[A,B,if_true];have C:¬(m:Int)<0:=SI;simp[C]
 try exact L1 _
theorem IV.val(h:Upd ρ x (.val p) ρ₁)(hs:IV ρ₁ l ρ'):IV ρ ((x,.val p)::l) ρ':=.cons h hs
theorem IV.own(h:Upd ρ x (.own p) ρ₁)(hs:IV ρ₁ l ρ'):IV ρ ((x,.own p)::l) ρ':=.cons h hs
theorem EZ(h:env.scope=sc)(e:∀A:Ti,IX B v {A with scope:=sc}=r):IX B v env=r:=by
 have:env={env with scope:=sc}:=by cases env;simp only at h;subst h;rfl
 rw[this];exact e env
section
variable{Z:Zx}{k:Nat}{F:Fx}
theorem UL(J:ZC F Z.C)(N:A.length≤1000000)(ws:List Ax)(D:Int)(O:Internal.Slot)(L:∀w∈ws,w.length≤1000000)(hz:ws.length≤1000000)(G:ws≠ [])(c:Bool)(P:c=Hp ws A D):
  Dq Z k F (IU want A (.own (ws.map PV.str)) (.val (.int D)) (.val (.int A.length)) O) [] ((Ba (Au 10)).drop 6) (.ret (.bool c)):=by
 subst P;have M:ws.length≠0:=fun h=>G (Gz.mp h);have E:Db (-1) (ws.map PV.str).length=some (ws.length-1):=by rw[AH];exact VJ M
 have I:=Xi G;have C:=L _ I
 conv=>arg 6;whnf
 refine Dq.cons (ρ₁:=IU want A (.own (ws.map PV.str)) (.val (.int D)) (.val (.int A.length)) (.val (.str ((ws.getLast?.getD Ai))))) (P1.assign (PE.up (PE.itemL (PE.nameO (AD 2 rfl)) (PE.neg PE.cint) E (Xj G) (by rw[AH];exact hz))) (Ah 5 rfl)) ?_;unfold Hp;generalize Q:ws.getLast?.getD Ai=w at*;by_cases H:w.length=0
 ·simp only[H,if_true];refine Dq.cons (P1.ifF (PB.of (PB.plain (PE.name (p:=.str w) (AD 5 rfl)) (I3.str C)) (by rw[H];rfl)) PS.nil) ?_;exact YF J N ws D _ _ L hz _ rfl
 ·simp only[H,if_false];have R:PB Z k F (IU want A (.own (ws.map PV.str)) (.val (.int D)) (.val (.int A.length)) (.val (.str w))) [] (.Name "w" ⟨84,7,84,8⟩) true:=by
   refine PB.of (PB.plain (PE.name (p:=.str w) (AD 5 rfl)) (I3.str C)) ?_;simp only[bne_iff_ne,ne_eq];exact Vz H
  by_cases B:Kt A w=true
  ·rw[if_pos B];refine Dq.cons (ρ₁:=IU want A (.own (ws.dropLast.map PV.str)) (.val (.int D)) (.val (.int ((A.length:Int)-w.length))) (.val (.str w))) (P1.ifT (PB.of (PB.plain (PE.name (p:=.str w) (AD 5 rfl)) (I3.str C)) (by simp only[bne_iff_ne,ne_eq];exact Vz H)) (PS.one (P1.ifT (PB.of (PB.plain (PE.meth (PE.name (p:=.str A) (AD 1 rfl)) (.cons (PE.name (p:=.str w) (AD 5 rfl)) .nil) Dh.endswith) I3.bool) B) (PS.cons (ρ₁:=IU want A (.own (ws.map PV.str)) (.val (.int D)) (.val (.int ((A.length:Int)-w.length))) (.val (.str w))) (P1.augSub (a:=A.length) (b:=w.length) (AD 4 rfl) (PE.call (J.kind _ rfl) J.ln (.builtin _) (.cons (PE.name (p:=.str w) (AD 5 rfl)) .nil) (Bk.lenS C)) (Ah 4 rfl)) (PS.one (P1.del (AD 2 rfl) (PE.neg PE.cint) E (by rw[AH];exact hz) ?_)))))) ?_
   ·rw[MR,LF];exact Ah 2 rfl
   ·exact YF J N ws.dropLast D _ _ (fun v S=>L v (List.dropLast_subset ws S)) (by rw[List.length_dropLast];exact AA (EF _ _) hz) _ rfl
  ·rw[if_neg B];refine Dq.stop (P1.ifT (PB.of (PB.plain (PE.name (p:=.str w) (AD 5 rfl)) (I3.str C)) (by simp only[bne_iff_ne,ne_eq];exact Vz H)) (PS.one (P1.ifF (PB.of (PB.plain (PE.meth (PE.name (p:=.str A) (AD 1 rfl)) (.cons (PE.name (p:=.str w) (AD 5 rfl)) .nil) Dh.endswith) I3.bool) (by simpa using B)) (PS.one (P1.ret PE.cbool)))))
theorem aF(B:ZC F Z.C)(H:A.length≤1000000)(ws:List Ax)(M N O:Internal.Slot)(I:∀w∈ws,w.length≤1000000)(hz:ws.length≤1000000)(J:2≤ws.length):
  Dq Z k F (IU want A (.own (ws.map PV.str)) .unb .unb .unb) [] ((Ba (Au 10)).drop 2) (.ret (.bool (Ik ws A))):=by
 conv=>arg 6;whnf
 have E:Bk Z k (.builtin "len") [.list (ws.map PV.str)] [] [] (.int ws.length):=by
  have:=Bk.lenL (Z:=Z) (k:=k) (xs:=ws.map PV.str) (by rw[AH];exact hz)
  rwa [AH]at this
 refine Dq.cons (P1.asrt (PB.of (PB.cmp (PE.call (B.kind _ rfl) B.ln (.builtin _) (.cons (PE.nameO (xs:=ws.map PV.str) (AD 2 rfl)) .nil) E) PE.cint C5.geI) (decide_eq_true (A3.mpr J)))) ?_;refine Dq.cons (ρ₁:=IU want A (.own (ws.map PV.str)) (.val (.int 0)) (.val (.int A.length)) .unb) (P1.assignR (xs:=["startpos","endpos"]) (iks:=[.val (.int 0),.val (.int A.length)]) (.val PE.cint (.val (PE.up (PE.call (B.kind _ rfl) B.ln (.builtin _) (.cons (PE.name (p:=.str A) (AD 1 rfl)) .nil) (Bk.lenS H))) .nil)) rfl (IV.val (ρ₁:=IU want A (.own (ws.map PV.str)) .unb (.val (.int A.length)) .unb) (Ah 4 rfl) (.val (Ah 3 rfl) .nil)) rfl (EZ B.sc fun P=>rfl) (C7 rfl)) ?_;cases ws with
 |nil=>simp at J
 |cons w ws=>
  have C:=I w AB;refine Dq.cons (ρ₁:=IU want A (.own ((w::ws).map PV.str)) (.val (.int 0)) (.val (.int A.length)) (.val (.str w))) (P1.assign (PE.up (PE.itemL (PE.nameO (AD 2 rfl)) PE.cint (i:=0) (j:=0) (by rw[AH];exact C' (k:=0) dc (by simp)) rfl (by rw[AH];exact hz))) (Ah 5 rfl)) ?_;unfold Ik;show Dq Z k F _ _ _ (.ret (.bool (if w.length=0 then Hp (w::ws) A 0 else if G' A w then Hp ws A w.length else false)));by_cases G:w.length=0
  ·rw[if_pos G];refine Dq.cons (P1.ifF (PB.of (PB.plain (PE.name (p:=.str w) (AD 5 rfl)) (I3.str C)) (by rw[G];rfl)) PS.nil) ?_;exact UL B H (w::ws) 0 _ I hz (by simp) _ rfl
  ·rw[if_neg G];by_cases D:G' A w=true
   ·rw[if_pos D];refine Dq.cons (ρ₁:=IU want A (.own (ws.map PV.str)) (.val (.int w.length)) (.val (.int A.length)) (.val (.str w))) (P1.ifT (PB.of (PB.plain (PE.name (p:=.str w) (AD 5 rfl)) (I3.str C)) (by simp only[bne_iff_ne,ne_eq];exact Vz G)) (PS.one (P1.ifT (PB.of (PB.plain (PE.meth (PE.name (p:=.str A) (AD 1 rfl)) (.cons (PE.name (p:=.str w) (AD 5 rfl)) .nil) Dh.startswith) I3.bool) D) (PS.cons (ρ₁:=IU want A (.own ((w::ws).map PV.str)) (.val (.int w.length)) (.val (.int A.length)) (.val (.str w))) (P1.assign (PE.up (PE.call (B.kind _ rfl) B.ln (.builtin _) (.cons (PE.name (p:=.str w) (AD 5 rfl)) .nil) (Bk.lenS C))) (Ah 3 rfl)) (PS.one (P1.del (AD 2 rfl) PE.cint (c:=0) (j:=0) (by rw[AH];exact C' (k:=0) dc (by simp)) (by rw[AH];exact hz) (by show Upd _ _ (.own (ws.map PV.str)) _;exact Ah 2 rfl))))))) ?_;exact UL B H ws w.length _ (fun v L=>I v (AG _ L)) (by simp at hz;exact A_ hz) (by intro e;subst e;simp at J) _ rfl
   ·rw[if_neg D];refine Dq.stop (P1.ifT (PB.of (PB.plain (PE.name (p:=.str w) (AD 5 rfl)) (I3.str C)) (by simp only[bne_iff_ne,ne_eq];exact Vz G)) (PS.one (P1.ifF (PB.of (PB.plain (PE.meth (PE.name (p:=.str A) (AD 1 rfl)) (.cons (PE.name (p:=.str w) (AD 5 rfl)) .nil) Dh.startswith) I3.bool) (by simpa using D)) (PS.one (P1.ret PE.cbool)))))
end
theorem S6(s:Ax)(i j:Nat):(Builtin.Str.strSub s i j).length≤s.length:=by
 show(s.cps.extract i j).size≤s.cps.size;rw[Array.size_extract];exact AA (EF _ _) (FL _ _)
theorem Pk(x:Ax)(A:List Nat)(w:Nat):(F1 x A w).length=A.length+1∧∀p∈F1 x A w,p.length≤x.length:=by
 unfold F1;refine⟨by simp,fun p hp=>?_⟩;refine Bz (AU.mp hp) fun q _ B=>?_;subst B;exact S6 x _ _
theorem split_len(x y:Ax):(CI x y).length≤x.length+2∧∀p∈CI x y,p.length≤x.length:=by
 unfold CI;have A:=SS x y 0 x.length (x.length+1);split
 ·exact⟨by exact dc,fun p hp=>by rw[AI.mp hp];exact AK _⟩
 ·split
  ·exact⟨by exact dc,fun p hp=>by rw[AI.mp hp];exact AK _⟩
  ·have:=Pk x (C2 x y 0 x.length (x.length+1)) y.length;exact⟨by rw[this.1];omega,this.2⟩
section
variable{Z:Zx}{k:Nat}
theorem aH(T:J2 Z.C 10 a fd)(I:Gl Z.C "ELLIPSIS_MARKER" (.str Bv t)) (E:Gl Z.C "len" (.builtin "len")) (D:want.length≤1000) (L:A.length≤1000) (M:B6 want Bv=true→2≤(CI want Bv).length):
  Bk Z (k+1) (.ref a) [.str want,.str A] [] [] (.bool (Hq want A)):=by
 refine Bk.fnS T ["want","got"] ["ws","startpos","endpos","w"] rfl rfl (fun vs N=>?_) rfl dc fun F G O O=>?_
 ·refine P3 (fA N) fun v u H=>?_;subst H;exact T.bind fun P=>rfl
 ·have J:ZC F Z.C:=⟨G,⟨t,I⟩,E⟩;show Dq Z k F (IU want A .unb .unb .unb .unb) [] _ _
  conv=>arg 6;whnf
  have B:∀{st:Bool}{p:JE},PE Z k F (IU want A .unb .unb .unb .unb) [] st (.Name "ELLIPSIS_MARKER" p) (.str Bv):=PE.glob (J.kind _ rfl) I fun W h=>.str ..;unfold Hq;by_cases C:B6 want Bv=true
  ·rw[if_pos C];refine Dq.cons (P1.ifF (PB.of (PB.cmp B (PE.name (p:=.str want) (AD 0 rfl)) C5.notInS) (by rw[C];rfl)) PS.nil) ?_;refine ER (split_len want Bv) fun Q R=>?_;refine Dq.cons (ρ₁:=IU want A (.own ((CI want Bv).map PV.str)) .unb .unb .unb) (P1.assignOwn (PF.po (PF.split (PE.name (p:=.str want) (AD 0 rfl)) B dc (HM D) ?_)) (Ah 2 rfl)) ?_
   ·have S:=SS want Bv 0 want.length (want.length+1);have:=(Pk want (C2 want Bv 0 want.length (want.length+1)) Bv.length).1;exact this▸AA (BS (AA S (BS D))) dc
   exact aF J (HM L) (CI want Bv) .unb .unb .unb (fun w h=>AA (R w h) (HM D)) (hQ D Q) (M C)
  ·rw[if_neg C];exact Dq.stop (P1.ifT (PB.of (PB.cmp B (PE.name (p:=.str want) (AD 0 rfl)) C5.notInS) (by simpa using C)) (PS.one (P1.ret (PE.cmp (PE.name (p:=.str want) (AD 0 rfl)) (PE.name (p:=.str A) (AD 1 rfl)) C5.eqS))))
end
section
variable{Z:Zx}{k:Nat}{F:Fx}{ρ κ:Ci}
theorem Vh(N:F.env.kindOf x=some .globalImplicit)(w:Gl Z.C x (.type "enumerate")) (hx:(z,Internal.Slot.val (.str y))∈ρ++κ) (hd:(x==("__debug__":Ax))=false)
  (A:Bl) (O:AS) (s:AO) (Q:Ad→AO→Prop) (E:Ad→AO→Prop) (G:Good k A) (R:Cj Z.C F O ρ κ s)
  (At:∀I fp wr S L,Wk Z k false I fp wr (Internal.numbered (Cm y)) S (fun B B=>True)→(∀i s L,S i s→(∀b o,fp b→s.heap.get? b=some o→L.heap.get? b=some o)→S i L)→S 0 L→(∀b,fp b→s.heap.objs.size≤b∧b<s.heap.objs.size+2)→L.heap.objs.size=s.heap.objs.size+2→D9 Z.C s L→Q (.ref I) L):
  Af (Ar Z.prog Z.w) A (D4 (.Call (.Name x p) [.Name z pa] [] pos) F.env) (fun x H=>Af (Ar Z.prog Z.w) A (Uf x) Q E H) E s:=MZ R N w hd rfl (Ed (R.load hx (FE (R.nameOk hx)) (by intro h;cases h) fun v Y=>by
 refine Bz Y fun _ e a=>?_;cases e;refine B8 a.str_inv fun t M=>?_;subst M;refine CG (dg fun h' n C T N u=>?_);have U:D9 Z.C s {s with heap:=h'}:=.keeps (t:=s.toks) N (by rw[T];exact aW);have V:∀(W:AS)(s:AO)(i:Nat)(v:Ad)(p:PV),True→(∃c u,y.cps[i]?=some c∧v= .str ⟨#[c]⟩ u)→(Cm y)[i]?=some p→VR W s.heap v p:=fun W s i v p _ ⟨c,u,d,e⟩ hp=>by
  subst e;simp only[Cm,BD,Cv]at hp;refine Bz hp fun j r M=>?_;subst M;rw[Fg,d]at r;cases r;exact .str ..
 have J:129≤s.heap.objs.size:=R.base.low;have fin:∀{P:Nat→Ad→Prop}{St:Nat→GY→Prop},St 0 h'→(∀A:Bl,A.handled=none→Draws Z.prog Z.w A s.heap.objs.size [s.heap.objs.size] (Cm y).length P St)→(∀i h,St i h→∀o,h.get? s.heap.objs.size=some o→Gp o)→
   (∀(W:AS)(s:AO)(i:Nat)(v:Ad)(p:PV),True→P i v→(Cm y)[i]?=some p→VR W s.heap v p)→Af (Ar Z.prog Z.w) A (Uf (.ref (s.heap.objs.size+1))) Q E {s with heap:=h'}:=fun {P St} f D g a=>by
  refine P7 n (At _ _ _ _ _ (Wk.enum (Hold:=fun B B=>True) D (A_ J) J (KG _) (by simp) (by exact AB) g (fun B B B B B B=>trivial) a) (fun i H s₂ h N=>⟨let ⟨old,X⟩:=h.1;⟨old,N _ _ AB X⟩,(D {} rfl).frame i _ _ h.2 fun b hb o x=>N b o (AG _ hb) x⟩) ⟨⟨_,n⟩,f⟩ (fun b hb=>?_) T U);rcases AN.mp hb with rfl|hb
  ·exact⟨BU _,Az _⟩
  ·rw[AI.mp hb];exact⟨AK _,By (Az _)⟩
 unfold strIterType at C;cases Gt:y.cps.all (· <128)<;>rw[Gt]at C
 ·exact fin (St:=fun i h=>h.IsStrIter s.heap.objs.size "str_iterator" y t i) C (fun A l=>by rw[E4];exact dI l _ y t) (fun i h hs=>let ⟨o,X,d,hd⟩:=hs;DE X hd (fun q t=>by exact dc)) (fun W s i v p h m hp=>V W s i v p h m hp)
 ·exact fin (St:=fun i h=>h.IsStrIter s.heap.objs.size "str_ascii_iterator" y t i) C (fun A l=>by rw[E4];exact bY l _ y t) (fun i h hs=>let ⟨o,X,d,hd⟩:=hs;DE X hd (fun q t=>by exact dc)) (fun W s i v p h m hp=>V W s i v p h m hp)) (DF (R.nameOk hx)))
end
section
variable{M:Model}{A:Bl}{R:GenEnd}{Y:Uk}{n:Nat}{s₀:AO}{c:Code}{fs:List Frame}{s:AO}{env:Ti}
 {K:RA→Ku Fin} {H:Ad→Ku Fin} {gd:Bool→Bool} {lv:List Ad→List Ad}
noncomputable def Rj(env:Ti)(K:RA→Ku Fin)(H:Ad→Ku Fin)(B:Bool→Bool)(C:List Ad→List Ad)(c:Code)(p:JE):Frame:=
 .ret (fun r=>((match r with|.ok f=>(.pure f:Ku RA)|.error e=>.raise e).onRaise fun(x:Ad)=>do
    if(←field x 1)==D_ then unsupported "frame.own-activation:exception-without-traceback"
    setFlight x env.frame).wrap K H B C) none (B false) (C []) c p []
theorem ZX{B:Aj}(hs:∀x,GE B env x=pure x)
  (h:Af M (A.over c fs) (D4 B env) (fun x C=>Af M (A.over c fs) (Uf x) (fun F s₂=>∀p,SU M A R Y n s₀ (.forLoop target F body orelse env) (M.den (.forLoop target F body orelse env)) (Rj env K H J L c p::fs) s₂)
   (fun x G=>SU M A R Y n s₀ c (H x) fs G) C) (fun x G=>SU M A R Y n s₀ c (H x) fs G) s):
  SU M A R Y n s₀ c ((bT (.For target B body orelse pos) env).wrap K H J L) fs s:=by
 rw[exec_For];refine EO (Et ?_);refine EO (B1 h (fun x C D=>?_) fun I I e=>e);refine EO (bO (hs x) ?_);refine EO (Et ?_);refine EO (BV (B1 D (fun F s₂ E=>?_) fun I I e=>e));exact seg_call E
theorem bz
  (h:Af M (A.over c fs) (isTrue B env (D4 B env)) (fun b C=>SU M A R Y n s₀ c ((if b=true then Io body env else Io orelse env).wrap K H D E) fs C) (fun x F=>SU M A R Y n s₀ c (H x) fs F) s):
  SU M A R Y n s₀ c ((bT (.If B body orelse pos) env).wrap K H D E) fs s:=by
 rw[exec_If];exact EO (Et (EO h))
end
section
variable{prog:IZ}{w:P'}{A:Bl}{R:GenEnd}{Y:Uk}{n:Nat}{s₀:AO}{fs:List Frame}{s:AO}{env:Ti}
noncomputable def Wu(target:Aj)(B:Ad)(body orelse:List D7)(env:Ti):RA→Ku Fin:=fun f=>match f with
 |.next|.cont=>.pure (.again (.forLoop target B body orelse env))
 |.brk=>.pure (.done .next)
 |.ret v=>.pure (.done (.ret v))
noncomputable def J0(env:Ti):Ad→Ku Fin:=fun e=>(do Ng e env;JB e:Ku Unit).wrap (fun B=>.raise e) .raise id id
theorem NE
  (h:Af (Ar prog w) (A.over (.forLoop target B body [] env) fs) (Ks B) (fun r C=>match r with
   |none=>SU (Ar prog w) A R Y n s₀ (.block [] env) (.pure (.done .next)) fs C
   |some v=>Af (Ar prog w) (A.over (.forLoop target B body [] env) fs) (JC target B v) (fun D s₂=>Af (Ar prog w) (A.over (.forLoop target B body [] env) fs) (DV target env v) (fun D s₃=>
     SU (Ar prog w) A R Y n s₀ (.forLoop target B body [] env) ((Io body env).wrap (Wu target B body [] env) (J0 env) id id) fs s₃) (fun x F=>SU (Ar prog w) A R Y n s₀ (.forLoop target B body [] env) (J0 env x) fs F) s₂) (fun x F=>SU (Ar prog w) A R Y n s₀ (.forLoop target B body [] env) (J0 env x) fs F) C)
   (fun x F=>SU (Ar prog w) A R Y n s₀ (.forLoop target B body [] env) (J0 env x) fs F) s):
  SU (Ar prog w) A R Y n s₀ (.forLoop target B body [] env) ((Ar prog w).den (.forLoop target B body [] env)) fs s:=by
 show SU _ A R Y n s₀ _ ((forTurn target B body [] env).onRaise (fun x=>do Ng x env;JB x)) fs s;unfold forTurn;rw[Sem.onRaise_eq_wrap];have L:(fun e=>((do Ng e env;JB e:Ku Unit).bind fun D=>(.raise e:Ku Fin)))=J0 env:=by
  funext e;unfold J0;rw[Sem.bind_eq_wrap]
 have J:(fun e=>(do Ng e env;JB e:Ku Unit).bind fun D=>(.raise e:Ku Fin))=J0 env:=L;simp only[J];refine EO (Et ?_);refine EO (wpAny_onRaise (B1 h (fun r C E=>?_) fun D D e=>Et e));cases r with
 |none=>
  refine Yy rfl ?_;exact E
 |some v=>
  refine EO (B1 E (fun D s₂ G=>?_) fun D D e=>e);refine EO (B1 G (fun D s₃ I=>?_) fun D D e=>e);show SU _ A R Y n s₀ _ ((Io body env>>=_).wrap _ _ _ _) fs s₃;rw[Sem.bind_eq_wrap',Sem.wrap_wrap];have e:=Sem.wrap_congr (Io body env) (K:=fun a=>Sem.wrap Sem.pure (J0 env) id id (match a with
     |.next=>again (Code.forLoop target B body [] env)
     |.cont=>again (Code.forLoop target B body [] env)
     |.brk=>pure (Fin.done a2)
     |.ret v=>pure (Fin.done (Flow.ret v)))) (K':=Wu target B body [] env) (H:=fun e=>Sem.wrap Sem.pure (J0 env) id id (Sem.raise e)) (H':=J0 env) (fun g=>id (id g)) (fun l=>id (id l)) (fun f=>by cases f<;>rfl) (fun e=>rfl)
  exact e▸I
end
noncomputable def Jm(ρ:Ci):Bool:=ρ.all fun q=>match q.2 with|.unb=>true|.val p=>p.flat|_=>false
section
variable{C:Cx}{F:Fx}{ρ ρ':Ci}{O:AS}{s s':AO}
theorem Pv(h:(match sl with|.unb=>true|.val p=>p.flat|_=>false)=true)(x:DX s F O sl v):DX s' F O' sl v:=by
 cases sl with
 |unb=>trivial
 |val p=>refine Bz x fun y e A=>?_;exact⟨y,e,A.flat h⟩
 |_=>cases h
theorem Cj.again(R:Cj C F O ρ [] s)(H:Jm ρ=true)(B:DM C s')(I:∀b o,F.N b→s.heap.get? b=some o→s'.heap.get? b=some o)(hz:s.heap.objs.size≤s'.heap.objs.size):Cj C F (fun E=>False) ρ [] s' where
 base:=B
 kind:=R.kind
 glob:=R.glob
 blt:=R.blt
 tb:=R.tb
 yU:=R.yU
 nU:=R.nU
 lt:=fun b hb=>AF (R.lt b (hb.imp_right fun q=>q.elim .inl fun q=>q.elim)) hz
 hi:=fun b hb=>hb.elim (fun q=>R.hi b (.inl q)) fun q=>q.elim
 lN:=R.lN
 cd:=R.cd
 nd:=R.nd
 ok:=R.ok
 st:=by
  obtain⟨V,⟨m,⟨o,es,L,G,r⟩,M⟩,N,S,P,T⟩:=R.st;refine⟨V,⟨m,X3 o es L ⟨I _ _ R.lN G,r⟩,M⟩,fun y sl A=>?_,fun y sl A=>(nomatch A),fun y sl A=>?_,fun y z p q a A E E E=>?_⟩
  ·rcases N y sl A with hl|⟨hl,c,Q,J,o,G,hd⟩
   ·exact .inl hl
   ·exact .inr ⟨hl,c,Q,J,o,I c o J G,hd⟩
  ·have D:(y,sl)∈ρ:=by simpa using A
   exact Pv (Al.mp H _ D) (P y sl A)
  ·have D:(y,Internal.Slot.own p)∈ρ:=by simpa using A
   exact absurd (Al.mp H _ D) (by exact dc)
theorem Cj.putFlat(R:Cj C F (fun S=>False) ρ [] s)(N:Upd ρ x (.val p) ρ')(i:Jm ρ=true)(hp:p.flat=true)(hl:F.env.kindOf x=some .local)(j:∀W h,VR W h v p)
  (k:∀s',Cj C F (fun S=>False) ρ' [] s'→Step C F.N s s'→s'.heap.objs.size=s.heap.objs.size→Q () s'):Af M A (Nf F.env x v) Q E s:=by
 refine B8 R.st fun V l=>?_;have T:=l;obtain⟨⟨m,hn,n⟩,r,If,t,Is⟩:=T;refine Ml hl hn (fun h' U J=>?_) (by rw[R.kind];rfl);have L:Step C F.N s {s with heap:=h',toks:=s.toks+1}:=Step.write J (R.hi _ (.inl R.lN)) R.lN (HK hn);have B:ρ'.map (·.1)=ρ.map (·.1):=N.keys;refine k _ {base:=L.base R.base,kind:=R.kind,glob:=R.glob,blt:=R.blt,tb:=R.tb,yU:=R.yU,nU:=R.nU,lt:=fun b hb=>AF (R.lt b hb) L.size,hi:=R.hi,lN:=R.lN,cd:=R.cd,nd:=?_,ok:=?_,st:=⟨fun y=>if y=x then some v else V y,⟨_,U,fun y G=>?_⟩,fun y sl G=>?_,fun y sl G=>(nomatch G),fun y sl G=>?_,fun y z p q a G S S S=>?_⟩} L J.1
 ·rw[Ao,B,←Ao ρ];exact R.nd
 ·have P:=R.ok;rw[Ao,Al]at P⊢;intro q u;have:q.1∈ρ.map (·.1):=B▸AU.mpr ⟨q,u,rfl⟩;refine Bz (AU.mp this) fun w X e=>?_;rw[←e];exact P w X
 ·show(if y=x then some v else m y)=if y=x then some v else V y
  split
  ·rfl
  ·exact n y G
 ·rcases N.mem G with⟨e,_⟩|D
  ·exact .inl (e▸hl)
  ·rcases r y sl D with h|⟨h,c,At,Gt,o,Y,hd⟩
   ·exact .inl h
   ·refine .inr ⟨h,c,At,Gt,o,?_,?_⟩
    ·have Z:c≠F.env.locals:=fun q=>by
      refine V8 hn fun o' es Lt d f _=>?_;rw[q,d]at Y;cases Y;cases f.symm.trans hd
     exact(J.2 c Z).trans Y
    ·have:y≠x:=fun q=>by rw[q,hl]at h;cases h
     simp only[this,if_false];exact hd
 ·have D:(y,sl)∈ρ':=by simpa using G
  show DX _ F _ sl (if y=x then some v else V y);by_cases H:y=x
  ·rw[if_pos H];have g:(ρ'.map (·.1)).Nodup:=by rw[B,←Ao ρ];exact R.nd
   have:sl= .val p:=FR g (H▸D) N.new;subst this;exact⟨v,rfl,j _ _⟩
  ·rw[if_neg H];have I:=(N.mem D).resolve_left fun q=>H q.1;exact Pv (Al.mp i _ I) (t y sl (by simpa using I))
 ·have D:(y,Internal.Slot.own p)∈ρ':=by simpa using G
  rcases N.mem D with⟨_,e⟩|h
  ·cases e
  ·exact absurd (Al.mp i _ h) (by exact dc)
end
noncomputable def Lr:Ax:="\\"
noncomputable def CA:Nat→Bool→List Nat→List (Nat×Ax)
 |i,true,[]=> [(i-1,Lr)]
 |_,false,[]=> []
 |i,true,c::A=>(i,Lr++⟨#[c]⟩)::CA (i+1) false A
 |i,false,c::A=>if c=92 then CA (i+1) true A else(i,⟨#[c]⟩)::CA (i+1) false A
theorem CA.c1:CA i true []=[(i-1,Lr)]:=rfl
theorem CA.c2:CA A false []=[]:=rfl
theorem CA.c3:CA i true (c::A)=(i,Lr++⟨#[c]⟩)::CA (i+1) false A:=rfl
theorem CA.c4:CA i false (c::A)=if c=92 then CA (i+1) true A else(i,⟨#[c]⟩)::CA (i+1) false A:=rfl
noncomputable def H9(q:Nat×Ax):PV:=.tup [.int (q.1:Int),.str q.2]
noncomputable def Ii(addr:Ax):List PV:=(CA 0 false addr.cps.toList).map H9
noncomputable def gX(L n:Nat):AS:=fun b=>b=L∨b=n∨b=n+1
noncomputable def MP(L n:Nat):AS:=fun b=>Tb b∨gX L n b
noncomputable def KX(C:Cx)(items:List PV)(L n:Nat):Uk:=fun m B v s D=>
 (∃p,items[items.length-1-m]?=some p∧∀W:AS,(∀b,W b→b<B.heap.objs.size∨gX L n b)→VR W s.heap v p)∧Step C (MP L n) B s∧n+2≤s.heap.objs.size∧
  ∀A:AO,DM C A→(∀b o,gX L n b→s.heap.get? b=some o→A.heap.get? b=some o)→Up s A→D (.send .none) A
noncomputable def R2(C:Cx)(L n:Nat):GenEnd:=fun m A r s=>r= .ok (.ret .none)∧(m=0∧Step C (MP L n) A s)
noncomputable def Na(addr:Ax)(pos:Internal.Slot)(esc:Bool)(ch:Internal.Slot):Ci:=[("addr",.val (.str addr)),("pos",pos),("escape",.val (.bool esc)),("ch",ch)]
noncomputable def Pw:Internal.Slot→Bool
 |.unb=>true
 |.val p=>p.flat
 |_=>false
section
variable{Z:Zx}{k:Nat}{F:Fx}{A:Bl}{L n₀ n:Nat}{items:List PV}{s₀ s:AO}{c:Code}{fs:List Frame}
 {K:RA→Ku Fin} {H:Ad→Ku Fin} {gd:Bool→Bool} {lv:List Ad→List Ad}
theorem LV(T:splitAtGen fs=none)(U:t false=false)(V:fs.any dH=false)(G:Good k (A.over c fs))(R:Cj Z.C F (fun j=>False) ρ [] s)
  (X:Jm ρ=true) (u:∀b,F.N b→gX L n₀ b) (v:∀b,gX L n₀ b→129≤b) (Y:L<n₀) (w:PE Z k F ρ [] true E (.int i)) (a:PE Z k F ρ [] true I (.str x)) (M:CW E=false∧CW I=false) (d:items=pre++ .tup [.int i,.str x]::rest) (hn:n=rest.length)
  (l:Step Z.C (MP L n₀) s₀ s) (hz:n₀+2≤s.heap.objs.size) (e:F.env.scope.isCoroutine=false) (hi:B5 F.env=false)
  (f:∀D,Cj Z.C F (fun j=>False) ρ [] D→(∀b o,gX L n₀ b→s.heap.get? b=some o→D.heap.get? b=some o)→s.heap.objs.size≤D.heap.objs.size→SU (Ar Z.prog Z.w) A (R2 Z.C L n₀) (KX Z.C items L n₀) n D c (K .next) fs D):
  SU (Ar Z.prog Z.w) A (R2 Z.C L n₀) (KX Z.C items L n₀) (n+1) s₀ c ((bT (.Expr (.Yield (some (.Tuple [E,I] tn N)) m) pos) F.env).wrap K H t lv) fs s:=by
 refine seg_Expr_Yield T U V ?_ e hi;refine dk ((JY.cons w (.cons a .nil M.2) M.1).run (A.over c fs) (fun j=>False) s N _ _ G R fun vs g O y=>Ft (C:=Z.C) (by rw[O.length,Ay];exact C7 rfl) fun s₂ P J z=>?_);intro At Q;have S:D9 Z.C s s₂:=y.trans P;refine⟨⟨.tup [.int i,.str x],?_,fun W Gt=>?_⟩,l.trans (S.mono fun b hb=>.inl hb),AA hz S.size,fun D B If p=>Q .none D ?_⟩
 ·rw[d,hn,AQ,AP];have:pre.length+(rest.length+1)-1-rest.length=pre.length:=JJ _ _;rw[this,BO (AK _),Dr];rfl
 ·refine VR.tupOf (fun q=>?_) J (O.flat rfl);have a:=l.size;have r:=y.size;rcases Gt _ q with q|q
  ·exact As _ (AF q (AA a r))
  ·have q':g.heap.objs.size=L∨g.heap.objs.size=n₀∨g.heap.objs.size=n₀+1:=q;exact i2 Y hz r q'
 ·have keep:∀b o,gX L n₀ b→¬Tb b→s.heap.get? b=some o→D.heap.get? b=some o:=fun b o hb Is J=>If b o hb (S.keep b o Is J);have h:∀b,F.N b→¬Tb b:=fun b hb=>Cg (R.hi b (.inl hb));refine f D (R.again X B (fun b o hb J=>keep b o (u b hb) (h b hb) J) (AA S.size p.1)) (fun b o hb J=>?_) (AA S.size p.1);exact keep b o hb (Cg (v b hb)) J
theorem G3(C:Pw D=true)(E:Pw B=true):Jm (Na addr D esc B)=true:=by
 unfold Jm Na;simp only[Dk,List.all_nil,A7,DY];exact⟨rfl,C,rfl,E⟩
theorem RS{R:GenEnd}{Y:Uk}{st:D7}{ρ ρ':Ci}(G:Good k (A.over c fs))(M:Cj Z.C F (fun C=>False) ρ [] s)(h:P1 Z k F ρ [] st .next ρ')(N:Jm ρ'=true)(O:∀b,F.N b→gX L n₀ b)(P:Step Z.C (MP L n₀) s₀ s)
  (D:∀B,Cj Z.C F (fun C=>False) ρ' [] B→Step Z.C (MP L n₀) s₀ B→Step Z.C (fun b=>Tb b∨F.N b) s B→SU (Ar Z.prog Z.w) A R Y n s₀ c (K .next) fs B):
  SU (Ar Z.prog Z.w) A R Y n s₀ c ((bT st F.env).wrap K H S T) fs s:=
 seg_wrap (h.run (A.over c fs) (fun C=>False) s _ _ G M fun f B O' E I x Q=>by
  have:f= .next:=E;subst this;have J:Step Z.C (fun b=>Tb b∨F.N b) s B:=x.mono fun b hb=>hb.elim .inl fun q=>q.elim .inr fun q=>q.elim;exact D B (I.again N I.base (fun C C C h=>h) (AK _)) (P.trans (J.mono fun b hb=>hb.elim .inl fun q=>.inr (O b q))) J)
theorem KQ(G:Good k (A.over c fs))(E:Cj Z.C F (fun I=>False) ρ [] s)(h:PB Z k F ρ [] C b)(J:Step Z.C (MP L n₀) s₀ s)
  (D:∀B,Cj Z.C F (fun I=>False) ρ [] B→Step Z.C (MP L n₀) s₀ B→D9 Z.C s B→SU (Ar Z.prog Z.w) A R Y n s₀ c ((Io (if b=true then body else orelse) F.env).wrap K H M N) fs B):
  SU (Ar Z.prog Z.w) A R Y n s₀ c ((bT (.If C body orelse pos) F.env).wrap K H M N) fs s:=
 bz (h.run (A.over c fs) (fun I=>False) s _ _ G E fun B x=>by
  have:=D B (E.ext x) (J.trans (x.mono fun b hb=>.inl hb)) x;cases b with
  |true=>exact this
  |false=>exact this)
end
noncomputable def bD:D7:=FQ 2 (Ba (Au 12))
noncomputable def NZ:Aj:=DP bD
noncomputable def J1:List D7:=BW bD
theorem X0:∃p1 R S T U V W X Y B C D E F G H I J L M N O P A Q,J1=[.If (.Name "escape" p1) [.Expr (.Yield (some (.Tuple [.Name "pos" R,.BinOp (.Constant (.str Lr) 0 S) .Add (.Name "ch" T) U] 0 V)) W) X,.Assign [.Name "escape" Y] (.Constant (.bool false) 0 B) C]
  [.If (.Compare (.Name "ch" D) [.Eq] [.Constant (.str Lr) 0 E] F) [.Assign [.Name "escape" G] (.Constant (.bool true) 0 H) I] [.Expr (.Yield (some (.Tuple [.Name "pos" J,.Name "ch" L] 0 M)) N) O] P] A]∧Q=A:=
 lx _ _ _ _ _ _ _ _ _ _ _ _ _ _ _ _ _ _ _ _ _ _ _ _ _ ⟨rfl,rfl⟩
theorem Z8:∃p1 A B,NZ= .Tuple [.Name "pos" p1,.Name "ch" A] 0 B:=X3 _ _ _ rfl
structure ay(F:Fx)(C:Cx):Prop where
 sc:F.env.scope=Bu (Au 12)
 en:Gl C "enumerate" (.type "enumerate")
theorem ay.kind(h:ay F C)(x:Ax)(hx:(Bu (Au 12)).names.lookup x=some kd):F.env.kindOf x=some kd:=by show F.env.scope.names.lookup _=_;rw[h.sc];exact hx
theorem ay.inter(h:ay F C):B5 F.env=false:=by unfold B5;rw[h.sc];rfl
theorem ay.co(h:ay F C):F.env.scope.isCoroutine=false:=by rw[h.sc];rfl
theorem Qa(x:Ax){i c:Nat}(h:x.cps.toList[i]?=some c):(Internal.numbered (Cm x))[i]?=some (.tup [.int i,.str ⟨#[c]⟩]):=by
 unfold Internal.numbered Cm;rw[Lm,BD,h];rfl
section
variable{Z:Zx}{k:Nat}{F:Fx}{A:Bl}{L n₀:Nat}{items:List PV}{fs:List Frame}
theorem R0{I:Ch}{fp wr:AS}(W:Wk Z k false I fp wr (Internal.numbered (Cm addr)) S (fun w w=>True))(z:∀i s s',S i s→(∀b o,fp b→s.heap.get? b=some o→s'.heap.get? b=some o)→S i s')
  (Y:∀b,fp b→n₀≤b∧b<n₀+2) (c:∀b,fp b→¬Tb b) (ck:ay F Z.C) (b4:∀b,F.N b→b=L) (P:L<n₀) (c4:∀b,gX L n₀ b→129≤b) (df:addr.length≤1000000)
  (Ns:splitAtGen fs=none) (Sa:fs.any dH=false) (G:Good k (A.over (.forLoop NZ (.ref I) J1 [] F.env) fs))
  (Gt:∀(C s:AO)(i:Nat)(esc:Bool)(d J:Internal.Slot),i=addr.cps.toList.length→(esc=true→1≤i∧d= .val (.int ((i:Int)-1)))→Pw d=true→Pw J=true→Cj Z.C F (fun w=>False) (Na addr d esc J) [] s→Step Z.C (MP L n₀) C s→n₀+2≤s.heap.objs.size→
   (∃pre,items=pre++(CA i esc []).map H9)→SU (Ar Z.prog Z.w) A (R2 Z.C L n₀) (KX Z.C items L n₀) (CA i esc []).length C (.block [] F.env) (.pure (.done .next)) fs s):
  ∀(D:List Nat)(i:Nat)(esc:Bool)(d J:Internal.Slot)(C s:AO),addr.cps.toList.drop i=D→i≤addr.cps.toList.length→(esc=true→1≤i∧d= .val (.int ((i:Int)-1)))→Pw d=true→Pw J=true→Cj Z.C F (fun w=>False) (Na addr d esc J) [] s→S i s→Step Z.C (MP L n₀) C s→n₀+2≤s.heap.objs.size→
   (∃pre,items=pre++(CA i esc D).map H9)→SU (Ar Z.prog Z.w) A (R2 Z.C L n₀) (KX Z.C items L n₀) (CA i esc D).length C (.forLoop NZ (.ref I) J1 [] F.env) ((Ar Z.prog Z.w).den (.forLoop NZ (.ref I) J1 [] F.env)) fs s
 |[],i,esc,d,J,C,s,U,hi,If,At,V,R,em,en,hz,E=>by
  have cn:i=addr.cps.toList.length:=by
   have:=congrArg FS U;rw[Ca,Fd]at this;exact DL hi (LN this)
  have a:∀b,wr b→n₀≤b∧b<n₀+2:=fun b hb=>Y b (W.sub b hb);have av:∀b,wr b→MP L n₀ b:=fun b hb=>.inr (.inr (by have:=a b hb;exact c0 this));refine NE (W.done _ s _ _ G (by rw[show(Internal.numbered (Cm addr)).length=i by rw[cn];simp[Internal.numbered,Cm]];exact em) R.base fun s' x=>?_);exact Gt C s' i esc d J cn If At V (R.again (G3 At V) (x.base R.base) (fun b o hb f=>x.keep b o (fun q=>by have:=a b q;have:=b4 b hb;exact ak P ‹_› this) f) x.size) (en.trans (x.mono av)) (AA hz x.size) E
 |ch::D,i,esc,d,J,C,s,U,hi,If,At,V,R,em,en,hz,E=>by
  have a:∀b,wr b→n₀≤b∧b<n₀+2:=fun b hb=>Y b (W.sub b hb);have av:∀b,wr b→MP L n₀ b:=fun b hb=>.inr (.inr (by have:=a b hb;exact c0 this));have Is:addr.cps.toList[i]?=some ch:=by
   have:=congrArg (fun l=>l[0]?) U;simpa[EC]using this
  have Q:addr.cps.toList.drop (i+1)=D:=by
   rw[←Lo,U];rfl
  have bi:i+1≤addr.cps.toList.length:=by
   have:=(B4.mp Is).1;exact ah this
  have g:∀b,F.N b→gX L n₀ b:=fun b hb=>.inl (b4 b hb);refine WQ Z8 fun t1 t2 t3 j=>?_;have co:=G3 (addr:=addr) (esc:=esc) At V;refine NE (B1 (W.item NZ i _ _ s (fun b=>F.W (fun w=>False) b∨wr b) (fun v s₂=>Af (Ar Z.prog Z.w) (A.over (.forLoop NZ (.ref I) J1 [] F.env) fs) (DV NZ F.env v) (fun w s₃=>
     SU (Ar Z.prog Z.w) A (R2 Z.C L n₀) (KX Z.C items L n₀) (CA i esc (ch::D)).length C (.forLoop NZ (.ref I) J1 [] F.env) ((Io J1 F.env).wrap (Wu NZ (.ref I) J1 [] F.env) (J0 F.env) id id) fs s₃) (fun x s'=>SU (Ar Z.prog Z.w) A (R2 Z.C L n₀) (KX Z.C items L n₀) (CA i esc (ch::D)).length C (.forLoop NZ (.ref I) J1 [] F.env) (J0 F.env x) fs s') s₂) _ G (by rw[j];rfl) (Qa addr Is) em trivial R.base (fun b hb=>.inr hb) (fun b hb=>hb.elim (R.lt b) fun q=>by have:=a b q;exact AF this.2 hz) fun v s₂ mF bl M=>?_) (fun r s₂ h=>by obtain⟨v,rfl,h⟩:=h;exact h) fun w w h=>h)
  have c1:Cj Z.C F (fun w=>False) (Na addr d esc J) [] s₂:=R.again co (M.base R.base) (fun b o hb f=>M.keep b o (fun q=>by have:=a b q;have:=b4 b hb;exact ak P ‹_› this) f) M.size;rw[j];refine Bind.run' (F:=F) (ρ':=Na addr (.val (.int i)) esc (.val (.str ⟨#[ch]⟩))) (.tup (.tup _) (.cons (Ah 1 rfl) (.cons (Ah 3 rfl) .nil))) G.handled c1 (mF.goes fun b o hb f=>⟨f,fun q=>hb (.inl q)⟩) fun s₃ Lt m=>?_;rw[←j];have mE:Step Z.C (MP L n₀) C s₃:=(en.trans (M.mono av)).trans (m.mono fun b hb=>hb.imp_right (g b));have n:n₀+2≤s₃.heap.objs.size:=AA hz (AA M.size m.size);have b2:S (i+1) s₃:=z _ _ _ bl fun b o hb f=>m.keep b o (fun q=>q.elim (fun q=>c b hb q) fun q=>by have:=Y b hb;have:=b4 b q;exact ak P ‹_› this) f;obtain⟨p1,p2,p3,p4,p5,p6,p7,p8,p9,eq,er,fe,fn,fr,gd,go,gs,hl,hr,hx,il,ir,kw,ln,mG,hb,_⟩:=X0;rw[show Io J1 F.env=Io [.If (.Name "escape" p1) [.Expr (.Yield (some (.Tuple [.Name "pos" p2,.BinOp (.Constant (.str Lr) 0 p3) .Add (.Name "ch" p4) p5] 0 p6)) p7) p8,.Assign [.Name "escape" p9] (.Constant (.bool false) 0 eq) er]
   [.If (.Compare (.Name "ch" fe) [.Eq] [.Constant (.str Lr) 0 fn] fr) [.Assign [.Name "escape" gd] (.Constant (.bool true) 0 go) gs] [.Expr (.Yield (some (.Tuple [.Name "pos" hl,.Name "ch" hr] 0 hx)) il) ir] kw] ln] F.env by rw[hb]]
  refine B8 E fun pre E=>?_;have frame:∀s T:AO,S (i+1) s→(∀b o,gX L n₀ b→s.heap.get? b=some o→T.heap.get? b=some o)→S (i+1) T:=fun s T hs mH=>z _ _ _ hs fun b o hb f=>mH b o (.inr (by have:=Y b hb;exact c0 this)) f;have B:∀s T:AO,S (i+1) s→Step Z.C (fun b=>Tb b∨F.N b) s T→S (i+1) T:=fun s T hs x=>z _ _ _ hs fun b o hb f=>x.keep b o (fun q=>q.elim (fun q=>c b hb q) fun q=>by have:=Y b hb;have:=b4 b q;exact ak P ‹_› this) f;have t:=R0 W z Y c ck b4 P c4 df Ns Sa G Gt D (i+1);refine D2 ?_;cases esc with
  |true=>
   refine KQ (b:=true) G Lt (PB.plain (PE.name (p:=.bool true) (AD 2 rfl)) I3.bool) mE fun c2 X c3 x4=>?_;rw[if_pos rfl];refine D2 ?_;refine LV (ρ:=Na addr (.val (.int i)) true (.val (.str ⟨#[ch]⟩))) (pre:=pre) (rest:=(CA (i+1) false D).map H9) (i:=i) (x:=Lr++⟨#[ch]⟩) Ns rfl Sa G X (G3 rfl rfl) g c4 P (PE.name (AD 1 rfl)) (PE.addS PE.cstr (PE.name (AD 3 rfl)) (by rw[Ay];exact C7 rfl)) ⟨rfl,rfl⟩ (by rw[E];rfl) (by rw[AH]) c3 (AA n x4.size) ck.co ck.inter fun u N lv l0=>?_;refine D2 ?_;refine RS (ρ':=Na addr (.val (.int i)) false (.val (.str ⟨#[ch]⟩))) G N (P1.assign PE.cbool (Ah 2 rfl)) (G3 rfl rfl) g (.refl _) fun H O l1 x6=>?_;refine Yy rfl (t false _ _ u H Q bi (by intro h;cases h) rfl rfl O (B _ _ (frame _ _ (B _ _ b2 (x4.mono fun b hb=>.inl hb)) lv) x6) l1 (AA (AA n x4.size) (AA l0 x6.size)) ⟨pre++ [H9 (i,Lr++⟨#[ch]⟩)],?_⟩);rw[E];simp[CA.c1,CA.c2,CA.c3,CA.c4]
  |false=>
   refine KQ (b:=false) G Lt (PB.plain (PE.name (p:=.bool false) (AD 2 rfl)) I3.bool) mE fun c2 X c3 x4=>?_;rw[if_neg dc];refine D2 ?_;by_cases b3:ch=92
   ·subst b3;rw[(by rw[CA.c4,if_pos rfl]:(CA i false (92::D))=CA (i+1) true D)]at E⊢;refine KQ (b:=true) G X (PB.of (PB.cmp (PE.name (p:=.str ⟨#[92]⟩) (AD 3 rfl)) PE.cstr C5.eqS) rfl) c3 fun u N mB x5=>?_;rw[if_pos rfl];refine D2 ?_;refine RS (ρ':=Na addr (.val (.int i)) true (.val (.str ⟨#[92]⟩))) G N (P1.assign PE.cbool (Ah 2 rfl)) (G3 rfl rfl) g mB fun H O l1 x6=>?_;exact Yy rfl (t true _ _ C H Q bi (fun w=>⟨cW,by simp⟩) rfl rfl O (B _ _ (B _ _ (B _ _ b2 (x4.mono fun b hb=>.inl hb)) (x5.mono fun b hb=>.inl hb)) x6) l1 (AA n (AA x4.size (AA x5.size x6.size))) ⟨pre,E⟩)
   ·rw[(by rw[CA.c4,if_neg b3]:(CA i false (ch::D))=(i,⟨#[ch]⟩)::CA (i+1) false D)]at E⊢;refine KQ (b:=false) G X (PB.of (PB.cmp (PE.name (p:=.str ⟨#[ch]⟩) (AD 3 rfl)) PE.cstr C5.eqS) ?_) c3 fun u N mB x5=>?_
    ·rw[beq_eq_false_iff_ne];intro e;apply b3;have h:some ch=some 92:=congrArg (fun y:Ax=>y.cps[0]?) e;exact CT h
    rw[if_neg dc];refine D2 ?_;refine LV (ρ:=Na addr (.val (.int i)) false (.val (.str ⟨#[ch]⟩))) (pre:=pre) (rest:=(CA (i+1) false D).map H9) (i:=i) (x:=⟨#[ch]⟩) Ns rfl Sa G N (G3 rfl rfl) g c4 P (PE.name (AD 1 rfl)) (PE.name (AD 3 rfl)) ⟨rfl,rfl⟩ (by rw[E];rfl) (by rw[AH]) mB (AA n (AA x4.size x5.size)) ck.co ck.inter fun H O mC mD=>?_;refine Yy rfl (t false _ _ H H Q bi (by intro h;cases h) rfl rfl O (frame _ _ (B _ _ (B _ _ b2 (x4.mono fun b hb=>.inl hb)) (x5.mono fun b hb=>.inl hb)) mC) (.refl _) (AA (AA n (AA x4.size x5.size)) mD) ⟨pre++ [H9 (i,⟨#[ch]⟩)],?_⟩);rw[E];simp
end
theorem Z_:∃p1 I J L M N O P Q A B C D E F G H,Ba (Au 12)=[.Assign [.Name "pos" p1] (.Constant (.int 0) 0 I) J,.Assign [.Name "escape" L] (.Constant (.bool false) 0 M) N,
  .For NZ (.Call (.Name "enumerate" O) [.Name "addr" P] [] Q) J1 [] A,.If (.Name "escape" B) [.Expr (.Yield (some (.Tuple [.Name "pos" C,.Constant (.str Lr) 0 D] 0 E)) F) G] [] H]:=
 ly _ _ _ _ _ _ _ _ _ _ _ _ _ _ _ _ _ rfl
section
variable{Z:Zx}{k:Nat}{F:Fx}{A:Bl}
theorem M1(G:Good (k+1) A):Good k (A.over (.func b env) []) where
 handled:=G.handled
 depth:=by have:=G.depth;show A.depth+0+_+8*k<700;have e:Code.weight (.func b env)=1:=rfl;exact kI this e
 units:=by have:=G.units;show A.units+0+_+8*k<9000;have e:Code.cUnits (.func b env)=3:=rfl;exact kG this e
theorem Vc(G:Good (k+1) A){b B:List D7}{env:Ti}{t:Aj}{C:Ad}{K:RA→Ku Fin}:
  Good k (A.over (.forLoop t C B [] env) [Rj env K H D E (.func b env) p]) where
 handled:=G.handled
 depth:=by have:=G.depth;show A.depth+1+_+8*k<700;have e:Code.weight (.forLoop t C B [] env)=0:=rfl;exact k_ this e
 units:=by have:=G.units;show A.units+3+_+8*k<9000;have e:Code.cUnits (.forLoop t C B [] env)=0:=rfl;exact kH this e
variable{n n₀ L:Nat}{items:List PV}{s₀ s:AO}{c:Code}{fs:List Frame}{K:RA→Ku Fin}{H:Ad→Ku Fin}{gd:Bool→Bool}{lv:List Ad→List Ad}
theorem PZ(V:True)(I:Cj Z.C F (fun J=>False) ρ [] s)(C:∀(Q:Ad→AO→Prop)(E:Ad→AO→Prop),(∀v,(∀W h,VR W h v p)→∀t,s.toks≤t→Q v {s with toks:=t})→Af (Ar Z.prog Z.w) (A.over c fs) (D4 e F.env) Q E s)
  (M:Upd ρ x (.val p) ρ') (N:Jm ρ=true) (hp:p.flat=true) (hl:F.env.kindOf x=some .local) (hs:Ju e (some (.Name x np)) pos.line F.env=pure false) (O:∀b,F.N b→gX L n₀ b) (P:Step Z.C (MP L n₀) s₀ s)
  (D:∀B,Cj Z.C F (fun J=>False) ρ' [] B→Step Z.C (MP L n₀) s₀ B→B.heap.objs.size=s.heap.objs.size→SU (Ar Z.prog Z.w) A R Y n s₀ c (K .next) fs B):
  SU (Ar Z.prog Z.w) A R Y n s₀ c ((bT (.Assign [.Name x np] e pos) F.env).wrap K H gd lv) fs s:=
 seg_wrap (He (C _ _ fun v S t G=>(I.ext (.tok G)).putFlat M N hp hl S fun B T U hz=>D B T ((P.trans (.tok G)).trans (U.mono fun b hb=>.inr (O b hb))) hz) hs)
theorem Xz(D:ay F Z.C)(y:∀b,F.N b→b=L)(z:L<s.heap.objs.size)(J:129≤L)(Y:addr.length≤1000000)(G:Good (k+1) A)(R:Cj Z.C F (fun u0=>False) [("addr",.val (.str addr)),("pos",.unb),("escape",.unb),("ch",.unb)] [] s):
  SU (Ar Z.prog Z.w) A (R2 Z.C L s.heap.objs.size) (KX Z.C (Ii addr) L s.heap.objs.size) (Ii addr).length s (.func (Ba (Au 12)) F.env) ((Ar Z.prog Z.w).den (.func (Ba (Au 12)) F.env)) [] s:=by
 have M:∀n b,F.N b→gX L n b:=fun n b hb=>.inl (y b hb);have B:=R.base.low;have At:∀b,gX L s.heap.objs.size b→129≤b:=fun b hb=>by
  have a:b=L∨b=s.heap.objs.size∨b=s.heap.objs.size+1:=hb;exact a.elim (fun q=>q▸J) fun q=>q.elim (fun q=>q▸B) fun q=>q▸A_ B
 rw[(by exact AH _:(Ii addr).length=(CA 0 false addr.cps.toList).length)];refine seg_func ?_;obtain⟨p1,p2,p3,p4,p5,p6,p7,p8,p9,d,f,g,j,l,m,o,r,hb⟩:=Z_;rw[show Io (Ba (Au 12)) F.env=Io [.Assign [.Name "pos" p1] (.Constant (.int 0) 0 p2) p3,.Assign [.Name "escape" p4] (.Constant (.bool false) 0 p5) p6,
  .For NZ (.Call (.Name "enumerate" p7) [.Name "addr" p8] [] p9) J1 [] d,.If (.Name "escape" f) [.Expr (.Yield (some (.Tuple [.Name "pos" g,.Constant (.str Lr) 0 j] 0 l)) m) o] [] r] F.env by rw[hb]]
 refine D2 ?_;refine PZ (n₀:=s.heap.objs.size) (p:=.int 0) (ρ':=[("addr",.val (.str addr)),("pos",.val (.int 0)),("escape",.unb),("ch",.unb)]) trivial R (fun Q E h=>?_) (Ah 1 rfl) rfl rfl (D.kind _ rfl) rfl (M _) (.refl _) fun Gt P Sa z1=>?_
 ·show Af _ _ (mkInt 0) _ _ _;exact wpAny_mkInt (h _ (fun W h=>.int ..) _ (BU _))
 refine D2 ?_;refine PZ (n₀:=s.heap.objs.size) (p:=.bool false) (ρ':=Na addr (.val (.int 0)) false .unb) trivial P (fun Q E h=>?_) (Ah 2 rfl) rfl rfl (D.kind _ rfl) rfl (M _) Sa fun s₂ C av z2=>?_
 ·show Af _ _ (pure (QB false)) _ _ _;exact AX (h _ (fun W h=>.bool _) _ (AK _))
 refine D2 ?_;refine ZX (fun x=>rfl) (Vh (D.kind _ rfl) D.en (AD 0 rfl) dc _ _ _ _ _ (M1 G) C fun I fp wr S s₃ W t bi N hz x3 p=>?_);rw[z2,z1]at N hz;refine R0 W t N (fun b hb=>Cg (AA B (N b hb).1)) D y z At Y (by rfl) (by rfl) (Vc G) (fun s₀ s i esc sp u hi T bl U b2 b3 v O=>?_) _ 0 false (.val (.int 0)) .unb s s₃ rfl (BI _) (by intro h;cases h) rfl rfl (C.ext x3) bi (av.trans (x3.mono fun b hb=>.inl hb)) (ho z1 z2 hz) ⟨[],rfl⟩;refine seg_leaf (.ok .next) ?_;refine D2 ?_;refine KQ (b:=esc) (M1 G) b2 (PB.plain (PE.name (p:=.bool esc) (AD 2 rfl)) I3.bool) b3 fun If V Is x4=>?_;cases esc with
 |true=>
  refine ER (T rfl) fun w X=>?_;subst X;refine B8 O fun pre O=>?_;rw[if_pos rfl];refine D2 ?_;refine LV (n:=0) (ρ:=Na addr (.val (.int ((i:Int)-1))) true u) (pre:=pre) (rest:=[]) (i:=(i:Int)-1) (x:=Lr) rfl rfl rfl (M1 G) V (G3 rfl U) (M _) At z (PE.name (AD 1 rfl)) PE.cstr ⟨rfl,rfl⟩ ?_ rfl Is (AA v x4.size) D.co D.inter fun Lt Ns b4 ck=>?_
  ·rw[O];have e:((i-1:Nat):Int)=(i:Int)-1:=Fq w;simp only[CA.c1,CA.c2,CA.c3,CA.c4,Ae,DZ,H9,e]
  ·exact seg_end (.ok (.ret .none)) ⟨rfl,rfl,.refl _⟩
 |false=>
  rw[if_neg dc];exact seg_end (.ok (.ret .none)) ⟨rfl,rfl,Is⟩
end
structure SG(g:Nat)(C:Cx)(X:AS)(s s':AO):Prop where
 keep:∀b o,¬X b→s.heap.get? b=some o→s'.heap.get? b=some o
 size:s.heap.objs.size≤s'.heap.objs.size
 gens:∀(j:Nat) st,j≠g→s.gens[j]?=some st→s'.gens[j]?=some st
 os:s'.os=s.os
 toks:s.toks≤s'.toks
 base:DM C s→DM C s'
namespace SG
variable{g:Nat}{C:Cx}{X Y:AS}{s s₁ s₂ s':AO}
theorem of(x:Step C X s s'):SG g C X s s':=⟨x.keep,x.size,fun j st A e=>x.gens j st e,x.os,x.toks,x.base⟩
theorem comp(x:SG g C X s s₁)(y:SG g C Y s₁ s₂)(h:∀b,Y b→X b∨s.heap.objs.size≤b):SG g C X s s₂ where
 keep:=fun b o hb e=>y.keep b o (fun B=>(h b B).elim hb fun hl=>absurd (BJ e) (A0.mpr hl)) (x.keep b o hb e)
 size:=AA x.size y.size
 gens:=fun j st A e=>y.gens j st A (x.gens j st A e)
 os:=y.os.trans x.os
 toks:=AA x.toks y.toks
 base:=fun b=>y.base (x.base b)
theorem mono(x:SG g C X s s₁)(h:∀b,X b→Y b):SG g C Y s s₁:={x with keep:=fun b o hb e=>x.keep b o (fun hx=>hb (h b hx)) e}
theorem fin(x:SG g C X s s')(h:s.gens.size≤g):Step C X s s' where
 keep:=x.keep
 size:=x.size
 gens:=fun j st e=>x.gens j st (fun q=>by subst q;rw[Sr h]at e;cases e) e
 os:=x.os
 toks:=x.toks
 base:=x.base
theorem tilde(x:SG g C X s s')(B:DM C s'):Step C X {s with gens:=s'.gens} s':=⟨x.keep,x.size,fun A A e=>e,x.os,x.toks,fun A=>B⟩
end SG
theorem DM.regens(B:DM C s)(h:Kg gens):DM C {s with gens:=gens}:={B with bare:=h}
theorem Cj.regens(R:Cj C F O ρ κ s)(h:Kg gens):Cj C F O ρ κ {s with gens:=gens}:={R with base:=R.base.regens h}
theorem Cj.stepG(R:Cj C F O ρ κ s)(x:SG g C X s s')(hz:∀b,X b→Tb b∨F.Y b):Cj C F O ρ κ s':=
 (R.regens (x.base R.base).bare).stepY (x.tilde (x.base R.base)) hz
theorem MM{s:AO}{g:Nat}(h:s.gens[g]?=some x):(s.setGen g y).gens[g]?=some y∧∀j,j≠g→(s.setGen g y).gens[j]?=s.gens[j]?:=by
 have A:g<s.gens.size:=(QJ.mp h).1;exact⟨by simp[Q8,A],fun j B=>by simp[Q8,Ne.symm B]⟩
theorem Go{s:AO}{g:Nat}(h:Kg s.gens)(B:y.bare=true):Kg (s.setGen g y).gens:=fun z hz=>by
 have A:z∈s.gens.setIfInBounds g y:=hz;rcases Array.mem_or_eq_of_mem_setIfInBounds A with q|q
 ·exact h z q
 ·exact q▸B
section
variable{prog:IZ}{w:P'}{A:Bl}{E:Ad→AO→Prop}{s:AO}
theorem Rz{a:Ch}{g n:Nat}{I:GenState}{P:Nat→AO→AO→Prop}{Y:Uk}{Q:Option Ad→AO→Prop}(N:A.handled=none)(hl:s.heap.NoLimit)(F:A.depth<Hg)
  (J:s.heap.IsGen a g) (H:s.gens[g]?=some I) (G:I.Goes (Ar prog w) A.in1 (fun n B r s₁=>r= .ok (.ret .none)∧P n B s₁) Y n (.send .none) (s.setGen g .running))
  (O:∀v s₁ D,D.bare=true→Y (n-1) (s.setGen g .running) v s₁ (fun R L=>match n with
    |0=>False
    |m+1=>D.Goes (Ar prog w) A.in1 (fun n B r s₁=>r= .ok (.ret .none)∧P n B s₁) Y m R L)→Q (some v) (s₁.setGen g D))
  (S:∀s₁,P n (s.setGen g .running) s₁→∀h',(∀b o,s₁.heap.get? b=some o→h'.get? b=some o)→s₁.heap.objs.size≤h'.objs.size→Q none {s₁.setGen g .finished with heap:=h'}):
  Af (Ar prog w) A (Ks (.ref a)) Q E s:=by
 unfold Ks;refine AJ (wpAny_attempt (HO (name:=Ap "__next__") J.typeIs slot_gen_next (LI slot_gen_next J.typeIs entry_gen_next ?_ (args_gen_next _))));show Af _ A.in1 (Lk (.ref a) (.send .none)) _ _ s;unfold Lk;refine AJ (BV (wpAny_genNumber J (AJ (wpAny_genState H ?_))));cases I with
 |running=>exact G.elim
 |finished=>exact G.elim
 |_=>
  refine AJ (wpAny_roomToWake hl F ?_);show Af _ A.in1 (.resume g (.send .none) [] _) _ _ s;refine wpAny_resumeQ H G (fun x s₁ hx=>?_) fun v s₁ D hb U=>AX ⟨v,rfl,AX (O v s₁ D hb U)⟩;refine ER hx fun M hp=>?_;subst M;show Af _ A.in1 (newExc (.type "StopIteration") []>>=_) _ _ _;refine AJ ?_;refine AJ (D1 ?_ (by size_fits));refine AJ (m:=NQ _ _) (bO (a:=D_) (by first|rfl|(simp only[NQ];rfl)) ?_);refine D1 ?_ (by size_fits);refine AJ (AJ (wpAny_handled ?_));rw[(N:A.in1.handled=none)];refine wpAny_throw (AJ (wpAny_isInstance (T:="StopIteration") (b:=true) ⟨_,A4 _ rfl,rfl⟩ isSubtype_stop (AX ?_)));refine S s₁ hp _ (fun b o hb=>Am _ (Am _ hb)) ?_;simp only[BG];exact AA (BU _) (BU _)
end
noncomputable def Ol(Z:Zx)(A:Bl)(items:List PV)(L n:Nat)(B:GenState)(m:Nat)(s:AO):Prop:=B.Goes (Ar Z.prog Z.w) A.in1 (R2 Z.C L n) (KX Z.C items L n) m (.send .none) s
structure GenAt(Z:Zx)(A:Bl)(a g L n:Nat)(items:List PV)(j:Nat)(s:AO):Prop where
 isg:s.heap.IsGen a g
 st:∃gs,s.gens[g]?=some gs∧∀s'':AO,DM Z.C s''→(∀b o,gX L n b→s.heap.get? b=some o→s''.heap.get? b=some o)→Up s s''→Ol Z A items L n gs (items.length-j) s''
structure Q3(Z:Zx)(k:Nat)(a g L:Nat)(items:List PV)(s:AO):Prop where
 isg:s.heap.IsGen a g
 st:∃gs,s.gens[g]?=some gs∧∀(A:Bl)(s'':AO),Good (k+2) A→DM Z.C s''→(∀o,s.heap.get? L=some o→s''.heap.get? L=some o)→Up s s''→Ol Z A items L s''.heap.objs.size gs items.length s''
section
variable{Z:Zx}{k:Nat}{A:Bl}{E:Ad→AO→Prop}{s:AO}{a g L n:Nat}{items:List PV}{gs:GenState}
theorem MN(t:A.handled=none)(J:A.depth<Hg)(U:j<items.length)(B:DM Z.C s)(l:s.heap.IsGen a g)(M:s.gens[g]?=some gs)(N:Ol Z A items L n gs (items.length-j) (s.setGen g .running))(u:¬MP L n a)
  (w:∀v s',(∀W:AS,(∀b,W b→b<s.heap.objs.size∨gX L n b)→VR W s'.heap v items[j])→GenAt Z A a g L n items (j+1) s'→SG g Z.C (MP L n) s s'→n+2≤s'.heap.objs.size→Q (some v) s'):Af (Ar Z.prog Z.w) A (Ks (.ref a)) Q E s:=by
 obtain⟨m,V⟩:∃m,items.length-j=m+1:=⟨items.length-j-1,(Cc (Ds U)).symm⟩;rw[V]at N;have z:DM Z.C (s.setGen g .running):=B.regens (Go B.bare rfl);refine Rz (P:=fun m O s=>m=0∧Step Z.C (MP L n) O s) t B.lim J l M N (fun v s₁ R hb At=>?_) (fun s₁ hp h' Gt hz=>absurd hp.1 (Hi m));obtain⟨⟨p,hp,c⟩,D,hz,S⟩:=At;have q:items.length-1-(m+1-1)=j:=i0 U V;rw[q,AL U]at hp;cases hp;have G:=MM (y:=.running) M;have F:s₁.gens[g]?=some .running:=D.gens g _ G.1;have H:=MM (y:=R) F;have I:=D.base z;refine w v _ c ⟨?_,R,H.1,fun d f T up=>?_⟩ ⟨fun b o hb h=>D.keep b o hb h,D.size,fun i x hi e=>?_,D.os,D.toks,fun u0=>I.regens (Go I.bare hb)⟩ hz
 ·refine Q6 l fun o nm qn h r=>?_;exact X3 o nm qn ⟨D.keep a o u h,r⟩
 ·have e:items.length-(j+1)=m:=i1 U V q;rw[e];exact S d f T up
 ·rw[H.2 i hi];exact D.gens i x (by rw[G.2 i hi];exact e)
theorem MO(W:A.handled=none)(H:A.depth<Hg)(B:DM Z.C s)(c:s.heap.IsGen a g)(I:s.gens[g]?=some gs)(S:Ol Z A items L n gs 0 (s.setGen g .running))
  (d:∀s',SG g Z.C (MP L n) s s'→Q none s'):Af (Ar Z.prog Z.w) A (Ks (.ref a)) Q E s:=by
 have U:DM Z.C (s.setGen g .running):=B.regens (Go B.bare rfl);refine Rz (P:=fun m J s=>m=0∧Step Z.C (MP L n) J s) W B.lim H c I S (fun v s₁ f hb j=>?_) (fun s₁ hp h' V hz=>?_)
 ·refine Ny j fun _ D hz M=>?_;exact(M s₁ (D.base U) (fun T T T h=>h) ⟨AK _,AK _⟩).elim
 ·refine ER hp fun _ D=>?_;have F:=MM (y:=.running) I;have N:=MM (y:=.finished) (D.gens g _ F.1);have G:=D.base U;have O:DM Z.C (s₁.setGen g .finished):=G.regens (Go G.bare rfl);have R:Step Z.C (MP L n) (s₁.setGen g .finished) {s₁.setGen g .finished with heap:=h'}:=Step.keeps (t:=s₁.toks) V hz;refine d _ ⟨fun b o hb l=>V b o (D.keep b o hb l),AA D.size hz,fun i x hi e=>?_,D.os,D.toks,fun T=>R.base O⟩;show(s₁.setGen g .finished).gens[i]?=some x;rw[N.2 i hi];exact D.gens i x (by rw[F.2 i hi];exact e)
theorem Xy(T:J2 Z.C 12 J fd)(u:Gl Z.C "enumerate" (.type "enumerate")) (G:Good (k+1) A) (B:DM Z.C s) (Ns:VR W s.heap v (.str addr)) (w:addr.length≤1000000)
  (Sa:∀s',Q3 Z k (s.heap.objs.size+1) s.gens.size s.heap.objs.size (Ii addr) s'→s'.heap.objs.size=s.heap.objs.size+2→D9 Z.C s s'→Q (.ref (s.heap.objs.size+1)) s'):Af (Ar Z.prog Z.w) A (DC (.ref J) [v]) Q E s:=by
 refine B8 Ns.str_inv fun t At=>?_;subst At;refine Bz T.t.ok.obj fun o P hd=>?_;refine IF (codeAny_call_generator G.room (B.objs _ _ P) hd T.t.ok.co (by rw[T.t.sc];rfl) T.t.ok.body (T.t.ok.code _ B.objs) ?_);rw[T.bind (r:=[("addr",.str addr t)]) fun av=>rfl,T.t.ok.clo];refine AX (CG (bP (fun y D=>?_) (fun y D=>?_) (fun h' Gt R S=>?_) (by rw[T.t.sc];rfl)))
 ·rw[T.t.sc]at D;have:((Bu (Au 12)).names.all fun q=>q.2 != .cell)=true:=by rfl
  exact(by simpa using Al.mp this y D)
 ·cases AI.mp D;rw[T.t.sc];rfl
 have H:∀b o,s.heap.get? b=some o→h'.get? b=some o:=fun b o e=>(R.2 b (BX (Fm e))).trans (Am _ e);have I:h'.objs.size=s.heap.objs.size+1:=by rw[R.1,BG]
 have e:D9 Z.C s {s with heap:=h',toks:=s.toks+1}:=.keeps H S.1 S.2;refine⟨B.lim.keeps H,?_⟩
 let env:Ti:=newEnv fd.scope s.heap.objs.size fd.globals [] (fd.qualname++".<locals>.") (some J) fd.code none fd.builtins
 let F:Fx:=⟨env,Tb,fun b=>b=s.heap.objs.size,fun N=>False⟩
 have U:F.env.scope=Bu (Au 12):=T.t.sc;have V:ay F Z.C:=⟨U,u⟩;have d:Cj Z.C F (fun N=>False) [("addr",.val (.str addr)),("pos",.unb),("escape",.unb),("ch",.unb)] [] {s with heap:=h',toks:=s.toks+1}:=by
  have j:s.heap.objs.size<h'.objs.size:=ef I;refine {base:=e.base B,kind:=by rw[U];rfl,glob:=T.t.ok.glob,blt:=T.t.ok.blt,tb:=fun N h=>h,yU:=fun b hb=>hb.elim,nU:=fun b N hb=>hb,lt:=fun b hb=>?_,hi:=fun b hb=>?_,lN:=rfl,cd:=fun y z c D=>(nomatch D),nd:=by show(["addr","pos","escape","ch"]:List Ax).Nodup;decide,ok:=rfl,st:=⟨fun y=> [(("addr":Ax),Value.str addr t)].reverse.lookup y,⟨_,Gt,fun y D=>rfl⟩,fun y sl D=>?_,fun y sl D=>(nomatch D),fun y sl D=>?_,fun y z p q ck D N N N=>?_⟩}
  ·have O:=B.low;rcases hb with q|q|q
   ·have:b<129:=by rcases q with q|q<;>(have q':b=_:=q;omega)
    show b<h'.objs.size;exact I▸By (AF this O)
   ·rw[(q:b=s.heap.objs.size)];exact j
   ·exact q.elim
  ·rcases hb with q|q
   ·rw[(q:b=s.heap.objs.size)];exact B.low
   ·exact q.elim
  ·refine .inl ?_;have:y∈(["addr","pos","escape","ch"]:List Ax):=CY (f:=fun q:Ax×Internal.Slot=>q.1) D;simp only[AN,BH,or_false]at this;rcases this with h|h|h|h<;>subst h<;>exact V.kind _ rfl
  ·rw[Ao]at D;simp only[AN,BH,or_false,GJ]at D;rcases D with⟨rfl,rfl⟩|⟨rfl,rfl⟩|⟨rfl,rfl⟩|⟨rfl,rfl⟩
   ·exact⟨.str addr t,rfl,.str ..⟩
   ·trivial
   ·trivial
   ·trivial
  ·rw[Ao]at D;simp only[AN,BH,or_false,GJ]at D;rcases D with⟨_,h⟩|⟨_,h⟩|⟨_,h⟩|⟨_,h⟩<;>cases h
 have M:({s with heap:=h',toks:=s.toks+1}:AO).heap.objs.size=s.heap.objs.size+1:=I;rw[(rfl:({heap:=h',gens:=s.gens,drawn:=s.drawn,toks:=s.toks+ [(("addr":Ax),Value.str addr t)].length,os:=s.os}:AO)={s with heap:=h',toks:=s.toks+1}),M];have bi:({s with heap:=h',toks:=s.toks+1}:AO).gens.size=s.gens.size:=rfl;refine Sa _ ⟨?_,.fresh (.func (Ba (Au 12)) env),?_,fun bl l b2 If b3 S=>⟨rfl,?_⟩⟩ ?_ ?_
 ·have m:(h'.push {cls:=.type "generator",data:=.fields #[.int s.gens.size 0,.str fd.name (s.toks+1),.str fd.qualname (s.toks+1+1)]}).get? (s.heap.objs.size+1)=some {cls:=.type "generator",data:=.fields #[.int s.gens.size 0,.str fd.name (s.toks+1),.str fd.qualname (s.toks+1+1)]}:=by
   rw[←I];exact A4 _ rfl
  exact X3 _ _ _ ⟨m,rfl,rfl,rfl⟩
 ·show(s.gens.push _)[s.gens.size]?=some _;simp;rfl
 ·have Is:Cj Z.C F (fun N=>False) [("addr",.val (.str addr)),("pos",.unb),("escape",.unb),("ch",.unb)] [] l:=d.again rfl If (fun b o hb P=>by
   rw[(hb:b=s.heap.objs.size)]at P⊢;exact b3 o (Am _ P)) (AA (by rw[BG];exact BU _) S.1)
  have:=S.1;rw[BG]at this;exact Xz (k:=k) (A:=bl.in1) V (fun b hb=>hb) (by have cn:h'.objs.size+1≤l.heap.objs.size:=this;exact ci M this) B.low w (Good.in1 b2) Is
 ·show(h'.push _).objs.size=_;rw[BG,I]
 ·exact {
      keep:=fun b o hb P=>Am _ (H b o P)
      size:=by show _≤(h'.push _).objs.size;rw[BG];exact I▸A_ (BU _)
      gens:=fun i x hi=>by
       show(s.gens.push _)[i]?=some x;rw[Array.getElem?_push];have:=(QJ.mp hi).1;rw[if_neg (BX this)];exact hi
      os:=rfl
      toks:=by show s.toks≤s.toks+1+1+1;exact f0
      base:=fun Lt=>by
       have b4:=(Step.push (C:=Z.C) (X:=Tb) (s:={s with heap:=h',toks:=s.toks+1}) (o:={cls:=.type "generator",data:=.fields #[.int s.gens.size 0,.str fd.name (s.toks+1),.str fd.qualname (s.toks+1+1)]}) (t:=s.toks+1+1+1)).base (e.base Lt);exact b4.regens (AllBare.push Lt.bare rfl)}
end
section
variable{Z:Zx}{k:Nat}{F:Fx}{ρ ρ' κ:Ci}
theorem R1(T:J2 Z.C 12 B fd)(I:Gl Z.C "enumerate" (.type "enumerate")) (S:F.env.kindOf x=some .globalImplicit) (U:Gl Z.C x (.ref B)) (V:PE Z (k+1) F ρ κ false e (.str addr)) (J:addr.length≤1000000) (D:CW e=false) (hd:(x==("__debug__":Ax))=false)
  (A:Bl) (O:AS) (s:AO) (Q:Ad→AO→Prop) (E:Ad→AO→Prop) (G:Good (k+1) A) (R:Cj Z.C F O ρ κ s)
  (W:∀(L g:Nat) s₁ s₂,D9 Z.C s s₁→D9 Z.C s₁ s₂→L=s₁.heap.objs.size→g=s₁.gens.size→s₂.heap.objs.size=L+2→Q3 Z k (L+1) g L (Ii addr) s₂→Q (.ref (L+1)) s₂):
  Af (Ar Z.prog Z.w) A (D4 (.Call (.Name x p) [e] [] H) F.env) Q E s:=
 Jv rfl (EL R S U hd (DG (C:=Z.C) T.t.fn (by simp[C0,D]) ((JY.cons V .nil D).run A O s H _ _ G R fun vs s₁ M y=>⟨(R.ext y).base,by
  refine Bz M.one fun v P a=>?_;subst P;exact Xy T I G (R.ext y).base a J fun s₂ N hz z=>W _ _ s₁ s₂ y z rfl rfl hz N⟩)))
theorem P1.forGen(T:J2 Z.C 12 fs fd)(mH:Gl Z.C "enumerate" (.type "enumerate")) (mZ:F.env.kindOf x=some .globalImplicit) (ma:Gl Z.C x (.ref fs)) (mb:PE Z (k+1) F ρ κ false e (.str addr)) (mI:addr.length≤1000000)
  (hl:Loop Z (k+2) F κ Sa body orelse (Ii addr) ρ fl ρ') (gd:fl≠ .brk:=by intro h;cases h) (mJ:autoParam (CW e=false) ar) (hd:autoParam ((x==("__debug__":Ax))=false) ad)
  (hs:∀y,GE (.Call (.Name x p) [e] [] go) F.env y=pure y:=by intro _;rfl):P1 Z (k+2) F ρ κ (.For Sa (.Call (.Name x p) [e] [] go) body orelse pos) fl ρ':=.ofRun fun A O s Q E G R mG=>by
 refine wpAny_For (R1 T mH mZ ma mb mI mJ hd A O s _ _ (G.less (BU _)) R fun L g s₁ s₂ y z fe hx hz N=>wpAny_pyIter_gen N.isg ?_) hs;have r:(A.mark none).handled=none:=G.handled;have b4:Good (k+2) (A.mark none):=⟨r,G.depth,G.units⟩;have c:=R.ext y;have t:=c.ext z
 let items:=Ii addr
 let n₀:=L+2
 let wr:AS:=gX L n₀
 have c2:129≤L:=by rw[fe];exact c.base.low
 have ck:s.heap.objs.size≤L:=by rw[fe];exact y.size
 have Gt:∀b,wr b→L≤b∧b<n₀+2∧b≠L+1:=fun b hb=>by
  have mK:b=L∨b=L+2∨b=L+2+1:=hb;show L≤b∧b<L+2+2∧b≠L+1;exact hq fe hz mK
 have il:¬MP L n₀ (L+1):=fun q=>by
  rcases q with q|q
  ·exact Cg (A_ c2) q
  ·exact(Gt _ q).2.2 rfl
 have mc:∀(O':AS) b,MP L n₀ b→F.X O' b∨wr b:=fun O' b hb=>hb.elim (fun q=>.inl (.inl q)) .inr
 let J:Nat→AO→Prop:=fun m s'=>(m=items.length+1∧s'=s₂)∨∃i O' V,1≤i∧i≤items.length∧m=items.length-i∧GenAt Z (A.mark none) (L+1) g L n₀ items i s'∧Cj Z.C (F.loop wr) O' V κ s'∧Loop Z (k+2) F κ Sa body orelse (items.drop i) V fl ρ'∧
  (∀b,O' b→O b∨n₀+2≤b)∧SG g Z.C (fun b=>F.X O b∨wr b) s₁ s'∧n₀+2≤s'.heap.objs.size
 have ir:∀O':AS,(∀b,O' b→O b∨n₀+2≤b)→∀b,F.X O' b→F.X O b∨s₁.heap.objs.size≤b:=fun O' a b hb=>hb.elim (fun q=>.inl (.inl q)) fun q=>q.elim (fun q=>.inl (.inr (.inl q))) fun q=>(a b q).elim (fun q=>.inl (.inr (.inr q))) fun q=>.inr (by show _≤_;rw[←fe];exact AA (AM L 4) q);have fin:∀(f:RA)(s':AO)(O':AS)(ρ':Ci),Cj Z.C (F.loop wr) O' ρ' κ s'→(∀b,O' b→O b∨n₀+2≤b)→SG g Z.C (fun b=>F.X O b∨wr b) s₁ s'→
   Cj Z.C F O' ρ' κ s'∧Step Z.C (F.X O) s s'∧(∀b,O' b→O b∨s.heap.objs.size≤b):=fun f s' O' ρ' md a x=>
  ⟨md.leave R.tb R.yU,(Step.ofE (F:=F) (O:=O) y).comp (x.fin (by rw[hx];exact AK _)) fun b hb=>hb.elim .inl fun q=>.inr (AA ck (Gt b q).1),fun b hb=>(a b hb).imp_right fun q=>AA ck (AA (AM L 4) q)⟩
 have tail:∀(w c3 c4:Ad→AO→Prop)(m i:Nat)(v:Ad)(s₃:AO)(O':AS)(V:Ci)(hi:i<items.length),items.length-(i+1)<m→GenAt Z (A.mark none) (L+1) g L n₀ items (i+1) s₃→Cj Z.C (F.loop wr) O' V κ s₃→VR ((F.loop wr).W O') s₃.heap v items[i]→Loop Z (k+2) F κ Sa body orelse (items.drop i) V fl ρ'→
   (∀b,O' b→O b∨n₀+2≤b)→SG g Z.C (fun b=>F.X O b∨wr b) s₁ s₃→n₀+2≤s₃.heap.objs.size→
   Af (Ar Z.prog Z.w) (A.mark none) (JC Sa (.ref (L+1)) v) (fun u0 em=>
     Af (Ar Z.prog Z.w) (A.mark none) (DV Sa F.env v) (fun u0 s₂=>Af (Ar Z.prog Z.w) (A.mark none) (Io body F.env) (fun f s₃=>match f with
      |.next|.cont=>∃m',m'<m∧J m' s₃
      |.brk=>Q .next s₃
      |.ret v=>Q (.ret v) s₃) w s₂) c3 em) c4 s₃:=fun w c3 c4 m i v s₃ O' V hi mL df M en cn a d P=>by
  refine V8 df.isg fun o nm qn fn mY _=>?_;refine Pn fn mY dc ?_;rw[GM hi]at cn;have sleep:∀(B D:AO)(I:AS),Step Z.C ((F.loop wr).X O') s₃ B→Step Z.C ((F.loop wr).X O') B D→(∀b,I b→O' b∨B.heap.objs.size≤b)→GenAt Z (A.mark none) (L+1) g L n₀ items (i+1) D∧(∀b,I b→O b∨n₀+2≤b)∧SG g Z.C (fun b=>F.X O b∨wr b) s₁ D∧n₀+2≤D.heap.objs.size:=fun B D I S l U=>by
   have H:=S.trans l;have kw:∀b,(b=L+1∨wr b)→¬(F.loop wr).X O' b:=fun b hb q=>by
    have co:L≤b∧b<n₀+2:=hb.elim (fun e=>by subst e;show L≤L+1∧L+1<L+2+2;exact gC) fun e=>⟨(Gt b e).1,(Gt b e).2.1⟩;rcases q with q|q|q
    ·exact Cg (AA c2 co.1) q
    ·exact As _ (AF (R.lt b (.inr (.inl q))) (AA ck co.1))
    ·rcases a b q with q|q
     ·exact As _ (AF (R.lt b (.inr (.inr q))) (AA ck co.1))
     ·exact As _ (AF co.2 q)
   refine Bz df.st fun gs If n=>?_;refine⟨⟨?_,gs,H.gens g gs If,fun mM mN ln up=>n mM mN (fun b o hb fn=>ln b o hb (H.keep b o (kw b (.inr hb)) fn)) ⟨AA H.size up.1,AA H.toks up.2⟩⟩,fun b hb=>(U b hb).elim (a b) fun q=>.inr (AA (AA P S.size) q),
    d.comp (.of H) fun b hb=>?_,AA P H.size⟩
   ·exact X3 o nm qn ⟨H.keep _ o (kw _ (.inl rfl)) fn,mY,by assumption⟩
   ·rcases ir O' a b hb with q|q
    ·exact .inl (.inl q)
    ·exact .inr q
  refine cn.inv (fun ρ₁ ρ₂ hb h hr=>?_) (fun ρ₁ hb h mO=>?_) fun ρ₁ q hb h mO=>?_
  ·refine Bind.run (F:=F.loop wr) hb r M en fun B W S=>?_;refine(h wr).run _ O' B _ _ b4 W fun f D I c1 At l U=>?_;have eq:f= .next:=c1;subst eq;refine Ny (sleep B D I S l U) fun mP lv l0 mQ=>?_;exact⟨items.length-(i+1),mL,.inr (X3 (i+1) I ρ₂ ⟨cW,hi,rfl,mP,At,hr,lv,l0,mQ⟩)⟩
  ·refine Bind.run (F:=F.loop wr) hb r M en fun B W S=>?_;refine(h wr).run _ O' B _ _ b4 W fun f D I c1 At l U=>?_;have eq:f= .brk:=c1;subst eq;refine Ny (sleep B D I S l U) fun mP lv l0 mQ=>?_;refine Nc (fin .next D I ρ' At lv l0) fun l1 b2 b3=>?_;exact mG _ D I (by rw[mO];exact(rfl:a2= .next)) l1 b2 b3
  ·refine Bind.run (F:=F.loop wr) hb r M en fun B W S=>?_;refine(h wr).run _ O' B _ _ b4 W fun f D I c1 At l U=>?_;refine Bz c1 fun u mR mf=>?_;subst mR;refine Ny (sleep B D I S l U) fun mP lv l0 mQ=>?_;refine Nc (fin .next D I ρ' At lv l0) fun l1 b2 b3=>?_;exact mG _ D I (by rw[mO];exact⟨u,rfl,mf.goes fun b o hb fn=>⟨fn,fun q=>hb (.inl q)⟩⟩) l1 b2 b3
 have er:∀(s' s₃:AO)(O':AS)(V:Ci)(w:Ad→AO→Prop),Cj Z.C (F.loop wr) O' V κ s₃→Loop Z (k+2) F κ Sa body orelse [] V fl ρ'→(∀b,O' b→O b∨n₀+2≤b)→SG g Z.C (fun b=>F.X O b∨wr b) s₁ s₃→n₀+2≤s₃.heap.objs.size→
   Af (Ar Z.prog Z.w) (A.mark none) (Io orelse F.env) (fun f s₃=>Q f s₃) w s₃:=fun s' s₃ O' V w M cn a d P=>by
  ·have h:=cn.invN;refine(h wr).run _ O' s₃ _ _ b4 M fun f B Ns c1 W S Is=>?_;refine Nc (fin f B Ns ρ' W (fun b hb=>(Is b hb).elim (a b) fun q=>.inr (AA P q)) (d.comp (.of S) fun b hb=>by
    rcases ir O' a b hb with q|q
    ·exact .inl (.inl q)
    ·exact .inr q)) fun l1 b2 b3=>?_
   exact mG f B Ns (c1.up gd) l1 b2 b3
 refine dF J (fun m s' mh=>?_) (items.length+1) (.inl ⟨rfl,rfl⟩);rcases mh with⟨rfl,rfl⟩|⟨i,O',V,mi,mB,mL,df,fr,mC,a,xi,mS⟩
 ·
  refine Bz N.st fun gs If n=>?_;have mT:DM Z.C (s'.setGen g .running):=t.base.regens (Go t.base.bare rfl);have Lt:=n (A.mark none) (s'.setGen g .running) b4 mT (fun u0 h=>h) ⟨AK _,AK _⟩;rw[show(s'.setGen g .running).heap.objs.size=n₀ from hz]at Lt;have av:∀s₃,SG g Z.C (MP L n₀) s' s₃→SG g Z.C Tb s₁ s₃:=fun s₃ x=>(SG.of z).comp x fun b hb=>hb.imp_right fun q=>by rw[←fe];exact(Gt b q).1
  by_cases mU:items.length=0
  ·have mD:Ol Z (A.mark none) items L n₀ gs 0 (s'.setGen g .running):=mU▸Lt;refine MO r b4.room t.base N.isg If mD fun s₃ x=>?_;have mE:Ii addr=[]:=Gz.mp mU;rw[mE]at hl;have xx:=av s₃ x
   ·have h:=hl.invN;have M:Cj Z.C (F.loop fun u0=>False) O ρ κ s₃:=(c.regens (xx.base c.base).bare).enter (xx.tilde (xx.base c.base)) (fun b hb=>hb.elim) fun b hb=>hb.elim;refine(h _).run _ O s₃ _ _ b4 M fun f B Ns c1 W S Is=>?_;have mV:Step Z.C (F.X O) s B:=((Step.ofE (F:=F) (O:=O) y).comp ((xx.mono (Y:=F.X O) fun b hb=>.inl hb).fin (by rw[hx];exact AK _)) fun b hb=>.inl hb).trans S;exact mG f B Ns (c1.up gd) (W.leave R.tb R.yU) mV fun b hb=>(Is b hb).imp_right fun q=>AA (AA y.size xx.size) q
  ·have bi:0<items.length:=Cd mU;refine MN (j:=0) r b4.room bi t.base N.isg If Lt il fun v s₃ en df x P=>?_;have xx:=av s₃ x;have M:Cj Z.C (F.loop wr) O ρ κ s₃:=(c.regens (xx.base c.base).bare).enter (xx.tilde (xx.base c.base)) (fun b hb=>by show s₁.heap.objs.size≤b;rw[←fe];exact(Gt b hb).1) fun b hb=>AF (Gt b hb).2.1 P;refine tail _ _ _ _ 0 v s₃ O ρ bi (jc bi) df M (en _ fun b hb=>?_) (by simpa using hl) (fun b hb=>.inl hb) (xx.mono fun b hb=>.inl (.inl hb)) P;rcases Fx.loop_W.mp hb with q|q
   ·exact .inl (t.lt b q)
   ·exact .inr q
 ·refine Bz df.st fun gs If n=>?_;have mT:DM Z.C (s'.setGen g .running):=fr.base.regens (Go fr.base.bare rfl);have Lt:=n (s'.setGen g .running) mT (fun u0 u0 u0 h=>h) ⟨AK _,AK _⟩;have next:∀s₃,SG g Z.C (MP L n₀) s' s₃→Cj Z.C (F.loop wr) O' V κ s₃∧SG g Z.C (fun b=>F.X O b∨wr b) s₁ s₃:=fun s₃ x=>⟨fr.stepG x fun b hb=>hb.imp_right .inr,xi.comp x fun b hb=>.inl (mc O b hb)⟩;rcases Ix i items.length with bl|mF
  ·refine MN r b4.room bl fr.base df.isg If Lt il fun v s₃ en mW x P=>?_;refine ER (next s₃ x) fun M d=>?_;exact tail _ _ _ _ i v s₃ O' V bl (af mL bl) mW M (en _ fun b hb=>.inl (fr.lt b hb)) mC a d P
  ·have mX:i=items.length:=DL mB mF;subst mX;rw[Dr]at Lt;refine MO r b4.room fr.base df.isg If Lt fun s₃ x=>?_;refine ER (next s₃ x) fun M d=>?_;exact er s' s₃ O' V _ M (by simpa using mC) a d (AA mS x.size)
end
section
variable{Z:Zx}{k:Nat}{A:Bl}{R:Result→AO→Prop}{a g L n Sa:Nat}{items:List PV}{W:AS}
structure Fp(W:AS)(Sa:Nat)(items:List PV)(j:Nat)(s:AO):Prop where
 obj:∃vs c,s.heap.get? Sa=some {cls:=.type "list",data:=.seq (BL vs) c}∧vs.length=j∧∀(i:Nat) v p,vs[i]?=some v→items[i]?=some p→VR W s.heap v p
theorem Fp.goes(h:Fp W Sa items j s)(hs:∀o,s.heap.get? Sa=some o→s'.heap.get? Sa=some o)(D:∀b o,¬W b→s.heap.get? b=some o→s'.heap.get? b=some o):Fp W Sa items j s':=
 by refine Hd h.obj fun vs c B hl hi=>?_;exact⟨vs,c,hs _ B,hl,fun i v p E hp=>(hi i v p E hp).goes fun b o hb B=>⟨D b o hb B,hb⟩⟩
theorem NI(h:Fp W Sa items j s)(N:W Sa)(I:∀b,Tb b→W b)(O:129≤Sa)(hp:items[j]?=some p)(P:VR W s.heap v p)(hz:j≤1000000)
  (Q:∀s',Fp W Sa items (j+1) s'→Step Z.C (fun b=>Tb b∨b=Sa) s s'→s'.gens=s.gens→X () s'):Af (Ar Z.prog Z.w) A (Nd Sa (·.push v)) X E s:=by
 refine Hd h.obj fun vs c H hl hi=>?_;refine Me H rfl ?_ (by rw[Ab,hl,Ay];exact AA hz dc) (by rw[a8,Ab,hl,Ay];exact AY hz dc);refine Bz (Ep (C:=Z.C) H O (·.push v) (ws:=vs++ [v]) (by simp)) fun S J F=>?_;have G:Goes W s.heap W (s.heap.update Sa (E9 (·.push v))):=fun b o hb H=>⟨F.keep b o (fun q=>hb (q.elim (I b) fun q=>q▸N)) H,hb⟩;refine Q _ ⟨vs++ [v],S,J,by rw[AQ,hl];rfl,fun i u q B M=>?_⟩ F rfl;rw[Hu]at B;by_cases D:i<vs.length
 ·rw[if_pos D]at B;exact(hi i u q B M).goes G
 ·rw[if_neg D]at B;have:i=j:=by
   have:=(B4.mp B).1;simp at this;exact hl▸DL (LN this) (Eh D)
  subst this;rw[hl,Dr]at B;cases B;cases hp.symm.trans M;exact P.goes G
theorem T8(m:A.in1.handled=none)(D:A.in1.depth<Hg)(H:∀b,Tb b→W b)(N:∀b,gX L n b→W b)(Lt:W Sa)(I:¬MP L n Sa)(S:¬MP L n a)(T:a≠Sa)(Ns:129≤Sa)(av:129≤a)(bi:∀b,gX L n b→129≤b)(hz:items.length≤1000000):
  ∀(r j:Nat)(s:AO),items.length-j=r→j≤items.length→GenAt Z A.in1 a g L n items j s→Fp W Sa items j s→DM Z.C s→(∀b,W b→b<s.heap.objs.size∨gX L n b)→
   (∀s',Fp W Sa items items.length s'→SG g Z.C (fun b=>MP L n b∨b=Sa) s s'→R (.ok (.ret res)) s')→Kd (Ar Z.prog Z.w) A (.builtin "list.extend.loop" ⟨[.ref Sa,.ref a,res],[]⟩) R s
 |0,j,s,hr,bl,U,p,B,O,t=>by
  have u:j=items.length:=DL bl (LN hr);subst u;refine JD Iv ?_;rw[Fv Dw _];show Af _ A.in1 (Ks (.ref a)>>=_) _ _ s;refine Bz U.st fun gs P E=>?_;have w:DM Z.C (s.setGen g .running):=B.regens (Go B.bare rfl);have J:=E (s.setGen g .running) w (fun V V V h=>h) ⟨AK _,AK _⟩;rw[Dr]at J;refine AJ (MO m D B U.isg P J fun s' x=>AX (t s' (p.goes (fun o F=>x.keep _ _ I F) fun b o hb F=>x.keep b o (fun q=>hb (q.elim (H b) (N b))) F) (x.mono fun b hb=>.inl hb)))
 |r+1,j,s,hr,bl,U,p,B,O,t=>by
  have G:j<items.length:=a4 (hr▸Bx _);refine JD Iv ?_;rw[Fv Dw _];show Af _ A.in1 (Ks (.ref a)>>=_) _ _ s;refine Bz U.st fun gs P E=>?_;have w:DM Z.C (s.setGen g .running):=B.regens (Go B.bare rfl);have J:=E (s.setGen g .running) w (fun V V V h=>h) ⟨AK _,AK _⟩;refine AJ (MN m D G B U.isg P J S fun v s' b2 c x b3=>?_);have At:Fp W Sa items j s':=p.goes (fun o F=>x.keep _ _ I F) fun b o hb F=>x.keep b o (fun q=>hb (q.elim (H b) (N b))) F;show Af _ A.in1 (Nd Sa (·.push v)>>=_) _ _ _;refine AJ (NI At Lt H Ns (AL G) (b2 W O) (AA (Aa G) hz) fun Gt d y If=>AX ⟨On Dw _,?_⟩);have yk:∀b,129≤b→b≠Sa→¬(Tb b∨b=Sa):=fun b b4 ck q=>q.elim (Cg b4) ck;refine T8 m D H N Lt I S T Ns av bi hz r (j+1) Gt (js hr G) G ⟨?_,?_⟩ d (y.base (x.base B)) (fun b hb=>(O b hb).imp_left fun q=>AF q (AA x.size y.size)) fun s₃ e z=>t s₃ e ?_
  ·refine Q6 c.isg fun o nm qn F r=>?_;exact X3 o nm qn ⟨y.keep _ o (yk a av T) F,r⟩
  ·refine Bz c.st fun Is f M=>?_;exact⟨Is,y.gens _ _ f,fun i l Q up=>M i l (fun b o hb F=>Q b o hb (y.keep b o (yk b (bi b hb) fun q=>I (.inr (q▸hb))) F)) ⟨AA y.size up.1,AA y.toks up.2⟩⟩
  ·exact((x.mono fun b hb=>.inl hb).comp (.of y) fun b hb=>.inl (hb.imp_left .inl)).comp z fun b hb=>.inl hb
theorem Xd{res:Ad}{s:AO}{W₀:AS}{I:Nat}(J:Good (k+2) A.in1)(If:∀b,Tb b→W₀ b)(Is:∀b,W₀ b→b<s.heap.objs.size)(Lt:Sa≠L)(M:Sa<s.heap.objs.size)(Ns:a<s.heap.objs.size)(en:L<s.heap.objs.size)(av:a≠L)(Q:a≠Sa)(Gt:129≤Sa)(bi:129≤a)(eq:129≤L)(hz:items.length≤1000000)
  (bl:Q3 Z k a g L items s) (B:DM Z.C s) (S:s.heap.get? Sa=some {cls:=.type "list",data:=.seq #[] I})
  (c3:∀s',Fp (fun b=>W₀ b∨b=Sa∨gX L s.heap.objs.size b) Sa items items.length s'→SG g Z.C (fun b=>MP L s.heap.objs.size b∨b=Sa) s s'→R (.ok (.ret res)) s'):Kd (Ar Z.prog Z.w) A (.builtin "list.extend.loop" ⟨[.ref Sa,.ref a,res],[]⟩) R s:=by
 have T:∀b,129≤b→b<s.heap.objs.size→b≠L→¬MP L s.heap.objs.size b:=fun b b2 b3 er q=>by
  rcases q with q|q
  ·exact Cg b2 q
  ·have q':b=L∨b=s.heap.objs.size∨b=s.heap.objs.size+1:=q;exact ii b3 er q'
 have c4:∀b,gX L s.heap.objs.size b→129≤b:=fun b hb=>by
  have b4:b=L∨b=s.heap.objs.size∨b=s.heap.objs.size+1:=hb;exact iz M Gt eq b4
 let W:AS:=fun b=>W₀ b∨b=Sa∨gX L s.heap.objs.size b
 have D:∀b,Tb b→W b:=fun b hb=>.inl (If b hb);have N:∀b,gX L s.heap.objs.size b→W b:=fun b hb=>.inr (.inr hb);have df:W Sa:=.inr (.inl rfl);have G:=T Sa Gt M Lt;have U:=T a bi Ns av;have V:∀s':AO,s.heap.objs.size≤s'.heap.objs.size→∀b,W b→b<s'.heap.objs.size∨gX L s.heap.objs.size b:=fun s' h b hb=>by
  rcases hb with q|q|q
  ·exact .inl (AF (Is b q) h)
  ·exact .inl (AF (by rw[(q:b=Sa)];exact M) h)
  ·exact .inr q
 have em:Fp W Sa items 0 s:=⟨[],I,S,rfl,fun i v p ck=>by cases ck⟩;refine Bz bl.st fun gs c O=>?_;have fe:DM Z.C (s.setGen g .running):=B.regens (Go B.bare rfl);have d:Ol Z A.in1 items L s.heap.objs.size gs items.length (s.setGen g .running):=O A.in1 (s.setGen g .running) J fe (fun u0 h=>h) ⟨AK _,AK _⟩;refine JD Iv ?_;rw[Fv Dw _];show Af _ A.in1 (Ks (.ref a)>>=_) _ _ s;by_cases cn:items.length=0
 ·have e:Ol Z A.in1 items L s.heap.objs.size gs 0 (s.setGen g .running):=cn▸d;refine AJ (MO J.handled J.room B bl.isg c e fun s' x=>AX (c3 s' ?_ (x.mono fun b hb=>.inl hb)));rw[cn];exact em.goes (fun o E=>x.keep _ _ G E) fun b o hb E=>x.keep b o (fun q=>hb (q.elim (D b) (N b))) E
 ·have F:0<items.length:=Cd cn;refine AJ (MN (j:=0) J.handled J.room F B bl.isg c d U fun v s' ck f x fn=>?_);have co:Fp W Sa items 0 s':=em.goes (fun o E=>x.keep _ _ G E) fun b o hb E=>x.keep b o (fun q=>hb (q.elim (D b) (N b))) E;show Af _ A.in1 (Nd Sa (·.push v)>>=_) _ _ _;refine AJ (NI co df D Gt (AL F) (ck W (V s (AK _))) (f') fun l m y c1=>AX ⟨On Dw _,?_⟩);have yk:∀b,129≤b→b≠Sa→¬(Tb b∨b=Sa):=fun b b2 b3 q=>q.elim (Cg b2) b3;refine T8 (g:=g) (n:=s.heap.objs.size) J.handled J.room D N df G U Q Gt bi c4 hz _ 1 l rfl F ⟨?_,?_⟩ m (y.base (x.base B)) (V l (AA x.size y.size)) fun s₃ t z=>c3 s₃ t ?_
  ·refine Q6 f.isg fun o nm qn E r=>?_;exact X3 o nm qn ⟨y.keep _ o (yk a bi Q) E,r⟩
  ·refine Bz f.st fun c2 u H=>?_;exact⟨c2,y.gens _ _ u,fun w At P up=>H w At (fun b o hb E=>P b o hb (y.keep b o (yk b (c4 b hb) fun q=>G (.inr (q▸hb))) E)) ⟨AA y.size up.1,AA y.toks up.2⟩⟩
  ·exact((x.mono fun b hb=>.inl hb).comp (.of y) fun b hb=>.inl (hb.imp_left .inl)).comp z fun b hb=>.inl hb
end
section
variable{prog:IZ}{w:P'}{C:Cx}{A:Bl}{E:Ad→AO→Prop}{s:AO}
theorem Zb(F:s.heap.get? S=some {cls:=.type "list",data:=.seq #[] c}) (B:129≤S)
  (h:∀s' I,s'.heap.get? S=some {cls:=.type "list",data:=.seq #[] I}→Step C (fun b=>Tb b∨b=S) s s'→s'.gens=s.gens→X () s'):Af (Ar prog w) A (Nd S (·.push .none)>>=fun N=>Nd S (·.pop)) X E s:=by
 refine Bz (Ep (C:=C) (vs:=[]) F B (·.push D_) (ws:=[.none]) (by rfl)) fun G H J=>?_;refine AJ (Me F rfl ?_);refine Bz (Ep (C:=C) H B (·.pop) (ws:=[]) (by rfl)) fun D L M=>?_;refine Me (hz:=by seq_fits) H rfl ?_;exact h _ D L (J.trans M) rfl
theorem aB(F:s.heap.IsGen I g)(G:S≠I)(J:s.heap.get? S=some {cls:=.type "list",data:=.seq #[] c}) (D:129≤S)
  (h:∀s' B,s'.heap.get? S=some {cls:=.type "list",data:=.seq #[] B}→Step C (fun b=>Tb b∨b=S) s s'→s'.gens=s.gens→Kd (Ar prog w) A (.builtin "list.extend.loop" ⟨[.ref S,.ref I,res],[]⟩) R s'):
  Af (Ar prog w) A.in1 (FK (.ref S) (.ref I) res)
   (fun fin s'=>match fin with|.done f=>R (.ok f) s' | .again B=>B.quiet=true∧Kd (Ar prog w) A B R s') (fun e s'=>R (.error e) s') s:=by
 unfold FK;refine AJ (wpAny_typeOf F.typeIs ?_);have L:Ni (.ref S) (.ref I)=false:=by simp[Ni,G]
 have M:(It "generator"==It "list")=false:=dc;have N:(It "generator"==It "tuple")=false:=dc;simp only[L,M,N,Sj,Gv,if_false];refine AJ (wpAny_pyIter_gen F ?_);refine AJ (BV ?_);unfold Builtin.List.listLengthHint;refine AJ (Mf F.typeIs PySem.F.gen_no_len ?_);show Af _ A.in1 (specialOf (J6 I) (Ap "__length_hint__")>>=_) _ _ _;refine AJ (Mf F.typeIs PySem.F.gen_no_hint ?_);refine AX ?_;show Af _ A.in1 (rule "list.extend.makes-room">>=fun O=>Builtin.List.listTouch (.ref S)>>=fun O=>again (.builtin "list.extend.loop" ⟨[.ref S,.ref I,res],[]⟩)) _ _ _;refine AJ (db ?_);refine AJ ?_;refine Zb (C:=C) J D fun s' B H y P=>?_;exact AX ⟨On Dw _,h s' B H y P⟩
theorem SB(S:s.heap.IsGen I g)(B:129≤s.heap.objs.size)(F:I<s.heap.objs.size)
  (h:∀s' M,s'.heap.get? s.heap.objs.size=some {cls:=.type "list",data:=.seq #[] M}→D9 C s s'→s'.gens=s.gens→s.heap.objs.size<s'.heap.objs.size→Kd (Ar prog w) A.in1 (.builtin "list.extend.loop" ⟨[.ref s.heap.objs.size,.ref I,.none],[]⟩) (wants (fun r s₂=>r= .none∧Q (.ref s.heap.objs.size) s₂) E) s'):
  Af (Ar prog w) A (call (.type "list") [.ref I]) Q E s:=by
 refine callType_codes (Q₁:=fun obj s₁=>obj= .ref s.heap.objs.size∧s₁={s with heap:=s.heap.push {cls:=.type "list",data:=.seq #[]}}) PySem.F.called_list (PySem.F.typeCall_list_1 _) PySem.F.entry_list_init
  (code_list_new _ ⟨rfl,rfl⟩) fun obj s₁ G=>?_
 refine ER G fun N O=>?_;subst N O;have J:(s.heap.push {cls:=.type "list",data:=.seq #[]}).get? s.heap.objs.size=some {cls:=.type "list",data:=.seq #[]}:=A4 _ rfl;refine⟨⟨_,J,rfl⟩,PySem.F.args_list_init_2 _ _,?_⟩;show Af _ A.in1.in1 (do let old ←Op (.ref s.heap.objs.size);Builtin.List.listUpdate (.ref s.heap.objs.size) (fun L=> #[]);letGo old.toList.reverse;FK (.ref s.heap.objs.size) (.ref I) .none) _ _ _;refine AJ ?_;unfold Op;refine AJ (Ud J rfl (AX ?_));show Af _ A.in1.in1 (Nd s.heap.objs.size (fun L=> #[])>>=fun L=>letGo (#[]:Array Ad).toList.reverse>>=fun L=>FK (.ref s.heap.objs.size) (.ref I) .none) _ _ _;refine AJ (Me J rfl ?_);have D:D9 C s {s with heap:=s.heap.push {cls:=.type "list",data:=.seq #[]}}:=.push (t:=s.toks);refine Bz (Ep (C:=C) (vs:=[]) (s:={s with heap:=s.heap.push {cls:=.type "list",data:=.seq #[]}}) J B (fun L=> #[]) (ws:=[]) rfl) fun P T U=>?_;have V:=D.comp U fun b hb=>hb.imp_right fun q=>BC q.symm;refine AJ (wpAny_letGo ?_);refine aB (C:=C) (g:=g) (A:=A.in1) (R:=wants (fun r s₂=>r= .none∧Q (.ref s.heap.objs.size) s₂) E) ?_ (CU F) T B fun s' M H y W=>?_
 ·refine Q6 S fun o nm Z a r=>?_;exact X3 o nm Z ⟨(Heap.get?_update_other _ _ (CU F)).trans (Am _ a),r⟩
 ·exact h s' M H (V.comp y fun b hb=>hb.imp_right fun q=>BC q.symm) W (Fm H)
end
theorem Step.gensize(x:Step C X s s'):s.gens.size≤s'.gens.size:=by
 rcases Ix s'.gens.size s.gens.size with h|h
 ·have:=x.gens s'.gens.size _ (Ev h);rw[Sr (AK _)]at this;cases this
 ·exact h
section
variable{Z:Zx}{k:Nat}{F:Fx}{ρ κ:Ci}{st:Bool}
theorem PF.listGen(T:J2 Z.C 12 U fd)(m:Gl Z.C "enumerate" (.type "enumerate")) (n:F.env.kindOf l=some .globalImplicit) (t:Gl Z.C l (.type "list")) (b2:F.env.kindOf x=some .globalImplicit) (b3:Gl Z.C x (.ref U)) (b4:PE Z (k+1) F ρ κ false e (.str addr)) (u:addr.length≤1000) (V:(Ii addr).length≤1000)
  (w:autoParam (CW e=false) ar) (hd:autoParam ((x==("__debug__":Ax))=false) ad) (At:autoParam ((l==("__debug__":Ax))=false) ad):
  PF Z (k+6) F ρ κ st (.Call (.Name l c3) [.Call (.Name x p) [e] [] bi] [] pos) (Ii addr):=.ofRun fun A O s Q E G R ck=>
 MZ R n t At rfl (R1 T m b2 b3 b4 (HM u) w hd A O s _ _ (G.less (gF)) R fun L g s₁ s₂ y z Gt If hz N=>by
  have J:=R.ext y;have W:=J.ext z;have D:129≤L:=by rw[Gt];exact J.base.low
  refine SB (C:=Z.C) N.isg (hz▸AA D (AM _ 2)) (by rw[hz];exact AK _) fun s₃ bl M H P B=>?_;rw[hz]at M B⊢;have a:Q3 Z k (L+1) g L (Ii addr) s₃:=by
   refine Bz N.st fun gs Is cn=>?_;refine Q6 N.isg fun o nm qn S r=>?_;exact⟨X3 o nm qn ⟨H.keep _ o (Cg (A_ D)) S,r⟩,gs,P▸Is,fun co Lt Ns Sa d up=>cn co Lt Ns Sa (fun o S=>d o (H.keep L o (Cg D) S)) ⟨AA H.size up.1,AA H.toks up.2⟩⟩
  have f:∀b,F.V O st b→b<s.heap.objs.size:=Fx.V_lt R st;have I:s.heap.objs.size≤L:=by rw[Gt];exact y.size
  refine Xd (k:=k) (A:=A.in1) (W₀:=F.V O st) ⟨G.handled,by have:=G.depth;exact AY (AV (BE 8 (AM (_+2) 4)) _) this,by have:=G.units;exact kE this⟩ (Fx.V_tb R st) (fun b hb=>by have:=f b hb;exact B7 (AF this I) (AY (AM _ 2) B)) (ft) B (Aa B) (AY (AM _ _) B) (fu) (fv) (AA D (AM _ _)) (By D) D (HM V) a (H.base W.base) M fun h c1 j=>⟨rfl,?_⟩;refine Hd c1.obj fun vs c S hl hi=>?_;refine ck _ c vs h (AA I (AM _ _)) S (DW.of_at hl fun i v p c2 hp=>(hi i v p c2 hp).goes fun b o hb S=>⟨S,fun q=>hb (q.elim .inl fun q=>.inr (.inl q))⟩) ?_;refine((SG.of (g:=g) (y.trans (z.trans H))).comp j fun b hb=>?_).fin ?_
  ·rcases hb with(hb|hb)|hb
   ·exact .inl hb
   ·have av:b=L∨b=s₃.heap.objs.size∨b=s₃.heap.objs.size+1:=hb;exact .inr (ht Gt hz B I av)
   ·exact .inr (by rw[(hb:b=L+2)];exact AA I (AM _ _))
  ·rw[If];exact y.gensize)
end
theorem joinOk_of(h:∀x∈xs,x.length≤B)(hn:xs.length*B+xs.length*sep.length≤16000000):dh sep xs=true:=by
 unfold dh Builtin.Str.tooLong;rw[StrLaws.joinTotal,Dn,decide_eq_false_iff_not,Ay];have:=I8 xs h;exact A0.mpr (AA (Bf this _) (AA hn dc))
noncomputable def Jp:Ax:="\""
noncomputable def Bh(addr:Ax):List (Nat×Ax)→Nat→Option Nat→List Ax→Nat×List Ax
 |[],st,_,A=>(st,A)
 |(p,c)::r,st,none,A=>if c=Jp then Bh addr r st (some p) A else Bh addr r st none A
 |(p,c)::r,st,some o,A=>if c=Jp then Bh addr r (p+1) none (if st=o then A else A++ [CJ addr (some (st:Int)) (some (o:Int))]) else Bh addr r st (some o) A
theorem Bh.c1(addr:Ax){st B A}:Bh addr [] st B A=(st,A):=rfl
theorem Bh.c2(addr:Ax){p c r st A}:Bh addr ((p,c)::r) st none A=if c=Jp then Bh addr r st (some p) A else Bh addr r st none A:=rfl
theorem Bh.c3(addr:Ax){p c r st o A}:Bh addr ((p,c)::r) st (some o) A=if c=Jp then Bh addr r (p+1) none (if st=o then A else A++ [CJ addr (some (st:Int)) (some (o:Int))]) else Bh addr r st (some o) A:=rfl
noncomputable def K4(addr:Ax):List (Nat×Ax):=CA 0 false addr.cps.toList
noncomputable def Cs(addr:Ax):Ax:=
 if B6 addr Jp then
  (let r:=Bh addr (K4 addr) 0 none []
   Cf "" (if r.1<addr.length then r.2++ [CJ addr (some (r.1:Int)) none] else r.2))
 else addr
noncomputable def H5:Option Nat→PV
 |none=>.none
 |some n=>.int (n:Int)
theorem JP:∀(A:List Nat)(i:Nat)(e:Bool),(CA i e A).length≤A.length+1
 |[],i,true=>by exact dc
 |[],i,false=>by exact dc
 |c::A,i,true=>by have:=JP A (i+1) false;simp[CA.c1,CA.c2,CA.c3,CA.c4];exact this
 |c::A,i,false=>by
  have B:=JP A (i+1) false;have D:=JP A (i+1) true;rw[CA.c4];split<;>simp<;>first|exact A_ D|exact B
theorem HH(addr:Ax):∀(l:List (Nat×Ax))(st:Nat)(D:Option Nat)(A:List Ax),(∀x∈A,x.length≤addr.length)→(∀x∈(Bh addr l st D A).2,x.length≤addr.length)∧(Bh addr l st D A).2.length≤A.length+l.length
 |[],st,D,A,h=>by cases D<;>exact⟨h,AK _⟩
 |(p,c)::r,st,none,A,h=>by
  rw[Bh.c2];split
  ·have:=HH addr r st (some p) A h;exact⟨this.1,A_ this.2⟩
  ·have:=HH addr r st none A h;exact⟨this.1,A_ this.2⟩
 |(p,c)::r,st,some o,A,h=>by
  rw[Bh.c3];split
  ·have B:∀x∈(if st=o then A else A++ [CJ addr (some (st:Int)) (some (o:Int))]),x.length≤addr.length:=by
    split
    ·exact h
    ·intro x hx;rcases AR.mp hx with hx|hx
     ·exact h x hx
     ·rw[AI.mp hx];exact N0 ..
   have:=HH addr r (p+1) none _ B;refine⟨this.1,AA this.2 ?_⟩;rw[AP];split<;>simp<;>exact gS
  ·have:=HH addr r st (some o) A h;exact⟨this.1,A_ this.2⟩
section
variable{Z:Zx}{k:Nat}{F:Fx}
noncomputable def Mt(addr:Ax)(st A res p c:Internal.Slot):Ci:=[("addr",.val (.str addr)),("start",st),("open_pos",A),("result",res),("pos",p),("ch",c)]
noncomputable def Tu:D7:=FQ 4 (Ba (Au 13))
structure ap(F:Fx)(C:Cx):Prop where
 sc:F.env.scope=Bu (Au 13)
 ln:Gl C "len" (.builtin "len")
theorem ap.loop(h:ap F C):ap (F.loop wr) C:=⟨h.sc,h.ln⟩
theorem ap.kind(h:ap F C)(x:Ax)(hx:(Bu (Au 13)).names.lookup x=some kd):F.env.kindOf x=some kd:=by show F.env.scope.names.lookup _=_;rw[h.sc];exact hx
theorem ap.inter(h:ap F C):B5 F.env=false:=by unfold B5;rw[h.sc];rfl
theorem Jd(J:ap F Z.C)(hz:addr.length≤1000):∀(l:List (Nat×Ax))(st:Nat)(H:Option Nat)(A:List Ax)(L sc:Internal.Slot),A.length+l.length≤3000→
  ∃B D E,Loop Z k F [] (DP Tu) (BW Tu) (EG Tu) (l.map H9) (Mt addr (.val (.int st)) (.val (H5 H)) (.own (A.map PV.str)) L sc) .next
   (Mt addr (.val (.int (Bh addr l st H A).1)) B (.own ((Bh addr l st H A).2.map PV.str)) D E)
 |[],st,H,A,L,sc,hn=>by cases H<;>exact X3 _ _ _ (.done fun wr=>PS.nil)
 |(p,c)::r,st,H,A,L,sc,hn=>by
  rw[AP]at hn;have G:Bind (DP Tu) (H9 (p,c)) (Mt addr (.val (.int st)) (.val (H5 H)) (.own (A.map PV.str)) L sc) (Mt addr (.val (.int st)) (.val (H5 H)) (.own (A.map PV.str)) (.val (.int p)) (.val (.str c))):=
   .tup (.tup _) (.cons (Ah 4 rfl) (.cons (Ah 5 rfl) .nil))
  by_cases N:c=Jp
  ·subst N;cases H with
   |none=>
    refine WQ (Jd J hz r st (some p) A (.val (.int p)) (.val (.str Jp)) (Aa hn)) fun B D E hl=>?_;rw[(by rw[Bh.c2,if_pos rfl]:Bh addr ((p,Jp)::r) st none A=Bh addr r st (some p) A)];refine X3 B D E (.next G (fun wr=>?_) hl)
    conv=>arg 6;whnf
    unfold Mt;exact PS.one (P1.ifT (PB.of (PB.cmp (PE.name (p:=.str Jp) (AD 5 rfl)) PE.cstr C5.eqS) rfl) (PS.one (P1.ifT (PB.cmp (PE.name (p:=H5 none) (AD 2 rfl)) PE.cnone C5.isNone) (PS.one (P1.assign (p:=H5 (some p)) (PE.name (p:=.int p) (AD 4 rfl)) (Ah 2 rfl))))))
   |some o=>
    have I:(if st=o then A else A++ [CJ addr (some (st:Int)) (some (o:Int))]).length≤A.length+1:=by split<;>simp
    refine WQ (Jd J hz r (p+1) none (if st=o then A else A++ [CJ addr (some (st:Int)) (some (o:Int))]) (.val (.int p)) (.val (.str Jp)) (AA (Bf I _) (by rw[Bb];exact hn))) fun B D E hl=>?_;rw[(by rw[Bh.c3,if_pos rfl]:Bh addr ((p,Jp)::r) st (some o) A=Bh addr r (p+1) none (if st=o then A else A++ [CJ addr (some (st:Int)) (some (o:Int))]))];refine X3 B D E (.next G (fun wr=>?_) hl);have O:=J.loop (wr:=wr)
    conv=>arg 6;whnf
    refine PS.one (P1.ifT (PB.of (PB.cmp (PE.name (p:=.str Jp) (AD 5 rfl)) PE.cstr C5.eqS) rfl) (PS.one (P1.ifF (PB.cmp (PE.name (p:=H5 (some o)) (AD 2 rfl)) PE.cnone C5.isNoneF) ?_)));refine PS.cons (ρ₁:=Mt addr (.val (.int st)) (.val (H5 (some o))) (.own ((if st=o then A else A++ [CJ addr (some (st:Int)) (some (o:Int))]).map PV.str)) (.val (.int p)) (.val (.str Jp))) ?_ ?_
    ·by_cases M:st=o
     ·rw[if_pos M];exact P1.ifF (PB.of (PB.cmp (PE.name (p:=.int st) (AD 1 rfl)) (PE.name (p:=H5 (some o)) (AD 2 rfl)) C5.neI) (by rw[M];simp)) PS.nil
     ·rw[if_neg M];refine P1.ifT (PB.of (PB.cmp (PE.name (p:=.int st) (AD 1 rfl)) (PE.name (p:=H5 (some o)) (AD 2 rfl)) C5.neI) (by simp only[bne_iff_ne,ne_eq];exact fun h=>M (Ce.mp h))) (PS.one ?_);refine P1.mutate (AD 3 rfl) (.cons (PE.sliceS (PE.name (p:=.str addr) (AD 0 rfl)) (.some (PE.name (p:=.int st) (AD 1 rfl))) (.some (PE.name (p:=H5 (some o)) (AD 2 rfl))) (HM hz)) .nil) ?_ (Ah 3 rfl) rfl O.inter;have:=Fb.append (Z:=Z) (k:=k) (xs:=A.map PV.str) (p:=.str (CJ addr (some (st:Int)) (some (o:Int)))) (by rw[AH];exact AA (AM _ _) (AA hn dc))
      rwa [Ac]
    ·refine PS.cons (ρ₁:=Mt addr (.val (.int ((p+1:Nat):Int))) (.val (H5 (some o))) (.own ((if st=o then A else A++ [CJ addr (some (st:Int)) (some (o:Int))]).map PV.str)) (.val (.int p)) (.val (.str Jp))) (P1.assign (p:=.int ((p+1:Nat):Int)) (PE.add (PE.name (p:=.int p) (AD 4 rfl)) PE.cint) (Ah 1 rfl)) ?_;exact PS.one (P1.assign (p:=H5 none) PE.cnone (Ah 2 rfl))
  ·refine WQ (Jd J hz r st H A (.val (.int p)) (.val (.str c)) (Aa hn)) fun B D E hl=>?_;rw[show Bh addr ((p,c)::r) st H A=Bh addr r st H A by cases H<;>exact if_neg N];refine X3 B D E (.next G (fun wr=>?_) hl)
   conv=>arg 6;whnf
   unfold Mt;exact PS.one (P1.ifF (PB.of (PB.cmp (PE.name (p:=.str c) (AD 5 rfl)) PE.cstr C5.eqS) (beq_eq_false_iff_ne.mpr N)) PS.nil)
end
structure GenAv(C:Cx):Prop where
 gen:∃a fd,J2 C 12 a fd∧Gl C "_iter_escaped_chars" (.ref a)
 en:Gl C "enumerate" (.type "enumerate")
section
variable{Z:Zx}{k:Nat}
theorem OC(T:J2 Z.C 13 a fd)(E:GenAv Z.C)(H:Gl Z.C "len" (.builtin "len")) (hz:addr.length≤1000):Bk Z (k+3) (.ref a) [.str addr] [] [] (.str (Cs addr)):=by
 refine Bk.fnS T ["addr"] ["start","open_pos","result","pos","ch"] rfl rfl (fun vs W=>?_) rfl dc fun F N b b=>?_
 ·refine B8 (b' W) fun v O=>?_;subst O;exact T.bind fun c=>rfl
 ·have J:ap F Z.C:=⟨N,H⟩;show Dq Z _ F (Mt addr .unb .unb .unb .unb .unb) [] _ _
  conv=>arg 6;whnf
  unfold Cs;by_cases M:B6 addr Jp=true
  ·rw[if_pos M];refine Dq.cons (P1.ifF (PB.of (PB.cmp PE.cstr (PE.name (p:=.str addr) (AD 0 rfl)) C5.notInS) (by show(!B6 addr Jp)=false;rw[M];rfl)) PS.nil) ?_;refine Dq.cons (ρ₁:=Mt addr (.val (.int ((0:Nat):Int))) .unb .unb .unb .unb) (P1.assign (p:=.int ((0:Nat):Int)) PE.cint (Ah 1 rfl)) ?_;refine Dq.cons (ρ₁:=Mt addr (.val (.int ((0:Nat):Int))) (.val (H5 none)) .unb .unb .unb) (P1.assign (p:=H5 none) PE.cnone (Ah 2 rfl)) ?_;refine Dq.cons (ρ₁:=Mt addr (.val (.int ((0:Nat):Int))) (.val (H5 none)) (.own []) .unb .unb) (P1.assignOwn (PO.list .nil) (Ah 3 rfl)) ?_;have I:(K4 addr).length≤addr.length+1:=JP _ _ _;refine WQ (Jd (k:=k+2) J hz (K4 addr) 0 none [] .unb .unb (by rw[Fd];exact hR hz I)) fun P Q R hl=>?_;refine K7 E.gen fun f i d S=>?_;refine Dq.cons (P1.forGen (k:=k) d E.en (J.kind _ rfl) S (PE.name (p:=.str addr) (AD 0 rfl)) (HM hz) hl) ?_;refine ER (HH addr (K4 addr) 0 none [] (fun x hx=>by cases hx)) fun U L=>?_;rw[Fd,Bw]at L;generalize Bh addr (K4 addr) 0 none []=r at*;obtain⟨st,A⟩:=r;have G:A.length≤(K4 addr).length:=L;refine Dq.cons (ρ₁:=Mt addr (.val (.int st)) P (.own ((if st<addr.length then A++ [CJ addr (some (st:Int)) none] else A).map PV.str)) Q R) ?_ ?_
   ·by_cases D:st<addr.length
    ·rw[if_pos D];refine P1.ifT (PB.of (PB.cmp (PE.name (p:=.int st) (AD 1 rfl)) (PE.call (J.kind _ rfl) H (.builtin _) (.cons (PE.name (p:=.str addr) (AD 0 rfl)) .nil) (Bk.lenS (HM hz))) C5.ltI) (decide_eq_true (ai D))) (PS.one ?_);refine P1.mutate (AD 3 rfl) (.cons (PE.sliceS (PE.name (p:=.str addr) (AD 0 rfl)) (.some (PE.name (p:=.int st) (AD 1 rfl))) .none (HM hz)) .nil) ?_ (Ah 3 rfl) rfl J.inter;have:=Fb.append (Z:=Z) (k:=k+2) (xs:=A.map PV.str) (p:=.str (CJ addr (some (st:Int)) none)) (by rw[AH];exact AA G (AA I (AA (BS hz) dc)))
     rwa [Ac]
    ·rw[if_neg D];exact P1.ifF (PB.of (PB.cmp (PE.name (p:=.int st) (AD 1 rfl)) (PE.call (J.kind _ rfl) H (.builtin _) (.cons (PE.name (p:=.str addr) (AD 0 rfl)) .nil) (Bk.lenS (HM hz))) C5.ltI) (decide_eq_false (g0 D))) PS.nil
   ·refine Dq.stop (P1.ret (PE.meth (st:=false) PE.cstr (.cons (PE.nameO (xs:=(if st<addr.length then A++ [CJ addr (some (st:Int)) none] else A).map PV.str) (AD 3 rfl)) .nil) (Dh.join (joinOk_of (B:=1000) (fun x hx=>?_) ?_))))
    ·have V:x∈A∨x=CJ addr (some (st:Int)) none:=by
      split at hx
      ·simpa using hx
      ·exact .inl hx
     rcases V with h|h
     ·exact AA (U x h) hz
     ·rw[h];exact AA (N0 ..) hz
    ·have:(if st<addr.length then A++ [CJ addr (some (st:Int)) none] else A).length≤A.length+1:=by split<;>simp
     have e:(("":Ax)).length=0:=rfl;rw[e];exact hS hz I G this
  ·rw[if_neg M];exact Dq.stop (P1.ifT (PB.of (PB.cmp PE.cstr (PE.name (p:=.str addr) (AD 0 rfl)) C5.notInS) (by show(!B6 addr Jp)=true;simpa using M)) (PS.one (P1.ret (PE.name (AD 0 rfl)))))
end
noncomputable def NX:Ax:="("
noncomputable def Tx:Ax:=")"
noncomputable def FP:List (Nat×Ax)→Int→Option Int
 |[],o=>some o
 |(_,c)::r,o=>if c=NX then FP r (o+1) else if c=Tx then(if o-1<0 then none else FP r (o-1)) else FP r o
theorem FP.c2:FP ((A,c)::r) o=if c=NX then FP r (o+1) else if c=Tx then(if o-1<0 then none else FP r (o-1)) else FP r o:=rfl
noncomputable def G5(addr:Ax):Bool:=match FP (K4 (Cs addr)) 0 with
 |none=>false
 |some o=>o==0
noncomputable def Nm:Ax:="('', '')"
noncomputable def D8(x:Ax):Ax:=if G5 x then x else Nm
section
variable{Z:Zx}{k:Nat}{F:Fx}
noncomputable def Nb(addr:Ax)(A p c:Internal.Slot):Ci:=[("addr",.val (.str addr)),("opens",A),("pos",p),("ch",c)]
noncomputable def UP:D7:=FQ 2 (Ba (Au 14))
theorem MY:∀(l:List (Nat×Ax))(o:Int)(E sc:Internal.Slot),
  ∃ρ',Loop Z k F [] (DP UP) (BW UP) (EG UP) (l.map H9) (Nb addr (.val (.int o)) E sc) (match FP l o with|none=>.ret (.bool false)|some _=>.next) ρ'∧
   ∀G,FP l o=some G→∃I J,ρ'=Nb addr (.val (.int G)) I J
 |[],o,E,sc=>⟨_,.done fun wr=>PS.nil,fun G h=>by cases h;exact X2 _ _ rfl⟩
 |(p,c)::r,o,E,sc=>by
  have A:Bind (DP UP) (H9 (p,c)) (Nb addr (.val (.int o)) E sc) (Nb addr (.val (.int o)) (.val (.int p)) (.val (.str c))):=
   .tup (.tup _) (.cons (Ah 2 rfl) (.cons (Ah 3 rfl) .nil))
  by_cases B:c=NX
  ·refine Bz (MY (addr:=addr) r (o+1) (.val (.int p)) (.val (.str c))) fun ρ' hl hr=>?_;rw[(by rw[FP.c2,if_pos B]:FP ((p,c)::r) o=FP r (o+1))];refine⟨ρ',.next A (fun wr=>?_) hl,hr⟩
   conv=>arg 6;whnf
   unfold Nb;exact PS.one (P1.ifT (PB.of (PB.cmp (PE.name (p:=.str c) (AD 3 rfl)) PE.cstr C5.eqS) (beq_iff_eq.mpr B)) (PS.one (P1.augAdd (a:=o) (b:=1) (AD 1 rfl) PE.cint (Ah 1 rfl))))
  ·by_cases D:c=Tx
   ·by_cases H:o-1<0
    ·rw[(by rw[FP.c2,if_neg B,if_pos D,if_pos H]:FP ((p,c)::r) o=none)];refine⟨Nb addr (.val (.int (o-1))) (.val (.int p)) (.val (.str c)),.ret A fun wr=>?_,fun G h=>by cases h⟩
     conv=>arg 6;whnf
     unfold Nb;refine PS.one (P1.ifF (PB.of (PB.cmp (PE.name (p:=.str c) (AD 3 rfl)) PE.cstr C5.eqS) (beq_eq_false_iff_ne.mpr B)) (PS.one (P1.ifT (PB.of (PB.cmp (PE.name (p:=.str c) (AD 3 rfl)) PE.cstr C5.eqS) (beq_iff_eq.mpr D)) ?_)));refine PS.cons (P1.augSub (a:=o) (b:=1) (AD 1 rfl) PE.cint (Ah 1 rfl)) ?_;exact PS.one (P1.ifT (PB.of (PB.cmp (PE.name (p:=.int (o-1)) (AD 1 rfl)) PE.cint C5.ltI) (decide_eq_true H)) (PS.one (P1.ret PE.cbool)))
    ·refine Bz (MY (addr:=addr) r (o-1) (.val (.int p)) (.val (.str c))) fun ρ' hl hr=>?_;rw[(by rw[FP.c2,if_neg B,if_pos D,if_neg H]:FP ((p,c)::r) o=FP r (o-1))];refine⟨ρ',.next A (fun wr=>?_) hl,hr⟩
     conv=>arg 6;whnf
     unfold Nb;refine PS.one (P1.ifF (PB.of (PB.cmp (PE.name (p:=.str c) (AD 3 rfl)) PE.cstr C5.eqS) (beq_eq_false_iff_ne.mpr B)) (PS.one (P1.ifT (PB.of (PB.cmp (PE.name (p:=.str c) (AD 3 rfl)) PE.cstr C5.eqS) (beq_iff_eq.mpr D)) ?_)));refine PS.cons (P1.augSub (a:=o) (b:=1) (AD 1 rfl) PE.cint (Ah 1 rfl)) ?_;exact PS.one (P1.ifF (PB.of (PB.cmp (PE.name (p:=.int (o-1)) (AD 1 rfl)) PE.cint C5.ltI) (decide_eq_false H)) PS.nil)
   ·refine Bz (MY (addr:=addr) r o (.val (.int p)) (.val (.str c))) fun ρ' hl hr=>?_;rw[(by rw[FP.c2,if_neg B,if_neg D]:FP ((p,c)::r) o=FP r o)];refine⟨ρ',.next A (fun wr=>?_) hl,hr⟩
    conv=>arg 6;whnf
    unfold Nb;exact PS.one (P1.ifF (PB.of (PB.cmp (PE.name (p:=.str c) (AD 3 rfl)) PE.cstr C5.eqS) (beq_eq_false_iff_ne.mpr B)) (PS.one (P1.ifF (PB.of (PB.cmp (PE.name (p:=.str c) (AD 3 rfl)) PE.cstr C5.eqS) (beq_eq_false_iff_ne.mpr D)) PS.nil)))
end
structure StripAv(C:Cx):Prop extends GenAv C where
 strip:∃a fd,J2 C 13 a fd∧Gl C "_strip_quoted_realnames" (.ref a)
 ln:Gl C "len" (.builtin "len")
section
variable{Z:Zx}{k:Nat}
theorem TQ(T:J2 Z.C 14 a fd)(B:StripAv Z.C)(hz:addr.length≤1000)(D:(Cs addr).length≤1000):Bk Z (k+4) (.ref a) [.str addr] [] [] (.bool (G5 addr)):=by
 refine Bk.fnS T ["addr"] ["opens","pos","ch"] rfl rfl (fun vs N=>?_) rfl dc fun F G O O=>?_
 ·refine B8 (b' N) fun v A=>?_;subst A;exact T.bind fun P=>rfl
 ·have H:∀(x:Ax){kd:GX},(Bu (Au 14)).names.lookup x=some kd→F.env.kindOf x=some kd:=fun x kd hx=>by show F.env.scope.names.lookup _=_;rw[G];exact hx
  show Dq Z _ F (Nb addr .unb .unb .unb) [] _ _
  conv=>arg 6;whnf
  refine K7 B.strip fun S U L I=>?_;refine K7 B.gen fun V W M E=>?_;refine Dq.cons (ρ₁:=Nb (Cs addr) .unb .unb .unb) (P1.assign (PE.up (PE.call (H _ rfl) I L.t.fn (.cons (PE.name (p:=.str addr) (AD 0 rfl)) .nil) (OC (k:=k) L B.toGenAv B.ln hz))) (Ah 0 rfl)) ?_;refine Dq.cons (ρ₁:=Nb (Cs addr) (.val (.int 0)) .unb .unb) (P1.assign PE.cint (Ah 1 rfl)) ?_;refine Bz (MY (Z:=Z) (k:=k+3) (F:=F) (addr:=Cs addr) (K4 (Cs addr)) 0 .unb .unb) fun ρ' hl hr=>?_;unfold G5;cases J:FP (K4 (Cs addr)) 0 with
  |none=>
   rw[J]at hl;exact Dq.stop (P1.forGen (k:=k+1) M B.en (H _ rfl) E (PE.name (p:=.str (Cs addr)) (AD 0 rfl)) (HM D) hl)
  |some o=>
   rw[J]at hl;refine P3 (hr o J) fun Q R A=>?_;subst A;refine Dq.cons (P1.forGen (k:=k+1) M B.en (H _ rfl) E (PE.name (p:=.str (Cs addr)) (AD 0 rfl)) (HM D) hl) ?_;exact Dq.stop (P1.ret (PE.cmp (PE.name (p:=.int o) (AD 1 rfl)) PE.cint C5.eqI))
noncomputable def N9(xs:List Ax)(A v:Internal.Slot):Ci:=[("email_header_fields",.val (.list (xs.map PV.str))),("accepted_values",A),("v",v)]
noncomputable def Tq:D7:=FQ 1 (Ba (Au 15))
structure Md(C:Cx):Prop extends StripAv C where
 check:∃a fd,J2 C 14 a fd∧Gl C "_check_parenthesis" (.ref a)
theorem RY(B:F.env.scope=Bu (Au 15))(I:Md Z.C):∀(l A:List Ax)(G:Internal.Slot),A.length+l.length≤1000→(∀x∈l,x.length≤1000∧(Cs x).length≤1000)→
  ∃D,Loop Z (k+4) F [] (DP Tq) (BW Tq) (EG Tq) (l.map PV.str) (N9 xs (.own (A.map PV.str)) G) .next (N9 xs (.own ((A++l.map D8).map PV.str)) D)
 |[],A,G,hn,hl=>⟨G,by simp only[DZ,Ao];exact .done fun wr=>PS.nil⟩
 |x::l,A,G,hn,hl=>by
  have R:∀wr (x:Ax) {kd:GX},(Bu (Au 15)).names.lookup x=some kd→(F.loop wr).env.kindOf x=some kd:=fun wr x kd hx=>by show F.env.scope.names.lookup _=_;rw[B];exact hx
  have H:∀wr,B5 (F.loop wr).env=false:=fun wr=>by show B5 F.env=false;unfold B5;rw[B];rfl
  rw[AP]at hn;refine ER (hl x AB) fun S T=>?_;refine K7 I.check fun V W M J=>?_;have E:Bind (DP Tq) (.str x) (N9 xs (.own (A.map PV.str)) G) (N9 xs (.own (A.map PV.str)) (.val (.str x))):=.name (Ah 2 rfl);refine B8 (RY B I (xs:=xs) l (A++ [D8 x]) (.val (.str (D8 x))) (by simp;exact j9 hn) fun y U=>hl y (AG _ U)) fun D L=>?_;refine⟨D,.next (ρ₂:=N9 xs (.own ((A++ [D8 x]).map PV.str)) (.val (.str (D8 x)))) E (fun wr=>?_) ?_⟩
  ·conv=>arg 6;whnf
   refine PS.cons (ρ₁:=N9 xs (.own (A.map PV.str)) (.val (.str (D8 x)))) ?_ (PS.one ?_)
   ·have hb:∀{p1 N O P:JE},PB Z (k+4) (F.loop wr) (N9 xs (.own (A.map PV.str)) (.val (.str x))) [] (.UnaryOp .Not (.Call (.Name "_check_parenthesis" p1) [.Name "v" N] [] O) P) (!G5 x):=fun {p1 N O P}=>
     PB.not (PB.plain (PE.call (R wr _ rfl) J M.t.fn (.cons (PE.name (p:=.str x) (AD 2 rfl)) .nil) (TQ (k:=k) M I.toStripAv S T)) I3.bool)
    unfold D8;cases Q:G5 x with
    |true=>exact P1.ifF (PB.of hb (by rw[Q];rfl)) PS.nil
    |false=>
     show P1 Z _ _ _ _ _ _ (N9 xs (.own (A.map PV.str)) (.val (.str Nm)));exact P1.ifT (PB.of hb (by rw[Q];rfl)) (PS.one (P1.assign (p:=.str Nm) PE.cstr (Ah 2 rfl)))
   ·refine P1.mutate (AD 1 rfl) (.cons (PE.name (p:=.str (D8 x)) (AD 2 rfl)) .nil) ?_ (Ah 1 rfl) rfl (H wr);have:=Fb.append (Z:=Z) (k:=k+4) (xs:=A.map PV.str) (p:=.str (D8 x)) (by rw[AH];exact AA (AM _ _) (AA hn dc))
    rwa [Ac]
  ·rw[(by simp:A++(x::l).map D8=A++ [D8 x]++l.map D8)];exact L
theorem XJ{a:Ch}{fd:Dc}{xs:List Ax}(T:J2 Z.C 15 a fd)(G:Md Z.C)(hn:xs.length≤1000)(hl:∀x∈xs,x.length≤1000∧(Cs x).length≤1000):Bk Z (k+5) (.ref a) [.list (xs.map PV.str)] [] [] (.list ((xs.map D8).map PV.str)):=by
 refine Bk.fnS T ["email_header_fields"] ["accepted_values","v"] rfl rfl (fun vs H=>?_) rfl dc fun F A I I=>?_
 ·refine B8 (b' H) fun v B=>?_;subst B;exact T.bind fun J=>rfl
 ·show Dq Z _ F (N9 xs .unb .unb) [] _ _
  conv=>arg 6;whnf
  refine Dq.cons (ρ₁:=N9 xs (.own []) .unb) (P1.assignOwn (PO.list .nil) (Ah 1 rfl)) ?_;refine B8 (RY (k:=k) A G (xs:=xs) xs [] .unb (by simpa using hn) hl) fun D E=>?_;refine Dq.cons (P1.for (PI.list (PC.list (PE.name (p:=.list (xs.map PV.str)) (AD 0 rfl)))) rfl E) ?_;rw[Br];refine Dq.freeze (x:="accepted_values") (xs:=(xs.map D8).map PV.str) (ρ₁:=N9 xs (.val (.list ((xs.map D8).map PV.str))) D) (AD 1 rfl) (Ah 1 rfl) ?_;exact Dq.stop (P1.ret (PE.name (AD 1 rfl)))
end
class inductive V_(scope:Scope)(env:Ti)(ρ κ:Ci):Ci→Prop where
 |nil:V_ scope env ρ κ []
 |cons {y:Ax} {sl:Internal.Slot} {κc:Ci} (h:scope.names.lookup y=some .free) (hm:(y,sl)∈ρ++κ) (hk:env.kindOf y≠some .local) (hr:V_ scope env ρ κ κc):V_ scope env ρ κ ((y,sl)::κc)
theorem V_.at(h:V_ scope env ρ κ A):∀y sl,(y,sl)∈A→scope.names.lookup y=some .free∧(y,sl)∈ρ++κ∧env.kindOf y≠some .local:=by
 induction h with
 |nil=>exact fun y sl B=>by cases B
 |cons h D E hr F=>
  intro y sl B;rcases AN.mp B with e|e
  ·cases e;exact⟨h,D,E⟩
  ·exact F y sl e
noncomputable def cF(scope:Scope)(ns:List Ax):Bool:=scope.names.all fun q=>q.2 != .free || ns.contains q.1
theorem CS.of(ns F:List Ax)(A:B.map (·.1)=F)(hl:T7 scope ns=true)(J:V_ scope env ρ κ B)(L:cF scope F=true)(G:(ns++F).Nodup)(D:F.all Internal.nameOk=true)(M:scope.kind= .function)(H:(scope.names.all fun q=>scope.names.lookup q.1==some q.2)=true):CS scope env ρ κ (ns.map fun x=>(x,Internal.Slot.unb)) B where
 own:=fun x sl hx=>by
  refine Bz (AU.mp hx) fun y I e=>?_;cases e;refine⟨rfl,?_⟩;have:=Al.mp hl _ I;simp only[A7,E0,beq_iff_eq]at this;exact this.1
 cap:=J.at
 free:=fun y I=>by
  have:=Al.mp L _ I;simp only[bne_self_eq_false,Jz]at this;rw[List.contains_iff_mem,←A]at this;refine Bz (AU.mp this) fun q E e=>?_;exact⟨q.2,e▸E⟩
 nd:=by
  rw[Ac,A,BB];exact(List.map_id ns).symm▸G
 ok:=by
  rw[Fe,A7];constructor
  ·rw[Nl,Al];intro x hx;have:=Al.mp hl _ hx;rw[A7]at this;exact this.2
  ·rw[Al]at D⊢;intro q E;exact D _ (A▸CY (f:=fun q:Ax×Internal.Slot=>q.1) E)
 kind:=M
 names:=fun q E=>by simpa using Al.mp H q E
theorem MI{scope:Scope}{env:Ti}{A:Fx}(h:A.env.scope=GD scope env){x:Ax}(hx:scope.names.lookup x=some .globalImplicit):A.env.kindOf x=some .globalImplicit:=by
 show A.env.scope.names.lookup x=_;rw[h];rw[show(GD scope env).names.lookup x=_ from Eb hx];rfl
noncomputable def CN(c:Nat):Ax:=if c<5 then⟨#[97+c]⟩ else Ai
noncomputable def freeOf(row:List Nat):List Nat:=(AW 10).filter fun i=>row.getD i 0==5
noncomputable def EK(row:List Nat)(d c:Nat):List Nat×Nat:=
 (((row.set ((freeOf row).getD 0 0) c).set ((freeOf row).getD (1+d % ((freeOf row).length-1)) 0) c),d/((freeOf row).length-1))
noncomputable def Fh:List Nat→List Nat→Nat→List Nat×Nat
 |[],row,d=>(row,d)
 |c::A,row,d=>Fh A (EK row d c).1 (EK row d c).2
theorem Fh.c2:Fh (c::A) row d=Fh A (EK row d c).1 (EK row d c).2:=rfl
noncomputable def Ei(d:Nat):List Nat:=
 let r:=Fh [0,1,2,3,4] (Aq 10 5) d
 r.1.drop (r.2 % 10)++r.1.take (r.2 % 10)
noncomputable def Bn(row:List Nat):List PV:=row.map fun c=>PV.str (CN c)
theorem MF{A:Type}{l:List A}(h:l.Nodup)(p:A→Bool):(l.filter p).Nodup:=List.Pairwise.filter p h
theorem Lg:i∈freeOf row↔i<10∧row.getD i 0=5:=by
 unfold freeOf;rw[CD,An,beq_iff_eq]
theorem MQ(row:List Nat):(freeOf row).Nodup:=MF HZ _
theorem TJ{L:List Nat}(hn:L.Nodup)(B:a∈L)(hb:b∈L)(A:a≠b):(L.filter fun i=>decide (i≠a∧i≠b)).length=L.length-2:=by
 have e:(L.filter fun i=>decide (i≠a∧i≠b))=(L.erase a).erase b:=by
  rw[hn.erase_eq_filter,(MF hn _).erase_eq_filter,Y4];apply DR;intro x _;by_cases D:x=a<;>by_cases E:x=b<;>simp[D,E]
 rw[e,Se,Se B]
 ·exact rfl
 ·rw[hn.mem_erase_iff];exact⟨fun h=>A h.symm,hb⟩
theorem Vd{row:List Nat}(hr:row.length=10)(G:c<5)(A:2≤(freeOf row).length)(H:j<(freeOf row).length)(E:j≠0):
  (freeOf ((row.set ((freeOf row).getD 0 0) c).set ((freeOf row).getD j 0) c)).length=(freeOf row).length-2:=by
 have g:∀i (hi:i<(freeOf row).length),(freeOf row).getD i 0=(freeOf row)[i]:=fun i hi=>by rw[AE,AL hi];rfl
 have m:∀i (hi:i<(freeOf row).length),(freeOf row).getD i 0∈freeOf row:=fun i hi=>by rw[g i hi];exact BY hi
 have I:=m 0 (Aa A);have J:=m j H;have F:(freeOf row).getD 0 0≠(freeOf row).getD j 0:=by
  rw[g 0 (Aa A),g j H];intro e;exact E ((List.getElem_inj (MQ row)).mp e).symm
 rw[←TJ (MQ row) I J F];generalize (freeOf row).getD 0 0=a at*;generalize (freeOf row).getD j 0=b at*;congr 1;unfold freeOf;rw[Y4];apply DR;intro x hx;rw[An]at hx;refine ER (Lg.mp I) fun L M=>?_;refine ER (Lg.mp J) fun N O=>?_;have D:x<row.length:=cg hr hx;have P:((row.set a c).set b c).getD x 0=if b=x then c else if a=x then c else row.getD x 0:=by
  rw[AE,Nk,Nk];by_cases B:b=x
  ·simp[B,D]
  ·by_cases A:a=x
   ·simp[B,A,D]
   ·simp[B,A,AE]
 rw[P];by_cases B:b=x
 ·subst B;simp;exact BX G
 ·by_cases A:a=x
  ·subst A;simp[B];exact BX G
  ·simp[B,A,Ne.symm B,Ne.symm A]
theorem L'(hr:row.length=10)(d c:Nat):(EK row d c).1.length=10:=by simp[EK,hr]
section
variable{Z:Zx}{k:Nat}{F:Fx}
noncomputable def LY(draw:Nat)(row:Internal.Slot)(le fr:Internal.Slot):Ci:=[("draw",.val (.int (draw:Int))),("row",row),("letter",le),("free",fr)]
noncomputable def Pe:D7:=FQ 1 (Ba (Au 17))
structure bM(F:Fx)(C:Cx):Prop where
 sc:F.env.scope=Bu (Au 17)
 ln:Gl C "len" (.builtin "len")
 rg:Gl C "range" (.type "range")
theorem bM.loop(h:bM F C):bM (F.loop wr) C:=⟨h.sc,h.ln,h.rg⟩
theorem bM.kind(h:bM F C)(x:Ax)(hx:(Bu (Au 17)).names.lookup x=some kd):F.env.kindOf x=some kd:=by show F.env.scope.names.lookup _=_;rw[h.sc];exact hx
theorem HG(h:env.scope=sc)(B:∀A:Ti,Ju e t n {A with scope:=sc}=r):Ju e t n env=r:=by
 have:env={env with scope:=sc}:=by cases env;simp only at h;subst h;rfl
 rw[this];exact B env
noncomputable def Bj(l:List Nat):List PV:=l.map fun i:Nat=>PV.int (i:Int)
theorem A'(l:List Nat):(Bj l).length=l.length:=by exact AH _
theorem Ji(h:i<l.length):(Bj l)[i]?=some (.int (l.getD i 0:Nat)):=by
 unfold Bj;rw[BD,AE,AL h];rfl
theorem Eo(n:Nat):GN 0 n=Bj (AW n):=by
 unfold GN Bj;apply IP;intro i _;simp
theorem Gm(h:p∈Bj l):∃i∈l,p= .int (i:Int):=by
 refine Bz (AU.mp h) fun i hi e=>?_;exact⟨i,hi,e.symm⟩
theorem Pb(h:i<row.length):(Bn row)[i]?=some (.str (CN (row.getD i 0))):=by
 unfold Bn;rw[BD,AE,AL h];rfl
theorem CL(row:List Nat):(Bn row).length=row.length:=by exact AH _
theorem Pa(row:List Nat)(i c:Nat):(Bn row).set i (.str (CN c))=Bn (row.set i c):=by
 unfold Bn;rw[List.map_set]
theorem VA(h:c≤5):(CN c==(Ai))=(c==5):=by
 have:c=0∨c=1∨c=2∨c=3∨c=4∨c=5:=aa h;rcases this with h|h|h|h|h|h<;>subst h<;>rfl
noncomputable def Ha:PV→Nat
 |.int i=>i.toNat
 |_=>0
theorem VD(A:bM F Z.C){draw:Nat}{row:List Nat}(hr:row.length=10)(h5:∀c∈row,c≤5):
  P1 Z k F (LY draw (.own (Bn row)) le fr) [] (FQ 0 (BW Pe)) .next (LY draw (.own (Bn row)) le (.val (.list (Bj (freeOf row))))):=by
 conv=>arg 6;whnf
 refine P1.assignComp (ys:=Bj (freeOf row)) false ⟨X7 (Bj (AW 10)) (fun p=>row.getD (Ha p) 0==5) (fun p=>p) [("place",.unb)] [("row",.own (Bn row))] true true ⟨?_,rfl,?_,?_,?_,?_⟩,fun D=>rfl⟩ ?_ ?_
 ·rw[←Eo];exact PI.range1 (A.kind _ rfl) A.rg (n:=10) (PE.cint (i:=((10:Nat):Int))) dc
 ·exact CS.of ["place"] ["row"] rfl rfl (.cons rfl (AD 1 rfl) (by rw[A.kind _ rfl];decide) .nil) rfl dc rfl rfl rfl
 ·intro p hp;refine Bz (Gm hp) fun i hi B=>?_;subst B;rw[An]at hi;refine⟨[("place",.val (.int (i:Int)))],.name (Ah 0 rfl),fun G E=>⟨?_,fun D=>PE.name (AD 0 rfl)⟩⟩;refine PB.of (PB.cmp (PE.itemL (PE.nameO (xs:=Bn row) (AD 1 rfl)) (PE.name (p:=.int (i:Int)) (AD 0 rfl)) (C' (k:=i) (Yn hi) (by rw[CL,hr];exact jX hi)) (by rw[Ag];exact Pb (cg hr hi)) (by rw[CL];exact V0 hr)) PE.cstr C5.eqS) ?_;show(CN (row.getD i 0)==Ai)=(row.getD (B0 (i:Int)) 0==5);rw[Ag];refine VA (h5 _ ?_);rw[AE,AL (cg hr hi)];exact BY _
 ·rw[A'];decide
 ·unfold freeOf Bj;rw[C1,Ki];congr 1
 ·show Upd _ _ (.val (.list (Bj (freeOf row)))) _;unfold LY;exact Ah 3 rfl
 ·exact HG A.sc fun D=>rfl
end
theorem TA:∀(m a:Nat)(xs:List E),(AW m).filterMap (fun i=>xs[a+i]?)=(xs.drop a).take m:=by
 intro A
 induction A with
 |zero=>
  intro a xs;rfl
 |succ m B=>
  intro a xs;rw[Kh,IQ,Y5];have e:((fun i=>xs[a+i]?) ∘ Nat.succ)=fun i=>xs[(a+1)+i]?:=by
   funext i;show xs[a+(i+1)]?=xs[a+1+i]?;congr 1;exact aX
  rw[e,B (a+1) xs,Du];cases h:xs[a]? with
  |none=>
   have hl:xs.length≤a:=JX.mp h;rw[Tm (A_ hl),Tm hl];simp
  |some x=>
   have D:=(B4.mp h);refine B8 D fun hl hx=>?_;rw[GM hl,WZ,hx]
theorem JM{A:Type}{xs:List A}{lo hi:Option Int}{a b:Nat}(h:EA lo hi none xs.length=((a:Int),(b:Int),1)):IS xs lo hi none=(xs.drop a).take (b-a):=by
 unfold IS;rw[h,sliceRange_one,Y5];exact TA (b-a) a xs
theorem Ka{lo hi:Option Int}{n a b:Nat}(A:lo=some (a:Int)∨(lo=none∧a=0))(F:a≤n)(B:hi=some (b:Int)∨(hi=none∧b=n))(hb:b≤n):EA lo hi none n=((a:Int),(b:Int),1):=by
 unfold EA;rcases A with rfl|⟨rfl,rfl⟩<;>rcases B with rfl|⟨rfl,rfl⟩
 ·have D:¬(a:Int)<0:=SI;have E:¬(b:Int)<0:=SI;simp[D,E];exact⟨fD F,fD hb⟩
 ·have D:¬(a:Int)<0:=SI;simp[D];exact fD F
 ·have E:¬(b:Int)<0:=SI;simp[E];exact fD hb
 ·rfl
theorem pick_from{A:Type}{xs:List A}{a:Nat}(B:a≤xs.length):IS xs (some (a:Int)) none none=xs.drop a:=by
 rw[JM (Ka (.inl rfl) B (.inr ⟨rfl,rfl⟩) (AK _))];exact DN (by rw[Ca];exact AK _)
theorem Km{A:Type}{xs:List A}{b:Nat}(hb:b≤xs.length):IS xs none (some (b:Int)) none=xs.take b:=by
 rw[JM (Ka (.inr ⟨rfl,rfl⟩) (BI _) (.inl rfl) hb),G6,Kx]
theorem FN{a b:Nat}(hb:b≠0):H2 (a:Int) (b:Int)=((a % b:Nat):Int):=by
 rw[F8 _ (Qv)];rfl
theorem HL{a b:Nat}(hb:b≠0):KI (a:Int) (b:Int)=((a/b:Nat):Int):=by
 rw[F9 _ (Qv)];rfl
section
variable{Z:Zx}{k:Nat}{F:Fx}
theorem T_{F:Fx}{ρ κ:Ci}{st:Bool}{x:Ax}(A:F.env.kindOf f=some .globalImplicit)(B:Gl Z.C f (.builtin "len")) (hx:(x,Internal.Slot.val (.list (Bj l)))∈ρ++κ) (hl:l.length≤1000000) (hd:autoParam ((f==("__debug__":Ax))=false) ad):
  PE Z k F ρ κ st (.Call (.Name f p) [.Name x q] [] pos) (.int (l.length:Nat)):=
 PE.up (PE.call A B (.builtin _) (.cons (PE.name hx) .nil) (by have:=Bk.lenL (Z:=Z) (k:=k) (xs:=Bj l) (by rw[A'];exact hl);rwa [A']at this) rfl hd)
theorem VC(S:bM F Z.C):∀(M:List Nat)(row:List Nat)(d:Nat)(le fr:Internal.Slot),(∀c∈M,c<5)→row.length=10→(∀c∈row,c≤5)→(freeOf row).length=2*M.length→
  ∃H I,Loop Z k F [] (DP Pe) (BW Pe) (EG Pe) (M.map fun c=>PV.str (CN c)) (LY d (.own (Bn row)) le fr) .next (LY (Fh M row d).2 (.own (Bn (Fh M row d).1)) H I):=by
 intro P
 induction P with
 |nil=>
  intro row d le fr J hr h5 A;exact X2 le fr (.done fun wr=>PS.nil)
 |cons c M T=>
  intro row d le fr J hr h5 A;rw[AP]at A;have Q:=J c AB;have D:(freeOf row).length≤10:=AA (CR _ _) (by exact dc);have N:(freeOf row).length-1≠0:=iU A D;have B:(((freeOf row).length:Nat):Int)-1=(((freeOf row).length-1:Nat):Int):=(Fq (A▸AA (CM 1 (2*_+1)) (AK _))).symm;have E:d % ((freeOf row).length-1)<(freeOf row).length-1:=CO _ (iW A B);have R:=Vd hr Q (A▸CM 2 (2*_)) (j:=1+d % ((freeOf row).length-1)) (cm A B E) (fw);have O:∀i,i<(freeOf row).length→(freeOf row).getD i 0<10:=fun i hi=>by
   have:(freeOf row).getD i 0∈freeOf row:=by rw[AE,AL hi];exact BY hi
   exact(Lg.mp this).1
  have L:Bind (DP Pe) (.str (CN c)) (LY d (.own (Bn row)) le fr) (LY d (.own (Bn row)) (.val (.str (CN c))) fr):=.name (Ah 2 rfl);obtain⟨H,I,hl⟩:=T (EK row d c).1 (EK row d c).2 (.val (.str (CN c))) (.val (.list (Bj (freeOf row)))) (fun x hx=>J x (AG _ hx)) (L' hr d c) (fun x hx=>by
   rcases GL hx with hx|rfl
   ·rcases GL hx with hx|rfl
    ·exact h5 x hx
    ·exact Qy Q
   ·exact Qy Q) (by show(freeOf ((row.set _ c).set _ c)).length=_;rw[R];exact iV A D)
  refine X2 H I (.next (ρ₂:=LY (EK row d c).2 (.own (Bn (EK row d c).1)) (.val (.str (CN c))) (.val (.list (Bj (freeOf row))))) L (fun wr=>?_) hl);have G:=S.loop (wr:=wr);have U:PS Z k (F.loop wr) (LY d (.own (Bn row)) (.val (.str (CN c))) (.val (.list (Bj (freeOf row))))) [] ((BW Pe).drop 1) .next (LY (EK row d c).2 (.own (Bn (EK row d c).1)) (.val (.str (CN c))) (.val (.list (Bj (freeOf row))))):=by
   conv=>arg 6;whnf
   refine PS.cons (ρ₁:=LY d (.own (Bn (row.set ((freeOf row).getD 0 0) c))) (.val (.str (CN c))) (.val (.list (Bj (freeOf row))))) (P1.setItem (p:=.str (CN c)) (j:=(freeOf row).getD 0 0) (AD 1 rfl) (PE.name (AD 2 rfl)) (PE.itemL (PE.name (p:=.list (Bj (freeOf row))) (AD 3 rfl)) PE.cint (i:=0) (j:=0) (C' (k:=0) dc (by rw[A'];exact BR.mpr (by rw[A];exact Bx (2*_+1)))) (Ji (eh A D)) (by rw[A'];exact ag A D)) (by rw[CL,hr];exact O 0 (eh A D)) (by rw[CL];exact V0 hr) (by rw[Pa];exact Ah 1 rfl)) ?_;refine PS.cons (ρ₁:=LY d (.own (Bn (EK row d c).1)) (.val (.str (CN c))) (.val (.list (Bj (freeOf row))))) (P1.setItem (p:=.str (CN c)) (j:=(freeOf row).getD (1+d % ((freeOf row).length-1)) 0) (AD 1 rfl) (PE.name (AD 2 rfl)) (PE.itemL (PE.name (p:=.list (Bj (freeOf row))) (AD 3 rfl))
    (PE.of (PE.add PE.cint (PE.mod (PE.name (p:=.int (d:Int)) (AD 0 rfl)) (PE.of (PE.sub (T_ (G.kind _ rfl) G.ln (AD 3 rfl) (ag A D)) PE.cint) (congrArg PV.int B)) (ei A B))) (congrArg PV.int (show(1:Int)+H2 (d:Int) (((freeOf row).length-1:Nat):Int)=((1+d % ((freeOf row).length-1):Nat):Int) by rw[FN N];exact rfl)))
    (C' (k:=((1+d % ((freeOf row).length-1):Nat):Int)) (AZ _) (by rw[A'];exact BR.mpr (kW A B E))) (by rw[Ag];exact Ji (cm A B E)) (by rw[A'];exact ag A D)) (by rw[CL,IC,hr];exact O _ (cm A B E)) (by rw[CL,IC];exact V0 hr) (by rw[Pa];exact Ah 1 rfl)) ?_
   refine PS.one (P1.assign (p:=.int (((d/((freeOf row).length-1):Nat)):Int)) (PE.of (PE.fdiv (PE.name (p:=.int (d:Int)) (AD 0 rfl)) (PE.of (PE.sub (T_ (G.kind _ rfl) G.ln (AD 3 rfl) (ag A D)) PE.cint) (congrArg PV.int B)) (ei A B) (by omega)) (congrArg PV.int (HL N))) (Ah 0 rfl))
  exact PS.cons (VD G hr h5) U
end
theorem S':∀(B:List Nat)(row:List Nat)(d:Nat),row.length=10→(Fh B row d).1.length=10:=by
 intro A
 induction A with
 |nil=>
  intro row d h;exact h
 |cons c B D=>
  intro row d h;exact D _ _ (L' h d c)
noncomputable def Ls:Ax:="abcde"
theorem Rk:Cm Ls=[0,1,2,3,4].map fun c=>PV.str (CN c):=rfl
section
variable{Z:Zx}{k:Nat}
theorem VE{a:Ch}{fd:Dc}{d:Nat}(T:J2 Z.C 17 a fd)(D:Gl Z.C "len" (.builtin "len")) (E:Gl Z.C "range" (.type "range")):Bk Z (k+1) (.ref a) [.int d] [] [] (.list (Bn (Ei d))):=by
 refine Bk.fnS T ["draw"] ["row","letter","free"] rfl rfl (fun vs O=>?_) rfl dc fun F G P P=>?_
 ·refine B8 (b' O) fun v H=>?_;subst H;exact T.bind fun Q=>rfl
 ·have R:bM F Z.C:=⟨G,D,E⟩;show Dq Z k F (LY d .unb .unb .unb) [] _ _
  conv=>arg 6;whnf
  refine Dq.cons (ρ₁:=LY d (.own (Bn (Aq 10 5))) .unb .unb) (P1.assignOwn (xs:=Bn (Aq 10 5)) (PF.po (PF.mul (n:=10) (PE.list (.cons PE.cstr .nil)) PE.cint dc dc dc)) (Ah 1 rfl)) ?_;refine P3 (VC (k:=k) R [0,1,2,3,4] (Aq 10 5) d .unb .unb dc rfl dc dc) fun I J hl=>?_;refine Dq.cons (P1.for (PI.str (PE.cstr (x:=Ls))) rfl hl) ?_;have A:=S' [0,1,2,3,4] (Aq 10 5) d rfl;have B:IS (Bn (Fh [0,1,2,3,4] (Aq 10 5) d).1) (some (((Fh [0,1,2,3,4] (Aq 10 5) d).2 % 10:Nat):Int)) none none++IS (Bn (Fh [0,1,2,3,4] (Aq 10 5) d).1) none (some (((Fh [0,1,2,3,4] (Aq 10 5) d).2 % 10:Nat):Int)) none=Bn (Ei d):=by
   rw[pick_from (by rw[CL,A];exact aY),Km (by rw[CL,A];exact aY)];unfold Ei Bn;rw[Ac,Hk,Ff]
  rw[←B];generalize Fh [0,1,2,3,4] (Aq 10 5) d=r at*;obtain⟨row,e⟩:=r;have L:∀{st:Bool}{p1 M N:JE},PE Z k F (LY e (.own (Bn row)) I J) [] st (.BinOp (.Name "draw" p1) .Mod (.Constant (.int 10) 0 M) N) (.int ((e % 10:Nat):Int)):=fun {st p1 M N}=>
   PE.of (PE.mod (PE.name (p:=.int (e:Int)) (AD 0 rfl)) PE.cint dc) (congrArg PV.int (FN dc))
  have hz:(Bn row).length≤1000000:=by rw[CL,A];decide
  exact Dq.stop (P1.ret (PE.addL (PE.slice (PE.nameO (AD 1 rfl)) (.some L) .none .none dc hz) (PE.slice (PE.nameO (AD 1 rfl)) .none (.some L) .none dc hz) (by
   rw[pick_from (by rw[CL];rw[(A:row.length=10)];exact aY),Km (by rw[CL];rw[(A:row.length=10)];exact aY),Ca,CC,CL,(A:row.length=10)];exact AA (BA (EF _ _) (FL _ _)) dc)))
end
theorem QU(A:a≤5)(hb:b≤5):(CN a==CN b)=decide (a=b):=by
 have B:a=0∨a=1∨a=2∨a=3∨a=4∨a=5:=aa A;have D:b=0∨b=1∨b=2∨b=3∨b=4∨b=5:=aa hb;rcases B with h|h|h|h|h|h<;>subst h<;>rcases D with h|h|h|h|h|h<;>subst h<;>rfl
theorem W2(h:∀c∈x.cps.toList,c<1114112):dG x=true:=by
 unfold dG;rw[←Array.all_toList,Al];exact fun c A=>decide_eq_true (h c A)
theorem Qb(h:∀c∈x.cps.toList,c<1114112):(PyData.str x).canLay0=true:=by rw[Dg];exact W2 h
theorem Np(c:Nat)(h:c≤5):(PyData.str (CN c)).canLay0=true:=by
 have A:c=0∨c=1∨c=2∨c=3∨c=4∨c=5:=aa h;refine Qb ?_;rcases A with h|h|h|h|h|h<;>subst h<;>decide
theorem Ld:∀(l:List Nat),(∀c∈l,c≤5)→Bi (PV.ds (Bn l))=true:=by
 intro A
 induction A with
 |nil=>
  intro _;exact rfl
 |cons c l B=>
  intro h;rw[show PV.ds (Bn (c::l))= .str (CN c)::PV.ds (Bn l) from rfl,Bi];rw[Np c (h c AB),B fun x hx=>h x (AG _ hx)];rfl
theorem Qt:∀(l:List Nat)(c:Nat),c≤5→(∀x∈l,x≤5)→((PV.ds (Bn l)).any fun y=>DB y (PV.str (CN c)).d)=l.contains c:=by
 intro A
 induction A with
 |nil=>
  intro _ _ _;exact rfl
 |cons x l D=>
  intro c B h;show((CN x==CN c) || (PV.ds (Bn l)).any fun y=>DB y (PV.str (CN c)).d)=_;rw[D c B fun y E=>h y (AG _ E),QU (h x AB) B,Y6];congr 1;by_cases e:x=c
  ·subst e;rfl
  ·rw[decide_eq_false e];symm;exact beq_eq_false_iff_ne.mpr fun q=>e q.symm
noncomputable def GH:Nat→List PV→List PV
 |_,[]=> []
 |i,p::ps=>.tup [.int (i:Int),p]::GH (i+1) ps
theorem GH.c2:GH i (p::ps)= .tup [.int (i:Int),p]::GH (i+1) ps:=rfl
theorem G9(xs:List PV):Internal.numbered xs=GH 0 xs:=by
 have:∀(xs:List PV)(o:Nat),xs.mapIdx (fun i p=>PV.tup [.int ((i+o:Nat):Int),p])=GH o xs:=by
  intro xs
  induction xs with
  |nil=>intro o;rfl
  |cons x xs A=>
   intro o;rw[Ov,GH.c2,←A (o+1),Bw];congr 2;funext i p;have:i+1+o=i+(o+1):=Bb _ _ _;rw[this]
 exact this xs 0
section
variable{Z:Zx}{k:Nat}{F:Fx}{ρ κ:Ci}{st:Bool}
theorem PB.inRow(hl:PE Z k F ρ κ false l (.str (CN c)))(hr:PE Z k F ρ κ false r (.list (Bn hid)))(A:c≤5)(B:∀x∈hid,x≤5)(D:autoParam (IY .In r=false) ar):PB Z k F ρ κ (.Compare l [.In] [r] pos) (hid.contains c):=
 PB.of (PB.cmp hl hr (C5.inL (Np c A) (Ld hid B) (by rw[show(PV.str (CN c)).d= .str (CN c) from rfl,EB];decide)) D) (Qt hid c A B)
theorem PB.notInRow(hl:PE Z k F ρ κ false l (.str (CN c)))(hr:PE Z k F ρ κ false r (.list (Bn hid)))(A:c≤5)(B:∀x∈hid,x≤5)(D:autoParam (IY .NotIn r=false) ar):PB Z k F ρ κ (.Compare l [.NotIn] [r] pos) (!hid.contains c):=
 PB.of (PB.cmp hl hr (C5.notInL (Np c A) (Ld hid B) (by rw[show(PV.str (CN c)).d= .str (CN c) from rfl,EB];decide)) D) (by rw[Qt hid c A B])
end
noncomputable def Dz(m p:Nat):Nat:=m/2^p % 2
noncomputable def kindOf(b p:Nat):Nat:=b/5^p % 5
noncomputable def Ij(m p c:Nat):Ax:=(if Dz m p=0 then Ai else Lr)++CN c
noncomputable def Rp(n:Nat):Ax:=([("":Ax),"\\\"","\"(\\\"\"","\\)","\\\\"]).getD n ""
noncomputable def OQ(n:Nat):Ax:=([("":Ax),"\\\"","","\\)","\\\\"]).getD n ""
noncomputable def pieceOf(hid:List Nat)(m b p c:Nat):Ax:=Rp (kindOf b p)++(if hid.contains c then Jp++Ij m p c++Jp else Ij m p c)
noncomputable def Hn(hid:List Nat)(m b p c:Nat):List Ax:=[OQ (kindOf b p),if hid.contains c then Ai else Ij m p c]
noncomputable def CQ(hid:List Nat)(m b:Nat):Nat→List Nat→List Ax
 |_,[]=> []
 |p,c::r=>pieceOf hid m b p c::CQ hid m b (p+1) r
theorem CQ.c1(hid:List Nat)(m b:Nat):CQ hid m b A []=[]:=rfl
theorem CQ.c2(hid:List Nat)(m b:Nat):CQ hid m b p (c::r)=pieceOf hid m b p c::CQ hid m b (p+1) r:=rfl
noncomputable def Do(hid:List Nat)(m b:Nat):Nat→List Nat→List Ax
 |_,[]=> []
 |p,c::r=>Hn hid m b p c++Do hid m b (p+1) r
theorem Do.c1(hid:List Nat)(m b:Nat):Do hid m b A []=[]:=rfl
theorem Do.c2(hid:List Nat)(m b:Nat):Do hid m b p (c::r)=Hn hid m b p c++Do hid m b (p+1) r:=rfl
noncomputable def signsOf(t:Ax):List Ax:=t.cps.toList.map fun c=>⟨#[c]⟩
noncomputable def Es:Nat→List Ax→List (Nat×Ax)
 |_,[]=> []
 |n,x::xs=>if x.length=0 then Es n xs else(n+x.length-1,x)::Es (n+x.length) xs
theorem Es.c2:Es n (x::xs)=if x.length=0 then Es n xs else(n+x.length-1,x)::Es (n+x.length) xs:=rfl
noncomputable def AT(l:List Ax):List PV:=l.map PV.str
theorem LC(t:Ax):Cm t=AT (signsOf t):=by
 unfold Cm AT signsOf;rw[BB];rfl
theorem Rh(n:Nat)(h:n<2):Uj Lr (n:Int)=if n=0 then Ai else Lr:=by
 have:n=0∨n=1:=am h;rcases this with h|h<;>subst h<;>rfl
theorem TF(n:Nat)(h:n<2):MulOk Lr (n:Int):=by
 have:n=0∨n=1:=am h;rcases this with h|h<;>subst h<;>exact⟨rfl,dc,dc⟩
theorem No(hn:C0 es=true)(hl:es.length<30)(hp:(A.endLine==pos.line)=true)(F:∀w,WR o name env w=w):
  D4 (.Call (.Attribute o name A) es [] pos) env=(do
   let E ←D4 o env
   Hf A.atName
   let (f,first)←D3 [E] (F3 E name (do return (←importBound o env).getD true))
   Iq pos f first (DO pos (B_ es env)) []):=by
 rw[arm_eval_Call,F];have B:(DO pos (B_ es env)).all (fun q=> !q.1)=true:=by
  have:=E3 (pos:=pos) (env:=env) hn;rw[Al];intro q G;rw[List.any_eq_false]at this;simpa using this q G
 have H:methodCallForm (es.length+([]:List Keyword).length) (DO pos (B_ es env)) (Di pos (CZ [] env))=true:=by
  unfold methodCallForm;rw[B];show(true && true && decide (es.length+0+0<30))=true;rw[decide_eq_true (by omega)];rfl
 have I:Di pos (CZ [] env)=[]:=rfl;unfold methodCall;rw[H];have D:methodCallPos true o env A pos=pure pos:=by
  unfold methodCallPos;rw[hp];rfl
 rw[D,I];rfl
section
variable{Z:Zx}{k:Nat}{F:Fx}{ρ ρ' κ:Ci}{st:Bool}
theorem JY.one(B:PE Z k F ρ κ st A p1)(D:autoParam (CW A=false) ar):JY Z k F ρ κ st [A] [p1]:=.cons B .nil D
theorem JY.two(D:PE Z k F ρ κ st A p1)(E:PE Z k F ρ κ st B G)(H:autoParam (CW A=false) ar)(I:autoParam (CW B=false) ar):JY Z k F ρ κ st [A,B] [p1,G]:=.cons D (.cons E .nil I) H
theorem JY.three(E:PE Z k F ρ κ st A p1)(G:PE Z k F ρ κ st B H)(I:PE Z k F ρ κ st D J)(L:autoParam (CW A=false) ar)(M:autoParam (CW B=false) ar)(N:autoParam (CW D=false) ar):JY Z k F ρ κ st [A,B,D] [p1,H,J]:=.cons E (.cons G (.cons I .nil N) M) L
theorem JY.four(G:PE Z k F ρ κ st A p1)(H:PE Z k F ρ κ st B I)(J:PE Z k F ρ κ st D L)(M:PE Z k F ρ κ st E N)(O:autoParam (CW A=false) ar)(P:autoParam (CW B=false) ar)(Q:autoParam (CW D=false) ar)(R:autoParam (CW E=false) ar):JY Z k F ρ κ st [A,B,D,E] [p1,I,L,N]:=.cons G (.cons H (.cons J (.cons M .nil R) Q) P) O
theorem JY.five(H:PE Z k F ρ κ st A p1)(I:PE Z k F ρ κ st B J)(L:PE Z k F ρ κ st D M)(N:PE Z k F ρ κ st E O)(h5:PE Z k F ρ κ st G P)(Q:autoParam (CW A=false) ar)(R:autoParam (CW B=false) ar)(S:autoParam (CW D=false) ar)(T:autoParam (CW E=false) ar)(U:autoParam (CW G=false) ar):JY Z k F ρ κ st [A,B,D,E,G] [p1,J,M,O,P]:=.cons H (.cons I (.cons L (.cons N (.cons h5 .nil U) T) S) R) Q
theorem P1.mut(hx:(x,.own xs)∈ρ)(B:JY Z k F ρ κ true es ps)(E:Fb Z k name xs ps xs')(G:Upd ρ x (.own xs') ρ')(hi:B5 F.env=false)(hn:autoParam (C0 es=true) ar)
  (hl:es.length<30:=by exact AF (Az _) (C7 rfl)) (hp:autoParam ((A.endLine==pos.line)=true) ar):P1 Z k F ρ κ (.Expr (.Call (.Attribute (.Name x np) name A) es [] pos) D) .next ρ':=
 P1.mutate hx B E G hn hi ⟨_,No hn hl hp fun w=>rfl⟩
theorem PE.methE{o:Aj}{name:Ax}{A pos:JE}{es:List Aj}(D:PE Z k F ρ κ st o E)(B:JY Z k F ρ κ st es ps)(G:Dh Z k name E ps res)(hn:autoParam (C0 es=true) ar)
  (hl:es.length<30:=by exact AF (Az _) (C7 rfl)) (hp:autoParam ((A.endLine==pos.line)=true) ar) (hb:∀w,WR o name F.env w=w:=by intro _;rfl):PE Z k F ρ κ st (.Call (.Attribute o name A) es [] pos) res:=
 PE.meth D B G hn ⟨_,No hn hl hp hb⟩
end
section
variable{Z:Zx}{k:Nat}{F:Fx}
noncomputable def J'(row hid:List Nat)(m b:Nat)(tail:Ax)(ps us pl le en kd:Internal.Slot):Ci:=[("row",.val (.list (Bn row))),("hidden",.val (.list (Bn hid))),("marks",.val (.int (m:Int))),("beside",.val (.int (b:Int))),("tail",.val (.str tail)),("pieces",ps),("units",us),("place",pl),("letter",le),("end",en),("kind",kd)]
noncomputable def PQ:D7:=FQ 1 (Ba (Au 18))
structure Yq(F:Fx)(C:Cx):Prop where
 sc:F.env.scope=Bu (Au 18)
 en:Gl C "enumerate" (.type "enumerate")
 ls:Gl C "list" (.type "list")
 ln:Gl C "len" (.builtin "len")
theorem Yq.loop(h:Yq F C):Yq (F.loop wr) C:=⟨h.sc,h.en,h.ls,h.ln⟩
theorem Yq.kind(h:Yq F C)(x:Ax)(hx:(Bu (Au 18)).names.lookup x=some kd):F.env.kindOf x=some kd:=by show F.env.scope.names.lookup _=_;rw[h.sc];exact hx
theorem Yq.inter(h:Yq F C):B5 F.env=false:=by unfold B5;rw[h.sc];rfl
theorem VX(h:n<5):([PV.str "",.str "\\\"",.str "\"(\\\"\"",.str "\\)",.str "\\\\"]:List PV)[n]?=some (.str (Rp n)):=by
 have:n=0∨n=1∨n=2∨n=3∨n=4:=Ma h;rcases this with h|h|h|h|h<;>subst h<;>rfl
theorem VW(h:n<5):([PV.str "",.str "\\\"",.str "",.str "\\)",.str "\\\\"]:List PV)[n]?=some (.str (OQ n)):=by
 have:n=0∨n=1∨n=2∨n=3∨n=4:=Ma h;rcases this with h|h|h|h|h<;>subst h<;>rfl
theorem kind_len(h:n<5):(Rp n).length≤5∧(OQ n).length≤2:=by
 have:n=0∨n=1∨n=2∨n=3∨n=4:=Ma h;rcases this with h|h|h|h|h<;>subst h<;>exact⟨dc,dc⟩
theorem L_(c:Nat):(CN c).length≤1:=by
 unfold CN;split
 ·exact AK 1
 ·exact BI 1
theorem XU(m p:Nat):(if Dz m p=0 then Ai else Lr).length≤1:=by
 split
 ·exact BI 1
 ·exact AK 1
theorem Qo(m p c:Nat):(Ij m p c).length≤2:=by
 unfold Ij;rw[A2];have:=L_ c;have h:(if Dz m p=0 then Ai else Lr).length≤1:=by
  split
  ·exact BI 1
  ·exact AK 1
 exact BA h this
set_option maxHeartbeats 4000000 in
theorem QL(S:Yq F Z.C){row hid:List Nat}{m b p c n:Nat}(T:c≤5)(V:∀x∈hid,x≤5)(W:P.length≤1000)(a:U.length≤1000)(G:n<5)(D:e.length≤2)(N:kp.length≤5∧H.length≤2)
  (O:([PV.str "",.str "\\\"",.str "\"(\\\"\"",.str "\\)",.str "\\\\"]:List PV)[n]?=some (.str kp)) (Q:([PV.str "",.str "\\\"",.str "",.str "\\)",.str "\\\\"]:List PV)[n]?=some (.str H)):
  PS Z k F (J' row hid m b tail (.own (AT P)) (.own (AT U)) (.val (.int (p:Int))) (.val (.str (CN c))) (.val (.str e)) (.val (.int (n:Int)))) [] ((BW PQ).drop 2) .next
   (J' row hid m b tail (.own (AT (P++ [kp++(if hid.contains c then Jp++e++Jp else e)]))) (.own (AT (U++ [H,if hid.contains c then Ai else e]))) (.val (.int (p:Int))) (.val (.str (CN c))) (.val (.str e)) (.val (.int (n:Int)))):=by
 have E:Db (n:Int) 5=some n:=by have:=C' (k:=(n:Int)) (n:=5) (M6 G) (eo G);rwa [Ag]at this
 have R:Jp.length=1:=rfl;have A:∀{st:Bool}{us pp:Internal.Slot}{q:JE},PE Z k F (J' row hid m b tail pp us (.val (.int (p:Int))) (.val (.str (CN c))) (.val (.str e)) (.val (.int (n:Int)))) [] st (.Name "end" q) (.str e):=PE.name (AD 9 rfl);have B:∀{us pp:Internal.Slot}{d f i:JE},PB Z k F (J' row hid m b tail pp us (.val (.int (p:Int))) (.val (.str (CN c))) (.val (.str e)) (.val (.int (n:Int)))) [] (.Compare (.Name "letter" d) [.In] [.Name "hidden" f] i) (hid.contains c):=PB.inRow (PE.name (AD 8 rfl)) (PE.name (AD 1 rfl)) T V;have I:∀{st:Bool}{us pp:Internal.Slot}{q:JE},PE Z k F (J' row hid m b tail pp us (.val (.int (p:Int))) (.val (.str (CN c))) (.val (.str e)) (.val (.int (n:Int)))) [] st (.Name "kind" q) (.int (n:Int)):=PE.name (AD 10 rfl);have J:Fb Z k "append" (AT P) [.str (kp++(if hid.contains c then Jp++e++Jp else e))] (AT (P++ [kp++(if hid.contains c then Jp++e++Jp else e)])):=by
  have:=Fb.append (Z:=Z) (k:=k) (xs:=AT P) (p:=.str (kp++(if hid.contains c then Jp++e++Jp else e))) (by unfold AT;rw[AH];exact HM W);unfold AT at*
  rwa [Ac]
 have L:Fb Z k "extend" (AT U) [.list (AT [H,if hid.contains c then Ai else e])] (AT (U++ [H,if hid.contains c then Ai else e])):=by
  have:=Fb.extend (Z:=Z) (k:=k) (xs:=AT U) (ys:=AT [H,if hid.contains c then Ai else e]) (by unfold AT;simp;exact ab a);unfold AT at*
  rwa [Ac]
 have M:(if hid.contains c then Jp++e++Jp else e).length≤4:=by
  split
  ·rw[A2,A2];exact hL D R
  ·exact AA D dc
 generalize hx:(if hid.contains c then Jp++e++Jp else e)=x at*
 conv=>arg 6;whnf
 refine PS.cons (ρ₁:=J' row hid m b tail (.own (AT (P++ [kp++x]))) (.own (AT U)) (.val (.int (p:Int))) (.val (.str (CN c))) (.val (.str e)) (.val (.int (n:Int)))) (P1.mut (AD 5 rfl) (.one ?_) J (Ah 5 rfl) S.inter) (PS.one (P1.mut (AD 6 rfl) (.one ?_) L (Ah 6 rfl) S.inter))
 ·refine PE.addS (PE.itemT (PE.tuple (.five PE.cstr PE.cstr PE.cstr PE.cstr PE.cstr)) I E O (by show(5:Nat)≤1000000;exact eO)) ?_ (by rw[Ay];exact AA (BA N.1 M) dc);subst hx;refine PE.ife B (fun h=>?_) fun h=>?_
  ·rw[if_pos h];exact PE.addS (PE.addS PE.cstr A (by rw[Ay];show Jp.length+_≤_;exact hK D R)) PE.cstr (by rw[Ay,A2];show Jp.length+_+Jp.length≤_;exact hM D R)
  ·rw[h,if_neg dc];exact A
 ·refine PE.list (.two (PE.itemT (PE.tuple (.five PE.cstr PE.cstr PE.cstr PE.cstr PE.cstr)) I E Q (by show(5:Nat)≤1000000;exact eO)) (PE.ife B (fun h=>?_) fun h=>?_))
  ·rw[if_pos h];exact PE.cstr
  ·rw[h,if_neg dc];exact A
theorem QO(M:Yq F Z.C){row hid:List Nat}{m b p c:Nat}{tail:Ax}(hp:p<10)(N:c≤5)(O:∀x∈hid,x≤5)(Q:P.length≤1000)(R:U.length≤1000):
  PS Z k F (J' row hid m b tail (.own (AT P)) (.own (AT U)) (.val (.int (p:Int))) (.val (.str (CN c))) en kd) [] (BW PQ) .next
   (J' row hid m b tail (.own (AT (P++ [pieceOf hid m b p c]))) (.own (AT (U++Hn hid m b p c))) (.val (.int (p:Int))) (.val (.str (CN c))) (.val (.str (Ij m p c))) (.val (.int (kindOf b p:Nat)))):=by
 have A:kindOf b p<5:=CO _ dc;have B:Dz m p<2:=CO _ dc;have D:((2:Int)^(p:Int).toNat)=((2^p:Nat):Int):=by rw[Ag];rfl
 have E:((5:Int)^(p:Int).toNat)=((5^p:Nat):Int):=by rw[Ag];rfl
 have G:(2:Nat)^p≠0:=CU (Gq p);have H:(5:Nat)^p≠0:=CU (Nat.pow_pos dc);have I:(5:Nat)^p≤5^9:=Bq dc (A9 hp);have J:(2:Nat)^p≤2^9:=Bq dc (A9 hp);have S:((2^p:Nat):Int)≠0:=fun e=>G (O0 e);have T:((5^p:Nat):Int)≠0:=fun e=>H (O0 e);have V:((2^p:Nat):Int).natAbs<1073741824:=by rw[NT];exact AY J dc
 have l5:((5^p:Nat):Int).natAbs<1073741824:=by rw[NT];exact AY I dc
 have L:=Qo m p c
 conv=>arg 6;whnf
 refine PS.cons (ρ₁:=J' row hid m b tail (.own (AT P)) (.own (AT U)) (.val (.int (p:Int))) (.val (.str (CN c))) (.val (.str (Ij m p c))) kd) (P1.assign (p:=.str (Ij m p c)) (PE.of (PE.addS (PE.mulS (a:=Lr) (n:=(Dz m p:Nat)) PE.cstr
  (PE.of (PE.mod (PE.fdiv (PE.name (p:=.int (m:Int)) (AD 2 rfl)) (PE.of (PE.pow PE.cint (PE.name (p:=.int (p:Int)) (AD 7 rfl)) (Yn hp) (e0 hp) dc) (congrArg PV.int D)) S V) PE.cint dc) (congrArg PV.int (show H2 (KI (m:Int) ((2^p:Nat):Int)) ((2:Nat):Int)=((Dz m p:Nat):Int) by rw[HL G,FN dc];rfl)))
  (TF _ B)) (PE.name (p:=.str (CN c)) (AD 8 rfl)) (by rw[Rh _ B,Ay];have W:=L_ c;have d:=XU m p;exact AA (BA d W) dc)) (by rw[Rh _ B];rfl)) (Ah 9 rfl)) ?_
 refine PS.cons (ρ₁:=J' row hid m b tail (.own (AT P)) (.own (AT U)) (.val (.int (p:Int))) (.val (.str (CN c))) (.val (.str (Ij m p c))) (.val (.int (kindOf b p:Nat)))) (P1.assign (p:=.int (kindOf b p:Nat)) (PE.of (PE.mod (PE.fdiv (PE.name (p:=.int (b:Int)) (AD 3 rfl)) (PE.of (PE.pow PE.cint (PE.name (p:=.int (p:Int)) (AD 7 rfl)) (Yn hp) (e0 hp) dc) (congrArg PV.int E)) T l5) PE.cint dc) (congrArg PV.int (show H2 (KI (b:Int) ((5^p:Nat):Int)) ((5:Nat):Int)=((kindOf b p:Nat):Int) by rw[HL H,FN dc];rfl))) (Ah 10 rfl)) ?_;exact QL M N O Q R A L (kind_len A) (VX A) (VW A)
end
theorem Jh(hid:List Nat)(m b:Nat):∀(r:List Nat)(p:Nat),(CQ hid m b p r).length=r.length:=by
 intro A
 induction A with
 |nil=>
  intro p;exact rfl
 |cons c r B=>
  intro p;rw[CQ.c2,AP,AP,B]
theorem NC(hid:List Nat)(m b:Nat):∀(r:List Nat)(p:Nat),(Do hid m b p r).length=2*r.length:=by
 intro A
 induction A with
 |nil=>
  intro p;exact rfl
 |cons c r B=>
  intro p;rw[Do.c2,AQ,B,AP];simp[Hn];exact cX
noncomputable def DD(hid:List Nat)(m b:Nat)(row:List Nat)(tail:Ax):List Ax:=Do hid m b 0 row++signsOf tail
noncomputable def E'(U:List Ax):List PV:=(Es 0 U).map H9
noncomputable def UC:PV→Bool
 |.tup [_,.str x]=>x !=Ai
 |_=>false
noncomputable def T4(U:List Ax):PV→PV
 |.tup [.int i,.str x]=>.tup [.int (((Cf "" (U.take (i.toNat+1))).length:Int)-1),.str x]
 |p=>p
theorem KV:∀(U:List Ax),(Cf "" U).length=(U.map (·.length)).sum
 |[]=>rfl
 |[x]=>by
  show(LL "" [x]).length=_;rw[KD];show x.length=_;rfl
 |x::y::r=>by
  have B:=KV (y::r);show(LL "" (x::y::r)).length=_;have A:(LL "" (y::r)).length=_:=B;rw[KD]at A⊢;show(x++("":Ax)++BK "" (y::r)).length=_;rw[A2,A2,A];have:(("":Ax)).length=0:=rfl;rw[this,Ae,Gd];rfl
theorem cM(U:List Ax):((Internal.numbered (AT U)).filter UC).map (T4 U)=E' U:=by
 rw[G9];have go:∀(R pre:List Ax),U=pre++R→((GH pre.length (AT R)).filter UC).map (T4 U)=(Es ((pre.map (·.length)).sum) R).map H9:=by
  intro R
  induction R with
  |nil=>intro pre h;rfl
  |cons x R E=>
   intro pre h;have A:=E (pre++ [x]) (by rw[h];simp);rw[AQ,HW,Ac,bh,I_,List.sum_singleton]at A;show((PV.tup [.int (pre.length:Int),.str x]::GH (pre.length+1) (AT R)).filter UC).map (T4 U)=_;rw[Es.c2];by_cases B:x.length=0
   ·rw[if_pos B,Bo (by
     have:x=Ai:=by
      cases x with
      |mk D=>
       have:D= #[]:=Array.eq_empty_of_size_eq_zero B;rw[this];rfl
     subst this;show¬(Ai !=Ai)=true;decide),A]
    simp[B]
   ·rw[if_neg B,BN (by
     show(x !=Ai)=true;rw[bne_iff_ne];intro e;subst e;exact B rfl),Ae,A,Ae]
    congr 1;have F:U.take ((pre.length:Int).toNat+1)=pre++ [x]:=by
     rw[h,Ag,List.take_append,DN (Vv)];simp
    show PV.tup [.int (((Cf "" (U.take ((pre.length:Int).toNat+1))).length:Int)-1),.str x]=_;rw[F,KV,Ac,bh];congr 3;exact(Fq (AA (Cd B) (CM _ _))).symm
 exact go U [] rfl
section
variable{Z:Zx}{k:Nat}{F:Fx}
theorem QM(L:Yq F Z.C)(M:∀x∈hid,x≤5):∀(r:List Nat)(p:Nat)(P U:List Ax)(pl le en kd:Internal.Slot),p+r.length≤10→(∀c∈r,c≤5)→P.length≤900+p→U.length≤900+2*p→
  ∃A B D E,Loop Z k F [] (DP PQ) (BW PQ) (EG PQ) (GH p (Bn r)) (J' row hid m b tail (.own (AT P)) (.own (AT U)) pl le en kd) .next
   (J' row hid m b tail (.own (AT (P++CQ hid m b p r))) (.own (AT (U++Do hid m b p r))) A B D E):=by
 intro H
 induction H with
 |nil=>
  intro p P U pl le en kd hp hr I J;exact X4 pl le en kd (by rw[CQ.c1,Do.c1,Ao,Ao];exact .done fun wr=>PS.nil)
 |cons c r N=>
  intro p P U pl le en kd hp hr I J;rw[AP]at hp;have G:Bind (DP PQ) (.tup [.int (p:Int),.str (CN c)]) (J' row hid m b tail (.own (AT P)) (.own (AT U)) pl le en kd) (J' row hid m b tail (.own (AT P)) (.own (AT U)) (.val (.int (p:Int))) (.val (.str (CN c))) en kd):=
   .tup (.tup _) (.cons (Ah 7 rfl) (.cons (Ah 8 rfl) .nil))
  refine dY (N (p+1) (P++ [pieceOf hid m b p c]) (U++Hn hid m b p c) (.val (.int (p:Int))) (.val (.str (CN c))) (.val (.str (Ij m p c))) (.val (.int (kindOf b p:Nat))) (j' hp) (fun x hx=>hr x (AG _ hx)) (by simp;exact BS I) (by simp[Hn];exact Bf J 2)) fun A B D E hl=>?_;refine X4 A B D E (.next G (fun wr=>QO L.loop (AF (BZ (Bx _)) hp) (hr c AB) M (AA I (AA (AV (AA (AM _ _) hp) 900) dc)) (kA hp J)) ?_);rw[show P++CQ hid m b p (c::r)=P++ [pieceOf hid m b p c]++CQ hid m b (p+1) r by rw[CQ.c2];simp,show U++Do hid m b p (c::r)=U++Hn hid m b p c++Do hid m b (p+1) r by rw[Do.c2];simp];exact hl
theorem Wt(hid:List Nat)(m b:Nat):∀(r:List Nat)(p:Nat),∀x∈Do hid m b p r,x.length≤2:=by
 intro A
 induction A with
 |nil=>
  intro p x h;simp[Do.c1,Do.c2]at h
 |cons c r B=>
  intro p x h;rw[Do.c2,AR]at h;rcases h with h|h
  ·simp only[Hn,AN,BH,or_false]at h;rcases h with rfl|rfl
   ·exact(kind_len (CO _ dc)).2
   ·split
    ·exact BI 2
    ·exact Qo m p c
  ·exact B (p+1) x h
theorem PX(t:Ax):(signsOf t).length=t.length∧∀x∈signsOf t,x.length≤2:=by
 unfold signsOf;refine⟨by rw[AH];rfl,fun x hx=>?_⟩;refine Bz (AU.mp hx) fun c _ A=>?_;subst A;exact BU 1
set_option maxHeartbeats 1000000 in
theorem QN{a:Ch}{fd:Dc}{row hid:List Nat}{m b:Nat}{tail:Ax}(T:J2 Z.C 18 a fd)(E:Gl Z.C "enumerate" (.type "enumerate")) (H:Gl Z.C "list" (.type "list")) (I:Gl Z.C "len" (.builtin "len")) (hr:row.length=10) (O:∀c∈row,c≤5) (r:∀x∈hid,x≤5) (t:hid.length≤5) (P:tail.length≤100):
  Bk Z (k+1) (.ref a) [.list (Bn row),.list (Bn hid),.int m,.int b,.str tail] [] [] (.tup [.list (AT (CQ hid m b 0 row)),.list (E' (DD hid m b row tail))]):=by
 refine Bk.fnS T ["row","hidden","marks","beside","tail"] ["pieces","units","place","letter","end","kind"] rfl rfl (fun vs u=>?_) rfl dc fun F Q N N=>?_
 ·refine e8 (ku u) fun v1 v2 v3 v4 v5 R=>?_;subst R;exact T.bind fun v=>rfl
 ·have G:Yq F Z.C:=⟨Q,E,H,I⟩;show Dq Z k F (J' row hid m b tail .unb .unb .unb .unb .unb .unb) [] _ _
  conv=>arg 6;whnf
  refine Dq.cons (ρ₁:=J' row hid m b tail (.own []) (.own []) .unb .unb .unb .unb) (P1.assignD (xs:=["pieces","units"]) (iks:=[.own [],.own []]) (.own (PO.list .nil) (.own (PO.list .nil) .nil)) (.cons (.cons .nil)) rfl (IV.own (ρ₁:=J' row hid m b tail (.own []) .unb .unb .unb .unb .unb) (Ah 5 rfl) (.own (Ah 6 rfl) .nil)) rfl (EZ G.sc fun N=>rfl) dc) ?_;refine dY (QM (k:=k) G r (row:=row) (m:=m) (b:=b) (tail:=tail) row 0 [] [] .unb .unb .unb .unb (by exact iH hr) O (by exact dc) (by exact dc)) fun S V W d hl=>?_;rw[←G9]at hl;refine Dq.cons (P1.for (PI.enumL (G.kind _ rfl) E (PC.list (PE.name (p:=.list (Bn row)) (AD 0 rfl)))) rfl hl) ?_;rw[Br,Br];have J:=NC hid m b row 0;refine ER (PX tail) fun A f=>?_;have L:Fb Z k "extend" (AT (Do hid m b 0 row)) [.list (Cm tail)] (AT (DD hid m b row tail)):=by
   have:=Fb.extend (Z:=Z) (k:=k) (xs:=AT (Do hid m b 0 row)) (ys:=Cm tail) (by rw[LC];unfold AT;rw[AH,AH,J,A];exact iJ hr P A);rw[LC]at this⊢;unfold DD AT at*
   rwa [Ac]
  refine Dq.cons (ρ₁:=J' row hid m b tail (.own (AT (CQ hid m b 0 row))) (.own (AT (DD hid m b row tail))) S V W d) (P1.mut (AD 6 rfl) (.one (PF.pe (PF.signs (G.kind _ rfl) H (PE.name (p:=.str tail) (AD 4 rfl)) (AA P dc)))) L (Ah 6 rfl) G.inter) ?_;have D:(DD hid m b row tail).length≤120:=by unfold DD;rw[AQ,J,A];exact iI hr P A
  have M:∀x∈DD hid m b row tail,x.length≤2:=fun x hx=>by
   unfold DD at hx;rcases AR.mp hx with h|h
   ·exact Wt hid m b row 0 x h
   ·exact f x h
  generalize DD hid m b row tail=U at*;refine Dq.stop (P1.ret (PE.tuple (.two (PE.nameO (AD 5 rfl)) (PE.comp ⟨X7 (Internal.numbered (AT U)) UC (T4 U) [("k",.unb),("one",.unb)] [("units",.own (AT U))] false false ⟨?_,rfl,?_,?_,?_,(cM U).symm⟩,fun N=>rfl⟩))))
  ·exact PI.enumL (G.kind _ rfl) E (PC.own (AD 6 rfl))
  ·exact CS.of ["k","one"] ["units"] rfl rfl (.cons rfl (AD 6 rfl) (by rw[G.kind _ rfl];decide) .nil) rfl dc rfl rfl rfl
  ·intro p hp;obtain⟨i,x,hi,hx,rfl⟩:∃(i:Nat)(x:Ax),i<U.length∧x∈U∧p= .tup [.int (i:Int),.str x]:=by
    unfold Internal.numbered at hp;obtain⟨i,hi,e⟩:=bj.mp hp;unfold AT at hi e;rw[AH]at hi;refine X2 i (U[i]) ⟨hi,BY hi,?_⟩;rw[←e,List.getElem_map]
   refine⟨[("k",.val (.int (i:Int))),("one",.val (.str x))],.tup (.tup _) (.cons (Ah 0 rfl) (.cons (Ah 1 rfl) .nil)),fun w j=>⟨?_,fun N=>?_⟩⟩
   ·exact PB.cmp (PE.name (p:=.str x) (AD 1 rfl)) PE.cstr C5.neS
   ·show PE Z k w _ _ false _ (.tup [.int (((Cf "" (U.take ((i:Int).toNat+1))).length:Int)-1),.str x]);rw[Ag];have l:IS (AT U) none (some ((i+1:Nat):Int)) none=AT (U.take (i+1)):=by
     rw[Km (by unfold AT;rw[AH];exact ah hi)];unfold AT;rw[Ff]
    have n:(Cf "" (U.take (i+1))).length≤1000000:=by
     rw[KV];have z:=I8 (B:=2) (U.take (i+1)) fun y o=>M y (F4 o);have q:(U.take (i+1)).length≤U.length:=by rw[CC];exact FL _ _
     exact AA z (AA (B3 2 (AA q D)) dc)
    refine PE.tuple (.two (PE.sub (PE.call (MI j rfl) I (.builtin _) (.one (PE.methE (st:=false) PE.cstr (.one (PE.of (PE.slice (PE.nameO (xs:=AT U) (AD 2 rfl)) .none (.some (PE.of (PE.add (PE.name (p:=.int (i:Int)) (AD 0 rfl)) PE.cint) (congrArg PV.int (by exact Yj:(i:Int)+1=((i+1:Nat):Int))))) .none dc (by unfold AT;rw[AH];exact AA D dc)) (congrArg PV.list l))) (Dh.join (joinOk_of (B:=2) (fun y o=>M y (F4 o)) ?_)))) (Bk.lenS n)) PE.cint) (PE.name (AD 1 rfl)));have q:(U.take (i+1)).length≤U.length:=by rw[CC];exact FL _ _
    have At:(("":Ax)).length=0:=rfl;rw[At];exact show _*2≤16000000 from AA (B3 2 (AA q D)) dc
  ·unfold Internal.numbered AT;rw[List.length_mapIdx,AH];exact AA D dc
end
theorem C5.neD(hp:p.d.canLay0=true)(B:q.d.canLay0=true)(hd:p.d.depth≤64∨q.d.depth≤64):C5 Z k .NotEq p q (!DB p.d q.d):=fun A W s v u Q E G D F H=>by
 refine B8 (D.reads hp) fun J I=>?_;refine B8 (F.reads B) fun bs rb=>?_;exact SeqAt.compareNe_reads I rb hp B (by have:=G.units;unfold Y0;exact e1 hd this) (H s.toks (AK _))
noncomputable def Bs(left:Ax)(c:Nat):Ax:=CJ left (some (N1 left (CN c))) (some (Mg left (CN c)+1))
noncomputable def FO(c:Nat):Ax:=CN c++Bv++CN c
noncomputable def Hb(c j n:Nat):Ax:=Cf Bv (CN c::(Aq n (CN j)++ [CN c]))
noncomputable def Gg(left:Ax)(c:Nat):List Bool:=
 [Hq (Bv++CN c++Bv) left,Hq (FO c) (Bs left c),Hq (Bs left c) (Bs left c),Hq (CN c) (Bs left c),Hq (FO c) (CN c),Hq (FO c) (NX++Bs left c),Hq (FO c) (Bs left c++NX)]
noncomputable def pairD(left:Ax)(c j:Nat):List Bool:=[Hq (Hb c j 1) (Bs left c),Hq (Hb c j 2) (Bs left c)]
noncomputable def K5(left:Ax)(c j:Nat):Nat:=(pairD left c j).count true
noncomputable def BP(l:List Bool):List PV:=l.map PV.bool
noncomputable def Gf(left:Ax)(c j:Nat):PV:=.tup [.int (c:Int),.int (j:Int),.int ((K5 left c j:Nat):Int)]
noncomputable def Ih(left:Ax)(A:List Nat):List PV:=(A.map fun c=>(AW c).map (Gf left c)).flatten
theorem W5(A:c<5)(B:j<5):2≤(CI (Bv++CN c++Bv) Bv).length∧2≤(CI (FO c) Bv).length∧2≤(CI (Hb c j 1) Bv).length∧2≤(CI (Hb c j 2) Bv).length:=by
 have D:c=0∨c=1∨c=2∨c=3∨c=4:=Ma A;have E:j=0∨j=1∨j=2∨j=3∨j=4:=Ma B;rcases D with h|h|h|h|h<;>subst h<;>rcases E with h|h|h|h|h<;>subst h<;>decide+kernel
theorem cA(A:c<5)(B:j<5):(Bv++CN c++Bv).length≤100∧(FO c).length≤100∧(Hb c j 1).length≤100∧(Hb c j 2).length≤100:=by
 have D:c=0∨c=1∨c=2∨c=3∨c=4:=Ma A;have E:j=0∨j=1∨j=2∨j=3∨j=4:=Ma B;rcases D with h|h|h|h|h<;>subst h<;>rcases E with h|h|h|h|h<;>subst h<;>decide+kernel
theorem TE(A:c<5):B6 (CN c) Bv=false:=by
 have B:c=0∨c=1∨c=2∨c=3∨c=4:=Ma A;rcases B with h|h|h|h|h<;>subst h<;>decide+kernel
section
variable{Z:Zx}{k:Nat}{F:Fx}
noncomputable def Hr(left:Ax)(hid:List Nat)(ins kk one B ds D j A:Internal.Slot):Ci:=[("left",.val (.str left)),("hidden",.val (.list (Bn hid))),("inside",ins),("k",kk),("one",one),("piece",B),("dots",ds),("told",D),("j",j),("other",A)]
noncomputable def NL:D7:=FQ 1 (Ba (Au 19))
noncomputable def OY:D7:=FQ 2 (BW NL)
structure V9(F:Fx)(C:Cx):Prop where
 sc:F.env.scope=Bu (Au 19)
 en:Gl C "enumerate" (.type "enumerate")
 el:∃a fd,J2 C 10 a fd∧Gl C "_ellipsis_match" (.ref a)
 dt:∃t,Gl C "ELLIPSIS_MARKER" (.str Bv t)
 ln:Gl C "len" (.builtin "len")
theorem V9.loop(h:V9 F C):V9 (F.loop wr) C:=⟨h.sc,h.en,h.el,h.dt,h.ln⟩
theorem V9.kind(h:V9 F C)(x:Ax)(hx:(Bu (Au 19)).names.lookup x=some kd):F.env.kindOf x=some kd:=by show F.env.scope.names.lookup _=_;rw[h.sc];exact hx
theorem V9.inter(h:V9 F C):B5 F.env=false:=by unfold B5;rw[h.sc];rfl
theorem GU(l:List Bool):(BP l).length=l.length:=by simp[BP]
theorem XM:IS (BP (T++ [a,b])) (some (-2)) none none=BP [a,b]:=by
 have hl:(BP (T++ [a,b])).length=T.length+2:=by rw[GU];simp
 rw[JM (a:=T.length) (b:=T.length+2) (by
  rw[hl];unfold EA;have A:(-2:Int)<0:=dc;simp[A];exact gP)]
 unfold BP;rw[←Hk,←Ff,FG];rw[(by exact gR:T.length+2-T.length=2)];rfl
theorem PE.ell{F:Fx}{ρ κ:Ci}{st:Bool}{f:Ax}(I:F.env.kindOf f=some .globalImplicit)(D:∃a fd,J2 Z.C 10 a fd∧Gl Z.C f (.ref a))(J:∃t,Gl Z.C "ELLIPSIS_MARKER" (.str Bv t)) (E:Gl Z.C "len" (.builtin "len")) (L:PE Z (k+1) F ρ κ false A (.str w)) (M:PE Z (k+1) F ρ κ false B (.str g)) (hs:CW A=false∧CW B=false)
  (N:w.length≤1000) (O:g.length≤1000) (G:B6 w Bv=true→2≤(CI w Bv).length) (hd:(f==("__debug__":Ax))=false):PE Z (k+1) F ρ κ st (.Call (.Name f p) [A,B] [] pos) (.bool (Hq w g)):=by
 refine K7 D fun a fd T H=>?_;refine B8 J fun t P=>?_;exact PE.up (PE.call I H T.t.fn (.cons L (.one M hs.2) hs.1) (aH T P E N O G) (by simp[C0,hs.1,hs.2]) hd)
noncomputable def eA(left:Ax)(c j:Nat)(p:PV):PV:=.bool (Hq (Hb c j (Ha p)) (Bs left c))
set_option maxHeartbeats 2000000 in
theorem Vl(D:V9 F Z.C){left:Ax}{hid:List Nat}{c j:Nat}(O:c<5)(P:j<5)(hl:left.length≤900)(V:I.length≤1000)(Q:T.length≤1000):
  PS Z (k+1) F (Hr left hid (.own I) (.val (.int (c:Int))) (.val (.str (CN c))) (.val (.str (Bs left c))) ds (.own (BP T)) (.val (.int (j:Int))) (.val (.str (CN j)))) [] (BW OY) .next
   (Hr left hid (.own (I++ [Gf left c j])) (.val (.int (c:Int))) (.val (.str (CN c))) (.val (.str (Bs left c))) ds (.own (BP (T++pairD left c j))) (.val (.int (j:Int))) (.val (.str (CN j)))):=by
 have L:(Bs left c).length≤1000:=AA (N0 ..) (Qx hl);refine Ny (W5 O P) fun _ _ W a=>?_;refine Ny (cA O P) fun _ _ b d=>?_;have G:Fb Z (k+1) "extend" (BP T) [.list (BP (pairD left c j))] (BP (T++pairD left c j)):=by
  have:=Fb.extend (Z:=Z) (k:=k+1) (xs:=BP T) (ys:=BP (pairD left c j)) (by rw[GU,GU];simp[pairD];exact ab Q);unfold BP at*
  rwa [Ac]
 conv=>arg 6;whnf
 refine PS.cons (ρ₁:=Hr left hid (.own I) (.val (.int (c:Int))) (.val (.str (CN c))) (.val (.str (Bs left c))) ds (.own (BP (T++pairD left c j))) (.val (.int (j:Int))) (.val (.str (CN j)))) (P1.mut (AD 7 rfl) (.one ?_) G (Ah 7 rfl) D.inter) (PS.one ?_)
 ·refine PE.comp ⟨X7 [.int 1,.int 2] (fun M=>true) (eA left c j) [("much",.unb)] [("one",.val (.str (CN c))),("other",.val (.str (CN j))),("piece",.val (.str (Bs left c)))] true true ⟨PI.tup (PC.tup (PE.tuple (.two PE.cint PE.cint))),rfl,?_,?_,dc,rfl⟩,fun M=>rfl⟩
  ·exact CS.of ["much"] ["one","other","piece"] rfl rfl (.cons rfl (AD 4 rfl) (by rw[D.kind _ rfl];decide) (.cons rfl (AD 9 rfl) (by rw[D.kind _ rfl];decide) (.cons rfl (AD 5 rfl) (by rw[D.kind _ rfl];decide) .nil))) rfl dc rfl rfl rfl
  ·intro p hp;obtain⟨n,hn,rfl⟩:∃n:Nat,(n=1∨n=2)∧p= .int (n:Int):=by
    simp only[AN,BH,or_false]at hp;rcases hp with rfl|rfl
    ·exact⟨1,.inl rfl,rfl⟩
    ·exact⟨2,.inr rfl,rfl⟩
   refine⟨[("much",.val (.int (n:Int)))],.name (Ah 0 rfl),fun R N=>⟨rfl,fun M=>?_⟩⟩;show PE Z (k+1) R _ _ true _ (.bool (Hq (Hb c j n) (Bs left c)));have H:(Hb c j n).length≤1000∧2≤(CI (Hb c j n) Bv).length:=by
    rcases hn with rfl|rfl
    ·exact⟨TU b,W⟩
    ·exact⟨TU d,a⟩
   refine PE.ell (MI N rfl) D.el D.dt D.ln ?_ (PE.name (AD 3 rfl)) ⟨rfl,rfl⟩ H.1 L (fun M=>H.2) dc;have A:∀{o:PV},Sy [o] (n:Int)=Aq n o:=fun {o}=>by
    rcases hn with rfl|rfl<;>rfl
   have E:∀{st:Bool}{q S:JE},PE Z (k+1) R [("much",.val (.int (n:Int)))] [("one",.val (.str (CN c))),("other",.val (.str (CN j))),("piece",.val (.str (Bs left c)))] st (.List [.Name "one" q] S) (.list [.str (CN c)]):=fun {st q S}=>PE.list (.one (PE.name (AD 1 rfl)));refine PE.methE (st:=false) (PE.cstr (x:=Bv)) (.one (PE.of (PE.addL (PE.addL E (PF.mul (xs:=[.str (CN j)]) (n:=(n:Int)) (PE.list (.one (PE.name (AD 2 rfl)))) (PE.name (AD 0 rfl)) (Qv) (jm hn) (by show(1:Nat)≤1000;exact eP)).pe (by rw[A,HX];simp;exact jl hn)) E (by rw[A,AQ,HX];simp;exact jk hn)) (by rw[A];show PV.list ([PV.str (CN c)]++Aq n (PV.str (CN j))++ [PV.str (CN c)])= .list ((CN c::(Aq n (CN j)++ [CN c])).map PV.str);simp))) (Dh.join (joinOk_of (B:=1) (fun y U=>?_) ?_))
   ·simp only[AN,AR,List.mem_replicate,BH,or_false]at U;rcases U with rfl|⟨_,rfl⟩|rfl<;>exact L_ _
   ·have e:Bv.length=3:=rfl;rw[e];simp;exact jn hn
 ·have J:Fb Z (k+1) "append" I [Gf left c j] (I++ [Gf left c j]):=Fb.append (HM V);refine P1.mut (AD 2 rfl) (.one (PE.tuple (.three (PE.name (AD 3 rfl)) (PE.name (AD 8 rfl)) (PE.up (PE.methE (st:=false) (PE.of (PE.slice (PE.nameO (xs:=BP (T++pairD left c j)) (AD 7 rfl)) (.some (PE.neg PE.cint)) .none .none dc (by rw[GU];simp[pairD];exact ab Q)) (congrArg PV.list (XM (T:=T)))) (.one PE.cbool) Dh.count))))) J (Ah 2 rfl) D.inter
end
theorem VU:∀(l:List Bool),Bi (PV.ds (BP l))=true:=by
 intro A
 induction A with
 |nil=>
  rw[show PV.ds (BP [])=[] from rfl,Bi]
 |cons b l B=>
  rw[show PV.ds (BP (b::l))= .bool b::PV.ds (BP l) from rfl,Bi,Dg,B];rfl
theorem Py:∀(l:List Bool),HT (PV.ds (BP l)) (PV.ds (BP l))=true:=by
 intro A
 induction A with
 |nil=>
  rw[show PV.ds (BP [])=[] from rfl,HT]
 |cons b l B=>
  rw[show PV.ds (BP (b::l))= .bool b::PV.ds (BP l) from rfl,HT,DB,B];simp
theorem R_:∀(l:List Bool),EN (PV.ds (BP l))=0:=by
 intro A
 induction A with
 |nil=>
  rw[show PV.ds (BP [])=[] from rfl,EN]
 |cons b l B=>
  rw[show PV.ds (BP (b::l))= .bool b::PV.ds (BP l) from rfl,EN,EB,B];rfl
section
variable{Z:Zx}{k:Nat}{F:Fx}
theorem TM{left:Ax}{hid:List Nat}{c:Nat}(N:c<5)(hl:left.length≤900){ds:Internal.Slot}:∀(n j:Nat)(I:List PV)(T:List Bool)(E so:Internal.Slot),j+n≤5→I.length≤500+j→T.length≤500+2*j→
  ∃A B,∀F:Fx,V9 F Z.C→Loop Z (k+1) F [] (DP OY) (BW OY) (EG OY) (GH j (Bn (Aw j n))) (Hr left hid (.own I) (.val (.int (c:Int))) (.val (.str (CN c))) (.val (.str (Bs left c))) ds (.own (BP T)) E so) .next
   (Hr left hid (.own (I++(Aw j n).map (Gf left c))) (.val (.int (c:Int))) (.val (.str (CN c))) (.val (.str (Bs left c))) ds (.own (BP (T++((Aw j n).map (pairD left c)).flatten))) A B):=by
 intro H
 induction H with
 |zero=>
  intro j I T E so G J L;exact X2 E so fun F M=>by simp only[Ot,DZ,Eg,Ao];exact .done fun wr=>PS.nil
 |succ n O=>
  intro j I T E so G J L;have D:Bind (DP OY) (.tup [.int (j:Int),.str (CN j)]) (Hr left hid (.own I) (.val (.int (c:Int))) (.val (.str (CN c))) (.val (.str (Bs left c))) ds (.own (BP T)) E so) (Hr left hid (.own I) (.val (.int (c:Int))) (.val (.str (CN c))) (.val (.str (Bs left c))) ds (.own (BP T)) (.val (.int (j:Int))) (.val (.str (CN j)))):=
   .tup (.tup _) (.cons (Ah 8 rfl) (.cons (Ah 9 rfl) .nil))
  refine P3 (O (j+1) (I++ [Gf left c j]) (T++pairD left c j) (.val (.int (j:Int))) (.val (.str (CN j))) (by exact e2 G) (by simp;exact BS J) (by simp[pairD];exact Bf L 2)) fun A B h=>?_;refine X2 A B fun F M=>?_;rw[C3];refine .next D (fun wr=>Vl M.loop N (by exact AF (BZ (Bx _)) G) hl (by exact AA J (AA (AV (AA (AM _ _) G) 500) dc)) (by exact j8 G L)) ?_;rw[(by simp:I++(j::Aw (j+1) n).map (Gf left c)=I++ [Gf left c j]++(Aw (j+1) n).map (Gf left c)),(by simp:T++((j::Aw (j+1) n).map (pairD left c)).flatten=T++pairD left c j++((Aw (j+1) n).map (pairD left c)).flatten)];exact h F M
theorem cT{c:Nat}(h:c<5):Cm (CJ Ls none (some (c:Int)))=Bn (Aw 0 c):=by
 have A:c=0∨c=1∨c=2∨c=3∨c=4:=by exact Ma h
 rcases A with h|h|h|h|h<;>subst h<;>rfl
noncomputable def bA:PV→PV
 |.tup [.str w,.str g]=>.bool (Hq w g)
 |p=>p
noncomputable def TC(left:Ax)(c:Nat):List (Ax×Ax):=[(Bv++CN c++Bv,left),(FO c,Bs left c),(Bs left c,Bs left c),(CN c,Bs left c),(FO c,CN c),(FO c,NX++Bs left c),(FO c,Bs left c++NX)]
theorem ZS(left:Ax)(c:Nat):BP (Gg left c)=(((TC left c).map (fun q=>PV.tup [.str q.1,.str q.2])).filter (fun A=>true)).map bA:=by
 rw[Ck.mpr (fun A A=>rfl),BB];rfl
set_option maxHeartbeats 4000000 in
theorem Vn(P:V9 F Z.C)(M:c<5)(hl:left.length≤900)(T:B6 (Bs left c) Bv=false)(N:PS Z (k+1) F (Hr left hid ins (.val (.int (c:Int))) (.val (.str (CN c))) (.val (.str (Bs left c))) (.val (.str (FO c))) (.own (BP (Gg left c))) L so) [] ((BW NL).drop 2) .next ρ'):
  PS Z (k+1) F (Hr left hid ins (.val (.int (c:Int))) (.val (.str (CN c))) d ds O L so) [] (BW NL) .next ρ':=by
 have B:(Bs left c).length≤900:=AA (N0 ..) hl;have D:=L_ c;have H:(FO c).length≤100:=(cA M M).2.1;have hd1:(Bv++CN c++Bv).length≤100:=(cA M M).1;have Q:Bv.length=3:=rfl;have R:NX.length=1:=rfl
 conv=>arg 6;whnf
 refine PS.cons (ρ₁:=Hr left hid ins (.val (.int (c:Int))) (.val (.str (CN c))) (.val (.str (Bs left c))) (.val (.str (FO c))) O L so) (P1.assignD (xs:=["piece","dots"]) (iks:=[.val (.str (Bs left c)),.val (.str (FO c))]) (.val ?_ (.val ?_ .nil)) (.cons (.cons .nil)) rfl (IV.val (ρ₁:=Hr left hid ins (.val (.int (c:Int))) (.val (.str (CN c))) (.val (.str (Bs left c))) ds O L so) (Ah 5 rfl) (.val (Ah 6 rfl) .nil)) rfl (EZ P.sc fun I=>rfl) (by show(2:Nat)≤100;exact f_)) ?_
 ·exact PE.sliceS (PE.name (p:=.str left) (AD 0 rfl)) (.some (PE.methE (PE.name (p:=.str left) (AD 0 rfl)) (.one (PE.name (p:=.str (CN c)) (AD 4 rfl))) Dh.find)) (.some (PE.add (PE.methE (PE.name (p:=.str left) (AD 0 rfl)) (.one (PE.name (p:=.str (CN c)) (AD 4 rfl))) Dh.rfind) PE.cint)) (by exact AA hl dc)
 ·exact PE.addS (PE.addS (PE.name (AD 4 rfl)) (PE.cstr (x:=Bv)) (by rw[Ay];exact hV D Q)) (PE.name (AD 4 rfl)) (by rw[Ay,A2];exact hX D Q)
 refine PS.cons (ρ₁:=Hr left hid ins (.val (.int (c:Int))) (.val (.str (CN c))) (.val (.str (Bs left c))) (.val (.str (FO c))) (.own (BP (Gg left c))) L so) (P1.assignComp (ys:=BP (Gg left c)) true ⟨X7 ((TC left c).map (fun q=>.tup [.str q.1,.str q.2])) (fun I=>true) bA [("want",.unb),("got",.unb)] [] true true ⟨?_,rfl,?_,?_,?_,by exact ZS left c⟩,fun I=>rfl⟩ ?_ ?_) N
 ·refine PI.tup (PC.tup (PE.tuple ?_ (by show(7:Nat)≤1000;exact f6)));have G:∀{st:Bool}{q:JE},PE Z (k+1) F (Hr left hid ins (.val (.int (c:Int))) (.val (.str (CN c))) (.val (.str (Bs left c))) (.val (.str (FO c))) O L so) [] st (.Name "one" q) (.str (CN c)):=PE.name (AD 4 rfl);have E:∀{st:Bool}{q:JE},PE Z (k+1) F (Hr left hid ins (.val (.int (c:Int))) (.val (.str (CN c))) (.val (.str (Bs left c))) (.val (.str (FO c))) O L so) [] st (.Name "piece" q) (.str (Bs left c)):=PE.name (AD 5 rfl);have J:∀{st:Bool}{q:JE},PE Z (k+1) F (Hr left hid ins (.val (.int (c:Int))) (.val (.str (CN c))) (.val (.str (Bs left c))) (.val (.str (FO c))) O L so) [] st (.Name "dots" q) (.str (FO c)):=PE.name (AD 6 rfl);have U:∀{st:Bool}{q:JE},PE Z (k+1) F (Hr left hid ins (.val (.int (c:Int))) (.val (.str (CN c))) (.val (.str (Bs left c))) (.val (.str (FO c))) O L so) [] st (.Name "left" q) (.str left):=PE.name (AD 0 rfl);exact .cons (PE.tuple (.two (PE.addS (PE.addS (PE.cstr (x:=Bv)) G (by rw[Ay];exact hU D Q)) (PE.cstr (x:=Bv)) (by rw[Ay,A2];exact hW D Q)) U))
   (.cons (PE.tuple (.two J E)) (.cons (PE.tuple (.two E E)) (.cons (PE.tuple (.two G E)) (.cons (PE.tuple (.two J G))
    (.two (PE.tuple (.two J (PE.addS (PE.cstr (x:=NX)) E (by rw[Ay];exact hB B R)))) (PE.tuple (.two J (PE.addS E (PE.cstr (x:=NX)) (by rw[Ay];exact hD B R)))))))))
 ·exact CS.of ["want","got"] [] rfl rfl .nil rfl dc rfl rfl rfl
 ·intro p hp;obtain⟨⟨w,g⟩,V,rfl⟩:=AU.mp hp;refine⟨[("want",.val (.str w)),("got",.val (.str g))],.tup (.tup _) (.cons (Ah 0 rfl) (.cons (Ah 1 rfl) .nil)),fun a W=>⟨rfl,fun I=>?_⟩⟩;show PE Z (k+1) a _ _ true _ (.bool (Hq w g));have A:w.length≤1000∧g.length≤1000∧(B6 w Bv=true→2≤(CI w Bv).length):=by
   refine Ny (W5 M M) fun b S _ _=>?_;unfold TC at V;simp only[AN,BH,or_false,GJ]at V;rcases V with⟨rfl,rfl⟩|⟨rfl,rfl⟩|⟨rfl,rfl⟩|⟨rfl,rfl⟩|⟨rfl,rfl⟩|⟨rfl,rfl⟩|⟨rfl,rfl⟩
   ·exact⟨by exact TU hd1,by exact Qx hl,fun I=>b⟩
   ·exact⟨by exact TU H,by exact Qx B,fun I=>S⟩
   ·exact⟨by exact Qx B,by exact Qx B,fun h=>by cases T.symm.trans h⟩
   ·exact⟨by exact AA D dc,by exact Qx B,fun h=>by rw[TE M]at h;cases h⟩
   ·exact⟨by exact TU H,by exact AA D dc,fun I=>S⟩
   ·exact⟨by exact TU H,by rw[A2];exact hC B R,fun I=>S⟩
   ·exact⟨by exact TU H,by rw[A2];exact hE B R,fun I=>S⟩
  exact PE.ell (MI W rfl) P.el P.dt P.ln (PE.name (AD 0 rfl)) (PE.name (AD 1 rfl)) ⟨rfl,rfl⟩ A.1 A.2.1 A.2.2 dc
 ·show(7:Nat)≤1000000;exact eN
 ·show Upd _ _ (.own (BP (Gg left c))) _;unfold Hr;exact Ah 7 rfl
 ·exact HG P.sc fun I=>rfl
end
noncomputable def NA(hid:List Nat)(c:Nat):List Bool:=[!hid.contains c, !hid.contains c,true,false,false,false,false]
section
variable{Z:Zx}{k:Nat}{F:Fx}
theorem PE.notInRow{ρ κ:Ci}{st:Bool}{l r:Aj}(hl:PE Z k F ρ κ false l (.str (CN c)))(hr:PE Z k F ρ κ false r (.list (Bn hid)))(A:c≤5)(B:∀x∈hid,x≤5)(D:autoParam (IY .NotIn r=false) ar):PE Z k F ρ κ st (.Compare l [.NotIn] [r] pos) (.bool (!hid.contains c)):=
 PE.of (PE.cmp hl hr (C5.notInL (Np c A) (Ld hid B) (by rw[show(PV.str (CN c)).d= .str (CN c) from rfl,EB];decide)) D) (by rw[Qt hid c A B])
theorem Jk(l:List Bool):(PV.list (BP l)).d.canLay0=true:=by
 rw[show(PV.list (BP l)).d= .list (PV.ds (BP l)) from rfl,Dg];exact VU l
theorem MX(l:List Bool):(PV.list (BP l)).d.depth≤64:=by
 rw[show(PV.list (BP l)).d= .list (PV.ds (BP l)) from rfl,EB,R_ l];decide
set_option maxHeartbeats 2000000 in
theorem Vm(W:V9 F Z.C)(O:c<5)(P:∀x∈hid,x≤5)(Q:Gg left c=NA hid c)(S:R.length≤100)
  (B:ρ=Hr left hid (.own I) (.val (.int (c:Int))) (.val (.str (CN c))) (.val (.str (Bs left c))) (.val (.str (FO c))) (.own (BP (Gg left c++R))) d so):
  PS Z (k+1) F ρ [] ((BW NL).drop 3) .next ρ:=by
 have L:IS (BP (Gg left c++R)) none (some 7) none=BP (NA hid c):=by
  rw[show(some 7:Option Int)=some ((7:Nat):Int) from rfl,Km (by rw[GU,AQ];exact AM _ _),←Q];unfold BP;rw[Ac,PH (by rfl)]
 have hn:∀{st:Bool}{q:JE},PE Z (k+1) F ρ [] false (.Name "told" q) (.list (BP (Gg left c++R))):=by
  intro st q;subst B;exact PE.nameO (AD 7 rfl)
 have E:∀{st:Bool}{q:JE},PE Z (k+1) F ρ [] st (.Name "one" q) (.str (CN c)):=by
  intro st q;subst B;exact PE.name (AD 4 rfl)
 have G:∀{st:Bool}{q:JE},PE Z (k+1) F ρ [] st (.Name "hidden" q) (.list (Bn hid)):=by
  intro st q;subst B;exact PE.name (AD 1 rfl)
 have H:(Ap "told",Internal.Slot.own (BP (Gg left c++R)))∈ρ++ []:=by
  subst B;exact AD 7 rfl
 have D:(BP (Gg left c++R)).length≤1000:=by rw[GU,AQ];simp[Gg];exact AA (AV S 7) dc
 have J:WJ (id:PV→PV) (List.filter (fun A=>false) (BP (Gg left c++R)))=BP []:=by
  rw[Cy.mpr (fun a A=>dc)];rfl
 conv=>arg 6;whnf
 refine PS.one (P1.ifF (PB.of (PB.or (b:=false) (c:=false) ?_ fun A=>PB.or (b:=false) (c:=false) ?_ fun A=>PB.orN) rfl) PS.nil)
 ·have hr:∀{x:Bool}{e:Aj}{n:Int}{p q N:JE}{m:Nat}(hx:PE Z (k+1) F ρ [] false e (.bool x)),0≤n→n≤1000→(∀q,CW q=false→True)→CW e=false→PE Z (k+1) F ρ [] false (.BinOp (.List [e] p) .Mult (.Constant (.int n) m N) q) (.list (Sy [.bool x] n)):=fun {x e n p q N m} hx T U _ hs=>
   (PF.mul (PE.list (.one hx hs)) PE.cint T U (by show(1:Nat)≤1000;exact eP)).pe
  refine PB.of (PB.cmp (PE.of (PE.slice (hn (st:=false)) .none (.some PE.cint) .none dc (HM D)) (congrArg PV.list L)) (PE.addL (PE.addL (hr (PE.notInRow E G (Qy O) P) dc dc (fun A A=>trivial) rfl) (PE.list (.one PE.cbool)) (by show(2:Nat)+1≤_;exact gJ)) (hr PE.cbool dc dc (fun A A=>trivial) rfl) (by show(3:Nat)+4≤_;exact gI)) (C5.neD (Jk _) (Jk (NA hid c)) (.inl (MX _)))) ?_;show(!DB (.list (PV.ds (BP (NA hid c)))) (.list (PV.ds (BP (NA hid c)))))=false;rw[DB,Py];rfl
 ·refine PB.of (PB.cmp (PE.comp ⟨X7 (BP (Gg left c++R)) (fun A=>false) id [("answer",.unb)] [] false true ⟨PI.list (PC.own H),rfl,?_,?_,HM D,rfl⟩,fun A=>rfl⟩) (PE.list .nil) (C5.neD (q:=.list (BP [])) (by rw[J];exact Jk []) (Jk []) (.inr (MX [])))) ?_
  ·exact CS.of ["answer"] [] rfl rfl .nil rfl dc rfl rfl rfl
  ·intro p hp;refine Bz (AU.mp hp) fun b _ M=>?_;subst M;refine⟨[("answer",.val (.bool b))],.name (Ah 0 rfl),fun f V=>⟨?_,fun h=>by cases h⟩⟩;exact PB.of (PB.and (PB.cmp (PE.name (p:=.bool b) (AD 0 rfl)) PE.cbool C5.isNotB) fun A=>PB.and (PB.cmp (PE.name (p:=.bool b) (AD 0 rfl)) PE.cbool C5.isNotB) fun A=>PB.andN) (by cases b<;>rfl)
  ·rw[J];show(!DB (.list (PV.ds (BP []))) (.list (PV.ds (BP []))))=false;rw[DB,Py];rfl
theorem pairs_len:∀l:List Nat,((l.map (pairD left c)).flatten).length=2*l.length:=by
 intro A
 induction A with
 |nil=>
  exact rfl
 |cons a l B=>
  rw[Ae,Bd,AQ,B,AP];simp[pairD];exact cX
structure Q7(left:Ax)(hid:List Nat):Prop where
 len:left.length≤900
 hid5:∀x∈hid,x≤5
 nd:∀c<5,B6 (Bs left c) Bv=false
 told:∀c<5,Gg left c=NA hid c
theorem TL(S:V9 F Z.C)(H:Q7 left hid):∀(n c:Nat)(I:List PV)(T so Q R st B D:Internal.Slot),c+n≤5→I.length≤10*c→
  ∃E G J L M N O,Loop Z (k+1) F [] (DP NL) (BW NL) (EG NL) (GH c (Bn (Aw c n))) (Hr left hid (.own I) T so Q R st B D) .next (Hr left hid (.own (I++Ih left (Aw c n))) E G J L M N O):=by
 intro V
 induction V with
 |zero=>
  intro c I T so Q R st B D _ _;exact X7 T so Q R st B D (by simp only[Ot,Ih,DZ,Eg,Ao];exact .done fun wr=>PS.nil)
 |succ n e=>
  intro c I T so Q R st B D U d;have A:c<5:=AF (BZ (Bx _)) U;have P:Bind (DP NL) (.tup [.int (c:Int),.str (CN c)]) (Hr left hid (.own I) T so Q R st B D) (Hr left hid (.own I) (.val (.int (c:Int))) (.val (.str (CN c))) Q R st B D):=
   .tup (.tup _) (.cons (Ah 3 rfl) (.cons (Ah 4 rfl) .nil))
  refine P3 (TM (Z:=Z) (k:=k) A H.len (hid:=hid) (ds:=.val (.str (FO c))) c 0 I (Gg left c) B D (i' A) (AA d (AA (BE 10 (AA (AM _ _) U)) dc)) (by exact dc)) fun W a b=>?_;obtain⟨E,G,J,L,M,N,O,h⟩:=e (c+1) (I++(Aw 0 c).map (Gf left c)) (.val (.int (c:Int))) (.val (.str (CN c))) (.val (.str (Bs left c))) (.val (.str (FO c))) (.own (BP (Gg left c++((Aw 0 c).map (pairD left c)).flatten))) W a (e2 U) (by simp;exact BA d (AA (AM _ (_+1)) (AA U dc)));refine X7 E G J L M N O ?_;rw[C3];refine .next P (fun wr=>Vn S.loop A H.len (H.nd c A) ?_) (by
   rw[show I++Ih left (c::Aw (c+1) n)=I++(Aw 0 c).map (Gf left c)++Ih left (Aw (c+1) n) by unfold Ih;rw[Ae,Bd,E1,A8]];exact h)
  refine PS.cons (P1.for (PI.enumS ((S.loop (wr:=wr)).kind _ rfl) S.en (PE.sliceS (PE.cstr (x:=Ls)) .none (.some (PE.name (p:=.int (c:Int)) (AD 3 rfl))) dc)) rfl (by
   rw[G9,cT A];exact b _ S.loop)) ?_
  exact Vm S.loop A H.hid5 (H.told c A) (by rw[pairs_len,Gs];exact i_ A) rfl
end
structure PT(Z:Zx)(k:Nat)(F:Fx)(ρ κ:Ci)(e:Aj)(y:Ax):Prop where
 ofRun::
 run:∀(A:Bl)(O:AS)(s:AO)(Q:Ad→AO→Prop)(E:Ad→AO→Prop),Good k A→Cj Z.C F O ρ κ s→
  (∀t s',s.toks≤t→t<s'.toks→D9 Z.C s s'→Q (.str y t) s')→Af (Ar Z.prog Z.w) A (D4 e F.env) Q E s
section
variable{Z:Zx}{k:Nat}{F:Fx}{ρ ρ₁ ρ' κ:Ci}{st:Bool}
theorem PT.itemS(L:PE Z k F ρ κ false D (.str a))(hi:PE Z k F ρ κ false B (.int i))
  (M:Db i a.length=some j) (N:a.cps[j]?=some c) (hz:a.length≤1000000) (hs:autoParam (MJ B=false) ar):PT Z k F ρ κ (.Subscript D B pos) ⟨#[c]⟩:=
 .ofRun fun A O s Q E G R P=>Lv (L.run A O s _ _ G R fun v s₁ L x=>hi.run A O s₁ _ _ G (R.ext x) fun u s₂ S y=>by
  refine B8 L.str_inv fun t H=>?_;subst H;refine B8 S.int_inv fun T H=>?_;subst H;refine ER (HI M) fun J I=>?_;refine Kk (IG _ _ _) QF.lookup ?_ (FY hs _ _);refine PyProof.Rows.getItem_str ?_ (by rw[M];exact N) ?_
  ·simp only[Lp,decide_eq_false_iff_not];exact ka hz J I
  ·exact P _ _ (AA x.toks y.toks) (Az _) ((x.trans y).trans .tok))
theorem PT.addS(hl:PE Z k F ρ κ false l (.str a))(hr:PE Z k F ρ κ false r (.str b))(D:a.length≠0)(hb:b.length≠0)(hz:a.length+b.length≤Ey):PT Z k F ρ κ (.BinOp l .Add r pos) (a++b):=
 .ofRun fun A O s Q E G R H=>SP (hl.run A O s _ _ G R fun v s₁ I x=>hr.run A O s₁ _ _ G (R.ext x) fun u s₂ J y=>by
  refine B8 I.str_inv fun t B=>?_;subst B;refine B8 J.str_inv fun L B=>?_;subst B;refine PySem.P.add_str ?_;rw[if_neg (by simpa using D),if_neg (by simpa using hb)];exact⟨by rw[A2];exact hz,H _ _ (AA x.toks y.toks) (Az _) ((x.trans y).trans .tok)⟩)
theorem P1.assignTk(i:PT Z k F ρ κ J T)(j:PT Z k F ρ κ D L)(c:Upd ρ H (.val (.str T)) ρ₁)(d:Upd ρ₁ B (.tk L) ρ')
  (Gt:IX [.Tuple [.Name H M,.Name B I] n N] (.Tuple [J,D] t P) F.env=pure none) (l:CW J=false∧CW D=false)
  (hs:autoParam (Om [.Tuple [.Name H M,.Name B I] n N] (.Tuple [J,D] t P) pos.line F.env=pure false) ar):P1 Z k F ρ κ (.Assign [.Tuple [.Name H M,.Name B I] n N] (.Tuple [J,D] t P) pos) .next ρ':=.ofRun fun A O s Q E G R If=>by
 refine ZG (dk ?_) hs Gt;rw[B9 l.1];show Af _ _ (D4 J F.env>>=fun v=>(pure [v]:Ku (List Ad))>>=fun here=>D3 here (FU (DO P (B_ [D] F.env)))>>=fun r=>pure (here++r)) _ _ _;refine AJ (i.run A O s _ _ G R fun U s₁ q V x=>?_);refine AJ (AX (AJ (BV ?_)));rw[B9 l.2];show Af _ _ (D4 D F.env>>=fun v=>(pure [v]:Ku (List Ad))>>=fun here=>D3 here (FU (DO P (B_ [] F.env)))>>=fun r=>pure (here++r)) _ _ _;refine AJ (j.run A O s₁ _ _ G (R.ext x) fun S s₂ f W y=>?_);refine AJ (AX (AJ (BV ?_)));refine AX (AX (AX ?_));refine Ft (C:=Z.C) (by show(2:Nat)≤Ey;decide) fun s₃ z Is Lt=>?_;rw[(rfl:DV (.Tuple [.Name H M,.Name B I] n N) F.env (.ref s₂.heap.objs.size)=(do Hf N;ZD (.ref s₂.heap.objs.size) (D5 [.Name H M,.Name B I] F.env)))];refine AJ (Et ?_);unfold ZD;refine AJ (BV (CG (Ke (items:= #[.str T U,.str L S]) G.handled ⟨_,Is,rfl,0,rfl⟩ fun h' hx u=>?_)));have w:D9 Z.C s₃ {s₃ with heap:=h'}:=Ew hx u;have e:D9 Z.C s {s₃ with heap:=h'}:=((x.trans y).trans z).trans w;show Af _ _ (do D3 [.str L S] (DV (.Name H M) F.env (.str T U));G2 ((D5 [.Name B I] F.env).map (·.2)) [.str L S]) _ _ _;refine AJ (BV (FA ((R.ext e).putVal c (.str ..) fun At m a=>?_)));show Af _ _ (do D3 [] (DV (.Name B I) F.env (.str L S));G2 [] []) _ _ _;refine AJ (BV (FA (m.putTk d (AF (AY (BI U) V) f) (AF W (AA (AA z.toks w.toks) a.toks)) fun o p b=>AX ?_)));exact If _ o O rfl p ((Step.ofE e).trans ((Step.ofN a).trans (.ofN b))) fun u0 h=>.inl h
theorem PE.replaceTk(a:PE Z k F ρ κ false o (.str x))(P:(nm,.tk y)∈ρ++κ)(b:PT Z k F ρ κ e z)(S:(y==z)=false)(hb:x.length+(x.length+1)*z.length≤16777216)(H:CW e=false)
  (hp:autoParam ((I.endLine==pos.line)=true) ar) (T:∀w,WR o "replace" F.env w=w:=by intro _;rfl):PE Z k F ρ κ st (.Call (.Attribute o "replace" I) [.Name nm np,e] [] pos) (.str (F5 x y z)):=.ofRun fun A O s Q E G R c=>by
 have hn:C0 [PySem.Expr.Name nm np,e]=true:=by simp[C0,H];rfl
 refine HS (pl:=_) (a.run A O s _ _ G R fun v s₁ d ex=>?_) (No hn (by show(2:Nat)<30;decide) hp T);refine B8 d.str_inv fun t U=>?_;subst U;refine F' (W:=F.V O false) PySem.F.slot_str_replace PySem.F.type_str_replace (.str x t) ?_;refine DG (C:=Z.C) (.builtin _) hn ?_;rw[B9 rfl];show Af _ _ (D4 (.Name nm np) F.env>>=fun v=>(pure [v]:Ku (List Ad))>>=fun here=>D3 here (FU (DO pos (B_ [e] F.env)))>>=fun r=>pure (here++r)) _ _ _;have B:=R.ext ex;refine AJ (Ed (B.load P (FE (B.nameOk P)) (by intro h;cases h) fun v ⟨u,f,J,L⟩=>?_) (DF (B.nameOk P)));cases f;refine AJ (AX (AJ (BV ?_)));rw[B9 H];show Af _ _ (D4 e F.env>>=fun v=>(pure [v]:Ku (List Ad))>>=fun here=>D3 here (FU (DO pos (B_ [] F.env)))>>=fun r=>pure (here++r)) _ _ _;refine AJ (b.run A O s₁ _ _ G B fun M s₂ D N V=>?_);refine AJ (AX (AJ (BV ?_)));refine AX (AX (AX ?_));refine⟨(B.ext V).base,?_⟩;show Af _ _ (DC (.builtin "str.replace") [.str x t,.str y u,.str z M]) _ _ _;exact CG (SC.replace (CU J) (CU (AF (B7 J L) D)) (BX (AF L D)) S hb fun j kk i=>c _ _ (.str ..) ((ex.trans V).trans (.tok i.2)))
theorem RU:Cm Ls=Bn (Aw 0 5):=rfl
noncomputable def MK(left:Ax):List PV:=Ih left [0,1,2,3,4]
set_option maxHeartbeats 1000000 in
theorem Vo(T:J2 Z.C 19 a fd)(A:Gl Z.C "enumerate" (.type "enumerate")) (B:∃a fd,J2 Z.C 10 a fd∧Gl Z.C "_ellipsis_match" (.ref a)) (D:∃t,Gl Z.C "ELLIPSIS_MARKER" (.str Bv t)) (E:Gl Z.C "len" (.builtin "len"))
  (H:Q7 left hid):Bk Z (k+2) (.ref a) [.str left,.list (Bn hid)] [] [] (.list (MK left)):=by
 refine Bk.fnS T ["left","hidden"] ["inside","k","one","piece","dots","told","j","other"] rfl rfl (fun vs L=>?_) rfl dc fun F G M M=>?_
 ·refine P3 (fA L) fun O P I=>?_;subst I;exact T.bind fun N=>rfl
 ·have J:V9 F Z.C:=⟨G,A,B,D,E⟩;show Dq Z (k+1) F (Hr left hid .unb .unb .unb .unb .unb .unb .unb .unb) [] _ _;refine l4 (TL (k:=k) J H 5 0 [] .unb .unb .unb .unb .unb .unb .unb (gM) (by exact dc)) fun Q so R S st U V h=>?_;rw[←RU,←G9,(rfl:[]++Ih left (Aw 0 5)=MK left)]at h
  conv=>arg 6;whnf
  refine Dq.cons (ρ₁:=Hr left hid (.own []) .unb .unb .unb .unb .unb .unb .unb) (P1.assignOwn (xs:=[]) (PO.list .nil) (Ah 2 rfl)) ?_;refine Dq.cons (P1.for (PI.enumS (J.kind _ rfl) A (PE.cstr (x:=Ls))) rfl h) ?_;exact Dq.stop (P1.ret (PE.nameO (AD 2 rfl)))
end
noncomputable def placesOf(row:List Nat)(c:Nat):List Nat:=(AW 10).filter fun p=>row.getD p 5==c
noncomputable def NV(w:Bool):Ax:=if w then "()" else ")("
noncomputable def K2(w b:Bool):Nat:=if b==w then 41 else 40
noncomputable def LW(row:List Nat)(pieces:List Ax)(j:Nat)(w:Bool)(p:Nat):Ax:=F5 (pieces.getD p Ai) (CN j) (CN j++⟨#[K2 w ((row.take p).contains j)]⟩)
noncomputable def Ie(row hid:List Nat)(pieces:List Ax)(c j:Nat)(w:Bool)(lo hi:Nat):List Ax:=if hid.contains c then[] else(Aw (lo+1) (hi-(lo+1))).map (LW row pieces j w)
noncomputable def Ts(row hid:List Nat)(pieces:List Ax)(c j:Nat)(w:Bool)(lo hi:Nat):Ax:=
 (if w then NX else Ai)++Cf "" (Ie row hid pieces c j w lo hi)++(if w then Tx else Ai)
noncomputable def M3(e:Nat)(w:Bool)(t:Ax):Ax:=if e=1∨(e=2∧w=false) then Nm else t
noncomputable def FM(row:List Nat)(c:Nat):Nat:=(placesOf row c).getD 0 0
noncomputable def EI(row:List Nat)(c:Nat):Nat:=(placesOf row c).getD 1 0
noncomputable abbrev I4:=Nat×Nat×Nat
noncomputable def EP(t:I4):PV:=.tup [.int (t.1:Int),.int (t.2.1:Int),.int (t.2.2:Int)]
noncomputable def Cz(row hid:List Nat)(pieces:List Ax)(t:I4)(w:Bool):Ax:=Ts row hid pieces t.1 t.2.1 w (FM row t.1) (EI row t.1)
noncomputable def EQ(row hid:List Nat)(pieces:List Ax)(L:List I4):List Ax:=(L.map fun t=> [Cz row hid pieces t true,Cz row hid pieces t false]).flatten
noncomputable def Fo(row hid:List Nat)(pieces:List Ax)(L:List I4):List Ax:=(L.map fun t=> [M3 t.2.2 true (Cz row hid pieces t true),M3 t.2.2 false (Cz row hid pieces t false)]).flatten
theorem PT.of(h:PT Z k F ρ κ e y)(A:y=B):PT Z k F ρ κ e B:=A▸h
structure SN(row hid:List Nat)(pieces:List Ax)(L:List I4):Prop where
 rl:row.length=10
 r5:∀c∈row,c<5
 h5:∀c∈hid,c≤5
 pl:pieces.length=10
 pb:∀x∈pieces,x.length≤50
 ll:L.length≤100
 tr:∀t∈L,t.1<5∧t.2.1<5∧placesOf row t.1=[FM row t.1,EI row t.1]∧FM row t.1<EI row t.1∧EI row t.1<10
 rb:∀j<5,∀w,∀p<10,(LW row pieces j w p).length≤60
 st:∀t∈L,∀w,(Cs (Cz row hid pieces t w)).length≤1000
 ok:∀t∈L,∀w,D8 (Cz row hid pieces t w)=M3 t.2.2 w (Cz row hid pieces t w)
section
variable{Z:Zx}{k:Nat}{F:Fx}
noncomputable def I1(row hid:List Nat)(pieces:List Ax)(ins:List PV)(E du kk G en one A low B D H I J:Internal.Slot):Ci:=[("row",.val (.list (Bn row))),("hidden",.val (.list (Bn hid))),("pieces",.val (.list (AT pieces))),("inside",.val (.list ins)),
 ("texts",E),("due",du),("k",kk),("j",G),("ends",en),("one",one),("other",A),("low",low),("high",B),("way",D),("ahead",H),("behind",I),("given",J)]
noncomputable def Rq:D7:=FQ 1 (Ba (Au 20))
noncomputable def OS:D7:=FQ 2 (BW Rq)
structure Yv(F:Fx)(C:Cx):Prop where
 sc:F.env.scope=Bu (Au 20)
 rg:Gl C "range" (.type "range")
 ls:Gl C "list" (.type "list")
 ck:Md C
 pre:∃a fd,J2 C 15 a fd∧Gl C "_pre_parse_validation" (.ref a)
theorem Yv.loop(h:Yv F C):Yv (F.loop wr) C:=⟨h.sc,h.rg,h.ls,h.ck,h.pre⟩
theorem Yv.kind(h:Yv F C)(x:Ax)(hx:(Bu (Au 20)).names.lookup x=some kd):F.env.kindOf x=some kd:=by show F.env.scope.names.lookup _=_;rw[h.sc];exact hx
theorem Yv.inter(h:Yv F C):B5 F.env=false:=by unfold B5;rw[h.sc];rfl
noncomputable def VY(row hid:List Nat)(pieces:List Ax)(c j:Nat)(w:Bool):Ci:=[("hidden",.val (.list (Bn hid))),("one",.val (.str (CN c))),("other",.tk (CN j)),("pieces",.val (.list (AT pieces))),("row",.val (.list (Bn row))),("way",.val (.str (NV w)))]
theorem ZM(w b:Bool):(NV w).cps[if b then 1 else 0]?=some (K2 w b):=by cases w<;>cases b<;>rfl
theorem H3(h:i<l.length):(AT l)[i]?=some (.str (l.getD i Ai)):=by
 unfold AT;rw[BD,AE,AL h];rfl
theorem CV(l:List Ax):(AT l).length=l.length:=by unfold AT;rw[AH]
theorem TB(a n:Nat):GN (a:Int) n=Bj (Aw a n):=by
 unfold GN Bj;rw[Sd,BB];congr 1
theorem PI.range2N{ρ κ:Ci}{st:Bool}{x:Ax}{p pos:JE}{e B:Aj}{a b:Nat}(D:F.env.kindOf x=some .globalImplicit)(E:Gl Z.C x (.type "range")) (h:PE Z k F ρ κ false e (.int (a:Int))) (h':PE Z k F ρ κ false B (.int (b:Int))) (A:a≤b) (hb:b≤1000000) (hs:C0 [e,B]=true) (hd:autoParam ((x==("__debug__":Ax))=false) ad):PI Z k F ρ κ st true (.Call (.Name x p) [e,B] [] pos) (Bj (Aw a (b-a))):=by
 have:=PI.range2 (st:=st) (p:=p) (pos:=pos) D E h h' (by exact A3.mpr A) (AZ _) (A3.mpr hb) hs hd
 rwa [(by exact g9 A:((b:Int)-(a:Int)).toNat=b-a),TB]at this
theorem cQ{row:List Nat}{pieces:List Ax}{c j p:Nat}{w:Bool}{hid:List Nat}(R:j<5)(hp:p<10)(E:row.length=10)(A:pieces.length=10)(r5:∀c∈row,c<5)(pb:∀x∈pieces,x.length≤50){ρ κ:Ci}{st:Bool}
  (G:ρ=([("place",.val (.int (p:Int)))]:Ci)) (H:κ=VY row hid pieces c j w)
  {p1 S T U V W b d f I J L M N:JE} {l m:Nat} {B pos n O o:JE} (P:(B.endLine==pos.line)=true):
  PE Z k F ρ κ st (.Call (.Attribute (.Subscript (.Name "pieces" p1) (.Name "place" S) n) "replace" B) [.Name "other" T,.BinOp (.Name "other" U) .Add (.Subscript (.Name "way" V) (.IfExp (.Compare (.Name "other" W) [.In] [.Subscript (.Name "row" b) (.Slice none (some (.Name "place" d)) none f) I] J) (.Constant (.int 1) l L) (.Constant (.int 0) m M) N) O) o] [] pos) (.str (LW row pieces j w p)):=by
 subst G H;unfold VY;have q:(pieces.getD p Ai).length≤50:=by
  rw[AE,AL (an hp A)];exact pb _ (BY _)
 have hs:CN j=⟨#[97+j]⟩:=if_pos R;have D:(CN j).length=1:=by rw[hs];rfl
 refine PE.replaceTk (y:=CN j) (PE.itemL (PE.name (p:=.list (AT pieces)) (AD 4 rfl)) (PE.name (p:=.int (p:Int)) (AD 0 rfl)) (C' (k:=p) (Yn hp) (by rw[CV];exact BR.mpr (A▸hp))) (by rw[Ag];exact H3 (an hp A)) (by rw[CV];exact V0 A)) (AD 3 rfl) (PT.addS (PE.nameT (AD 3 rfl)) (PE.itemS (a:=NV w) (i:=if(row.take p).contains j then 1 else 0) (j:=if(row.take p).contains j then 1 else 0) (PE.name (AD 6 rfl)) (PE.ife (c:=(row.take p).contains j) (PB.inRow (PE.nameT (AD 3 rfl)) (PE.of (PE.slice (PE.name (p:=.list (Bn row)) (AD 5 rfl)) .none (.some (PE.name (p:=.int (p:Int)) (AD 0 rfl))) .none dc (by rw[CL];exact V0 E)) (congrArg PV.list (by rw[Km (by rw[CL];exact E▸Aa hp)];unfold Bn;rw[←Ff]))) (Qy R) (fun x hx=>Aa (r5 x (F4 hx)))) (fun h=>?_) (fun h=>?_)) ?_ (ZM w _) (by cases w<;>decide)) (by rw[D];decide) (by show(1:Nat)≠0;decide) (by rw[D];show 1+(1:Nat)≤Ey;decide)) ?_ ?_ rfl P
 ·rw[h];exact PE.cint
 ·rw[h];exact PE.cint
 ·cases w<;>cases (row.take p).contains j<;>rfl
 ·rw[beq_eq_false_iff_ne];intro e;have:=congrArg Str.length e;rw[A2]at this;have Q:(⟨#[K2 w ((row.take p).contains j)]⟩:Ax).length=1:=rfl;exact iT this Q
 ·rw[A2,D];have Q:(⟨#[K2 w ((row.take p).contains j)]⟩:Ax).length=1:=rfl;rw[Q];omega
set_option maxHeartbeats 1000000 in
theorem UR(G:Yv F Z.C){row hid:List Nat}{pieces:List Ax}{ins:List PV}{T D:List Ax}{L:List I4}(H:SN row hid pieces L){t:I4}(m:t∈L){w:Bool}(S:T.length≤1000)(n:D.length≤1000):
  PS Z k F (I1 row hid pieces ins (.own (AT T)) (.own (AT D)) (.val (.int (t.1:Int))) (.val (.int (t.2.1:Int))) (.val (.int (t.2.2:Int))) (.val (.str (CN t.1))) (.tk (CN t.2.1)) (.val (.int (FM row t.1:Int))) (.val (.int (EI row t.1:Int))) (.val (.str (NV w))) (.val (.str (if w then NX else Ai))) (.val (.str (if w then Tx else Ai))) .unb) [] (BW OS) .next
   (I1 row hid pieces ins (.own (AT (T++ [Cz row hid pieces t w]))) (.own (AT (D++ [M3 t.2.2 w (Cz row hid pieces t w)]))) (.val (.int (t.1:Int))) (.val (.int (t.2.1:Int))) (.val (.int (t.2.2:Int))) (.val (.str (CN t.1))) (.tk (CN t.2.1)) (.val (.int (FM row t.1:Int))) (.val (.int (EI row t.1:Int))) (.val (.str (NV w))) (.val (.str (if w then NX else Ai))) (.val (.str (if w then Tx else Ai))) .unb):=by
 refine kM (H.tr t m) fun o l q J E=>?_;obtain⟨c,j,e⟩:=t;simp only at*;have I:∀x∈Ie row hid pieces c j w (FM row c) (EI row c),x.length≤60:=fun x hx=>by
  unfold Ie at hx;split at hx
  ·cases hx
  ·refine Bz (AU.mp hx) fun p hp M=>?_;subst M;exact H.rb j l w p (by rw[C8]at hp;exact cv J E hp)
 have P:(Ie row hid pieces c j w (FM row c) (EI row c)).length≤10:=by
  unfold Ie;split
  ·exact dc
  ·rw[AH,Gs];exact AA (EF _ _) (Aa E)
 have Q:(Cf "" (Ie row hid pieces c j w (FM row c) (EI row c))).length≤10000:=by
  rw[KV];have:=I8 (B:=60) _ I;exact AA this (AA (B3 60 P) dc)
 have N:(if w then NX else Ai).length≤1∧(if w then Tx else Ai).length≤1:=by cases w<;>exact⟨dc,dc⟩
 have R:Fb Z k "append" (AT T) [.str (Cz row hid pieces (c,j,e) w)] (AT (T++ [Cz row hid pieces (c,j,e) w])):=by
  have:=Fb.append (Z:=Z) (k:=k) (xs:=AT T) (p:=.str (Cz row hid pieces (c,j,e) w)) (by rw[CV];exact HM S);unfold AT at*
  rwa [Ac]
 have O:Fb Z k "append" (AT D) [.str (M3 e w (Cz row hid pieces (c,j,e) w))] (AT (D++ [M3 e w (Cz row hid pieces (c,j,e) w)])):=by
  have:=Fb.append (Z:=Z) (k:=k) (xs:=AT D) (p:=.str (M3 e w (Cz row hid pieces (c,j,e) w))) (by rw[CV];exact HM n);unfold AT at*
  rwa [Ac]
 generalize U:(if w then NX else Ai)=V at*;generalize W:(if w then Tx else Ai)=d at*;have f:Cz row hid pieces (c,j,e) w=V++Cf "" (Ie row hid pieces c j w (FM row c) (EI row c))++d:=by rw[←U,←W];rfl
 generalize Cz row hid pieces (c,j,e) w=tx at*
 conv=>arg 6;whnf
 refine PS.cons (ρ₁:=I1 row hid pieces ins (.own (AT (T++ [tx]))) (.own (AT D)) (.val (.int (c:Int))) (.val (.int (j:Int))) (.val (.int (e:Int))) (.val (.str (CN c))) (.tk (CN j)) (.val (.int (FM row c:Int))) (.val (.int (EI row c:Int))) (.val (.str (NV w))) (.val (.str V)) (.val (.str d)) .unb) (P1.mut (AD 4 rfl) (.one (PE.of (PE.addS (PE.addS (PE.name (p:=.str V) (AD 14 rfl)) (PE.methE (st:=false) PE.cstr (.one (PE.of (PE.comp ⟨X7 (Bj (Aw (FM row c+1) (EI row c-(FM row c+1)))) (fun A=> !hid.contains c) (fun p=>.str (LW row pieces j w (Ha p))) [("place",.unb)] (VY row hid pieces c j w) false true ⟨?_,rfl,?_,?_,?_,rfl⟩,fun A=>rfl⟩) ?_)) (Dh.join (joinOk_of (B:=60) I ?_))) ?_) (PE.name (p:=.str d) (AD 15 rfl)) ?_) (congrArg PV.str f.symm))) R (Ah 4 rfl) G.inter) (PS.one (P1.mut (AD 5 rfl) (.one ?_) O (Ah 5 rfl) G.inter))
 ·exact PI.range2N (G.kind _ rfl) G.rg (PE.of (PE.add (PE.name (p:=.int (FM row c:Int)) (AD 11 rfl)) (PE.cint (i:=1))) (congrArg PV.int (Yj))) (PE.name (p:=.int (EI row c:Int)) (AD 12 rfl)) (ah J) (jW E) rfl
 ·exact CS.of ["place"] ["hidden","one","other","pieces","row","way"] rfl rfl (by
   unfold VY I1;exact .cons rfl (AD 1 rfl) (by rw[G.kind _ rfl];decide) (.cons rfl (AD 9 rfl) (by rw[G.kind _ rfl];decide) (.cons rfl (AD 10 rfl) (by rw[G.kind _ rfl];decide) (.cons rfl (AD 2 rfl) (by rw[G.kind _ rfl];decide) (.cons rfl (AD 0 rfl) (by rw[G.kind _ rfl];decide) (.cons rfl (AD 13 rfl) (by rw[G.kind _ rfl];decide) .nil)))))) rfl dc rfl rfl rfl
 ·intro p hp;refine Bz (Gm hp) fun i hi M=>?_;subst M;rw[C8]at hi;refine⟨[("place",.val (.int (i:Int)))],.name (Ah 0 rfl),fun At r=>⟨?_,fun A=>?_⟩⟩
  ·exact PB.notInRow (PE.name (p:=.str (CN c)) (by unfold VY;exact AD 2 rfl)) (PE.name (p:=.list (Bn hid)) (by unfold VY;exact AD 1 rfl)) (Qy o) H.h5
  ·exact cQ l (cv J E hi) H.rl H.pl H.r5 H.pb rfl rfl rfl
 ·rw[A',Gs];exact AA (EF _ _) (AA (Aa E) dc)
 ·show PV.list _=PV.list _;congr 1;unfold Ie;cases hid.contains c
  ·rw[(Ck (p:=fun A=> !false)).mpr (fun A A=>rfl),if_neg dc,BB];unfold Bj;rw[BB];rfl
  ·rw[(Cy (p:=fun A=> !true)).mpr (fun A A=>dc),if_pos rfl];rfl
 ·have u:(("":Ax)).length=0:=rfl;rw[u];exact show _*60≤16000000 from AA (B3 60 P) dc
 ·rw[Ay];exact AA (BA N.1 Q) dc
 ·rw[Ay,A2];exact AA (BA (BA N.1 Q) N.2) dc
 ·refine PE.ife (c:=decide (e=1∨(e=2∧w=false))) ?_ (fun h=>?_) fun h=>?_
  ·refine PB.of (PB.or (PB.cmp (PE.name (p:=.int (e:Int)) (AD 8 rfl)) PE.cint C5.eqI) fun A=>PB.or (PB.and (PB.cmp (PE.name (p:=.int (e:Int)) (AD 8 rfl)) PE.cint C5.eqI) fun A=>PB.and (PB.cmp (PE.name (p:=.str (NV w)) (AD 13 rfl)) PE.cstr C5.eqS) fun A=>PB.andN) fun A=>PB.orN) ?_;have v:((e:Int)==1)=decide (e=1):=by
    by_cases h:e=1
    ·subst h;rfl
    ·rw[decide_eq_false h,beq_eq_false_iff_ne];exact gz h
   have y:((e:Int)==2)=decide (e=2):=by
    by_cases h:e=2
    ·subst h;rfl
    ·rw[decide_eq_false h,beq_eq_false_iff_ne];exact gy h
   have z:(NV w==(")(":Ax))=decide (w=false):=by cases w<;>decide
   rw[v,y,z];by_cases a:e=1<;>by_cases b:e=2<;>cases w<;>simp[a,b]
  ·unfold M3;rw[if_pos (of_decide_eq_true h)];exact PE.cstr
  ·unfold M3;rw[if_neg (of_decide_eq_false h)];refine PE.itemL (xs:=AT (T++ [tx])) (j:=T.length) (PE.nameO (AD 4 rfl)) (PE.neg PE.cint) ?_ (by rw[H3 (by simp)];simp) (by rw[CV];simp;exact AA S dc);rw[CV,AQ];unfold Db;simp;exact hP S
end
theorem Rl:∀(l:List Ax),(∀x∈l,∀c∈x.cps.toList,c<1114112)→Bi (PV.ds (AT l))=true:=by
 intro A
 induction A with
 |nil=>
  intro _;rw[show PV.ds (AT [])=[] from rfl,Bi]
 |cons x l B=>
  intro h;rw[show PV.ds (AT (x::l))= .str x::PV.ds (AT l) from rfl,Bi,Qb (h x AB),B (fun y D=>h y (AG _ D))];rfl
theorem YB:∀(l:List Ax),HT (PV.ds (AT l)) (PV.ds (AT l))=true:=by
 intro A
 induction A with
 |nil=>
  rw[show PV.ds (AT [])=[] from rfl,HT]
 |cons x l B=>
  rw[show PV.ds (AT (x::l))= .str x::PV.ds (AT l) from rfl,HT,DB,B];simp
theorem TN:∀(l:List Ax),EN (PV.ds (AT l))=0:=by
 intro A
 induction A with
 |nil=>
  rw[show PV.ds (AT [])=[] from rfl,EN]
 |cons x l B=>
  rw[show PV.ds (AT (x::l))= .str x::PV.ds (AT l) from rfl,EN,EB,B];rfl
noncomputable def WA(x:Ax):Prop:=∀c∈x.cps.toList,c<1114112
theorem C5.eqSelf(h:∀x∈l,WA x):C5 Z k .Eq (.list (AT l)) (.list (AT l)) true:=by
 have:=C5.eqD (Z:=Z) (k:=k) (p:=.list (AT l)) (q:=.list (AT l)) (by rw[show(PV.list (AT l)).d= .list (PV.ds (AT l)) from rfl,Dg];exact Rl l h) (by rw[show(PV.list (AT l)).d= .list (PV.ds (AT l)) from rfl,Dg];exact Rl l h) (.inl (by rw[show(PV.list (AT l)).d= .list (PV.ds (AT l)) from rfl,EB,TN l];decide));rw[show(PV.list (AT l)).d= .list (PV.ds (AT l)) from rfl,DB,YB]at this;exact this
section
variable{Z:Zx}{k:Nat}{F:Fx}
theorem YV(H:SN row hid pieces L)(I:t∈L)(J:T.length≤900)(M:D.length≤900)(G B E:Internal.Slot)(F:Fx)(N:Yv F Z.C):
  Loop Z k F [] (DP OS) (BW OS) (EG OS) [.tup [.str (NV true),.str NX,.str Tx],.tup [.str (NV false),.str Ai,.str Ai]]
   (I1 row hid pieces ins (.own (AT T)) (.own (AT D)) (.val (.int (t.1:Int))) (.val (.int (t.2.1:Int))) (.val (.int (t.2.2:Int))) (.val (.str (CN t.1))) (.tk (CN t.2.1)) (.val (.int (FM row t.1:Int))) (.val (.int (EI row t.1:Int))) G B E .unb) .next
   (I1 row hid pieces ins (.own (AT (T++EQ row hid pieces [t]))) (.own (AT (D++Fo row hid pieces [t]))) (.val (.int (t.1:Int))) (.val (.int (t.2.1:Int))) (.val (.int (t.2.2:Int))) (.val (.str (CN t.1))) (.tk (CN t.2.1)) (.val (.int (FM row t.1:Int))) (.val (.int (EI row t.1:Int))) (.val (.str (NV false))) (.val (.str Ai)) (.val (.str Ai)) .unb):=by
 have A:∀{T D:List Ax}{G B E:Internal.Slot}{a b c:Ax},Bind (DP OS) (.tup [.str a,.str b,.str c]) (I1 row hid pieces ins (.own (AT T)) (.own (AT D)) (.val (.int (t.1:Int))) (.val (.int (t.2.1:Int))) (.val (.int (t.2.2:Int))) (.val (.str (CN t.1))) (.tk (CN t.2.1)) (.val (.int (FM row t.1:Int))) (.val (.int (EI row t.1:Int))) G B E .unb)
   (I1 row hid pieces ins (.own (AT T)) (.own (AT D)) (.val (.int (t.1:Int))) (.val (.int (t.2.1:Int))) (.val (.int (t.2.2:Int))) (.val (.str (CN t.1))) (.tk (CN t.2.1)) (.val (.int (FM row t.1:Int))) (.val (.int (EI row t.1:Int))) (.val (.str a)) (.val (.str b)) (.val (.str c)) .unb):=fun {T D G B E a b c}=>
  .tup (.tup _) (.cons (ρ₁:=I1 row hid pieces ins (.own (AT T)) (.own (AT D)) (.val (.int (t.1:Int))) (.val (.int (t.2.1:Int))) (.val (.int (t.2.2:Int))) (.val (.str (CN t.1))) (.tk (CN t.2.1)) (.val (.int (FM row t.1:Int))) (.val (.int (EI row t.1:Int))) (.val (.str a)) B E .unb) (Ah 13 rfl) (.cons (Ah 14 rfl) (.cons (Ah 15 rfl) .nil)))
 rw[(by simp[EQ]:T++EQ row hid pieces [t]=(T++ [Cz row hid pieces t true])++ [Cz row hid pieces t false]),(by simp[Fo]:D++Fo row hid pieces [t]=(D++ [M3 t.2.2 true (Cz row hid pieces t true)])++ [M3 t.2.2 false (Cz row hid pieces t false)])];exact .next A (fun wr=>UR (w:=true) N.loop H I (Qx J) (Qx M)) (.next A (fun wr=>UR (w:=false) N.loop H I (by simp;exact AA J dc) (by simp;exact AA M dc)) (.done fun wr=>PS.nil))
set_option maxHeartbeats 1000000 in
theorem YU(Gt:Yv F Z.C)(H:SN row hid pieces L):∀(M:List I4)(T D:List Ax)(kk f en one A low B E O P:Internal.Slot),(∀t∈M,t∈L)→T.length+2*M.length≤500→D.length+2*M.length≤500→
  ∃V W a Q G R I S b d,Loop Z k F [] (DP Rq) (BW Rq) (EG Rq) (M.map EP) (I1 row hid pieces ins (.own (AT T)) (.own (AT D)) kk f en one A low B E O P .unb) .next
   (I1 row hid pieces ins (.own (AT (T++EQ row hid pieces M))) (.own (AT (D++Fo row hid pieces M))) V W a Q G R I S b d .unb):=by
 intro o
 induction o with
 |nil=>
  intro T D kk f en one A low B E O P _ _ _;exact ke kk f en one A low B E O P (by simp only[EQ,Fo,DZ,Eg,Ao];exact .done fun wr=>PS.nil)
 |cons t M If=>
  intro T D kk f en one A low B E O P y q r;have z:=y t AB;refine kM (H.tr t z) fun m u v Is Lt=>?_;rw[AP]at q r;refine kg (If (T++EQ row hid pieces [t]) (D++Fo row hid pieces [t]) (.val (.int (t.1:Int))) (.val (.int (t.2.1:Int))) (.val (.int (t.2.2:Int))) (.val (.str (CN t.1))) (.tk (CN t.2.1)) (.val (.int (FM row t.1:Int))) (.val (.int (EI row t.1:Int))) (.val (.str (NV false))) (.val (.str Ai)) (.val (.str Ai)) (fun x hx=>y x (AG _ hx)) (by simp[EQ];exact kc q) (by simp[Fo];exact kc r)) fun V W a Q G R I S b d h=>?_;refine ke V W a Q G R I S b d ?_;rw[(by exact(A8 ..).symm:T++EQ row hid pieces (t::M)=T++EQ row hid pieces [t]++EQ row hid pieces M),(by exact(A8 ..).symm:D++Fo row hid pieces (t::M)=D++Fo row hid pieces [t]++Fo row hid pieces M)];have e:Bind (DP Rq) (EP t) (I1 row hid pieces ins (.own (AT T)) (.own (AT D)) kk f en one A low B E O P .unb) (I1 row hid pieces ins (.own (AT T)) (.own (AT D)) (.val (.int (t.1:Int))) (.val (.int (t.2.1:Int))) (.val (.int (t.2.2:Int))) one A low B E O P .unb):=
   .tup (.tup _) (.cons (ρ₁:=I1 row hid pieces ins (.own (AT T)) (.own (AT D)) (.val (.int (t.1:Int))) f en one A low B E O P .unb) (Ah 6 rfl) (.cons (Ah 7 rfl) (.cons (Ah 8 rfl) .nil)))
  refine .next e (fun wr=>?_) h;have J:=Gt.loop (wr:=wr);generalize F.loop wr=Ns at J
  conv=>arg 6;whnf
  have N:∀{c:Nat},c<5→Db (c:Int) Ls.length=some c∧Ls.cps[c]?=some (97+c):=fun {c} h=>by
   have Sa:c=0∨c=1∨c=2∨c=3∨c=4:=Ma h;rcases Sa with h|h|h|h|h<;>subst h<;>exact⟨rfl,rfl⟩
  have j:∀{c:Nat},c<5→(⟨#[97+c]⟩:Ax)=CN c:=fun {c} h=>(if_pos h).symm;refine PS.cons (ρ₁:=I1 row hid pieces ins (.own (AT T)) (.own (AT D)) (.val (.int (t.1:Int))) (.val (.int (t.2.1:Int))) (.val (.int (t.2.2:Int))) (.val (.str (CN t.1))) (.tk (CN t.2.1)) low B E O P .unb) (P1.assignTk (ρ₁:=I1 row hid pieces ins (.own (AT T)) (.own (AT D)) (.val (.int (t.1:Int))) (.val (.int (t.2.1:Int))) (.val (.int (t.2.2:Int))) (.val (.str (CN t.1))) A low B E O P .unb) (PT.of (PT.itemS (PE.cstr (x:=Ls)) (PE.name (p:=.int (t.1:Int)) (AD 6 rfl)) (N m).1 (N m).2 dc) (j m)) (PT.of (PT.itemS (PE.cstr (x:=Ls)) (PE.name (p:=.int (t.2.1:Int)) (AD 7 rfl)) (N u).1 (N u).2 dc) (j u)) (Ah 9 rfl) (Ah 10 rfl) (EZ J.sc fun u0=>rfl) ⟨rfl,rfl⟩) ?_;refine PS.cons (ρ₁:=I1 row hid pieces ins (.own (AT T)) (.own (AT D)) (.val (.int (t.1:Int))) (.val (.int (t.2.1:Int))) (.val (.int (t.2.2:Int))) (.val (.str (CN t.1))) (.tk (CN t.2.1)) (.val (.int (FM row t.1:Int))) (.val (.int (EI row t.1:Int))) E O P .unb) (P1.assignB (p:=.list (Bj (placesOf row t.1))) (PE.comp ⟨X7 (Bj (AW 10)) (fun p=>row.getD (Ha p) 5==t.1) (fun p=>p) [("place",.unb)] [("one",.val (.str (CN t.1))),("row",.val (.list (Bn row)))] true true ⟨?_,rfl,?_,?_,?_,?_⟩,fun u0=>rfl⟩) ?_) ?_
  ·rw[←Eo];exact PI.range1 (J.kind _ rfl) J.rg (n:=10) (PE.cint (i:=((10:Nat):Int))) dc
  ·exact CS.of ["place"] ["one","row"] rfl rfl (.cons rfl (AD 9 rfl) (by rw[J.kind _ rfl];decide) (.cons rfl (AD 0 rfl) (by rw[J.kind _ rfl];decide) .nil)) rfl dc rfl rfl rfl
  ·intro p hp;refine Bz (Gm hp) fun i hi w=>?_;subst w;rw[An]at hi;refine⟨[("place",.val (.int (i:Int)))],.name (Ah 0 rfl),fun av At=>⟨?_,fun u0=>PE.name (AD 0 rfl)⟩⟩;have U:=H.rl;refine PB.of (PB.cmp (PE.itemL (PE.name (p:=.list (Bn row)) (AD 2 rfl)) (PE.name (p:=.int (i:Int)) (AD 0 rfl)) (C' (k:=i) (Yn hi) (by rw[CL];exact BR.mpr (U▸hi))) (by rw[Ag];exact Pb (an hi U)) (by rw[CL];exact V0 U)) (PE.name (p:=.str (CN t.1)) (AD 1 rfl)) C5.eqS) ?_;have l:i<row.length:=an hi U;have bi:row.getD i 0=row[i]:=by rw[AE,AL l];rfl
   have bl:row.getD (Ha (.int (i:Int))) 5=row[i]:=by
    show row.getD (B0 (i:Int)) 5=_;rw[Ag,AE,AL l];rfl
   rw[bi];show _=(row.getD (Ha (.int (i:Int))) 5==t.1);rw[bl,QU (Aa (H.r5 _ (BY _))) (Aa m)];rfl
  ·rw[A'];decide
  ·unfold placesOf Bj;rw[C1,Ki];congr 1
  ·rw[v];exact .tup (.list _) (.cons (Ah 11 rfl) (.cons (Ah 12 rfl) .nil))
  refine PS.one (P1.for (PI.tup (PC.tup (PE.tuple (.two (PE.tuple (.three PE.cstr PE.cstr PE.cstr)) (PE.tuple (.three PE.cstr PE.cstr PE.cstr)))))) rfl ?_);exact YV H z (AA (AM _ _) (AA q dc)) (AA (AA (AM _ _) r) dc) E O P Ns J
theorem U2(row hid:List Nat)(pieces:List Ax):∀L:List I4,(EQ row hid pieces L).length=2*L.length∧(Fo row hid pieces L).length=2*L.length:=by
 intro A
 induction A with
 |nil=>
  exact⟨rfl,rfl⟩
 |cons t L B=>
  have:=B;unfold EQ Fo at*;simp only[Ae,Bd,AQ,AP,Fd];exact jo this
theorem U0(H:SN row hid pieces L):(EQ row hid pieces L).map D8=Fo row hid pieces L:=by
 have:∀M:List I4,(∀t∈M,t∈L)→(EQ row hid pieces M).map D8=Fo row hid pieces M:=by
  intro M
  induction M with
  |nil=>intro _;rfl
  |cons t M A=>
   intro h;have:=A fun x hx=>h x (AG _ hx);unfold EQ Fo at*;rw[Ae,Bd,Ac,this,Ae (l:=M),Bd,Ae,Ae,DZ,H.ok t (h t AB) true,H.ok t (h t AB) false]
 exact this L fun B h=>h
theorem text_len(H:SN row hid pieces L)(M:t∈L)(w:Bool):(Cz row hid pieces t w).length≤1000:=by
 refine kM (H.tr t M) fun P N O G A=>?_;unfold Cz Ts;rw[A2,A2,KV];have D:∀x∈Ie row hid pieces t.1 t.2.1 w (FM row t.1) (EI row t.1),x.length≤60:=fun x hx=>by
  unfold Ie at hx;split at hx
  ·cases hx
  ·refine Bz (AU.mp hx) fun p hp I=>?_;subst I;exact H.rb _ N w p (by rw[C8]at hp;exact cv G A hp)
 have J:(Ie row hid pieces t.1 t.2.1 w (FM row t.1) (EI row t.1)).length≤10:=by
  unfold Ie;split
  ·simp
  ·rw[AH,Gs];exact AA (EF _ _) (Aa A)
 have:=I8 (B:=60) _ D;have E:(if w then NX else Ai).length≤1∧(if w then Tx else Ai).length≤1:=by cases w<;>exact⟨dc,dc⟩
 exact AA (BA (BA E.1 (AA this (B3 60 J))) E.2) dc
theorem U1(h:x∈EQ row hid pieces L):∃t∈L,∃w,x=Cz row hid pieces t w:=by
 unfold EQ at h;refine Bz (Ef.mp h) fun l hl hx=>?_;refine Bz (AU.mp hl) fun t B A=>?_;subst A;simp only[AN,BH,or_false]at hx;rcases hx with rfl|rfl
 ·exact⟨t,B,true,rfl⟩
 ·exact⟨t,B,false,rfl⟩
set_option maxHeartbeats 1000000 in
theorem aQ(T:J2 Z.C 20 a fd)(U:Gl Z.C "range" (.type "range")) (J:Gl Z.C "list" (.type "list")) (M:Md Z.C) (B:∃a fd,J2 Z.C 15 a fd∧Gl Z.C "_pre_parse_validation" (.ref a))
  (H:SN row hid pieces L) (N:∀t∈L,∀w,WA (Cz row hid pieces t w)):Bk Z (k+6) (.ref a) [.list (Bn row),.list (Bn hid),.list (AT pieces),.list (L.map EP)] [] [] (.bool true):=by
 refine Bk.fnS T ["row","hidden","pieces","inside"] ["texts","due","k","j","ends","one","other","low","high","way","ahead","behind","given"] rfl rfl (fun vs f=>?_) rfl dc fun F V G G=>?_
 ·refine dY (kP f) fun r u v z D=>?_;subst D;exact T.bind fun i=>rfl
 ·have S:Yv F Z.C:=⟨V,U,J,M,B⟩;show Dq Z (k+5) F (I1 row hid pieces (L.map EP) .unb .unb .unb .unb .unb .unb .unb .unb .unb .unb .unb .unb .unb) [] _ _;refine kg (YU (k:=k+5) S H (ins:=L.map EP) L [] [] .unb .unb .unb .unb .unb .unb .unb .unb .unb .unb (fun G h=>h) (by have:=H.ll;simp;exact AA (BE 2 this) dc) (by have:=H.ll;simp;exact AA (BE 2 this) dc)) fun kk j en one E low O W l m h=>?_;rw[Br,Br]at h
  conv=>arg 6;whnf
  refine Dq.cons (ρ₁:=I1 row hid pieces (L.map EP) (.own []) (.own []) .unb .unb .unb .unb .unb .unb .unb .unb .unb .unb .unb) (P1.assignR (xs:=["texts","due"]) (iks:=[.own [],.own []]) (.own (PO.list .nil) (.own (PO.list .nil) .nil)) rfl (IV.own (ρ₁:=I1 row hid pieces (L.map EP) .unb (.own []) .unb .unb .unb .unb .unb .unb .unb .unb .unb .unb .unb) (Ah 5 rfl) (.own (Ah 4 rfl) .nil)) rfl (EZ S.sc fun G=>rfl) dc) ?_;refine Dq.cons (P1.for (PI.list (PC.list (PE.name (p:=.list (L.map EP)) (AD 3 rfl)))) rfl h) ?_;have P:=(U2 row hid pieces L).1;have Q:=H.ll;have R:=U0 H;have A:∀x∈EQ row hid pieces L,x.length≤1000∧(Cs x).length≤1000∧WA x:=fun x hx=>by
   obtain⟨t,c,w,rfl⟩:=U1 hx;exact⟨text_len H c w,H.st t c w,N t c w⟩
  have d:∀x∈Fo row hid pieces L,WA x:=fun x hx=>by
   rw[←R]at hx;refine Bz (AU.mp hx) fun y n D=>?_;subst D;unfold D8;split
   ·exact(A y n).2.2
   ·unfold WA;decide
  generalize EQ row hid pieces L=I at*;generalize Fo row hid pieces L=ds at*;refine Dq.cons (ρ₁:=I1 row hid pieces (L.map EP) (.own (AT I)) (.own (AT ds)) kk j en one E low O W l m (.val (.list (AT I)))) (P1.assign (PF.pe (PF.up (PF.copy (st:=false) (S.kind _ rfl) J (PE.nameO (xs:=AT I) (AD 4 rfl)) (by rw[CV];exact P▸AA (BE 2 Q) dc)) (by unfold AT;rw[Nl];exact Al.mpr fun G G=>rfl))) (Ah 16 rfl)) ?_;refine K7 B fun pa o e q=>?_;refine Dq.stop (P1.ret (PE.of (PE.and (b:=true) (PE.cmp (PE.call (S.kind _ rfl) q e.t.fn (.one (PE.nameO (xs:=AT I) (AD 4 rfl))) (XJ (k:=k) e M (P▸AA (BE 2 Q) dc) (fun x hx=>⟨(A x hx).1,(A x hx).2.1⟩))) (PE.nameO (xs:=AT ds) (AD 5 rfl)) (by rw[R];exact C5.eqSelf d)) I3.bool fun G=>PE.and1 (PE.cmp (PE.nameO (xs:=AT I) (AD 4 rfl)) (PE.name (p:=.list (AT I)) (AD 16 rfl)) (C5.eqSelf fun x hx=>(A x hx).2.2))) rfl))
end
noncomputable def rowsOf(T:List Nat):List Int:=T.map (fun n:Nat=>(n:Int))++ [32,-1]
noncomputable def Jl(T:List Nat)(v:Int):Int:=(rowsOf T).getD v.toNat 0
noncomputable def Fk(T:List Nat):Nat→List Int
 |0=> [5,6]
 |n+1=>Fz (Fk T n) (aO (Jl T) (Fk T n) (Jl T n) 1 ((n+1:Nat):Int)).toNat n
theorem Fk.c2(T:List Nat):Fk T (n+1)=Fz (Fk T n) (aO (Jl T) (Fk T n) (Jl T n) 1 ((n+1:Nat):Int)).toNat n:=rfl
noncomputable def Gj(T:List Nat):Nat→List Int
 |0=> [5,6]
 |n+1=>Fz (Gj T n) (aT (Jl T) (Gj T n) (Jl T n) 1 ((n+1:Nat):Int)).toNat n
theorem Gj.c2(T:List Nat):Gj T (n+1)=Fz (Gj T n) (aT (Jl T) (Gj T n) (Jl T n) 1 ((n+1:Nat):Int)).toNat n:=rfl
theorem Ps(h:y∈Fz xs i x):y=x∨y∈xs:=by
 unfold Fz at h;rcases AR.mp h with h|h
 ·exact .inr (F4 h)
 ·rcases AN.mp h with h|h
  ·exact .inl h
  ·exact .inr (WI h)
theorem Pt(xs:List Int)(i:Nat)(x:Int):(Fz xs i x).length=xs.length+1:=by
 unfold Fz;rw[AQ,AP,CC,Ca];exact eW
theorem Kn(T:List Nat):∀n:Nat,n≤5→(Fk T n).length=n+2∧∀v∈Fk T n,0≤v∧v<7:=by
 intro A
 induction A with
 |zero=>
  intro _;exact⟨rfl,by show∀v∈([5,6]:List Int),0≤v∧v<7;decide⟩
 |succ n B=>
  intro h;refine ER (B (Yp h)) fun D E=>?_;refine⟨by rw[Fk.c2,Pt,D],fun v F=>?_⟩;rcases Ps F with rfl|h'
  ·exact⟨AZ _,BR.mpr (AF h dc)⟩
  ·exact E v h'
theorem Zk(T:List Nat):∀n:Nat,n≤5→(Gj T n).length=n+2∧∀v∈Gj T n,0≤v∧v<7:=by
 intro A
 induction A with
 |zero=>
  intro _;exact⟨rfl,by show∀v∈([5,6]:List Int),0≤v∧v<7;decide⟩
 |succ n B=>
  intro h;refine ER (B (Yp h)) fun D E=>?_;refine⟨by rw[Gj.c2,Pt,D],fun v F=>?_⟩;rcases Ps F with rfl|h'
  ·exact⟨AZ _,BR.mpr (AF h dc)⟩
  ·exact E v h'
section
variable{Z:Zx}{k:Nat}{F:Fx}
theorem YN(B:kk=0∨kk=1)(H:0≤v)(I:v<R.length)(hz:R.length≤1000):JT Z (k+1) kk R [.int v] (.int (R.getD v.toNat 0)):=by
 refine ER (Ht H I) fun E G=>?_;rcases B with rfl|rfl
 ·refine KY (x:="k") (fun A A A A A=>rfl) rfl (fun y D=>?_) rfl rfl rfl rfl dc fun F J=>?_
  ·cases D;exact⟨rfl,dc,rfl⟩
  ·show PE Z k F [("k",.val (.int v))] [("rows",.val (.list (R.map PV.int)))] false _ _
   conv=>arg 7;whnf
   exact PE.itemL (PE.name (p:=.list (R.map PV.int)) (AD 1 rfl)) (PE.name (p:=.int v) (AD 0 rfl)) E G (by rw[AH];exact HM hz)
 ·refine KY (x:="k") (fun A A A A A=>rfl) rfl (fun y D=>?_) rfl rfl rfl rfl dc fun F J=>?_
  ·cases D;exact⟨rfl,dc,rfl⟩
  ·show PE Z k F [("k",.val (.int v))] [("rows",.val (.list (R.map PV.int)))] false _ _
   conv=>arg 7;whnf
   exact PE.itemL (PE.name (p:=.list (R.map PV.int)) (AD 1 rfl)) (PE.name (p:=.int v) (AD 0 rfl)) E G (by rw[AH];exact HM hz)
noncomputable def Gi(T:List Nat)(W:List Ax)(b:Nat)(od ot ba on rw tu le lo hi:Internal.Slot):Ci:=[("rows",.val (.list ((rowsOf T).map PV.int))),("words",.val (.list (AT W))),("base",.val (.int (b:Int))),("order",od),("other",ot),("basis",ba),("one",on),("row",rw),("turn",tu),("lead",le),("low",lo),("high",hi)]
noncomputable def QY:D7:=FQ 1 (Ba (Au 21))
noncomputable def QX:D7:=FQ 2 (Ba (Au 21))
noncomputable def Pf:D7:=FQ 1 (BW QX)
structure dE(C:Cx):Prop where
 br:∃a fd,K6 C 2 a fd∧(∀h,C.objs.In h→GC h fd)∧Gl C "bisect_right" (.ref a)
 bl:∃a fd,K6 C 4 a fd∧(∀h,C.objs.In h→GC h fd)∧Gl C "bisect_left" (.ref a)
 ir:∃a fd,K6 C 1 a fd∧(∀h,C.objs.In h→GC h fd)∧Gl C "insort_right" (.ref a)
 il:∃a fd,K6 C 3 a fd∧(∀h,C.objs.In h→GC h fd)∧Gl C "insort_left" (.ref a)
 ln:Gl C "len" (.builtin "len")
 rg:Gl C "range" (.type "range")
structure dA(C:Cx):Prop where
 fl:Nx C
 hx:Gl C "hex" (.builtin "hex")
 pf:∃a fd,J2 C 7 a fd∧Gl C "pretty_flags" (.ref a)
structure Td(F:Fx)(C:Cx):Prop where
 sc:F.env.scope=Bu (Au 21)
 cd:F.env.code= .ref 117
 ql:F.env.qual="_law_basis.<locals>."
 bi:dE C
 pf:dA C
theorem Td.loop(h:Td F C):Td (F.loop wr) C:=⟨h.sc,h.cd,h.ql,h.bi,h.pf⟩
theorem Td.kind(h:Td F C)(x:Ax)(hx:(Bu (Au 21)).names.lookup x=some kd):F.env.kindOf x=some kd:=by show F.env.scope.names.lookup _=_;rw[h.sc];exact hx
theorem Td.inter(h:Td F C):B5 F.env=false:=by unfold B5;rw[h.sc];rfl
theorem P2(hs:scope=(Fy 0).scope∨scope=(Fy 1).scope)(B:env.cells.lookup ("rows":Ax)=some c):GW scope env=pure [(("rows":Ax),c)]:=by
 have A:Uh env ("rows":Ax)=pure c:=by unfold Uh;rw[B]
 have hn:scope.names=[(("k":Ax),NameKind.local),(("rows":Ax),Cn)]:=by rcases hs with rfl|rfl<;>rfl
 unfold GW;rw[hn];simp only[K0,Ln,A];rfl
theorem LX(h:T.length=5):(rowsOf T).length=7:=by simp[rowsOf,h]
set_option maxHeartbeats 1000000 in
theorem cP(B:Td F Z.C){T:List Nat}{W:List Ax}{b n:Nat}(V:T.length=5)(hn:n<5){ba rw tu le lo hi:Internal.Slot}:
  PS Z (k+4) F (Gi T W b (.own ((Fk T n).map PV.int)) (.own ((Gj T n).map PV.int)) ba (.val (.int (n:Int))) rw tu le lo hi) [] (BW QY) .next
   (Gi T W b (.own ((Fk T (n+1)).map PV.int)) (.own ((Gj T (n+1)).map PV.int)) ba (.val (.int (n:Int))) rw tu le lo hi):=by
 refine ER (Kn T n (Qy hn)) fun D L=>?_;refine ER (Zk T n (Aa hn)) fun E M=>?_;refine Hd B.bi.ir fun u rf R a d=>?_;refine Hd B.bi.il fun w x S e f=>?_;refine Hd B.bi.br fun i y l m o=>?_;refine Hd B.bi.bl fun z At q r t=>?_;have G:=LX V;have H:∀{kk:Nat},(kk=0∨kk=1)→∀A,k+2≤A→∀v:Int,0≤v∧v<7→JT Z A kk (rowsOf T) [.int v] (.int (Jl T v)):=fun {kk} N A J v I=>by
  obtain⟨j,rfl⟩:∃j,A=j+1:=⟨A-1,(Cc (AA (CM 1 (_+1)) J)).symm⟩;exact YN N I.1 (by rw[G];exact I.2) (AA (BC G) dc)
 have O:∀A,k+2≤A→∀v∈(n:Int)::Fk T n,JT Z A 0 (rowsOf T) [.int v] (.int (Jl T v)):=fun A J v I=>H (.inl rfl) A J v (by
  rcases AN.mp I with rfl|h
  ·exact⟨AZ _,BR.mpr (AF hn dc)⟩
  ·exact L v h)
 have P:∀A,k+2≤A→∀v∈(n:Int)::Gj T n,JT Z A 1 (rowsOf T) [.int v] (.int (Jl T v)):=fun A J v I=>H (.inr rfl) A J v (by
  rcases AN.mp I with rfl|h
  ·exact⟨AZ _,BR.mpr (AF hn dc)⟩
  ·exact M v h)
 have U:((n:Int)+1)=((n+1:Nat):Int):=Yj
 conv=>arg 6;whnf
 refine PS.cons (ρ₁:=Gi T W b (.own ((Fk T (n+1)).map PV.int)) (.own ((Gj T n).map PV.int)) ba (.val (.int (n:Int))) rw tu le lo hi) (P1.ins (Li.callK (xs':=Fk T (n+1)) (kk:=0) (cap:=rowsOf T) (AD 3 rfl) (B.kind _ rfl) d R.fn (.three (PE.name (p:=.int (n:Int)) (AD 6 rfl)) PE.cint (PE.of (PE.add (PE.name (p:=.int (n:Int)) (AD 6 rfl)) PE.cint) (congrArg PV.int U))) rfl .basis B.cd (by rw[B.ql];rfl) rfl rfl rfl rfl ⟨AD 0 rfl,by rw[B.kind _ rfl];decide,fun c Q=>P2 (.inl rfl) Q⟩
  (fP (k:=k+2) (g:=Jl T) R a l m o O dc (ep hn D E) (iN D) (D▸AA (Bf (Aa hn) 2) dc)) (Ah 3 rfl)) B.inter) (PS.one (P1.ins (Li.callK (xs':=Gj T (n+1)) (kk:=1) (cap:=rowsOf T) (AD 4 rfl) (B.kind _ rfl) f S.fn (.three (PE.name (p:=.int (n:Int)) (AD 6 rfl)) PE.cint (PE.of (PE.add (PE.name (p:=.int (n:Int)) (AD 6 rfl)) PE.cint) (congrArg PV.int U))) rfl .basis B.cd (by rw[B.ql];rfl) rfl rfl rfl rfl ⟨AD 0 rfl,by rw[B.kind _ rfl];decide,fun c Q=>P2 (.inr rfl) Q⟩
  (fQ (k:=k+2) (g:=Jl T) S e q r t P dc (ep hn D E) (iO D E) (jE hn D E)) (Ah 4 rfl)) B.inter))
theorem YR(D:Td F Z.C){T:List Nat}{W:List Ax}{b:Nat}(E:T.length=5){ba rw tu le lo hi:Internal.Slot}:∀(m n:Nat)(on:Internal.Slot),n+m=5→
  ∃A,Loop Z (k+4) F [] (DP QY) (BW QY) (EG QY) (Bj (Aw n m)) (Gi T W b (.own ((Fk T n).map PV.int)) (.own ((Gj T n).map PV.int)) ba on rw tu le lo hi) .next
   (Gi T W b (.own ((Fk T 5).map PV.int)) (.own ((Gj T 5).map PV.int)) ba A rw tu le lo hi):=by
 intro B
 induction B with
 |zero=>
  intro n on h;exact⟨on,by rw[(by omega:n=5)];exact .done fun wr=>PS.nil⟩
 |succ m G=>
  intro n on h;refine B8 (G (n+1) (.val (.int (n:Int))) (c9 h)) fun A hl=>?_;exact⟨A,by rw[C3];exact .next (.name (Ah 6 rfl)) (fun wr=>cP D.loop E (c8 h)) hl⟩
end
noncomputable def zs(B:List Nat):List Int:=B.map fun n:Nat=>(n:Int)
noncomputable def M0(B:List Nat)(i x:Nat):List Nat:=B.take i++x::B.drop i
noncomputable def I0(B:List Nat)(l:Nat):Nat:=(Vr (zs B) ((2^l:Nat):Int) 1 ((B.length-1:Nat):Int)).toNat
noncomputable def UE(B:List Nat)(l:Nat):Nat:=(Sk (zs B) ((2^l*2-1:Nat):Int) (I0 B l:Int) ((B.length-1:Nat):Int)).toNat
noncomputable def E6:Nat→Nat→List Nat→List Nat
 |0,_,B=>B
 |n+1,r,B=>if r=0 then B else if I0 B r.log2=UE B r.log2 then M0 B (I0 B r.log2) r else E6 n (r^^^B.getD (I0 B r.log2) 0) B
theorem E6.c1{A B}:E6 0 A B=B:=rfl
theorem E6.c2{n r B}:E6 (n+1) r B=if r=0 then B else if I0 B r.log2=UE B r.log2 then M0 B (I0 B r.log2) r else E6 n (r^^^B.getD (I0 B r.log2) 0) B:=rfl
noncomputable def Il(T:List Nat):List Nat→List Nat→List Nat
 |[],B=>B
 |o::os,B=>Il T os (E6 6 (T.getD o 0) B)
theorem Il.c2(T:List Nat){o os B}:Il T (o::os) B=Il T os (E6 6 (T.getD o 0) B):=rfl
noncomputable def LD(b r:Nat):Ax:=(CI (D' (r*2^b)) ", ").getLast?.getD Ai
structure Oi(W:List Ax)(b:Nat):Prop where
 hb:b<29
 wl:W.length≤100
 pj:∀r<32,dh ", " (F_ 32 0 (r*2^b))=true
 tl:∀r<32,(D' (r*2^b)).length≤1000000
 sl:∀r<32,(F1 (D' (r*2^b)) (C2 (D' (r*2^b)) ", " 0 (D' (r*2^b)).length ((D' (r*2^b)).length+1)) 2).length≤1000000
 ne:∀r<32,CI (D' (r*2^b)) ", "≠ []
 nl:∀r<32,(CI (D' (r*2^b)) ", ").length≤1000
 me:∀r<32,LD b r∈("0x0":Ax)::W
 ix:∀r<32,(("0x0":Ax)::W).idxOf (LD b r)=if r=0 then 0 else r.log2+1
noncomputable def da(B:List Nat):Prop:=2≤B.length∧∀i,1≤i→B.getD i 0<32
theorem Ct(B:List Nat):(zs B).length=B.length:=by unfold zs;rw[AH]
theorem Ss(B:List Nat)(i x:Nat):Fz (zs B) i x=zs (M0 B i x):=by
 unfold Fz zs M0;rw[Ac,Ae,Ff,Hk]
theorem OT(B:List Nat)(i x:Nat):(M0 B i x).length=B.length+1:=by
 unfold M0;rw[AQ,AP,CC,Ca];exact eW
theorem Z4{B:List Nat}(h:da B){i x:Nat}(hi:1≤i)(D:i≤B.length)(hx:x<32):da (M0 B i x):=by
 refine⟨by rw[OT];have:=h.1;exact By this,fun j F=>?_⟩;unfold M0;rw[AE,Hu,CC,IM D];by_cases A:j<i
 ·rw[if_pos A,E8 A,←AE];exact h.2 j F
 ·rw[if_neg A];by_cases E:j=i
  ·subst E;simpa using hx
  ·obtain⟨m,G⟩:∃m,j-i=m+1:=⟨j-i-1,(Cc (Ds (B' (Eh A) (Ne.symm E)))).symm⟩;rw[G,DA,EC,←AE];exact h.2 _ (AA hi (AM _ _))
theorem TG{B:List Nat}(h:2≤B.length)(l:Nat):((I0 B l:Nat):Int)=Vr (zs B) ((2^l:Nat):Int) 1 ((B.length-1:Nat):Int)∧1≤I0 B l∧I0 B l≤B.length-1:=by
 have:=Lh (fun m=>decide ((zs B).getD m.toNat 0<((2^l:Nat):Int))) ((zs B).length+1) 1 ((B.length-1:Nat):Int) (gK) (A3.mpr (WW h));unfold I0 Vr at*;exact lr this
theorem cE{B:List Nat}(h:2≤B.length)(l:Nat):((UE B l:Nat):Int)=Sk (zs B) ((2^l*2-1:Nat):Int) (I0 B l:Int) ((B.length-1:Nat):Int)∧I0 B l≤UE B l∧UE B l≤B.length-1:=by
 obtain⟨_,A,D⟩:=TG h l;have:=Lh (fun m=> !decide (((2^l*2-1:Nat):Int)<(zs B).getD m.toNat 0)) ((zs B).length+1) (I0 B l:Int) ((B.length-1:Nat):Int) (Z5 left A) (A3.mpr D);unfold UE Sk at*;exact Z3 left A this
theorem UU(xs:List Int)(x lo:Int):Vr xs x lo lo=lo∧Sk xs x lo lo=lo:=by
 unfold Vr Sk;rw[NO.c2,NO.c2,if_neg (Sq _),if_neg (Sq _)];exact⟨rfl,rfl⟩
theorem aE{r:Nat}{B:List Nat}:∀(n:Nat)(r:Nat),r<32→da B→da (E6 n r B)∧(E6 n r B).length≤B.length+1:=by
 intro A
 induction A with
 |zero=>
  intro r hr h;exact⟨h,by rw[E6.c1];exact Vv⟩
 |succ n E=>
  intro r hr h;refine Nc (TG h.1 r.log2) fun _ D F=>?_;rw[E6.c2];split
  ·exact⟨h,Vv⟩
  ·split
   ·exact⟨Z4 h D (AA F (EF _ 1)) hr,by rw[OT];exact AK _⟩
   ·exact E _ (Gy (n:=5) hr (h.2 _ D)) h
section
variable{Z:Zx}{k:Nat}{F:Fx}
theorem PE.iffRow{T:List Nat}(A:T.length=5){o:Nat}(B:o<5):(rowsOf T).getD o 0=(T.getD o 0:Nat):=by
 unfold rowsOf;rw[AE,CE (by rw[AH];exact TV A B),BD,AE,AL (TV A B)];rfl
set_option maxHeartbeats 2000000 in
theorem YP{T:List Nat}{W:List Ax}{b o:Nat}{od ot:Internal.Slot}(P:Oi W b):∀(n i r:Nat)(B:List Nat)(tu le lo hi:Internal.Slot),r<32→da B→B.length≤100→
  ∃S U V c d,∀(F:Fx),Td F Z.C→Loop Z (k+4) F [] (DP Pf) (BW Pf) (EG Pf) (Bj (Aw i n)) (Gi T W b od ot (.own ((zs B).map PV.int)) (.val (.int (o:Int))) (.val (.int (r:Int))) tu le lo hi) .next
   (Gi T W b od ot (.own ((zs (E6 n r B)).map PV.int)) (.val (.int (o:Int))) S U V c d):=by
 intro Ns
 induction Ns with
 |zero=>
  intro i r B tu le lo hi hr j hl;exact X5 (.val (.int (r:Int))) tu le lo hi fun F A=>.done fun wr=>PS.nil
 |succ n en=>
  intro i r B tu le lo hi hr j hl;have l:r*2^b<2^33:=by
   have eq:2^b≤2^28:=Bq dc (by have:=P.hb;exact cy this);have er:r*2^b≤31*2^28:=Lx (cx hr) eq;have ir:(31*2^28:Nat)<2^33:=dc;exact AY er dc
  have q:=P.ne r hr;have Sa:=P.nl r hr;have t:=P.wl;refine Nc (TG j.1 r.log2) fun E G H=>?_;refine Nc (cE j.1 r.log2) fun J L c4=>?_;have I:∀(F:Fx),Td F Z.C→∀{le:Internal.Slot},P1 Z (k+4) F (Gi T W b od ot (.own ((zs B).map PV.int)) (.val (.int (o:Int))) (.val (.int (r:Int))) (.val (.int (i:Int))) le lo hi) [] (FQ 0 (BW Pf)) .next (Gi T W b od ot (.own ((zs B).map PV.int)) (.val (.int (o:Int))) (.val (.int (r:Int))) (.val (.int (i:Int))) (.val (.int (((("0x0":Ax)::W).idxOf (LD b r):Nat)-1))) lo hi):=fun F A le=>by
   refine K7 A.pf.pf fun pa fe pT pG=>?_
   conv=>arg 6;whnf
   have u:(AT (CI (D' (r*2^b)) ", "))[(CI (D' (r*2^b)) ", ").length-1]?=some (.str (LD b r)):=by
    have M:=EW.mpr q;rw[H3 (JG M dc)];unfold LD;rw[JW,AE]
   refine P1.assign (PE.sub (PE.methE (st:=false) (PE.of (PE.addL (xs:=AT ["0x0"]) (ys:=AT W) (PE.list (.one PE.cstr)) (PE.name (p:=.list (AT W)) (AD 1 rfl)) (by rw[CV,CV];show 1+_≤_;exact AA (AV t _) dc)) (rfl:PV.list (AT ["0x0"]++AT W)= .list ((("0x0":Ax)::W).map PV.str))) (.one (PE.itemL (i:=-1) (p:=.str (LD b r)) (PF.pe (PF.split (PE.call (A.kind _ rfl) pG pT.t.fn (.one (PE.of (PE.shl (PE.name (p:=.int (r:Int)) (AD 7 rfl)) (PE.name (p:=.int (b:Int)) (AD 2 rfl)) (by exact Qv) (by have:=P.hb;exact ez this) (by omega)) (congrArg PV.int (show(r:Int)*2^(b:Int).toNat=((r*2^b:Nat):Int) by rw[Ag];rfl)))) (T2 (k:=k+3) pT A.pf.fl A.pf.hx A.bi.rg l (P.pj r hr))) PE.cstr dc (P.tl r hr) (by have:=P.sl r hr;exact AA this dc))) (PE.neg PE.cint) ?_ u ?_)) (Dh.indexL (P.me r hr) (by rw[AP];exact AY t dc))) PE.cint) (Ah 9 rfl)
   ·rw[AH];have M:=EW.mpr q;unfold Db;simp;exact kY M
   ·rw[AH];exact HM Sa
  have Q:=P.ix r hr;generalize fn:(("0x0":Ax)::W).idxOf (LD b r)=lv at*;by_cases N:r=0
  ·rw[if_pos N]at Q;subst Q;refine X5 (.val (.int (r:Int))) (.val (.int (i:Int))) (.val (.int (((0:Nat):Int)-1))) lo hi fun F A=>?_;rw[E6.c2,if_pos N,C3];refine .brk (ρ₁:=Gi T W b od ot (.own ((zs B).map PV.int)) (.val (.int (o:Int))) (.val (.int (r:Int))) (.val (.int (i:Int))) le lo hi) (.name (Ah 8 rfl)) fun wr=>?_;have av:=I (F.loop wr) A.loop (le:=le);refine PS.cons av ?_
   conv=>arg 6;whnf
   exact PS.stop (P1.ifT (PB.of (PB.cmp (PE.name (p:=.int (((0:Nat):Int)-1)) (AD 9 rfl)) PE.cint C5.ltI) rfl) (PS.stop P1.brk))
  ·rw[if_neg N]at Q;subst Q;have v:r.log2<5:=by
    rw[Nat.log2_lt N];exact hr
   have bi:(((r.log2+1:Nat):Int)-1)=(r.log2:Int):=gp;rw[bi]at I;have bl:((2:Int)^((r.log2:Int)).toNat)=((2^r.log2:Nat):Int):=by rw[Ag];rfl
   have b2:1≤2^r.log2:=ZH;have O:∀{F:Fx}(A:Td F Z.C){lo hi:Internal.Slot}{p1 w y p4 p5:JE}{z:Nat},PE Z (k+4) F (Gi T W b od ot (.own ((zs B).map PV.int)) (.val (.int (o:Int))) (.val (.int (r:Int))) (.val (.int (i:Int))) (.val (.int (r.log2:Int))) lo hi) [] false (.BinOp (.Call (.Name "len" p1) [.Name "basis" w] [] y) .Sub (.Constant (.int 1) z p4) p5) (.int ((B.length-1:Nat):Int)):=fun {F} A {lo hi p1 w y p4 p5 z}=>
    PE.of (PE.sub (PE.call (A.kind _ rfl) A.bi.ln (.builtin _) (.one (PE.nameO (xs:=(zs B).map PV.int) (AD 5 rfl))) (Bk.lenL (by rw[AH,Ct];exact SJ hl))) PE.cint) (congrArg PV.int (by rw[AH,Ct];have:=j.1;exact(Fq (HC this)).symm))
   have At:∀{F:Fx}{lo hi:Internal.Slot}{p1 w y:JE}{z:Nat},PE Z (k+4) F (Gi T W b od ot (.own ((zs B).map PV.int)) (.val (.int (o:Int))) (.val (.int (r:Int))) (.val (.int (i:Int))) (.val (.int (r.log2:Int))) lo hi) [] false (.BinOp (.Constant (.int 2) z p1) .Pow (.Name "lead" w) y) (.int ((2^r.log2:Nat):Int)):=fun {F lo hi p1 w y z}=>
    PE.of (PE.pow PE.cint (PE.name (p:=.int (r.log2:Int)) (AD 9 rfl)) (M6 v) (al v) dc) (congrArg PV.int bl)
   have R:∀(F:Fx),Td F Z.C→∀{fl:Fl}{ρ':Ci},PS Z (k+4) F (Gi T W b od ot (.own ((zs B).map PV.int)) (.val (.int (o:Int))) (.val (.int (r:Int))) (.val (.int (i:Int))) (.val (.int (r.log2:Int))) (.val (.int (I0 B r.log2:Int))) (.val (.int (UE B r.log2:Int)))) [] ((BW Pf).drop 4) fl ρ'→PS Z (k+4) F (Gi T W b od ot (.own ((zs B).map PV.int)) (.val (.int (o:Int))) (.val (.int (r:Int))) (.val (.int (i:Int))) le lo hi) [] (BW Pf) fl ρ':=fun F A fl ρ' e=>by
    refine PS.cons (I F A (le:=le)) ?_;refine Hd A.bi.br fun b3 fr Is b4 ck=>?_;refine Hd A.bi.bl fun fs gd Lt cn co=>?_
    conv=>arg 6;whnf
    refine PS.cons (P1.ifF (PB.of (PB.cmp (PE.name (p:=.int (r.log2:Int)) (AD 9 rfl)) PE.cint C5.ltI) (decide_eq_false (Cp.mpr (AZ _)))) PS.nil) ?_;refine PS.cons (ρ₁:=Gi T W b od ot (.own ((zs B).map PV.int)) (.val (.int (o:Int))) (.val (.int (r:Int))) (.val (.int (i:Int))) (.val (.int (r.log2:Int))) (.val (.int (I0 B r.log2:Int))) hi) (P1.assign (PE.of (PE.up (PE.call (A.kind _ rfl) co Lt.fn (.four (PE.nameO (xs:=(zs B).map PV.int) (AD 5 rfl)) At PE.cint (O A)) (kU (k:=k+3) Lt cn dc (by rw[Ct];exact ew hr hl N) (by rw[Ct];exact SJ hl)))) (congrArg PV.int E.symm)) (Ah 10 rfl)) ?_;refine PS.cons (ρ₁:=Gi T W b od ot (.own ((zs B).map PV.int)) (.val (.int (o:Int))) (.val (.int (r:Int))) (.val (.int (i:Int))) (.val (.int (r.log2:Int))) (.val (.int (I0 B r.log2:Int))) (.val (.int (UE B r.log2:Int)))) (P1.assign (PE.of (PE.up (PE.call (A.kind _ rfl) ck Is.fn (.four (PE.nameO (xs:=(zs B).map PV.int) (AD 5 rfl)) (PE.of (PE.sub (PE.mul At PE.cint (Ul (Oo dc dc))) PE.cint) (congrArg PV.int (by exact(Fq (AA b2 (Nat.le_mul_of_pos_right _ dc))).symm:((2^r.log2:Nat):Int)*2-1=((2^r.log2*2-1:Nat):Int)))) (PE.name (p:=.int (I0 B r.log2:Int)) (AD 10 rfl)) (O A)) (kR (k:=k+3) Is b4 (by exact Z5 E G) (by rw[Ct];exact ew hr hl N) (by rw[Ct];exact SJ hl)))) (congrArg PV.int J.symm)) (Ah 11 rfl)) ?_;exact e
   by_cases f:I0 B r.log2=UE B r.log2
   ·refine X5 (.val (.int (r:Int))) (.val (.int (i:Int))) (.val (.int (r.log2:Int))) (.val (.int (I0 B r.log2:Int))) (.val (.int (UE B r.log2:Int))) fun F A=>?_;rw[E6.c2,if_neg N,if_pos f,C3];refine .brk (ρ₁:=Gi T W b od ot (.own ((zs B).map PV.int)) (.val (.int (o:Int))) (.val (.int (r:Int))) (.val (.int (i:Int))) le lo hi) (.name (Ah 8 rfl)) fun wr=>?_;have D:=A.loop (wr:=wr);generalize F.loop wr=c1 at D;refine R c1 D ?_;refine Hd D.bi.ir fun ra rf rT rD rG=>?_;refine Hd D.bi.il fun go kw df gs hs=>?_;refine Hd D.bi.br fun b3 fr Is b4 ck=>?_;refine Hd D.bi.bl fun fs gd Lt cn co=>?_
    conv=>arg 6;whnf
    rw[←f];have c2:Jt Z (k+4) (.ref go) (zs B) [.int (r:Int),.int (I0 B r.log2:Int),.int (I0 B r.log2:Int)] [] [] (zs (M0 B (I0 B r.log2) r)):=by
     have:=k0 (k:=k+2) (xs:=zs B) (x:=(r:Int)) (lo:=(I0 B r.log2:Int)) (hi:=(I0 B r.log2:Int)) df gs Lt cn co (AZ _) (Vy) (by rw[Ct];exact A3.mpr (AA H (EF _ 1))) (by rw[Ct];exact SJ hl)
     rwa [(UU _ _ _).1,Ag,Ss]at this
    have c3:Jt Z (k+4) (.ref ra) (zs B) [.int (r:Int),.int (I0 B r.log2:Int),.int (I0 B r.log2:Int)] [] [] (zs (M0 B (I0 B r.log2) r)):=by
     have:=ky (k:=k+2) (xs:=zs B) (x:=(r:Int)) (lo:=(I0 B r.log2:Int)) (hi:=(I0 B r.log2:Int)) rT rD Is b4 ck (AZ _) (Vy) (by rw[Ct];exact A3.mpr (AA H (EF _ 1))) (by rw[Ct];exact SJ hl)
     rwa [(UU _ _ _).2,Ag,Ss]at this
    refine PS.stop (P1.ifT (PB.of (PB.cmp (PE.name (p:=.int (I0 B r.log2:Int)) (AD 10 rfl)) (PE.name (p:=.int (I0 B r.log2:Int)) (AD 11 rfl)) C5.eqI) (by simp)) (PS.cons (P1.ins (Li.ife (PB.plain (PE.mod (PE.name (p:=.int (o:Int)) (AD 6 rfl)) PE.cint dc) I3.int) (fun u0=>?_) fun u0=>?_) D.inter) (PS.stop P1.brk)))
    ·exact Li.call (AD 5 rfl) (D.kind _ rfl) rG rT.fn (.three (PE.name (AD 7 rfl)) (PE.name (AD 10 rfl)) (PE.name (AD 11 rfl))) c3 (Ah 5 rfl)
    ·exact Li.call (AD 5 rfl) (D.kind _ rfl) hs df.fn (.three (PE.name (AD 7 rfl)) (PE.name (AD 10 rfl)) (PE.name (AD 11 rfl))) c2 (Ah 5 rfl)
   ·have Gt:=j.2 _ G;refine e8 (en (i+1) (r^^^B.getD (I0 B r.log2) 0) B (.val (.int (i:Int))) (.val (.int (r.log2:Int))) (.val (.int (I0 B r.log2:Int))) (.val (.int (UE B r.log2:Int))) (Gy (n:=5) hr Gt) j hl) fun S U V c d If=>?_;refine X5 S U V c d fun F A=>?_;rw[E6.c2,if_neg N,if_neg f,C3];refine .next (ρ₁:=Gi T W b od ot (.own ((zs B).map PV.int)) (.val (.int (o:Int))) (.val (.int (r:Int))) (.val (.int (i:Int))) le lo hi) (.name (Ah 8 rfl)) (fun wr=>?_) (If F A);have D:=A.loop (wr:=wr);generalize F.loop wr=c1 at D;refine R c1 D ?_
    conv=>arg 6;whnf
    refine PS.cons (P1.ifF (PB.of (PB.cmp (PE.name (p:=.int (I0 B r.log2:Int)) (AD 10 rfl)) (PE.name (p:=.int (UE B r.log2:Int)) (AD 11 rfl)) C5.eqI) (by rw[beq_eq_false_iff_ne];exact fun h=>f (Ce.mp h))) PS.nil) (PS.one ?_);refine ER (Ht (xs:=zs B) (m:=(I0 B r.log2:Int)) (Z5 E G) (by rw[Ct];exact BR.mpr (fY hr E G H J L N f))) fun hx em=>?_;have il:(zs B).getD ((I0 B r.log2:Int)).toNat 0=((B.getD (I0 B r.log2) 0:Nat):Int):=by
     unfold zs;rw[Ag,AE,BD,AL (fY hr E G H J L N f),AE,AL (fY hr E G H J L N f)];rfl
    rw[il]at em;refine P1.augXor (a:=(r:Int)) (b:=((B.getD (I0 B r.log2) 0:Nat):Int)) (AD 7 rfl) (PE.itemL (PE.nameO (xs:=(zs B).map PV.int) (AD 5 rfl)) (PE.name (p:=.int (I0 B r.log2:Int)) (AD 10 rfl)) hx em (by rw[AH,Ct];exact SJ hl)) ?_;rw[IA];unfold Gi;exact Ah 7 rfl
theorem YQ(j:Td F Z.C){T:List Nat}{W:List Ax}{b:Nat}{od ot:Internal.Slot}(l:Oi W b)(S:T.length=5)(L:∀x∈T,x<32):∀(os B:List Nat)(on rw tu le lo hi:Internal.Slot),(∀o∈os,o<5)→da B→B.length+os.length≤90→
  ∃U E G H I J,Loop Z (k+4) F [] (DP QX) (BW QX) (EG QX) (Bj os) (Gi T W b od ot (.own ((zs B).map PV.int)) on rw tu le lo hi) .next
   (Gi T W b od ot (.own ((zs (Il T os B)).map PV.int)) U E G H I J):=by
 intro V
 induction V with
 |nil=>
  intro B on rw tu le lo hi _ _ _;exact X6 on rw tu le lo hi (.done fun wr=>PS.nil)
 |cons o os q=>
  intro B on rw tu le lo hi c d hl;have A:=c o AB;rw[AP]at hl;have hr:T.getD o 0<32:=by
   rw[AE,AL (TV S A)];exact L _ (BY _)
  refine ER (aE (r:=0) 6 (T.getD o 0) hr d) fun t u=>?_;refine e8 (YP (Z:=Z) (k:=k) (T:=T) (o:=o) (od:=od) (ot:=ot) l 6 0 (T.getD o 0) B tu le lo hi hr d (AA (AM _ _) (AA hl dc))) fun E G H I J a=>?_;refine l8 (q (E6 6 (T.getD o 0) B) (.val (.int (o:Int))) E G H I J (fun x hx=>c x (AG _ hx)) t (AA (Bf u _) (by rw[Bb];exact hl))) fun M N O P Q R h=>?_;refine X6 M N O P Q R (.next (ρ₁:=Gi T W b od ot (.own ((zs B).map PV.int)) (.val (.int (o:Int))) rw tu le lo hi) (.name (Ah 6 rfl)) (fun wr=>?_) h);have D:=j.loop (wr:=wr);generalize F.loop wr=v at D
  conv=>arg 6;whnf
  refine ER (Ht (xs:=rowsOf T) (m:=(o:Int)) (M6 A) (by rw[LX S];exact jD A)) fun e f=>?_;rw[Ag,PE.iffRow S A]at f;rw[Ag]at e;refine PS.cons (ρ₁:=Gi T W b od ot (.own ((zs B).map PV.int)) (.val (.int (o:Int))) (.val (.int (T.getD o 0:Nat))) tu le lo hi) (P1.assign (PE.itemL (PE.name (p:=.list ((rowsOf T).map PV.int)) (AD 0 rfl)) (PE.name (p:=.int (o:Int)) (AD 6 rfl)) e f (by rw[AH,LX S];exact eN)) (Ah 7 rfl)) (PS.one (P1.for (nm:=true) ?_ rfl (a v D)));rw[←E1,←Eo];exact PI.range1 (D.kind _ rfl) D.bi.rg (n:=6) (PE.cint (i:=((6:Nat):Int))) dc
noncomputable def My(T:List Nat):List Nat:=((Fk T 5).filter fun v=>decide (v<5)).map B0
theorem Zi(T:List Nat):Bj (My T)=((Fk T 5).map PV.int).filter (fun p=>decide (Ha p<5)):=by
 have h:=(Kn T 5 (Vx)).2;unfold My Bj;rw[BB];generalize Fk T 5=l at*
 induction l with
 |nil=>rfl
 |cons v l A=>
  have B:=h v AB;have A:=A fun x hx=>h x (AG _ hx);rw[Ae];by_cases h5:v<5
  ·rw[BN (by simpa using h5),BN (by show decide (v.toNat<5)=true;rw[decide_eq_true_iff];exact Z9 B h5),Ae,A];congr 1;show PV.int ((v.toNat:Nat):Int)=PV.int v;rw[GZ B.1]
  ·rw[Bo (by simpa using h5),Bo (by show¬decide (v.toNat<5)=true;rw[decide_eq_true_iff];exact lw B h5),A]
theorem XP{T:List Nat}{o:Nat}(h:o∈My T):o<5:=by
 unfold My at h;refine Bz (AU.mp h) fun v D A=>?_;subst A;have B:=CD.mp D;have E:=(Kn T 5 (Vx)).2 v B.1;have G:=of_decide_eq_true B.2;exact Z9 E G
theorem XQ(T:List Nat):(My T).length≤7:=by
 unfold My;rw[AH];have A:=CR (fun v:Int=>decide (v<5)) (Fk T 5);have B:=(Kn T 5 (Vx)).1;exact g' A B
noncomputable def FZ(T:List Nat):List Nat:=Il T (My T) [32,0]
set_option maxHeartbeats 1000000 in
theorem aN{a:Ch}{fd:Dc}{T:List Nat}{W:List Ax}{b:Nat}(S:J2 Z.C 21 a fd)(H:fd.code= .ref 117)(I:fd.qualname="_law_basis") (J:dE Z.C) (L:dA Z.C) (V:Oi W b) (Q:T.length=5) (E:∀x∈T,x<32):
  Bk Z (k+5) (.ref a) [.list ((rowsOf T).map PV.int),.list (AT W),.int b] [] [] (.tup [.list ((Fk T 5).map PV.int),.list ((Gj T 5).map PV.int),.list ((zs (FZ T)).map PV.int)]):=by
 refine Bk.fnS S ["rows","words","base"] ["order","other","basis","one","row","turn","lead","low","high"] rfl rfl (fun vs M=>?_) rfl dc fun F N A B=>?_
 ·refine WQ (kQ M) fun t u w D=>?_;subst D;exact S.bind fun c=>rfl
 ·have G:Td F Z.C:=⟨N,by rw[A,H],by rw[B,I];rfl,J,L⟩;show Dq Z (k+4) F (Gi T W b .unb .unb .unb .unb .unb .unb .unb .unb .unb) [] _ _;refine B8 (YR (k:=k) G (W:=W) (b:=b) Q (ba:=.own ((zs [32,0]).map PV.int)) (rw:=.unb) (tu:=.unb) (le:=.unb) (lo:=.unb) (hi:=.unb) 5 0 .unb rfl) fun O R=>?_;have hl:=XQ T;obtain⟨d,e,f,h,j,l,m⟩:=YQ (k:=k) G V (od:=.own ((Fk T 5).map PV.int)) (ot:=.own ((Gj T 5).map PV.int)) Q E (My T) [32,0] O .unb .unb .unb .unb .unb (fun o q=>XP q) ⟨dc,fun i hi=>by
   match i,hi with
   |1,_=>decide
   |i+2,_=>show(([]:List Nat)[i]?).getD 0<32;exact dc⟩ (by show 2+_≤_;exact AA (AV hl 2) dc)
  rw[←E1,←Eo]at R
  conv=>arg 6;whnf
  refine Dq.cons (ρ₁:=Gi T W b (.own ((Fk T 0).map PV.int)) (.own ((Gj T 0).map PV.int)) (.own ((zs [32,0]).map PV.int)) .unb .unb .unb .unb .unb .unb) (P1.assignR (xs:=["order","other","basis"]) (iks:=[.own [.int 5,.int 6],.own [.int 5,.int 6],.own [.int 32,.int 0]]) (.own (PO.list (.two PE.cint PE.cint)) (.own (PO.list (.two PE.cint PE.cint)) (.own (PO.list (.two PE.cint PE.cint)) .nil))) rfl (IV.own (ρ₁:=Gi T W b .unb .unb (.own [.int 32,.int 0]) .unb .unb .unb .unb .unb .unb) (Ah 5 rfl) (.own (ρ₁:=Gi T W b .unb (.own [.int 5,.int 6]) (.own [.int 32,.int 0]) .unb .unb .unb .unb .unb .unb) (Ah 4 rfl) (.own (by show Upd (Gi T W b .unb (.own [.int 5,.int 6]) (.own [.int 32,.int 0]) .unb .unb .unb .unb .unb .unb) _ _ (Gi T W b (.own [.int 5,.int 6]) (.own [.int 5,.int 6]) (.own [.int 32,.int 0]) .unb .unb .unb .unb .unb .unb);exact Ah 3 rfl) .nil))) rfl (EZ G.sc fun U=>rfl) dc) ?_;refine Dq.cons (P1.for (PI.range1 (G.kind _ rfl) G.bi.rg (n:=5) (PE.cint (i:=((5:Nat):Int))) dc) rfl R) ?_;refine Dq.cons (P1.for (nm:=true) (PI.list (PC.list (PE.comp (ys:=Bj (My T)) ⟨X7 ((Fk T 5).map PV.int) (fun p=>decide (Ha p<5)) (fun p=>p) [("k",.unb)] [] false true ⟨PI.list (PC.own (AD 3 rfl)),rfl,?_,?_,?_,?_⟩,fun U=>rfl⟩))) rfl m) ?_
  ·exact CS.of ["k"] [] rfl rfl .nil rfl dc rfl rfl rfl
  ·intro p hp;refine Bz (AU.mp hp) fun v M D=>?_;subst D;have P:=(Kn T 5 (Vx)).2 v M;refine⟨[("k",.val (.int v))],.name (Ah 0 rfl),fun y r=>⟨?_,fun U=>PE.name (AD 0 rfl)⟩⟩;refine PB.of (PB.cmp (PE.name (p:=.int v) (AD 0 rfl)) PE.cint C5.ltI) ?_;show decide (v<5)=decide (v.toNat<5);rw[decide_eq_decide];exact lu P
  ·rw[AH,(Kn T 5 (Vx)).1];decide
  ·rw[Zi,Ki]
  ·exact Dq.stop (P1.ret (PE.tuple (.three (PE.nameO (AD 3 rfl)) (PE.nameO (AD 4 rfl)) (PE.nameO (xs:=(zs (FZ T)).map PV.int) (AD 5 rfl)))))
end
noncomputable abbrev En:=Nat×Bool
noncomputable def uS(e:En):Ax:=(if e.2 then Lr else Ai)++CN e.1
noncomputable def FT(E:List En):List PV:=AT (E.map uS)
noncomputable def CF(E:List En)(p:Nat):En:=E.getD p (5,false)
noncomputable def Fj(E:List En)(p:Nat):List Nat:=(AW E.length).filter fun k=>k !=p && (CF E k).1==(CF E p).1
noncomputable def A6(E:List En)(p:Nat):Nat:=(Fj E p).getD 0 0
noncomputable def Dl(E:List En)(p:Nat):Nat:=if(CF E p).2==(CF E (A6 E p)).2 then 0 else 1
noncomputable def Gn(E:List En)(p:Nat):List Nat:=[2*A6 E p+1-Dl E p,2*A6 E p+Dl E p]
noncomputable def Ec(E:List En):List Nat:=((AW E.length).map (Gn E)).flatten
structure Q5(E:List En):Prop where
 len:E.length≤10
 l5:∀e∈E,e.1<5
 two:∀p<E.length,Fj E p≠ []
theorem JQ(h:p<E.length):CF E p∈E:=by
 unfold CF;rw[AE,AL h];exact BY h
theorem VG(h:Fj E p≠ []):A6 E p∈Fj E p:=by
 unfold A6;have hl:=EW.mpr h;rw[AE,AL hl];exact BY hl
theorem ME(h:Fj E p≠ []):A6 E p<E.length∧A6 E p≠p∧(CF E (A6 E p)).1=(CF E p).1:=by
 have:=VG h;unfold Fj at this;refine ER (CD.mp this) fun B A=>?_;rw[A7,bne_iff_ne,beq_iff_eq]at A;exact⟨An.mp B,A⟩
theorem N_(h:e.1<5):(uS e).length=if e.2 then 2 else 1:=by
 obtain⟨c,t⟩:=e;unfold uS;rw[A2,show CN c=⟨#[97+c]⟩ from if_pos h];cases t<;>rfl
theorem Tr(h:e.1<5):Db (-1) (uS e).length=some ((uS e).length-1)∧(uS e).cps[(uS e).length-1]?=some (97+e.1):=by
 have A:e.1=0∨e.1=1∨e.1=2∨e.1=3∨e.1=4:=Ma h;obtain⟨c,t⟩:=e;rcases A with h|h|h|h|h<;>simp only at h<;>subst h<;>cases t<;>exact⟨rfl,rfl⟩
theorem Hx(E:List En)(p:Nat):Dl E p<2:=by unfold Dl;split<;>omega
theorem VL(E:List En):∀l:List Nat,((l.map (Gn E)).flatten).length=2*l.length:=by
 intro A
 induction A with
 |nil=>
  exact rfl
 |cons a l B=>
  rw[Ae,Bd,AQ,B,AP];simp[Gn];exact cX
theorem GP(E:List En):(Ec E).length=2*E.length:=by unfold Ec;rw[VL,Bm]
theorem VM(H:Q5 E):∀x∈Ec E,x<2*E.length:=fun x hx=>by
 unfold Ec at hx;refine Bz (Ef.mp hx) fun l hl hx=>?_;refine Bz (AU.mp hl) fun p hp A=>?_;subst A;have B:=(ME (H.two p (An.mp hp))).1;have D:=Hx E p;unfold Gn at hx;simp only[AN,BH,or_false]at hx;exact it B D hx
theorem Jo(h:i<E.length):(FT E)[i]?=some (.str (uS (CF E i))):=by
 unfold FT;rw[H3 (by rw[AH];exact h),AE,BD,AL h];unfold CF;rw[AE,AL h];rfl
theorem G4(E:List En):(FT E).length=E.length:=by unfold FT;rw[CV,AH]
section
variable{Z:Zx}{k:Nat}{F:Fx}
noncomputable def LP(E:List En)(A se ri pl un ot tu B rg D tn:Internal.Slot):Ci:=[("ends",.val (.list (FT E))),("mate",A),("seen",se),("rings",ri),("place",pl),("unit",un),("other",ot),("turned",tu),("first",B),("ring",rg),("side",D),("turn",tn)]
noncomputable def Qh:D7:=FQ 1 (Ba (Au 22))
noncomputable def Qg:D7:=FQ 2 (Ba (Au 22))
structure V3(F:Fx)(C:Cx):Prop where
 sc:F.env.scope=Bu (Au 22)
 en:Gl C "enumerate" (.type "enumerate")
 ln:Gl C "len" (.builtin "len")
 rg:Gl C "range" (.type "range")
theorem V3.loop(h:V3 F C):V3 (F.loop wr) C:=⟨h.sc,h.en,h.ln,h.rg⟩
theorem V3.kind(h:V3 F C)(x:Ax)(hx:(Bu (Au 22)).names.lookup x=some kd):F.env.kindOf x=some kd:=by show F.env.scope.names.lookup _=_;rw[h.sc];exact hx
theorem V3.inter(h:V3 F C):B5 F.env=false:=by unfold B5;rw[h.sc];rfl
theorem PE.lastU{ρ κ:Ci}{st:Bool}{e:Aj}(h:PE Z k F ρ κ false e (.str (uS u)))(A:u.1<5):PE Z k F ρ κ st (.Subscript e (.UnaryOp .USub (.Constant (.int 1) n p1) B) D) (.str (CN u.1)):=
 PE.of (PE.itemS h (PE.neg PE.cint) (Tr A).1 (Tr A).2 (by rw[N_ A];split<;>decide)) (congrArg PV.str (if_pos A).symm)
theorem YC:∀{p:PV},p∈Internal.numbered (FT E)→∃i,i<E.length∧p= .tup [.int (i:Int),.str (uS (CF E i))]:=fun {p} hp=>by
 unfold Internal.numbered at hp;obtain⟨i,hi,e⟩:=bj.mp hp;have A:i<E.length:=by rwa [G4]at hi
 refine⟨i,A,?_⟩;rw[←e];have:=Jo A;rw[AL hi]at this;rw[CT this]
noncomputable def eH:PV→PV
 |.tup [i,_]=>i
 |p=>p
theorem H6(E:List En):Internal.numbered (FT E)=(AW E.length).map fun i:Nat=>PV.tup [.int (i:Int),.str (uS (CF E i))]:=by
 apply List.ext_getElem?;intro i;unfold Internal.numbered;rw[Lm,BD];by_cases h:i<E.length
 ·rw[Jo h,Mh h];rfl
 ·rw[K_ (by rw[G4];exact Yk h),K_ (by rw[Bm];exact Yk h)];rfl
set_option maxHeartbeats 1000000 in
theorem ZZ(B:V3 F Z.C)(H:Q5 E)(hp:p<E.length)(S:M.length≤1000):
  PS Z k F (LP E (.own (Bj M)) se ri (.val (.int (p:Int))) (.val (.str (uS (CF E p)))) ot tu .unb .unb .unb .unb) [] (BW Qh) .next
   (LP E (.own (Bj (M++Gn E p))) se ri (.val (.int (p:Int))) (.val (.str (uS (CF E p)))) (.val (.int (A6 E p:Int))) (.val (.int (Dl E p:Int))) .unb .unb .unb .unb):=by
 have G:=H.two p hp;refine Nc (ME G) fun I T U=>?_;have hl:=H.len;have D:=H.l5 _ (JQ hp);have J:=H.l5 _ (JQ I);have O:=Hx E p;have P:∀i:Nat,i<E.length→Db (i:Int) (FT E).length=some i:=fun i hi=>by
  have:=C' (k:=(i:Int)) (n:=(FT E).length) (Qv) (by rw[G4];exact ai hi)
  rwa [Ag]at this
 conv=>arg 6;whnf
 refine PS.cons (ρ₁:=LP E (.own (Bj M)) se ri (.val (.int (p:Int))) (.val (.str (uS (CF E p)))) (.val (.int (A6 E p:Int))) tu .unb .unb .unb .unb) (P1.assign (PE.itemL (xs:=Bj (Fj E p)) (i:=0) (j:=0) (p:=.int (A6 E p:Int)) (PE.comp ⟨X7 (Internal.numbered (FT E)) (fun q=>match q with
   |.tup [.int i,_]=>i.toNat !=p && (CF E i.toNat).1==(CF E p).1
   |_=>false) eH [("k",.unb),("one",.unb)] [("place",.val (.int (p:Int))),("unit",.val (.str (uS (CF E p))))] false false ⟨?_,rfl,?_,?_,?_,?_⟩,fun Q=>rfl⟩) PE.cint ?_ ?_ ?_) (Ah 6 rfl)) ?_
 ·exact PI.enumL (B.kind _ rfl) B.en (PC.list (PE.name (p:=.list (FT E)) (AD 0 rfl)))
 ·exact CS.of ["k","one"] ["place","unit"] rfl rfl (.cons rfl (AD 4 rfl) (by rw[B.kind _ rfl];decide) (.cons rfl (AD 5 rfl) (by rw[B.kind _ rfl];decide) .nil)) rfl dc rfl rfl rfl
 ·intro q V;refine Bz (YC V) fun i hi R=>?_;subst R;have L:=H.l5 _ (JQ hi);refine⟨[("k",.val (.int (i:Int))),("one",.val (.str (uS (CF E i))))],.tup (.tup _) (.cons (Ah 0 rfl) (.cons (Ah 1 rfl) .nil)),fun a W=>⟨?_,fun Q=>PE.name (p:=.int (i:Int)) (AD 0 rfl)⟩⟩;refine PB.of (PB.and (PB.cmp (PE.name (p:=.int (i:Int)) (AD 0 rfl)) (PE.name (p:=.int (p:Int)) (AD 2 rfl)) C5.neI) fun Q=>PB.and (PB.cmp (PE.lastU (PE.name (p:=.str (uS (CF E i))) (AD 1 rfl)) L) (PE.lastU (PE.name (p:=.str (uS (CF E p))) (AD 3 rfl)) D) C5.eqS) fun Q=>PB.andN) ?_;show _=((i:Int).toNat !=p && (CF E (i:Int).toNat).1==(CF E p).1);rw[Ag,DY,QU (Qy L) (Aa D)];congr 1;rw[CK,bne_iff_ne,bne_iff_ne];exact not_congr Ce
 ·rw[H6,AH,Bm];exact ce hl
 ·rw[H6,C1,BB];unfold Fj Bj;congr 1
 ·exact C' (k:=0) (Yi) (by rw[A'];have:=EW.mpr G;exact A3.mpr this)
 ·exact Ji (EW.mpr G)
 ·rw[A'];have:(Fj E p).length≤E.length:=by
   have:=CR (fun k=>k !=p && (CF E k).1==(CF E p).1) (AW E.length)
   rwa [Bm]at this
  exact AA this (AA hl dc)
 have A:(0:Int)≤2*(A6 E p:Int)+1-(Dl E p:Int):=jR O;refine PS.cons (ρ₁:=LP E (.own (Bj M)) se ri (.val (.int (p:Int))) (.val (.str (uS (CF E p)))) (.val (.int (A6 E p:Int))) (.val (.int (Dl E p:Int))) .unb .unb .unb .unb) (P1.assign (PE.of (PE.mod (PE.add (PE.call (B.kind _ rfl) B.ln (.builtin _) (.one (PE.name (p:=.str (uS (CF E p))) (AD 5 rfl))) (Bk.lenS (by rw[N_ D];split<;>decide))) (PE.call (B.kind _ rfl) B.ln (.builtin _) (.one (PE.itemL (PE.name (p:=.list (FT E)) (AD 0 rfl)) (PE.name (p:=.int (A6 E p:Int)) (AD 6 rfl)) (P _ I) (Jo I) (by rw[G4];exact ce hl))) (Bk.lenS (by rw[N_ J];split<;>decide)))) PE.cint dc) (congrArg PV.int ?_)) (Ah 7 rfl)) ?_
 ·rw[N_ D,N_ J];unfold Dl;cases (CF E p).2<;>cases (CF E (A6 E p)).2<;>rfl
 have N:Fb Z k "extend" (Bj M) [.list (Bj (Gn E p))] (Bj (M++Gn E p)):=by
  have:=Fb.extend (Z:=Z) (k:=k) (xs:=Bj M) (ys:=Bj (Gn E p)) (by rw[A',A'];simp[Gn];exact ab S);unfold Bj at*
  rwa [Ac]
 refine PS.one (P1.mut (AD 1 rfl) (.one (PE.of (PE.list (.two (PE.sub (PE.add (PE.mul PE.cint (PE.name (p:=.int (A6 E p:Int)) (AD 6 rfl)) (WE (Oo dc dc))) PE.cint) (PE.name (p:=.int (Dl E p:Int)) (AD 7 rfl))) (PE.add (PE.mul PE.cint (PE.name (p:=.int (A6 E p:Int)) (AD 6 rfl)) (WE (Oo dc dc))) (PE.name (p:=.int (Dl E p:Int)) (AD 7 rfl))))) (congrArg PV.list ?_))) N (Ah 1 rfl) B.inter);unfold Bj Gn;congr 2
 ·exact(Fq (A3.mp (Int.sub_nonneg.mp A))).symm
theorem XC(L:V3 F Z.C)(H:Q5 E):∀(n p:Nat)(M:List Nat)(pl un ot tu:Internal.Slot),p+n=E.length→M.length≤2*p→
  ∃A B D G,Loop Z k F [] (DP Qh) (BW Qh) (EG Qh) ((Aw p n).map fun i:Nat=>PV.tup [.int (i:Int),.str (uS (CF E i))]) (LP E (.own (Bj M)) se ri pl un ot tu .unb .unb .unb .unb) .next
   (LP E (.own (Bj (M++((Aw p n).map (Gn E)).flatten))) se ri A B D G .unb .unb .unb .unb):=by
 intro I
 induction I with
 |zero=>
  intro p M pl un ot tu _ _;exact X4 pl un ot tu (by simp only[Ot,DZ,Eg,Ao];exact .done fun wr=>PS.nil)
 |succ n N=>
  intro p M pl un ot tu hp J;have hl:=H.len;refine dY (N (p+1) (M++Gn E p) (.val (.int (p:Int))) (.val (.str (uS (CF E p)))) (.val (.int (A6 E p:Int))) (.val (.int (Dl E p:Int))) (kB hp) (by simp[Gn];exact Bf J _)) fun A B D G h=>?_;refine X4 A B D G ?_;rw[C3,Ae];refine .next (ρ₁:=LP E (.own (Bj M)) se ri (.val (.int (p:Int))) (.val (.str (uS (CF E p)))) ot tu .unb .unb .unb .unb) (.tup (.tup _) (.cons (Ah 4 rfl) (.cons (Ah 5 rfl) .nil))) (fun wr=>ZZ L.loop H (hp▸BZ (Bx _)) (kC hp J hl)) ?_;rw[(by simp:M++(WJ (Gn E) (p::Aw (p+1) n)).flatten=M++Gn E p++((Aw (p+1) n).map (Gn E)).flatten)];exact h
end
noncomputable def Gk(M:List Nat)(s:Nat):Nat:=if M.getD s 0 % 2=1 then(M.getD s 0+1) % M.length else(M.getD s 0+M.length-1) % M.length
noncomputable def HJ(E:List En)(M:List Nat)(first:Nat):Nat→List Nat→Nat→Nat→List Nat×Nat
 |0,sn,rg,_=>(sn,rg)
 |n+1,sn,rg,A=>if Gk M A=first then(sn++ [A,M.getD A 0],rg^^^2^(CF E (A/2)).1) else HJ E M first n (sn++ [A,M.getD A 0]) (rg^^^2^(CF E (A/2)).1) (Gk M A)
theorem HJ.c1(E:List En)(M:List Nat)(first:Nat):HJ E M first 0 sn rg A=(sn,rg):=rfl
theorem HJ.c2(E:List En)(M:List Nat)(first:Nat):HJ E M first (n+1) sn rg A=if Gk M A=first then(sn++ [A,M.getD A 0],rg^^^2^(CF E (A/2)).1) else HJ E M first n (sn++ [A,M.getD A 0]) (rg^^^2^(CF E (A/2)).1) (Gk M A):=rfl
noncomputable def JL(E:List En)(M:List Nat):List Nat→List Nat→List Nat→List Nat
 |[],_,A=>A
 |f::B,sn,A=>if sn.contains f then JL E M B sn A else JL E M B (HJ E M f M.length sn 0 f).1 (A++ [(HJ E M f M.length sn 0 f).2])
theorem JL.c2(E:List En)(M:List Nat):JL E M (f::A) sn B=if sn.contains f then JL E M A sn B else JL E M A (HJ E M f M.length sn 0 f).1 (B++ [(HJ E M f M.length sn 0 f).2]):=rfl
noncomputable def Em(E:List En):List Nat:=JL E (Ec E) (AW (Ec E).length) [] []
noncomputable def DS(E:List En):List Nat:=if Em E=[] then[0] else Em E
theorem XE(E:List En)(M:List Nat)(f:Nat):∀(n:Nat)(sn:List Nat)(rg A:Nat),(HJ E M f n sn rg A).1.length≤sn.length+2*n:=by
 intro B
 induction B with
 |zero=>
  intro sn rg A;rw[HJ.c1];exact AK _
 |succ n D=>
  intro sn rg A;rw[HJ.c2];split
  ·simp;exact CM _ _
  ·have:=D (sn++ [A,M.getD A 0]) (rg^^^2^(CF E (A/2)).1) (Gk M A);simp at this⊢;exact hc this
theorem Rm:∀(l:List Nat),Bi (PV.ds (Bj l))=true:=by
 intro A
 induction A with
 |nil=>
  rw[show PV.ds (Bj [])=[] from rfl,Bi]
 |cons c l B=>
  rw[show PV.ds (Bj (c::l))= .int (c:Int)::PV.ds (Bj l) from rfl,Bi,B,Dg];rfl
theorem Yb:∀(l:List Nat)(c:Nat),((PV.ds (Bj l)).any fun y=>DB y (PV.int (c:Int)).d)=l.contains c:=by
 intro A
 induction A with
 |nil=>
  intro _;exact rfl
 |cons x l B=>
  intro c;show(((x:Int)==(c:Int)) || (PV.ds (Bj l)).any fun y=>DB y (PV.int (c:Int)).d)=_;rw[B c,Y6];congr 1;rw[CK,beq_iff_eq,beq_iff_eq];exact Ce.trans eq_comm
theorem NG(H:Q5 E)(hs:s<2*E.length):(Ec E).getD s 0<2*E.length:=by
 have:=GP E;rw[AE,AL (this▸hs)];exact VM H _ (BY _)
theorem XS(h:0<M.length):Gk M s<M.length:=by
 unfold Gk;split<;>exact CO _ h
theorem VI(h:0<M.length):H2 ((M.getD s 0:Nat)+(if M.getD s 0 % 2=1 then 1 else-1:Int)) (M.length:Nat)=((Gk M s:Nat):Int):=by
 unfold Gk;generalize M.getD s 0=m;split
 ·rw[(by exact Yj:((m:Int)+1)=((m+1:Nat):Int)),FN (by exact Yo h)]
 ·rw[←FN (by exact Yo h),F8 _ (by exact AZ _),F8 _ (by exact AZ _),(by exact jd h:(((m+M.length-1:Nat)):Int)=(m:Int)+-1+(M.length:Nat)),Int.add_emod_right]
theorem Zl(h:c<5):∃rest,C2 Ls (CN c) 0 Ls.length 1=c::rest:=by
 have A:c=0∨c=1∨c=2∨c=3∨c=4:=Ma h;rcases A with h|h|h|h|h<;>subst h<;>exact⟨[],by decide+kernel⟩
section
variable{Z:Zx}{k:Nat}{F:Fx}
theorem PB.notInN{ρ κ:Ci}{l r:Aj}{pos:JE}{c:Nat}{xs:List Nat}(hl:PE Z k F ρ κ false l (.int (c:Int)))(hr:PE Z k F ρ κ false r (.list (Bj xs)))(A:autoParam (IY .NotIn r=false) ar):PB Z k F ρ κ (.Compare l [.NotIn] [r] pos) (!xs.contains c):=
 PB.of (PB.cmp hl hr (C5.notInL (by rw[show(PV.int (c:Int)).d= .int (c:Int) from rfl,Dg]) (Rm xs) (by rw[show(PV.int (c:Int)).d= .int (c:Int) from rfl,EB];decide)) A) (by rw[Yb])
noncomputable def OV:D7:=FQ 1 (Xt (FQ 0 (BW Qg)))
noncomputable def KA(E:List En)(M:List Nat)(se ri pl un ot tu A rg B tn:Internal.Slot):Ci:=LP E (.val (.list (Bj M))) se ri pl un ot tu A rg B tn
set_option maxHeartbeats 2000000 in
theorem XA{E:List En}(H:Q5 E){M:List Nat}(Q:M=Ec E){first:Nat}{ri pl un ot tu:Internal.Slot}:∀(xs:List Nat)(sn:List Nat)(rg A:Nat)(tn:Internal.Slot),A<2*E.length→sn.length+2*xs.length≤2000→
  ∃L N,∀(F:Fx),V3 F Z.C→Loop Z k F [] (DP OV) (BW OV) (EG OV) (Bj xs) (KA E M (.own (Bj sn)) ri pl un ot tu (.val (.int (first:Int))) (.val (.int (rg:Int))) (.val (.int (A:Int))) tn) .next
   (KA E M (.own (Bj (HJ E M first xs.length sn rg A).1)) ri pl un ot tu (.val (.int (first:Int))) (.val (.int ((HJ E M first xs.length sn rg A).2:Nat))) L N):=by
 intro U
 induction U with
 |nil=>
  intro sn rg A tn hs hl;exact X2 (.val (.int (A:Int))) tn fun F I=>.done fun wr=>PS.nil
 |cons x xs f=>
  intro sn rg A tn hs hl;have V:=H.len;have B:M.length=2*E.length:=by rw[Q,GP]
  have O:M.getD A 0<2*E.length:=by rw[Q];exact NG H hs
  rw[AP]at hl;have J:(CF E (A/2)).1<5:=H.l5 _ (JQ (O_ hs));have W:Gk M A<2*E.length:=by have:=XS (M:=M) (s:=A) (B▸AY (BI _) O);exact B▸this
  have G:∀(F:Fx),V3 F Z.C→∀{fl:Fl}{ρ':Ci},PS Z k F (KA E M (.own (Bj (sn++ [A,M.getD A 0]))) ri pl un ot tu (.val (.int (first:Int))) (.val (.int ((rg^^^2^(CF E (A/2)).1:Nat):Int))) (.val (.int (Gk M A:Int))) (.val (.int (x:Int)))) [] ((BW OV).drop 3) fl ρ'→PS Z k F (KA E M (.own (Bj sn)) ri pl un ot tu (.val (.int (first:Int))) (.val (.int (rg:Int))) (.val (.int (A:Int))) (.val (.int (x:Int)))) [] (BW OV) fl ρ':=fun F I fl ρ' P=>by
   have D:∀{se R:Internal.Slot}{st:Bool}{p1 d e:JE},PE Z k F (KA E M se ri pl un ot tu (.val (.int (first:Int))) R (.val (.int (A:Int))) (.val (.int (x:Int)))) [] st (.Subscript (.Name "mate" p1) (.Name "side" d) e) (.int (M.getD A 0:Nat)):=fun {se R st p1 d e}=>
    PE.itemL (PE.name (p:=.list (Bj M)) (AD 1 rfl)) (PE.name (p:=.int (A:Int)) (AD 10 rfl)) (j:=A) (by have:=C' (k:=(A:Int)) (n:=(Bj M).length) (Qv) (by rw[A'];exact BR.mpr (B▸hs));rwa [Ag]at this) (Ji (B▸hs)) (by rw[A'];exact ac V B)
   have S:Fb Z k "extend" (Bj sn) [.list (Bj [A,M.getD A 0])] (Bj (sn++ [A,M.getD A 0])):=by
    have:=Fb.extend (Z:=Z) (k:=k) (xs:=Bj sn) (ys:=Bj [A,M.getD A 0]) (by rw[A',A'];simp;exact AA (AM _ _) (AA hl dc));unfold Bj at*
    rwa [Ac]
   refine B8 (Zl J) fun rest T=>?_
   conv=>arg 6;whnf
   refine PS.cons (ρ₁:=KA E M (.own (Bj (sn++ [A,M.getD A 0]))) ri pl un ot tu (.val (.int (first:Int))) (.val (.int (rg:Int))) (.val (.int (A:Int))) (.val (.int (x:Int)))) (P1.mut (AD 2 rfl) (.one (PE.list (.two (PE.name (p:=.int (A:Int)) (AD 10 rfl)) D))) S (Ah 2 rfl) I.inter) ?_;refine PS.cons (ρ₁:=KA E M (.own (Bj (sn++ [A,M.getD A 0]))) ri pl un ot tu (.val (.int (first:Int))) (.val (.int ((rg^^^2^(CF E (A/2)).1:Nat):Int))) (.val (.int (A:Int))) (.val (.int (x:Int)))) (P1.augXor (a:=(rg:Int)) (b:=((2^(CF E (A/2)).1:Nat):Int)) (AD 9 rfl) (PE.of (PE.pow PE.cint (PE.methE (st:=false) (PE.cstr (x:=Ls)) (.one (PE.lastU (u:=CF E (A/2)) (PE.itemL (PE.name (p:=.list (FT E)) (AD 0 rfl)) (PE.of (PE.fdiv (PE.name (p:=.int (A:Int)) (AD 10 rfl)) PE.cint dc dc) (congrArg PV.int (HL dc:KI (A:Int) ((2:Nat):Int)=((A/2:Nat):Int)))) (j:=A/2) (by have:=C' (k:=((A/2:Nat):Int)) (n:=(FT E).length) (AZ _) (by rw[G4];exact BR.mpr (F6 hs));rwa [Ag]at this) (Jo (O_ hs)) (by rw[G4];exact ce V)) J)) (Dh.indexS T)) (M6 J) (al J) dc) (congrArg PV.int (by rw[Ag];rfl))) ?_) ?_
   ·rw[IA];unfold KA LP;exact Ah 9 rfl
   refine PS.cons (ρ₁:=KA E M (.own (Bj (sn++ [A,M.getD A 0]))) ri pl un ot tu (.val (.int (first:Int))) (.val (.int ((rg^^^2^(CF E (A/2)).1:Nat):Int))) (.val (.int (Gk M A:Int))) (.val (.int (x:Int)))) (P1.assign (PE.of (PE.mod (PE.add D (PE.ife (p:=.int (if M.getD A 0 % 2=1 then 1 else-1:Int)) (c:=decide (M.getD A 0 % 2=1)) (PB.of (PB.plain (PE.mod D PE.cint dc) I3.int) ?_) (fun h=>?_) fun h=>?_)) (PE.of (PE.call (I.kind _ rfl) I.ln (.builtin _) (.one (PE.name (p:=.list (Bj M)) (AD 1 rfl))) (Bk.lenL (by rw[A'];exact ac V B))) (congrArg PV.int (by rw[A']))) (fun h=>absurd ((Ce (n:=0)).mp h) (CU (B▸AY (BI _) O)))) (congrArg PV.int (VI (B▸AY (BI _) O)))) (Ah 10 rfl)) P
   ·rw[show H2 ((M.getD A 0:Nat):Int) 2=((M.getD A 0 % 2:Nat):Int) from FN (b:=2) dc];have i:M.getD A 0 % 2<2:=CO _ dc;generalize M.getD A 0 % 2=m at*;have:m=0∨m=1:=am i;rcases this with rfl|rfl<;>rfl
   ·rw[if_pos (of_decide_eq_true h)];exact PE.cint
   ·rw[if_neg (of_decide_eq_false h)];exact PE.neg PE.cint
  by_cases hb:Gk M A=first
  ·refine X2 (.val (.int (Gk M A:Int))) (.val (.int (x:Int))) fun F I=>?_;rw[AP,HJ.c2,if_pos hb];refine .brk (ρ₁:=KA E M (.own (Bj sn)) ri pl un ot tu (.val (.int (first:Int))) (.val (.int (rg:Int))) (.val (.int (A:Int))) (.val (.int (x:Int)))) (.name (Ah 11 rfl)) fun wr=>?_;refine G _ I.loop ?_
   conv=>arg 6;whnf
   exact PS.stop (P1.ifT (PB.of (PB.cmp (PE.name (p:=.int (Gk M A:Int)) (AD 10 rfl)) (PE.name (p:=.int (first:Int)) (AD 8 rfl)) C5.eqI) (by rw[beq_iff_eq];exact congrArg Int.ofNat hb)) (PS.stop P1.brk))
  ·refine P3 (f (sn++ [A,M.getD A 0]) (rg^^^2^(CF E (A/2)).1) (Gk M A) (.val (.int (x:Int))) W (by simp;exact lB hl)) fun L N h=>?_;refine X2 L N fun F I=>?_;rw[AP,HJ.c2,if_neg hb];refine .next (ρ₁:=KA E M (.own (Bj sn)) ri pl un ot tu (.val (.int (first:Int))) (.val (.int (rg:Int))) (.val (.int (A:Int))) (.val (.int (x:Int)))) (.name (Ah 11 rfl)) (fun wr=>?_) (h F I);refine G _ I.loop ?_
   conv=>arg 6;whnf
   exact PS.one (P1.ifF (PB.of (PB.cmp (PE.name (p:=.int (Gk M A:Int)) (AD 10 rfl)) (PE.name (p:=.int (first:Int)) (AD 8 rfl)) C5.eqI) (by rw[beq_eq_false_iff_ne];exact fun h=>hb (Ce.mp h))) PS.nil)
theorem XB(l:V3 F Z.C)(H:Q5 E)(P:M=Ec E):∀(O sn A:List Nat)(T rg N tn:Internal.Slot),(∀f∈O,f<2*E.length)→sn.length+40*O.length≤1000→A.length+O.length≤100→
  ∃B D G I J,Loop Z k F [] (DP Qg) (BW Qg) (EG Qg) (Bj O) (KA E M (.own (Bj sn)) (.own (Bj A)) pl un ot tu T rg N tn) .next
   (KA E M (.own (Bj B)) (.own (Bj (JL E M O sn A))) pl un ot tu D G I J):=by
 intro V
 induction V with
 |nil=>
  intro sn A T rg N tn _ _ _;exact X5 sn T rg N tn (.done fun wr=>PS.nil)
 |cons f O i=>
  intro sn A T rg N tn W hs hr;have j:=H.len;have Q:M.length=2*E.length:=by rw[P,GP]
  have a:=W f AB;rw[AP]at hs hr;cases U:sn.contains f
  ·have b:=XE E M f M.length sn 0 f;refine P3 (XA (Z:=Z) (k:=k) H P (first:=f) (ri:=.own (Bj A)) (pl:=pl) (un:=un) (ot:=ot) (tu:=tu) M sn 0 f tn a (k' hs j Q)) fun c d e=>?_;refine e8 (i (HJ E M f M.length sn 0 f).1 (A++ [(HJ E M f M.length sn 0 f).2]) (.val (.int (f:Int))) (.val (.int ((HJ E M f M.length sn 0 f).2:Nat))) c d (fun x hx=>W x (AG _ hx)) (lA hs j Q b) (by simp;exact j_ hr)) fun B D G I J h=>?_;refine X5 B D G I J ?_;rw[JL.c2,U,if_neg dc];refine .next (ρ₁:=KA E M (.own (Bj sn)) (.own (Bj A)) pl un ot tu (.val (.int (f:Int))) rg N tn) (.name (Ah 8 rfl)) (fun wr=>?_) h;have L:=l.loop (wr:=wr);generalize F.loop wr=m at L;have R:Fb Z k "append" (Bj A) [.int ((HJ E M f M.length sn 0 f).2:Nat)] (Bj (A++ [(HJ E M f M.length sn 0 f).2])):=by
    have:=Fb.append (Z:=Z) (k:=k) (xs:=Bj A) (p:=.int ((HJ E M f M.length sn 0 f).2:Nat)) (by rw[A'];exact AA (AM _ _) (AA hr dc));unfold Bj at*
    rwa [Ac]
   have S:=e m L;generalize HJ E M f M.length sn 0 f=q at*
   conv=>arg 6;whnf
   refine PS.one (P1.ifT (PB.of (PB.notInN (PE.name (p:=.int (f:Int)) (AD 8 rfl)) (PE.nameO (xs:=Bj sn) (AD 2 rfl))) (by rw[U];rfl)) ?_);refine PS.cons (ρ₁:=KA E M (.own (Bj sn)) (.own (Bj A)) pl un ot tu (.val (.int (f:Int))) (.val (.int ((0:Nat):Int))) (.val (.int (f:Int))) tn) (P1.assignR (xs:=["ring","side"]) (iks:=[.val (.int ((0:Nat):Int)),.val (.int (f:Int))]) (.val PE.cint (.val (PE.name (p:=.int (f:Int)) (AD 8 rfl)) .nil)) rfl (IV.val (ρ₁:=KA E M (.own (Bj sn)) (.own (Bj A)) pl un ot tu (.val (.int (f:Int))) rg (.val (.int (f:Int))) tn) (Ah 10 rfl) (.val (Ah 9 rfl) .nil)) rfl (EZ L.sc fun n=>rfl) (by show(2:Nat)≤100;decide)) ?_;refine PS.cons (P1.for (PI.list (PC.list (PE.name (p:=.list (Bj M)) (AD 1 rfl)))) rfl S) ?_;exact PS.one (P1.mut (AD 3 rfl) (.one (PE.name (p:=.int (q.2:Nat)) (AD 9 rfl))) R (Ah 3 rfl) L.inter)
  ·obtain⟨B,D,G,I,J,h⟩:=i sn A (.val (.int (f:Int))) rg N tn (fun x hx=>W x (AG _ hx)) (AA (AV (BE 40 (BU _)) _) hs) (Aa hr);refine X5 B D G I J ?_;rw[JL.c2,U,if_pos rfl];refine .next (ρ₁:=KA E M (.own (Bj sn)) (.own (Bj A)) pl un ot tu (.val (.int (f:Int))) rg N tn) (.name (Ah 8 rfl)) (fun wr=>?_) h
   conv=>arg 6;whnf
   exact PS.one (P1.ifF (PB.of (PB.notInN (PE.name (p:=.int (f:Int)) (AD 8 rfl)) (PE.nameO (xs:=Bj sn) (AD 2 rfl))) (by rw[U];rfl)) PS.nil)
set_option maxHeartbeats 1000000 in
theorem Za(T:J2 Z.C 22 a fd)(G:Gl Z.C "enumerate" (.type "enumerate")) (I:Gl Z.C "len" (.builtin "len")) (J:Gl Z.C "range" (.type "range")) (H:Q5 E):
  Bk Z (k+1) (.ref a) [.list (FT E)] [] [] (.list (Bj (DS E))):=by
 refine Bk.fnS T ["ends"] ["mate","seen","rings","place","unit","other","turned","first","ring","side","turn"] rfl rfl (fun vs S=>?_) rfl dc fun F L P P=>?_
 ·refine B8 (b' S) fun V M=>?_;subst M;exact T.bind fun U=>rfl
 ·have B:V3 F Z.C:=⟨L,G,I,J⟩;show Dq Z k F (LP E .unb .unb .unb .unb .unb .unb .unb .unb .unb .unb .unb) [] _ _;have D:=H.len;have A:=GP E;refine dY (XC (k:=k) B H (se:=.own (Bj [])) (ri:=.own (Bj [])) E.length 0 [] .unb .unb .unb .unb (Bw _) (by exact dc)) fun pl un ot tu N=>?_;refine e8 (XB (k:=k) B H rfl (pl:=pl) (un:=un) (ot:=ot) (tu:=tu) (AW (Ec E).length) [] [] .unb .unb .unb .unb (fun f Q=>by rw[An]at Q;exact A▸Q) (by simp;exact A▸AA (BE 40 (BE 2 D)) dc) (by simp;exact hT D A)) fun sn W rg b tn R=>?_;rw[←E1,←H6,Br]at N;rw[(rfl:((AW E.length).map (Gn E)).flatten=Ec E)]at N;rw[(rfl:JL E (Ec E) (AW (Ec E).length) [] []=Em E)]at R
  conv=>arg 6;whnf
  refine Dq.cons (ρ₁:=LP E (.own (Bj [])) (.own (Bj [])) (.own (Bj [])) .unb .unb .unb .unb .unb .unb .unb .unb) (P1.assignR (xs:=["mate","seen","rings"]) (iks:=[.own [],.own [],.own []]) (.own (PO.list .nil) (.own (PO.list .nil) (.own (PO.list .nil) .nil))) rfl (IV.own (ρ₁:=LP E .unb .unb (.own []) .unb .unb .unb .unb .unb .unb .unb .unb) (Ah 3 rfl) (.own (ρ₁:=LP E .unb (.own []) (.own []) .unb .unb .unb .unb .unb .unb .unb .unb) (Ah 2 rfl) (.own (by show Upd (LP E .unb (.own []) (.own []) .unb .unb .unb .unb .unb .unb .unb .unb) _ _ (LP E (.own []) (.own []) (.own []) .unb .unb .unb .unb .unb .unb .unb .unb);exact Ah 1 rfl) .nil))) rfl (EZ B.sc fun P=>rfl) dc) ?_;refine Dq.cons (P1.for (PI.enumL (B.kind _ rfl) B.en (PC.list (PE.name (p:=.list (FT E)) (AD 0 rfl)))) rfl N) ?_;refine Dq.freeze (ρ₁:=KA E (Ec E) (.own (Bj [])) (.own (Bj [])) pl un ot tu .unb .unb .unb .unb) (x:="mate") (xs:=Bj (Ec E)) (AD 1 rfl) (Ah 1 rfl) ?_;refine Dq.cons (P1.for (nm:=true) ?_ rfl R) ?_
  ·rw[←Eo];exact PI.range1 (B.kind _ rfl) B.rg (n:=(Ec E).length) (PE.of (PE.call (B.kind _ rfl) B.ln (.builtin _) (.one (PE.name (p:=.list (Bj (Ec E))) (AD 1 rfl))) (Bk.lenL (by rw[A'];exact ac D A))) (congrArg PV.int (by rw[A']))) (ac D A)
  have O:C5 Z k .NotEq (.list (Bj (Em E))) (.list (Bj [])) (!(Em E==[])):=by
   have:=C5.neD (Z:=Z) (k:=k) (p:=.list (Bj (Em E))) (q:=.list (Bj [])) (by rw[show(PV.list (Bj (Em E))).d= .list (PV.ds (Bj (Em E))) from rfl,Dg];exact Rm _) dc (.inr dc);have e:DB (PV.list (Bj (Em E))).d (PV.list (Bj [])).d=(Em E==[]):=by
    cases Em E with
    |nil=>rfl
    |cons x l=>rfl
   rwa [e]at this
  refine Dq.stop (P1.ret (PE.of (PE.ife (p:=.list (Bj (DS E))) (PB.cmp (PE.nameO (xs:=Bj (Em E)) (AD 3 rfl)) (PE.list .nil) O) (fun h=>?_) fun h=>?_) rfl))
  ·unfold DS;rw[if_neg (by intro e;rw[e]at h;cases h)];exact PE.nameO (AD 3 rfl)
  ·unfold DS;rw[if_pos (by rw[Y8,beq_iff_eq]at h;exact h)];exact PE.list (.one PE.cint)
end
noncomputable def kK(F:Fx)(A:Bl):Prop:=A.frames=some [F.env]∧F.env.frame=some F.env.locals
noncomputable abbrev fM(Z:Zx)(k:Nat)(F:Fx)(ρ κ:Ci)(t:D7)(fl:Fl)(ρ':Ci):Prop:=e4 (kK F) Z k F ρ κ t fl ρ'
noncomputable abbrev bN(Z:Zx)(k:Nat)(F:Fx)(ρ κ:Ci)(A:List D7)(fl:Fl)(ρ':Ci):Prop:=ZB (kK F) Z k F ρ κ A fl ρ'
noncomputable abbrev e6(Z:Zx)(k:Nat)(F:Fx)(κ:Ci)(A:Aj)(body orelse:List D7):List PV→Ci→Fl→Ci→Prop:=Im (kK F) Z k F κ A body orelse
section
variable{Z:Zx}{k:Nat}{F:Fx}{ρ ρ₁ ρ' κ:Ci}{st nm:Bool}
theorem P1.a(h:P1 Z k F ρ κ t fl ρ'):fM Z k F ρ κ t fl ρ':=.ofRun fun A O s Q E G D R B=>h.run A O s Q E G R B
theorem PS.a(h:PS Z k F ρ κ B fl ρ'):bN Z k F ρ κ B fl ρ':=.ofRun fun A O s Q E G H R D=>h.run A O s Q E G R D
theorem bN.cons(h:fM Z k F ρ κ t .next ρ₁)(hs:bN Z k F ρ₁ κ M fl ρ'):bN Z k F ρ κ (t::M) fl ρ':=.ofRun fun A O s Q E G P R N=>
 C9 (h.run A O s _ _ G P R fun f s₁ D I H x B=>by
  have J:f= .next:=I;subst J;exact hs.run A D s₁ Q E G P H fun f s' O' I S y L=>N f s' O' I S (x.thenX y B) fun b hb=>(L b hb).elim (fun q=>B b q) fun q=>.inr (AA x.size q))
noncomputable def EM(Z:Zx)(k:Nat)(F:Fx)(ρ κ:Ci)(A:List D7)(fl:Fl):Prop:=∃ρ',bN Z k F ρ κ A fl ρ'
theorem EM.consA(h:fM Z k F ρ κ t .next ρ₁)(hs:EM Z k F ρ₁ κ A fl):EM Z k F ρ κ (t::A) fl:=by refine B8 hs fun ρ' h'=>?_;exact⟨ρ',.cons h h'⟩
theorem EM.cons(h:P1 Z k F ρ κ t .next ρ₁)(hs:EM Z k F ρ₁ κ A fl):EM Z k F ρ κ (t::A) fl:=.consA h.a hs
theorem EM.stop(h:P1 Z k F ρ κ t fl ρ')(hn:fl≠ .next:=by intro h;cases h):EM Z k F ρ κ (t::A) fl:=⟨ρ',(PS.stop h hn).a⟩
end
noncomputable def FB(A:List Int):List Int:=(A.take 60).map fun x=>H2 x 1000000
noncomputable def MV(A:List Int)(k c:Int):Int:=c+(IS (FB A) (some k) none (some 5)).sum
noncomputable def F0(A:List Int)(k c:Int):Nat:=(MV A k c).toNat
theorem Rb(f:A→B)(xs:List A)(x y z:Option Int):IS (xs.map f) x y z=(IS xs x y z).map f:=by
 unfold IS;rw[AH,List.map_filterMap];congr 1;funext i;rw[BD]
theorem XN(h:a∈IS xs x y z):a∈xs:=by
 unfold IS at h;refine Bz (M'.mp h) fun i _ hi=>?_;exact B2 hi
theorem VF{A:Type}{xs:List A}{k:Nat}:(IS xs (some (k:Int)) none (some 5)).length≤xs.length:=by
 unfold IS;refine AA (List.length_filterMap_le _ _) ?_;have e:EA (some (k:Int)) none (some 5) xs.length=(max 0 (Uq (k:Int) (xs.length:Int)),(xs.length:Int),5):=by
  unfold EA;have B:¬((k:Int)<0):=SI;rfl
 rw[e];exact sliceRange_length_le (max 0 (Uq (k:Int) (xs.length:Int))) (xs.length:Int) 5 xs.length (fun D=>⟨dU _ _,Vy⟩) (fun h=>absurd dc h)
theorem S0:∀{l:List Int},(∀x∈l,0≤x)→0≤l.sum:=by
 intro A
 induction A with
 |nil=>
  intro _;simp
 |cons a l B=>
  intro h;rw[Gd];have:=h a AB;have:=B fun x hx=>h x (AG _ hx);exact RG ‹_› this
theorem JR(A:List Int)(D:0≤c):MV A k c=(F0 A k c:Int):=by
 unfold F0;rw[GZ];unfold MV;have:=S0 (l:=IS (FB A) (some k) none (some 5)) fun x hx=>by
  have hx:=XN hx;unfold FB at hx;refine Bz (AU.mp hx) fun y _ B=>?_;subst B;rw[F8 _ dc];exact Int.emod_nonneg _ dc
 exact RG D this
theorem U3(A:List Int):(FB A).length≤60:=by unfold FB;rw[AH,CC];exact IL 60 _
noncomputable def drawsOf(A:List Int):List Nat:=[F0 A 0 3296,F0 A 1 277,F0 A 2 651,F0 A 3 828636,F0 A 4 37]
structure LS where
 sc:Internal.Slot:=.unb
 tk:Internal.Slot:=.unb
 kk:Internal.Slot:=.unb
 on:Internal.Slot:=.unb
 dr:Internal.Slot:=.unb
 ri:Internal.Slot:=.unb
 ba:Internal.Slot:=.unb
 hi:Internal.Slot:=.unb
 ta:Internal.Slot:=.unb
 pi:Internal.Slot:=.unb
 du:Internal.Slot:=.unb
 le:Internal.Slot:=.unb
 re:Internal.Slot:=.unb
 ins:Internal.Slot:=.unb
 wo:Internal.Slot:=.unb
 od:Internal.Slot:=.unb
 ot:Internal.Slot:=.unb
 bs:Internal.Slot:=.unb
 rg:Internal.Slot:=.unb
 su:Internal.Slot:=.unb
 pa:Internal.Slot:=.unb
 rf:Internal.Slot:=.unb
 kp:Internal.Slot:=.unb
 ol:Internal.Slot:=.unb
 er:Internal.Slot:=.unb
 ev:Internal.Slot:=.unb
 tb:Internal.Slot:=.unb
noncomputable def CH(s:LS):Ci:=[("script",s.sc),("taken",s.tk),("k",s.kk),("one",s.on),("draws",s.dr),("ring",s.ri),("base",s.ba),("hidden",s.hi),("tail",s.ta),("pieces",s.pi),("due",s.du),("left",s.le),("read",s.re),("inside",s.ins),("words",s.wo),("order",s.od),("other",s.ot),("basis",s.bs),("rings",s.rg),("sums",s.su),("parity",s.pa),("refused",s.rf),("kept",s.kp),("old",s.ol),("error",s.er),("even",s.ev),("table",s.tb)]
noncomputable def DU:List D7:=Ba (Au 23)
structure Ys(C:Cx):Prop where
 bi:dE C
 pf:dA C
 ck:Md C
 ls:Gl C "list" (.type "list")
 sm:Gl C "sum" (.builtin "sum")
 so:Gl C "sorted" (.builtin "sorted")
 st:Gl C "str" (.type "str")
 ve:Gl C "ValueError" (.type "ValueError")
 ri:∃a fd,J2 C 17 a fd∧Gl C "_law_ring" (.ref a)
 wr:∃a fd,J2 C 18 a fd∧Gl C "_law_written" (.ref a)
 dt:∃a fd,J2 C 19 a fd∧Gl C "_law_dots" (.ref a)
 br:∃a fd,J2 C 20 a fd∧Gl C "_law_brackets" (.ref a)
 bs:∃a fd,J2 C 21 a fd∧Gl C "_law_basis" (.ref a)∧fd.code= .ref 117∧fd.qualname="_law_basis"
 rg:∃a fd,J2 C 22 a fd∧Gl C "_law_rings" (.ref a)
 el:∃a fd,J2 C 10 a fd∧Gl C "_ellipsis_match" (.ref a)
 em:∃t,Gl C "ELLIPSIS_MARKER" (.str Bv t)
 pp:∃a fd,J2 C 15 a fd∧Gl C "_pre_parse_validation" (.ref a)
structure Mj(F:Fx)(C:Cx):Prop where
 sc:F.env.scope=Bu (Au 23)
 cd:F.env.code= .ref 127
 ql:F.env.qual="law.<locals>."
 av:Ys C
theorem Mj.loop(h:Mj F C):Mj (F.loop wr) C:=⟨h.sc,h.cd,h.ql,h.av⟩
theorem Mj.kind(h:Mj F C)(x:Ax)(hx:(Bu (Au 23)).names.lookup x=some kd):F.env.kindOf x=some kd:=by show F.env.scope.names.lookup _=_;rw[h.sc];exact hx
theorem Mj.inter(h:Mj F C):B5 F.env=false:=by unfold B5;rw[h.sc];rfl
section
variable{Z:Zx}{k:Nat}{F:Fx}
theorem XY(G:Mj F Z.C)(hs:A.length≤63)(B:EM Z k F (CH {sc:=.val (.list (A.map PV.int)),tk:=.val (.list ((FB A).map PV.int))}) [] (DU.drop 1) fl):
  EM Z k F (CH {sc:=.val (.list (A.map PV.int))}) [] DU fl:=by
 conv=>arg 6;whnf
 refine EM.cons (P1.assign (p:=.list ((FB A).map PV.int)) (PE.comp ⟨X7 ((A.take 60).map PV.int) (fun D=>true) (fun p=>match p with
  |.int x=>.int (H2 x 1000000)
  |p=>p) [("x",.unb)] [] true true ⟨PI.list (PC.list (PE.of (PE.slice (PE.name (p:=.list (A.map PV.int)) (AD 0 rfl)) .none (.some PE.cint) .none dc (by rw[AH];exact AA hs dc)) (congrArg PV.list ?_))),rfl,?_,?_,?_,?_⟩,fun D=>rfl⟩) (ρ':=CH {sc:=.val (.list (A.map PV.int)),tk:=.val (.list ((FB A).map PV.int))}) ?_ (HG G.sc fun D=>rfl)) B
 ·rw[Rb];congr 1;by_cases h:60≤A.length
  ·exact Km (b:=60) h
  ·have e:IS A none (some 60) none=(A.drop 0).take (A.length-0):=by
    refine JM ?_;unfold EA;simp;exact hH hs h
   rw[e,G6,Kx,Os,DN (hG hs h)]
 ·exact CS.of ["x"] [] rfl rfl .nil rfl dc rfl rfl rfl
 ·intro p hp;refine Bz (AU.mp hp) fun x _ E=>?_;subst E;exact⟨[("x",.val (.int x))],.name (Ah 0 rfl),fun I H=>⟨rfl,fun D=>PE.mod (PE.name (p:=.int x) (AD 0 rfl)) PE.cint dc⟩⟩
 ·rw[AH,CC];exact AA (IL 60 _) dc
 ·rw[Ck.mpr (fun D D=>rfl),BB];unfold FB;rw[BB];rfl
 ·unfold CH;exact Ah 1 rfl
set_option maxHeartbeats 1000000 in
theorem Xb(D:Mj F Z.C)(B:EM Z k F (CH {sc:=.val (.list (A.map PV.int)),tk:=.val (.list ((FB A).map PV.int)),dr:=.val (.list (Bj (drawsOf A)))}) [] (DU.drop 2) fl):
  EM Z k F (CH {sc:=.val (.list (A.map PV.int)),tk:=.val (.list ((FB A).map PV.int))}) [] (DU.drop 1) fl:=by
 have E:=U3 A
 conv=>arg 6;whnf
 refine EM.cons (P1.assign (p:=.list (Bj (drawsOf A))) (PE.comp ⟨X7 (Internal.numbered [.int 3296,.int 277,.int 651,.int 828636,.int 37]) (fun G=>true) (fun p=>match p with
  |.tup [.int k,.int c]=>.int (MV A k c)
  |p=>p) [("k",.unb),("one",.unb)] [("taken",.val (.list ((FB A).map PV.int)))] true false ⟨PI.enumT (D.kind _ rfl) D.av.ck.en (PC.tup (PE.tuple (.five PE.cint PE.cint PE.cint PE.cint PE.cint))),rfl,?_,?_,?_,?_⟩,fun G=>rfl⟩) (ρ':=CH {sc:=.val (.list (A.map PV.int)),tk:=.val (.list ((FB A).map PV.int)),dr:=.val (.list (Bj (drawsOf A)))}) ?_ (HG D.sc fun G=>rfl)) B
 ·exact CS.of ["k","one"] ["taken"] rfl rfl (.cons rfl (AD 1 rfl) (by rw[D.kind _ rfl];decide) .nil) rfl dc rfl rfl rfl
 ·intro p hp;obtain⟨i,c,rfl⟩:∃(i:Nat)(c:Int),p= .tup [.int (i:Int),.int c]:=by
   simp only[Internal.numbered,Ov,bk,AN,BH,or_false]at hp;rcases hp with rfl|rfl|rfl|rfl|rfl<;>exact X2 _ _ rfl
  refine⟨[("k",.val (.int (i:Int))),("one",.val (.int c))],.tup (.tup _) (.cons (Ah 0 rfl) (.cons (Ah 1 rfl) .nil)),fun J H=>⟨rfl,fun G=>?_⟩⟩;have I:=VF (xs:=FB A) (k:=i);exact PE.add (PE.name (p:=.int c) (AD 1 rfl)) (PE.call (st:=false) (MI H rfl) D.av.sm (.builtin _) (.one (PE.of (PE.slice (PE.name (p:=.list ((FB A).map PV.int)) (AD 2 rfl)) (.some (PE.name (p:=.int (i:Int)) (AD 0 rfl))) .none (.some PE.cint) dc (by rw[AH];exact AA E dc)) (congrArg PV.list (Rb _ _ _ _ _)))) (Bk.sum (AA (AA I E) dc)))
 ·decide
 ·rw[Ck.mpr (fun G G=>rfl)];unfold drawsOf Bj;show[PV.int (F0 A 0 3296:Int),.int (F0 A 1 277:Int),.int (F0 A 2 651:Int),.int (F0 A 3 828636:Int),.int (F0 A 4 37:Int)]=[PV.int (MV A 0 3296),.int (MV A 1 277),.int (MV A 2 651),.int (MV A 3 828636),.int (MV A 4 37)];rw[←JR _ dc,←JR _ dc,←JR _ dc,←JR _ dc,←JR _ dc]
 ·unfold CH;exact Ah 4 rfl
end
noncomputable def Lay(n:Nat)(p:PV):Prop:=p.d.canLay0=true∧p.d.depth≤n
theorem Mz:∀{xs:List PV}{n:Nat},(∀p∈xs,Lay n p)→Bi (PV.ds xs)=true∧EN (PV.ds xs)≤n:=by
 intro A
 induction A with
 |nil=>
  intro n _;exact⟨by rw[show PV.ds []=[] from rfl,Bi],by rw[show PV.ds []=[] from rfl,EN];exact BI _⟩
 |cons p xs B=>
  intro n h;refine ER (h p AB) fun D E=>?_;refine ER (B fun q F=>h q (AG _ F)) fun G H=>?_;rw[show PV.ds (p::xs)=p.d::PV.ds xs from rfl,Bi,EN,D,G];exact⟨rfl,Nat.max_le.mpr ⟨E,H⟩⟩
theorem Lay.list(h:∀p∈xs,Lay n p):Lay (n+1) (.list xs):=by
 refine ER (Mz h) fun A B=>?_;unfold Lay;rw[show(PV.list xs).d= .list (PV.ds xs) from rfl,Dg,EB];exact⟨A,BS B⟩
theorem Lay.tup(h:∀p∈xs,Lay n p):Lay (n+1) (.tup xs):=by
 refine ER (Mz h) fun A B=>?_;unfold Lay;rw[show(PV.tup xs).d= .tuple (PV.ds xs) from rfl,Dg,EB];exact⟨A,BS B⟩
theorem Lay.int(i:Int):Lay n (.int i):=⟨by rw[show(PV.int i).d= .int i from rfl,Dg],by rw[show(PV.int i).d= .int i from rfl,EB];exact BI _⟩
theorem Lay.str(h:WA x):Lay n (.str x):=⟨Qb h,by rw[show(PV.str x).d= .str x from rfl,EB];exact BI _⟩
theorem C5.eqRefl(h:Lay 64 p):C5 Z k .Eq p p true:=by
 have:=C5.eqD (Z:=Z) (k:=k) h.1 h.1 (.inl h.2)
 rwa [QC _ h.1]at this
theorem C5.neRefl(h:Lay 64 p):C5 Z k .NotEq p p false:=by
 have:=C5.neD (Z:=Z) (k:=k) h.1 h.1 (.inl h.2)
 rwa [QC _ h.1]at this
noncomputable def GT(d:Nat):List Nat:=(AW 5).filter fun k=>d/4^k % 4==0
noncomputable def FC(n:Nat):Ax:=([("":Ax),"\"(","\\","\""]).getD n ""
noncomputable def piecesOf(A d1 d2 d3:Nat):List Ax:=CQ (GT d1) d2 d3 0 (Ei A)
noncomputable def L6(A d1 d2 d3 d4:Nat):Ax:=Cf "" (piecesOf A d1 d2 d3)++FC (d4/29 % 4)
noncomputable def E5(A d1 d2 d3 d4:Nat):Ax:=Cs (L6 A d1 d2 d3 d4)
noncomputable def unitsOf(A d1 d2 d3 d4:Nat):List Ax:=DD (GT d1) d2 d3 (Ei A) (FC (d4/29 % 4))
noncomputable def Dp(left:Ax):List I4:=([0,1,2,3,4].map fun c=>(AW c).map fun j=>(c,j,K5 left c j)).flatten
theorem Wv(left:Ax):MK left=(Dp left).map EP:=by
 unfold MK Ih Dp;rw[List.map_flatten,BB];congr 2;funext c;simp only[Function.comp,BB];rfl
structure TY(d0 d1 d2 d3 d4:Nat):Prop where
 rl:(Ei d0).length=10
 r5:∀c∈Ei d0,c<5
 wl:(L6 d0 d1 d2 d3 d4).length≤1000
 rd:K4 (E5 d0 d1 d2 d3 d4)=Es 0 (unitsOf d0 d1 d2 d3 d4)
 asc:∀q∈Es 0 (unitsOf d0 d1 d2 d3 d4),WA q.2
 dots:Q7 (E5 d0 d1 d2 d3 d4) (GT d1)
 br:SN (Ei d0) (GT d1) (piecesOf d0 d1 d2 d3) (Dp (E5 d0 d1 d2 d3 d4))
 basc:∀t∈Dp (E5 d0 d1 d2 d3 d4),∀w,WA (Cz (Ei d0) (GT d1) (piecesOf d0 d1 d2 d3) t w)
noncomputable def S8(a b:Internal.Slot)(A d1 d2 d3 d4:Nat):LS:={sc:=a,tk:=b,dr:=.val (.list (Bj [A,d1,d2,d3,d4])),ri:=.val (.list (Bn (Ei A))),ba:=.val (.int ((d4 % 29:Nat):Int)),hi:=.val (.list (Bn (GT d1))),ta:=.val (.str (FC (d4/29 % 4))),pi:=.val (.list (AT (piecesOf A d1 d2 d3))),du:=.val (.list (E' (unitsOf A d1 d2 d3 d4))),le:=.val (.str (E5 A d1 d2 d3 d4)),re:=.val (.list (E' (unitsOf A d1 d2 d3 d4))),ins:=.val (.list ((Dp (E5 A d1 d2 d3 d4)).map EP))}
theorem Qe(h:c∈GT d):c<5:=by unfold GT at h;exact An.mp (CD.mp h).1
theorem Z6(d:Nat):(GT d).length≤5:=by unfold GT;have:=CR (fun k=>d/4^k % 4==0) (AW 5);rwa [Bm]at this
theorem OA(n:Nat):(FC n).length≤2:=by
 unfold FC
 match n with
 |0=>decide
 |1=>decide
 |2=>decide
 |3=>decide
 |n+4=>exact BI 2
theorem Kl:∀(r:List Nat)(p:Nat),∀x∈CQ hid m b p r,x.length≤9:=by
 intro A
 induction A with
 |nil=>
  intro p x h;simp[CQ.c1,CQ.c2]at h
 |cons c r E=>
  intro p x h;rw[CQ.c2,AN]at h;rcases h with rfl|h
  ·unfold pieceOf;rw[A2];have B:=(kind_len (n:=kindOf b p) (CO _ dc)).1;have D:=Qo m p c;have F:Jp.length=1:=rfl;split
   ·rw[A2,A2];exact hJ B D F
   ·exact AA (BA B D) dc
  ·exact E (p+1) x h
theorem Zv(U:List Ax)(h:∀q∈Es 0 U,WA q.2):Lay 64 (.list (E' U)):=by
 unfold E';refine Lay.list (n:=63) fun p hp=>?_;refine Bz (AU.mp hp) fun q B A=>?_;subst A;exact Lay.tup (n:=62) fun p hp=>by
  simp only[AN,BH,or_false]at hp;rcases hp with rfl|rfl
  ·exact .int _
  ·exact .str (h q B)
theorem VT(L:List I4):Lay 64 (.list (L.map EP)):=by
 refine Lay.list (n:=63) fun p hp=>?_;refine Bz (AU.mp hp) fun t B A=>?_;subst A;exact Lay.tup (n:=62) fun p hp=>by
  simp only[AN,BH,or_false]at hp;rcases hp with rfl|rfl|rfl<;>exact .int _
section
variable{Z:Zx}{k:Nat}{F:Fx}
theorem Kp{ρ κ:Ci}{st:Bool}{A d1 d2 d3 d4:Nat}{i n:Nat}{p1 B D:JE}(h:(Ap "draws",Internal.Slot.val (.list (Bj [A,d1,d2,d3,d4])))∈ρ++κ) (hi:i<5):PE Z k F ρ κ st (.Subscript (.Name "draws" p1) (.Constant (.int (i:Int)) n B) D) (.int (([A,d1,d2,d3,d4].getD i 0:Nat):Int)):=
 PE.itemL (xs:=Bj [A,d1,d2,d3,d4]) (PE.name h) PE.cint (j:=i) (by have:=C' (k:=(i:Int)) (n:=5) (M6 hi) (eo hi);rwa [Ag]at this) (Ji hi) (by show(5:Nat)≤_;decide)
set_option maxHeartbeats 4000000 in
theorem XX(D:Mj F Z.C){a b:Internal.Slot}{A d1 d2 d3 d4:Nat}(H:TY A d1 d2 d3 d4)(E:EM Z (k+10) F (CH (S8 a b A d1 d2 d3 d4)) [] (DU.drop 9) fl):
  EM Z (k+10) F (CH {sc:=a,tk:=b,dr:=.val (.list (Bj [A,d1,d2,d3,d4]))}) [] (DU.drop 2) fl:=by
 refine K7 D.av.ri fun ra rf U o=>?_;refine K7 D.av.wr fun wa wf V r=>?_;refine K7 D.av.dt fun Gt df W t=>?_;refine K7 D.av.br fun ba If f u=>?_;refine K7 D.av.ck.strip fun sa sf j v=>?_;refine K7 D.av.ck.gen fun Is Lt w y=>?_;have P:(piecesOf A d1 d2 d3).length=10:=by unfold piecesOf;rw[Jh,H.rl]
 have Q:∀x∈piecesOf A d1 d2 d3,x.length≤9:=Kl _ _;have R:=OA (d4/29 % 4);have J:=H.dots.len
 conv=>arg 6;whnf
 refine EM.cons (ρ₁:=CH {sc:=a,tk:=b,dr:=.val (.list (Bj [A,d1,d2,d3,d4])),ri:=.val (.list (Bn (Ei A))),ba:=.val (.int ((d4 % 29:Nat):Int))}) (P1.assignD (xs:=["ring","base"]) (iks:=[.val (.list (Bn (Ei A))),.val (.int ((d4 % 29:Nat):Int))]) (.val (PE.call (D.kind _ rfl) o U.t.fn (.one (Kp (i:=0) (AD 4 rfl) dc)) (VE (k:=k+9) (d:=A) U D.av.ck.ln D.av.bi.rg)) (.val (PE.of (PE.mod (Kp (i:=4) (d4:=d4) (AD 4 rfl) dc) PE.cint dc) (congrArg PV.int (FN (a:=d4) (b:=29) dc))) .nil)) (.cons (.cons .nil)) rfl (IV.val (ρ₁:=CH {sc:=a,tk:=b,dr:=.val (.list (Bj [A,d1,d2,d3,d4])),ri:=.val (.list (Bn (Ei A)))}) (Ah 5 rfl) (.val (Ah 6 rfl) .nil)) rfl (EZ D.sc fun G=>rfl) (by show(2:Nat)≤100;decide)) ?_;refine EM.cons (ρ₁:=CH {sc:=a,tk:=b,dr:=.val (.list (Bj [A,d1,d2,d3,d4])),ri:=.val (.list (Bn (Ei A))),ba:=.val (.int ((d4 % 29:Nat):Int)),hi:=.val (.list (Bn (GT d1)))}) (P1.assign (p:=.list (Bn (GT d1))) (PE.comp ⟨X7 (Internal.numbered (Cm Ls)) (fun p=>match p with
  |.tup [.int i,_]=>d1/4^i.toNat % 4==0
  |_=>false) (fun p=>match p with
  |.tup [_,q]=>q
  |p=>p) [("k",.unb),("one",.unb)] [("draws",.val (.list (Bj [A,d1,d2,d3,d4])))] true false ⟨PI.enumS (D.kind _ rfl) D.av.ck.en (PE.cstr (x:=Ls)),rfl,?_,?_,?_,?_⟩,fun G=>rfl⟩) (Ah 7 rfl) (HG D.sc fun G=>rfl)) ?_
 ·exact CS.of ["k","one"] ["draws"] rfl rfl (.cons rfl (AD 4 rfl) (by rw[D.kind _ rfl];decide) .nil) rfl dc rfl rfl rfl
 ·intro p hp;obtain⟨i,x,hi,rfl⟩:∃(i:Nat)(x:Ax),i<5∧p= .tup [.int (i:Int),.str x]:=by
   rw[Rk]at hp;simp only[Internal.numbered,Ae,DZ,Ov,bk,AN,BH,or_false]at hp;rcases hp with rfl|rfl|rfl|rfl|rfl<;>exact X2 _ _ ⟨dc,rfl⟩
  refine⟨[("k",.val (.int (i:Int))),("one",.val (.str x))],.tup (.tup _) (.cons (Ah 0 rfl) (.cons (Ah 1 rfl) .nil)),fun Ns z=>⟨?_,fun G=>PE.name (p:=.str x) (AD 1 rfl)⟩⟩;have L:((4:Int)^(i:Int).toNat)=((4^i:Nat):Int):=by rw[Ag];rfl
  have M:(4:Nat)^i≠0:=CU (Nat.pow_pos dc);have N:(4:Nat)^i≤4^4:=Bq dc (A9 hi);refine PB.of (PB.cmp (PE.of (PE.mod (PE.fdiv (Kp (i:=1) (d1:=d1) (AD 2 rfl) dc) (PE.of (PE.pow PE.cint (PE.name (p:=.int (i:Int)) (AD 0 rfl)) (M6 hi) (al hi) dc) (congrArg PV.int L)) (fun e=>M (O0 e)) (by rw[NT];exact AY N dc)) PE.cint dc) (congrArg PV.int (by rw[HL M,FN dc]:H2 (KI (d1:Int) ((4^i:Nat):Int)) ((4:Nat):Int)=((d1/4^i % 4:Nat):Int)))) PE.cint C5.eqI) ?_;show _=(d1/4^(i:Int).toNat % 4==0);rw[Ag,CK,beq_iff_eq,beq_iff_eq];exact Ce (n:=0)
 ·decide
 ·have e:Internal.numbered (Cm Ls)=(AW 5).map fun i:Nat=>PV.tup [.int (i:Int),.str (CN i)]:=rfl;rw[e,C1,BB];rfl
 refine EM.cons (ρ₁:=CH {sc:=a,tk:=b,dr:=.val (.list (Bj [A,d1,d2,d3,d4])),ri:=.val (.list (Bn (Ei A))),ba:=.val (.int ((d4 % 29:Nat):Int)),hi:=.val (.list (Bn (GT d1))),ta:=.val (.str (FC (d4/29 % 4)))}) (P1.assign (PE.itemT (p:=.str (FC (d4/29 % 4))) (xs:=[.str "",.str "\"(",.str "\\",.str "\""]) (PE.tuple (.four PE.cstr PE.cstr PE.cstr PE.cstr)) (PE.of (PE.mod (PE.fdiv (Kp (i:=4) (d4:=d4) (AD 4 rfl) dc) PE.cint dc dc) PE.cint dc) (congrArg PV.int (by rw[HL dc,FN dc]:H2 (KI (d4:Int) ((29:Nat):Int)) ((4:Nat):Int)=((d4/29 % 4:Nat):Int)))) (by have:=C' (k:=((d4/29 % 4:Nat):Int)) (n:=4) (AZ _) (BR.mpr (CO _ dc));rwa [Ag]at this) ?_ (by show(4:Nat)≤_;decide)) (Ah 8 rfl)) ?_
 ·have l:d4/29 % 4<4:=CO _ dc;generalize d4/29 % 4=n at l;have:n=0∨n=1∨n=2∨n=3:=eu l;rcases this with h|h|h|h<;>subst h<;>rfl
 refine EM.cons (ρ₁:=CH {S8 a b A d1 d2 d3 d4 with le:=.unb,re:=.unb,ins:=.unb}) (P1.assignB (PE.of (q:=.tup [.list (AT (piecesOf A d1 d2 d3)),.list (E' (unitsOf A d1 d2 d3 d4))]) (PE.call (D.kind _ rfl) r V.t.fn (.five (PE.name (p:=.list (Bn (Ei A))) (AD 5 rfl)) (PE.name (p:=.list (Bn (GT d1))) (AD 7 rfl)) (Kp (i:=2) (AD 4 rfl) dc) (Kp (i:=3) (AD 4 rfl) dc) (PE.name (p:=.str (FC (d4/29 % 4))) (AD 8 rfl))) (QN (k:=k+9) (m:=d2) (b:=d3) V D.av.ck.en D.av.ls D.av.ck.ln H.rl (fun c At=>Aa (H.r5 c At)) (fun x hx=>Aa (Qe hx)) (Z6 d1) (AA R dc))) rfl) (.tup (.tup _) (.cons (ρ₁:=CH {S8 a b A d1 d2 d3 d4 with du:=.unb,le:=.unb,re:=.unb,ins:=.unb}) (Ah 9 rfl) (.cons (Ah 10 rfl) .nil)))) ?_;refine EM.cons (ρ₁:=CH {S8 a b A d1 d2 d3 d4 with re:=.unb,ins:=.unb}) (P1.assign (p:=.str (E5 A d1 d2 d3 d4)) (PE.call (st:=true) (D.kind _ rfl) v j.t.fn (JY.one (p1:=.str (L6 A d1 d2 d3 d4)) ?_) (OC (k:=k+7) j D.av.ck.toGenAv D.av.ck.ln H.wl)) (Ah 11 rfl)) ?_
 ·refine PE.addS (PE.methE (st:=false) PE.cstr (.one (PE.name (p:=.list (AT (piecesOf A d1 d2 d3))) (AD 9 rfl))) (Dh.join (joinOk_of (B:=9) Q (by rw[P];decide)))) (PE.name (p:=.str (FC (d4/29 % 4))) (AD 8 rfl)) ?_;have:=H.wl;unfold L6 at this;rw[A2]at this;rw[Ay];exact AA this dc
 have I:Ii (E5 A d1 d2 d3 d4)=E' (unitsOf A d1 d2 d3 d4):=by
  unfold E';rw[←H.rd];rfl
 have S:(Ii (E5 A d1 d2 d3 d4)).length≤1000:=by
  unfold Ii;rw[AH];have:=JP (E5 A d1 d2 d3 d4).cps.toList 0 false;have e:(E5 A d1 d2 d3 d4).cps.toList.length=(E5 A d1 d2 d3 d4).length:=by rfl
  exact AA this (AA (BS (e▸J)) dc)
 refine EM.cons (ρ₁:=CH (S8 a b A d1 d2 d3 d4)) (P1.assignD (xs:=["read","inside"]) (iks:=[.val (.list (E' (unitsOf A d1 d2 d3 d4))),.val (.list ((Dp (E5 A d1 d2 d3 d4)).map EP))]) (.val (PE.of (PF.pe (PF.listGen (k:=k+4) w D.av.ck.en (D.kind _ rfl) D.av.ls (D.kind _ rfl) y (PE.name (p:=.str (E5 A d1 d2 d3 d4)) (AD 11 rfl)) (Qx J) S)) (congrArg PV.list I)) (.val (PE.of (PE.call (st:=true) (D.kind _ rfl) t W.t.fn (.two (PE.name (p:=.str (E5 A d1 d2 d3 d4)) (AD 11 rfl)) (PE.name (p:=.list (Bn (GT d1))) (AD 7 rfl))) (Vo (k:=k+8) W D.av.ck.en D.av.el D.av.em D.av.ck.ln H.dots)) (congrArg PV.list (Wv _))) .nil)) (.cons (.cons .nil)) rfl (IV.val (ρ₁:=CH {S8 a b A d1 d2 d3 d4 with ins:=.unb}) (Ah 12 rfl) (.val (Ah 13 rfl) .nil)) rfl (EZ D.sc fun G=>rfl) (by show(2:Nat)≤100;decide)) ?_;have T:=Zv _ H.asc;have O:=VT (Dp (E5 A d1 d2 d3 d4));refine EM.cons (P1.ifF (PB.of (PB.or (b:=false) (PB.cmp (PE.name (p:=.list (E' (unitsOf A d1 d2 d3 d4))) (AD 12 rfl)) (PE.name (p:=.list (E' (unitsOf A d1 d2 d3 d4))) (AD 10 rfl)) (C5.neRefl T)) fun G=>PB.or (b:=false) (PB.of (PB.cmp (PE.name (p:=.list ((Dp (E5 A d1 d2 d3 d4)).map EP)) (AD 13 rfl)) (PE.list .nil) (C5.eqD O.1 dc (.inl O.2))) (by
   unfold Dp;rfl)) fun G=>PB.or (b:=false) (PB.of (PB.not (PB.plain (PE.call (st:=false) (D.kind _ rfl) u f.t.fn (.four (PE.name (p:=.list (Bn (Ei A))) (AD 5 rfl)) (PE.name (p:=.list (Bn (GT d1))) (AD 7 rfl)) (PE.name (p:=.list (AT (piecesOf A d1 d2 d3))) (AD 9 rfl)) (PE.name (p:=.list ((Dp (E5 A d1 d2 d3 d4)).map EP)) (AD 13 rfl))) (aQ (k:=k+4) f D.av.bi.rg D.av.ls D.av.ck D.av.pp H.br H.basc)) I3.bool)) rfl) fun G=>PB.orN) rfl) PS.nil) E
end
noncomputable def GO(k:Nat)(t:I4):Bool:=t.2.2==1 && (k==t.1 || k==t.2.1)
noncomputable def FD(L:List I4)(k:Nat):Nat:=((L.filter (GO k)).map fun t=>2^(t.1+t.2.1-k)).sum
noncomputable def El(U:List Ax)(k:Nat):Nat:=((Es 0 U).filter fun q=>q.2==Lr++CN k).length % 2
noncomputable def ZT(L:List I4)(U:List Ax)(k:Nat):Nat:=FD L k+2^k*El U k
noncomputable def tableOf(L:List I4)(U:List Ax):List Nat:=(AW 5).map (ZT L U)
noncomputable def QP:Ax:="OPTIMIZED NEWLOCALS VARARGS VARKEYWORDS NESTED GENERATOR NOFREE COROUTINE ITERABLE_COROUTINE ASYNC_GENERATOR"
noncomputable def Z7(k:Nat):Ax:="0x"++⟨#[("1248":Ax).cps.getD (k % 4) 0]⟩++Uj "0" ((k/4:Nat):Int)
noncomputable def E7:List Ax:=Ox QP++(Aw 10 23).map Z7
noncomputable def wordsOf(b:Nat):List Ax:=(E7.drop b).take 5
noncomputable def O2(W:List Ax)(r:Nat):List Ax:=
 if(AW 5).filter (fun k=>r.testBit k)=[] then["0x0"] else((AW 5).filter fun k=>r.testBit k).map fun k=>W.getD k Ai
structure M7(b:Nat):Prop where
 ld:Oi (wordsOf b) b
 aw:E7.length=33
 wl:∀x∈E7,x.length≤30
 pt:∀r<32,D' (r*2^b)=Cf ", " (O2 (wordsOf b) r)
 pa:∀r<32,WA (D' (r*2^b))
theorem KU{scope:Scope}{env:Ti}{A:Fx}(h:A.env.scope=GD scope env)(hx:scope.names.lookup x=some kd)(B:kd≠ .local):A.env.kindOf x≠some .local:=by
 show A.env.scope.names.lookup x≠_;rw[h];rw[show(GD scope env).names.lookup x=_ from Eb hx];split
 ·intro e;cases e
 ·intro e;exact B (CT e)
theorem Ya(k i j:Nat):((PV.ds [.int (i:Int),.int (j:Int)]).any fun y=>DB y (PV.int (k:Int)).d)=(k==i || k==j):=by
 show(((i:Int)==(k:Int)) || (((j:Int)==(k:Int)) || false))=_;rw[Sj,CK,E0,E0,beq_iff_eq,beq_iff_eq,beq_iff_eq,beq_iff_eq];exact or_congr (Ce.trans eq_comm) (Ce.trans eq_comm)
theorem bn(l:List Nat):(zs l).sum=((l.sum:Nat):Int):=by
 unfold zs
 induction l with
 |nil=>rfl
 |cons a l A=>rw[Ae,Gd,A,Gd];exact rfl
theorem KM(h:t∈Dp left):t.1<5∧t.2.1<t.1:=by
 unfold Dp at h;refine Bz (Ef.mp h) fun l hl D=>?_;refine Bz (AU.mp hl) fun c B A=>?_;subst A;refine Bz (AU.mp D) fun j E A=>?_;subst A;simp only[AN,BH,or_false]at B;have:=An.mp E;show c<5∧j<c;exact⟨by rcases B with rfl|rfl|rfl|rfl|rfl<;>decide,this⟩
theorem Uz(left:Ax):(Dp left).length=10:=by
 unfold Dp;rfl
noncomputable def Mv:PV→I4
 |.tup [.int i,.int j,.int e]=>(i.toNat,j.toNat,e.toNat)
 |_=>(0,0,0)
theorem Pg(t:I4):Mv (EP t)=t:=by
 obtain⟨a,b,c⟩:=t;rfl
noncomputable def RX:PV→Nat×Ax
 |.tup [.int i,.str x]=>(i.toNat,x)
 |_=>(0,Ai)
theorem RW(q:Nat×Ax):RX (H9 q)=q:=rfl
section
variable{Z:Zx}{k:Nat}{F:Fx}
set_option maxHeartbeats 2000000 in
theorem XZ(E:Mj F Z.C)(hi:s.ins= .val (.list (L.map EP)))(hr:s.re= .val (.list (E' U)))(V:∀t∈L,t.1<5∧t.2.1<t.1)(I:L.length≤1000)(J:(Es 0 U).length≤1000)
  (G:EM Z (k+10) F (CH {s with tb:=.val (.list (Bj (tableOf L U)))}) [] (DU.drop 10) fl):EM Z (k+10) F (CH s) [] (DU.drop 9) fl:=by
 conv=>arg 6;whnf
 have M:(Ap "inside",Internal.Slot.val (.list (L.map EP)))∈CH s:=by rw[←hi];exact AD 13 rfl
 have P:(Ap "read",Internal.Slot.val (.list (E' U)))∈CH s:=by rw[←hr];exact AD 12 rfl
 refine EM.cons (P1.assign (p:=.list (Bj (tableOf L U))) (PE.comp ⟨X7 (Internal.numbered (Cm Ls)) (fun B=>true) (fun p=>match p with
  |.tup [.int i,_]=>.int ((ZT L U i.toNat:Nat):Int)
  |p=>p) [("k",.unb),("one",.unb)] [("inside",.val (.list (L.map EP))),("read",.val (.list (E' U)))] true false ⟨PI.enumS (E.kind _ rfl) E.av.ck.en (PE.cstr (x:=Ls)),rfl,?_,?_,?_,?_⟩,fun B=>rfl⟩) (Ah 26 rfl) (HG E.sc fun B=>rfl)) G
 ·exact CS.of ["k","one"] ["inside","read"] rfl rfl (.cons rfl (AC _ M) (by rw[E.kind _ rfl];decide) (.cons rfl (AC _ P) (by rw[E.kind _ rfl];decide) .nil)) rfl dc rfl rfl rfl
 ·intro p hp;obtain⟨i,H,rfl⟩:∃i:Nat,i<5∧p= .tup [.int (i:Int),.str (CN i)]:=by
   have e:Internal.numbered (Cm Ls)=(AW 5).map fun i:Nat=>PV.tup [.int (i:Int),.str (CN i)]:=rfl;rw[e]at hp;refine Bz (AU.mp hp) fun i hi A=>?_;subst A;exact⟨i,An.mp hi,rfl⟩
  refine⟨[("k",.val (.int (i:Int))),("one",.val (.str (CN i)))],.tup (.tup _) (.cons (Ah 0 rfl) (.cons (Ah 1 rfl) .nil)),fun R D=>⟨rfl,fun B=>?_⟩⟩;show PE Z (k+10) R _ _ true _ (.int ((ZT L U i:Nat):Int));have N:∀{st:Bool}{p1 S T:JE}{n:Nat},PE Z (k+10) R [("k",.val (.int (i:Int))),("one",.val (.str (CN i)))] [("inside",.val (.list (L.map EP))),("read",.val (.list (E' U)))] st (.BinOp (.Constant (.int 2) n p1) .Pow (.Name "k" S) T) (.int ((2^i:Nat):Int)):=fun {st p1 S T n}=>
   PE.of (PE.pow PE.cint (PE.name (p:=.int (i:Int)) (AD 0 rfl)) (M6 H) (al H) dc) (congrArg PV.int (by rw[Ag];rfl))
  refine PE.of (PE.add (a:=((FD L i:Nat):Int)) (b:=((2^i*El U i:Nat):Int)) (PE.of (PE.call (st:=false) (MI D rfl) E.av.sm (.builtin _) (.one (PE.comp (ys:=(zs ((L.filter (GO i)).map fun t=>2^(t.1+t.2.1-i))).map PV.int) ⟨X7 (L.map EP) (fun p=>GO i (Mv p)) (fun p=>.int (((2^((Mv p).1+(Mv p).2.1-i):Nat)):Int)) [("i",.unb),("j",.unb),("ends",.unb)] [("k",.val (.int (i:Int)))] true true ⟨PI.list (PC.list (PE.name (p:=.list (L.map EP)) (AD 2 rfl))),rfl,?_,?_,?_,?_⟩,fun B=>rfl⟩)) (Bk.sum ?_)) (congrArg PV.int ?_)) (PE.of (PE.mul (b:=(El U i:Int)) N (PE.of (PE.mod (PE.call (MI D rfl) E.av.ck.ln (.builtin _) (.one (PE.comp (st:=false) (ys:=AT (((Es 0 U).filter fun q=>q.2==Lr++CN i).map (·.2))) ⟨X7 (E' U) (fun p=>(RX p).2==Lr++CN i) (fun p=>.str (RX p).2) [("last",.unb),("unit",.unb)] [("one",.val (.str (CN i)))] true true ⟨PI.list (PC.list (PE.name (p:=.list (E' U)) (AD 3 rfl))),rfl,?_,?_,?_,?_⟩,fun B=>rfl⟩)) (Bk.lenL ?_)) PE.cint dc) (congrArg PV.int ?_)) (Ul (Oo ?_ ?_))) (congrArg PV.int (by rw[←Int.natCast_mul])))) (congrArg PV.int (by unfold ZT;exact rfl))
  ·exact CS.of ["i","j","ends"] ["k"] rfl rfl (.cons rfl (AD 0 rfl) (KU D (kd:=.cell) rfl dc) .nil) rfl dc rfl rfl rfl
  ·intro p hp;refine Bz (AU.mp hp) fun t W A=>?_;subst A;refine ER (V t W) fun c d=>?_;refine⟨[("i",.val (.int (t.1:Int))),("j",.val (.int (t.2.1:Int))),("ends",.val (.int (t.2.2:Int)))],.tup (.tup _) (.cons (Ah 0 rfl) (.cons (Ah 1 rfl) (.cons (Ah 2 rfl) .nil))),fun Q O=>?_⟩;dsimp only;rw[Pg];refine⟨PB.of (PB.and (PB.cmp (PE.name (p:=.int (t.2.2:Int)) (AD 2 rfl)) PE.cint C5.eqI) fun B=>PB.and (PB.cmp (PE.name (p:=.int (i:Int)) (AD 3 rfl)) (PE.tuple (.two (PE.name (p:=.int (t.1:Int)) (AD 0 rfl)) (PE.name (p:=.int (t.2.1:Int)) (AD 1 rfl)))) (C5.inT (Lay.int (n:=0) _).1 (Mz (n:=0) (fun p hp=>by
    simp only[AN,BH,or_false]at hp;rcases hp with rfl|rfl<;>exact .int _)).1 (Lay.int (n:=64) _).2)) fun B=>PB.andN) ?_,fun hb=>?_⟩
   ·rw[Ya,DY];unfold GO;congr 1;rw[CK,beq_iff_eq,beq_iff_eq];exact Ce (n:=1)
   ·unfold GO at hb;rw[A7,E0,beq_iff_eq,beq_iff_eq,beq_iff_eq]at hb;refine PE.of (PE.pow PE.cint (PE.of (q:=.int ((t.1+t.2.1-i:Nat):Int)) (PE.sub (PE.add (PE.name (p:=.int (t.1:Int)) (AD 0 rfl)) (PE.name (p:=.int (t.2.1:Int)) (AD 1 rfl))) (PE.name (p:=.int (i:Int)) (AD 3 rfl))) (congrArg PV.int ((Fq (hb.2.elim (fun w=>w▸AM _ _) fun w=>w▸CM _ _)).symm))) (AZ _) (jH H c d) dc) (congrArg PV.int (by rw[Ag];rfl))
  ·rw[AH];exact HM I
  ·rw[C1,BB];have f:((fun p=>GO i (Mv p)) ∘ EP)=GO i:=by funext t;show GO i (Mv (EP t))=_;rw[Pg]
   rw[f];unfold zs;rw[BB,BB];congr 1
  ·rw[Ct,AH];have:=CR (GO i) L;exact AA (AA this I) dc
  ·rw[bn];rfl
  ·exact CS.of ["last","unit"] ["one"] rfl rfl (.cons rfl (AD 1 rfl) (KU D (kd:=.cell) rfl dc) .nil) rfl dc rfl rfl rfl
  ·intro p hp;refine Bz (AU.mp hp) fun q h A=>?_;subst A;refine⟨[("last",.val (.int (q.1:Int))),("unit",.val (.str q.2))],.tup (.tup _) (.cons (Ah 0 rfl) (.cons (Ah 1 rfl) .nil)),fun Q O=>?_⟩;dsimp only;rw[RW];exact⟨PB.cmp (PE.name (p:=.str q.2) (AD 1 rfl)) (PE.addS (PE.cstr (x:=Lr)) (PE.name (p:=.str (CN i)) (AD 2 rfl)) (by rw[Ay];have:=L_ i;have e:Lr.length=1:=rfl;exact hY this e)) C5.eqS,fun B=>PE.name (p:=.str q.2) (AD 1 rfl)⟩
  ·unfold E';rw[AH];exact HM J
  ·unfold E' AT;rw[C1,BB,BB];rfl
  ·rw[CV,AH];have:=CR (fun q:Nat×Ax=>q.2==Lr++CN i) (Es 0 U);exact AA (AA this J) dc
  ·rw[CV,AH];exact FN (b:=2) dc
  ·have:El U i<2:=CO _ dc;exact AZ _
  ·have:El U i<2:=CO _ dc;exact jT this
 ·decide
 ·have e:Internal.numbered (Cm Ls)=(AW 5).map fun i:Nat=>PV.tup [.int (i:Int),.str (CN i)]:=rfl;rw[e,Ck.mpr (fun B B=>rfl),BB];unfold tableOf Bj
  (rw[BB])<;>rfl
theorem Xw{i:Nat}(h:i<4):Db (i:Int) ("1248":Ax).length=some i∧("1248":Ax).cps[i]?=some (("1248":Ax).cps.getD i 0):=by
 have:i=0∨i=1∨i=2∨i=3:=eu h;rcases this with h|h|h|h<;>subst h<;>exact⟨rfl,rfl⟩
set_option maxHeartbeats 2000000 in
theorem XW(H:Mj F Z.C){s:LS}{b:Nat}(hb:s.ba= .val (.int (b:Int)))(A:b<29)(W:M7 b)
  (B:EM Z (k+10) F (CH {s with wo:=.val (.list (AT (wordsOf b)))}) [] (DU.drop 11) fl):EM Z (k+10) F (CH s) [] (DU.drop 10) fl:=by
 have E:(Ap "base",Internal.Slot.val (.int (b:Int)))∈CH s:=by rw[←hb];exact AD 6 rfl
 have D:=W.aw;have I:(Ox QP).length=10:=by decide+kernel
 conv=>arg 6;whnf
 refine EM.cons (P1.assign (p:=.list (AT (wordsOf b))) (PE.of (PE.slice (xs:=AT E7) (PE.of (PE.addL (xs:=AT (Ox QP)) (ys:=AT ((Aw 10 23).map Z7)) (PF.pe (PF.words (PE.cstr (x:=QP)) (by decide+kernel) (by decide+kernel))) (PE.comp ⟨X7 (Bj (Aw 10 (33-10))) (fun G=>true) (fun p=>.str (Z7 (Ha p))) [("k",.unb)] [] true true ⟨PI.range2N (H.kind _ rfl) H.av.bi.rg (PE.cint (i:=((10:Nat):Int))) (PE.cint (i:=((33:Nat):Int))) dc dc rfl,rfl,?_,?_,?_,?_⟩,fun G=>rfl⟩) (by rw[CV,CV,I];decide)) (congrArg PV.list ?_)) (.some (PE.name (AC _ E))) (.some (PE.of (PE.add (PE.name (AC _ E)) PE.cint) (congrArg PV.int (by exact rfl:(b:Int)+((5:Nat):Int)=((b+5:Nat):Int))))) .none dc (by rw[CV,D];decide)) (congrArg PV.list ?_)) (Ah 14 rfl) (HG H.sc fun G=>rfl)) B
 ·exact CS.of ["k"] [] rfl rfl .nil rfl dc rfl rfl rfl
 ·intro p hp;refine Bz (Gm hp) fun i hi J=>?_;subst J;rw[C8]at hi;refine⟨[("k",.val (.int (i:Int)))],.name (Ah 0 rfl),fun N O=>⟨rfl,fun G=>?_⟩⟩;show PE Z (k+10) N _ _ true _ (.str (Z7 i));have P:i % 4<4:=CO _ dc;refine ER (Xw P) fun Q R=>?_;have L:(Uj "0" ((i/4:Nat):Int)).length≤8:=by
   have h:∀n,n<9→(Uj "0" ((n:Nat):Int)).length≤8:=by decide+kernel
   exact h _ (F6 (AF hi.2 dc))
  have M:MulOk "0" ((i/4:Nat):Int):=by
   have h:∀n,n<9→MulOk "0" ((n:Nat):Int):=by
    intro n hn;have:n=0∨n=1∨n=2∨n=3∨n=4∨n=5∨n=6∨n=7∨n=8:=i4 hn;rcases this with h|h|h|h|h|h|h|h|h<;>subst h<;>(unfold MulOk;decide)
   exact h _ (by exact F6 (AF hi.2 dc))
  exact PE.addS (PE.addS (PE.cstr (x:="0x")) (PE.itemS (PE.cstr (x:="1248")) (PE.of (PE.mod (PE.name (p:=.int (i:Int)) (AD 0 rfl)) PE.cint dc) (congrArg PV.int (FN (a:=i) (b:=4) dc))) Q R dc) (by show(2:Nat)+1≤Ey;decide)) (PE.mulS (PE.cstr (x:="0")) (PE.of (PE.fdiv (PE.name (p:=.int (i:Int)) (AD 0 rfl)) PE.cint dc dc) (congrArg PV.int (HL (a:=i) (b:=4) dc))) M) (by
   rw[Ay,A2];have S:(("0x":Ax)).length=2:=rfl;have T:(⟨#[("1248":Ax).cps.getD (i % 4) 0]⟩:Ax).length=1:=rfl;exact hF L S T)
 ·decide
 ·rw[Ck.mpr (fun G G=>rfl)];unfold Bj AT;rw[BB,BB];rfl
 ·unfold E7 AT;rw[Ac]
 ·rw[JM (Ka (a:=b) (b:=b+5) (.inl rfl) (by rw[CV,D];exact jN A) (.inl rfl) (by rw[CV,D];exact jO A))];unfold wordsOf AT;rw[←Hk,←Ff,(by exact gQ:b+5-b=5)]
end
theorem SC(r i:Nat):(IJ (KI (r:Int) (2^(i:Int).toNat)) 1 !=0)=r.testBit i:=by
 have e:(2:Int)^(i:Int).toNat=((2^i:Nat):Int):=by rw[Ag];rfl
 have A:KI (r:Int) ((2^i:Nat):Int)=((r/2^i:Nat):Int):=HL (CU (Gq i));rw[e,A,show(1:Int)=((1:Nat):Int) from rfl,Js,Nat.and_one_is_mod,←Nat.toNat_testBit];cases r.testBit i<;>rfl
theorem W7(W:M7 b)(r:Nat):(∀x∈O2 (wordsOf b) r,x.length≤30)∧(O2 (wordsOf b) r).length≤5:=by
 unfold O2;split
 ·exact⟨by intro x hx;simp only[AN,BH,or_false]at hx;subst hx;decide,dc⟩
 ·refine⟨fun x hx=>?_,?_⟩
  ·refine Bz (AU.mp hx) fun i hi A=>?_;subst A;rw[AE];cases h:(wordsOf b)[i]? with
   |none=>exact BI _
   |some y=>
    have:=B2 h;unfold wordsOf at this;exact W.wl y (WI (F4 this))
  ·rw[AH];have:=CR (fun k=>r.testBit k) (AW 5)
   rwa [Bm]at this
theorem RN(W:M7 b)(hb:b<29):(wordsOf b).length=5:=by
 unfold wordsOf;rw[CC,Ca,W.aw];exact ey hb
section
variable{Z:Zx}{k:Nat}{F:Fx}
set_option maxHeartbeats 2000000 in
theorem Xa(I:Mj F Z.C)(hb:s.ba= .val (.int (b:Int)))(f:s.tb= .val (.list (Bj T)))(j:s.wo= .val (.list (AT (wordsOf b))))(E:b<29)(W:M7 b)(R:∀r∈T,r<32)(M:T.length≤100)
  (J:EM Z (k+10) F (CH s) [] (DU.drop 12) fl):EM Z (k+10) F (CH s) [] (DU.drop 11) fl:=by
 have S:(Ap "base",Internal.Slot.val (.int (b:Int)))∈CH s:=by rw[←hb];exact AD 6 rfl
 have N:(Ap "table",Internal.Slot.val (.list (Bj T)))∈CH s:=by rw[←f];exact AD 26 rfl
 have U:(Ap "words",Internal.Slot.val (.list (AT (wordsOf b))))∈CH s:=by rw[←j];exact AD 14 rfl
 refine K7 I.av.pf.pf fun pa l c m=>?_;have L:=RN W E;have O:Lay 64 (.list (AT (T.map fun r=>D' (r*2^b)))):=Lay.list (n:=63) fun p hp=>by
  refine Bz (AU.mp hp) fun x hx A=>?_;subst A;refine Bz (AU.mp hx) fun r hr A=>?_;subst A;exact .str (W.pa r (R r hr))
 conv=>arg 6;whnf
 refine EM.cons (P1.ifF (PB.of (PB.cmp (PE.comp (ys:=AT (T.map fun r=>D' (r*2^b))) ⟨X7 (Bj T) (fun D=>true) (fun p=>.str (D' (Ha p*2^b))) [("one",.unb)] [("base",.val (.int (b:Int)))] true true ⟨PI.list (PC.list (PE.name (AC _ N))),rfl,?_,?_,?_,?_⟩,fun D=>rfl⟩) (PE.comp (ys:=AT (T.map fun r=>D' (r*2^b))) ⟨X7 (Bj T) (fun D=>true) (fun p=>.str (Cf ", " (O2 (wordsOf b) (Ha p)))) [("one",.unb)] [("words",.val (.list (AT (wordsOf b))))] true true ⟨PI.list (PC.list (PE.name (AC _ N))),rfl,?_,?_,?_,?_⟩,fun D=>rfl⟩) (C5.neRefl O)) rfl) PS.nil) J
 ·exact CS.of ["one"] ["base"] rfl rfl (.cons rfl (AC _ S) (by rw[I.kind _ rfl];decide) .nil) rfl dc rfl rfl rfl
 ·intro p hp;refine Bz (Gm hp) fun r hr A=>?_;subst A;have H:=R r hr;refine⟨[("one",.val (.int (r:Int)))],.name (Ah 0 rfl),fun V G=>⟨rfl,fun D=>?_⟩⟩;show PE Z (k+10) V _ _ false _ (.str (D' (r*2^b)));have P:r*2^b<2^33:=by
   have o:2^b≤2^28:=Bq dc (cy E);have t:r*2^b≤31*2^28:=Lx (cx H) o;have v:(31*2^28:Nat)<2^33:=dc;exact AY t dc
  exact PE.call (st:=false) (MI G rfl) m c.t.fn (.one (PE.of (PE.shl (PE.name (p:=.int (r:Int)) (AD 0 rfl)) (PE.name (p:=.int (b:Int)) (AD 1 rfl)) (AZ _) (ez E) (by omega)) (congrArg PV.int (show(r:Int)*2^(b:Int).toNat=((r*2^b:Nat):Int) by rw[Ag];rfl)))) (T2 (k:=k+9) c I.av.pf.fl I.av.pf.hx I.av.bi.rg P (W.ld.pj r H))
 ·rw[A'];exact SJ M
 ·rw[Ck.mpr (fun D D=>rfl)];unfold Bj AT;rw[BB,BB];rfl
 ·exact CS.of ["one"] ["words"] rfl rfl (.cons rfl (AC _ U) (by rw[I.kind _ rfl];decide) .nil) rfl dc rfl rfl rfl
 ·intro p hp;refine Bz (Gm hp) fun r hr A=>?_;subst A;refine⟨[("one",.val (.int (r:Int)))],.name (Ah 0 rfl),fun V G=>⟨rfl,fun D=>?_⟩⟩;show PE Z (k+10) V _ _ false _ (.str (Cf ", " (O2 (wordsOf b) r)));refine ER (W7 W r) fun a Q=>?_;refine PE.methE (st:=false) PE.cstr (.one (PE.of (q:=.list ((O2 (wordsOf b) r).map PV.str)) (PE.or (b:=decide (0<((AW 5).filter fun k=>r.testBit k).length)) (p:=.list (AT (((AW 5).filter fun k=>r.testBit k).map fun k=>(wordsOf b).getD k Ai))) (q:=.list (AT ["0x0"])) (PE.comp ⟨X7 (Bj (AW 5)) (fun p=>r.testBit (Ha p)) (fun p=>.str ((wordsOf b).getD (Ha p) Ai)) [("k",.unb)] [("one",.val (.int (r:Int))),("words",.val (.list (AT (wordsOf b))))] false true ⟨?_,rfl,?_,?_,?_,?_⟩,fun D=>rfl⟩) ?_ fun D=>PE.and1 (PE.list (.one PE.cstr))) ?_)) (Dh.join (joinOk_of (B:=30) a ?_))
  ·rw[←Eo];exact PI.range1 (MI G rfl) I.av.bi.rg (n:=5) (PE.cint (i:=((5:Nat):Int))) dc
  ·exact CS.of ["k"] ["one","words"] rfl rfl (.cons rfl (AD 0 rfl) (KU G (kd:=.cell) rfl dc) (.cons rfl (AD 1 rfl) (KU G (kd:=.free) rfl dc) .nil)) rfl dc rfl rfl rfl
  ·intro p hp;refine Bz (Gm hp) fun i hi A=>?_;subst A;rw[An]at hi;refine⟨[("k",.val (.int (i:Int)))],.name (Ah 0 rfl),fun u d=>⟨?_,fun D=>?_⟩⟩
   ·refine PB.of (PB.plain (PE.band (PE.shr (PE.name (p:=.int (r:Int)) (AD 1 rfl)) (PE.name (p:=.int (i:Int)) (AD 0 rfl)) (M6 hi)) PE.cint) I3.int) (SC r i)
   ·exact PE.itemL (PE.name (p:=.list (AT (wordsOf b))) (AD 2 rfl)) (PE.name (p:=.int (i:Int)) (AD 0 rfl)) (C' (k:=i) (M6 hi) (by rw[CV];exact BR.mpr (L▸hi))) (by rw[Ag];exact H3 (TV L hi)) (by rw[CV];exact ae L)
  ·decide
  ·unfold Bj AT;rw[C1,BB,BB];rfl
  ·have:=I3.list (Z:=Z) (k:=k+10) (xs:=AT (((AW 5).filter fun k=>r.testBit k).map fun k=>(wordsOf b).getD k Ai)) (by
    rw[CV,AH];have:=CR (fun k=>r.testBit k) (AW 5);rw[Bm]at this;exact AA this dc)
   rwa [CV,AH]at this
  ·unfold O2;by_cases h:(AW 5).filter (fun k=>r.testBit k)=[]
   ·rw[if_pos h,h];rfl
   ·rw[if_neg h,if_pos (by rw[decide_eq_true_iff];exact EW.mpr h)];rfl
  ·have e:((", ":Ax)).length=2:=rfl;rw[e];exact AA (BA (B3 30 Q) (B3 2 Q)) dc
 ·rw[A'];exact SJ M
 ·rw[Ck.mpr (fun D D=>rfl)];unfold Bj AT;rw[BB,BB];refine IP fun r hr=>?_;show PV.str (D' (r*2^b))=PV.str (Cf ", " (O2 (wordsOf b) r));rw[W.pt r (R r hr)]
end
noncomputable def T'(x:Ax):Ax:=⟨#[x.cps.getD (x.length-1) 0]⟩
structure Ta(U:List Ax)(E:List En):Prop where
 ne:∀q∈Es 0 U,q.2.length≠0∧q.2.length≤1000
 fe:((Es 0 U).filter fun q=>B6 Ls (T' q.2)).map (·.2)=E.map uS
 ok:Q5 E
noncomputable def sumStep(S:List Nat)(x:Nat):List Nat:=if Vr (zs S) (x:Int) 0 (S.length:Nat)=Sk (zs S) (x:Int) 0 (S.length:Nat) then M0 S (Sk (zs S) (x:Int) 0 (S.length:Nat)).toNat x else S
noncomputable def Gh(one:Nat)(A S:List Nat):List Nat:=A.foldl (fun S o=>sumStep S (o^^^one)) S
noncomputable def EH(R S:List Nat):List Nat:=R.foldl (fun S one=>Gh one S S) S
theorem ND(S:List Nat)(x:Nat):(sumStep S x).length≤S.length+1:=by
 unfold sumStep;split
 ·rw[OT];exact AK _
 ·exact Vv
theorem U7(one:Nat):∀(A S:List Nat),(Gh one A S).length≤S.length+A.length:=by
 intro B
 induction B with
 |nil=>
  intro S;exact AK _
 |cons o A D=>
  intro S;have E:=D (sumStep S (o^^^one));have F:=ND S (o^^^one);show(Gh one A (sumStep S (o^^^one))).length≤_;rw[AP];exact AA E (AA (Bf F _) (by rw[Bb];exact AK _))
section
variable{Z:Zx}{k:Nat}{F:Fx}
theorem L4(B:List Nat):(zs B).map PV.int=Bj B:=by unfold zs Bj;rw[BB];rfl
theorem Xc(D:Mj F Z.C)(hb:s.ba= .val (.int (b:Int)))(M:s.tb= .val (.list (Bj T)))(N:s.wo= .val (.list (AT (wordsOf b))))(O:Oi (wordsOf b) b)(B:T.length=5)(P:∀r∈T,r<32)
  (A:EM Z (k+10) F (CH {s with od:=.val (.list ((Fk T 5).map PV.int)),ot:=.val (.list ((Gj T 5).map PV.int)),bs:=.val (.list (Bj (FZ T)))}) [] (DU.drop 13) fl):EM Z (k+10) F (CH s) [] (DU.drop 12) fl:=by
 have E:(Ap "base",Internal.Slot.val (.int (b:Int)))∈CH s:=by rw[←hb];exact AD 6 rfl
 have G:(Ap "table",Internal.Slot.val (.list (Bj T)))∈CH s:=by rw[←M];exact AD 26 rfl
 have H:(Ap "words",Internal.Slot.val (.list (AT (wordsOf b))))∈CH s:=by rw[←N];exact AD 14 rfl
 refine dZ D.av.bs fun ba R L Q I J=>?_
 conv=>arg 6;whnf
 refine EM.cons (P1.assignB (PE.of (q:=.tup [.list ((Fk T 5).map PV.int),.list ((Gj T 5).map PV.int),.list (Bj (FZ T))]) (PE.call (D.kind _ rfl) Q L.t.fn (.three (PE.of (PE.addL (PE.name (AC _ G)) (PE.list (.two PE.cint (PE.neg PE.cint))) (by rw[A'];show _+2≤_;exact h_ B)) (congrArg PV.list ?_)) (PE.name (AC _ H)) (PE.name (AC _ E))) (aN (k:=k+5) L I J D.av.bi D.av.pf O B P)) (by rw[L4])) (.tup (.tup _) (.cons (ρ₁:=CH {s with od:=.val (.list ((Fk T 5).map PV.int))}) (Ah 15 rfl) (.cons (ρ₁:=CH {s with od:=.val (.list ((Fk T 5).map PV.int)),ot:=.val (.list ((Gj T 5).map PV.int))}) (Ah 16 rfl) (.cons (Ah 17 rfl) .nil))))) A;unfold rowsOf Bj;rw[Ac,BB];rfl
set_option maxHeartbeats 1000000 in
theorem Zr(A:Mj F Z.C){s:LS}{U:List Ax}{En:List En}(hr:s.re= .val (.list (E' U)))(E:s.bs= .val (.list (Bj B)))(H:Ta U En)(G:(Es 0 U).length≤1000)(I:B.length≤1000)
  (D:EM Z (k+10) F (CH {s with rg:=.val (.list (Bj (DS En))),su:=.own (Bj [0]),pa:=.own (Bj [0]),rf:=.own [],kp:=.val (.list (Bj B))}) [] (DU.drop 14) fl):EM Z (k+10) F (CH s) [] (DU.drop 13) fl:=by
 have J:(Ap "read",Internal.Slot.val (.list (E' U)))∈CH s:=by rw[←hr];exact AD 12 rfl
 have hb:(Ap "basis",Internal.Slot.val (.list (Bj B)))∈CH s:=by rw[←E];exact AD 17 rfl
 refine K7 A.av.rg fun T rf O Q=>?_;have L:(E' U).length≤1000:=by unfold E';rw[AH];exact G
 have hz:∀{st:Bool}{n:Nat}{p:JE},PE Z (k+10) F (CH s) [] st (.Constant (.int ((0:Nat):Int)) n p) (.int ((0:Nat):Int)):=PE.cint
 conv=>arg 6;whnf
 refine EM.cons (P1.assignD (xs:=["rings","sums","parity","refused","kept"]) (iks:=[.val (.list (Bj (DS En))),.own (Bj [0]),.own (Bj [0]),.own [],.val (.list (Bj B))]) (.val (PE.call (st:=true) (A.kind _ rfl) Q O.t.fn (.one (PE.comp (ys:=FT En) ⟨X7 (E' U) (fun p=>B6 Ls (T' (RX p).2)) (fun p=>.str (RX p).2) [("last",.unb),("unit",.unb)] [] true true ⟨PI.list (PC.list (PE.name (AC _ J))),rfl,?_,?_,?_,?_⟩,fun P=>rfl⟩)) (Za (k:=k+9) O A.av.ck.en A.av.ck.ln A.av.bi.rg H.ok)) (.own (PO.list (.one hz)) (.own (PO.list (.one hz)) (.own (PO.list .nil) (.val (PF.pe (PF.copy (A.kind _ rfl) A.av.ls (PE.name (AC _ hb)) (by rw[A'];exact HM I))) .nil))))) (.cons (.cons (.cons (.cons (.cons .nil))))) rfl (IV.val (ρ₁:=CH {s with rg:=.val (.list (Bj (DS En)))}) (Ah 18 rfl) (.own (ρ₁:=CH {s with rg:=.val (.list (Bj (DS En))),su:=.own (Bj [0])}) (Ah 19 rfl) (.own (ρ₁:=CH {s with rg:=.val (.list (Bj (DS En))),su:=.own (Bj [0]),pa:=.own (Bj [0])}) (Ah 20 rfl) (.own (ρ₁:=CH {s with rg:=.val (.list (Bj (DS En))),su:=.own (Bj [0]),pa:=.own (Bj [0]),rf:=.own []}) (Ah 21 rfl) (.val (Ah 22 rfl) .nil))))) rfl (EZ A.sc fun P=>rfl) (by show(5:Nat)≤100;decide)) D
 ·exact CS.of ["last","unit"] [] rfl rfl .nil rfl dc rfl rfl rfl
 ·intro p hp;refine Bz (AU.mp hp) fun q R M=>?_;subst M;refine ER (H.ne q R) fun hn hl=>?_;refine⟨[("last",.val (.int (q.1:Int))),("unit",.val (.str q.2))],.tup (.tup _) (.cons (Ah 0 rfl) (.cons (Ah 1 rfl) .nil)),fun V S=>?_⟩;dsimp only;rw[RW];refine⟨PB.cmp (PE.itemS (PE.name (p:=.str q.2) (AD 1 rfl)) (PE.neg PE.cint) (j:=q.2.length-1) ?_ ?_ (HM hl)) (PE.cstr (x:=Ls)) C5.inS,fun P=>PE.name (p:=.str q.2) (AD 1 rfl)⟩
  ·unfold Db;simp;exact kY (Cd hn)
  ·have N:q.2.length-1<q.2.cps.size:=by show q.2.length-1<q.2.length;exact JG (Cd hn) dc
   rw[Array.getD_eq_getD_getElem?,Ev N];rfl
 ·exact HM L
 ·unfold E' FT AT;rw[←H.fe,C1,BB,BB];rfl
set_option maxHeartbeats 1000000 in
theorem Zq(A:Mj F Z.C){s:LS}{one o:Nat}(U:s.on= .val (.int (one:Int)))(V:s.ol= .val (.int (o:Int)))(E:S.length≤100000):
  PS Z (k+10) F (CH {s with su:=.own ((zs S).map PV.int)}) [] (BW (FQ 0 (BW (FQ 14 DU)))) .next (CH {s with su:=.own ((zs (sumStep S (o^^^one))).map PV.int)}):=by
 have G:(Ap "one",Internal.Slot.val (.int (one:Int)))∈CH {s with su:=.own ((zs S).map PV.int)}:=by rw[←U];exact AD 3 rfl
 have H:(Ap "old",Internal.Slot.val (.int (o:Int)))∈CH {s with su:=.own ((zs S).map PV.int)}:=by rw[←V];exact AD 23 rfl
 have B:(Ap "sums",Internal.Slot.own ((zs S).map PV.int))∈CH {s with su:=.own ((zs S).map PV.int)}:=AD 19 rfl;refine Hd A.av.bi.ir fun d rf N W a=>?_;refine Hd A.av.bi.br fun b e D O I=>?_;refine Hd A.av.bi.bl fun f i J c P=>?_;have hx:∀{st:Bool}{p1 Q R:JE},PE Z (k+10) F (CH {s with su:=.own ((zs S).map PV.int)}) [] st (.BinOp (.Name "old" p1) .BitXor (.Name "one" Q) R) (.int ((o^^^one:Nat):Int)):=fun {st p1 Q R}=>
  PE.of (PE.bxor (PE.name (AC _ H)) (PE.name (AC _ G))) (congrArg PV.int (IA o one))
 have L:=k2 (k:=k+9) (xs:=zs S) (x:=((o^^^one:Nat):Int)) J c A.av.bi.ln (by rw[Ct];exact cb E);have M:=k1 (k:=k+9) (xs:=zs S) (x:=((o^^^one:Nat):Int)) D O A.av.bi.ln (by rw[Ct];exact cb E);have T:=kz (k:=k+8) (xs:=zs S) (x:=((o^^^one:Nat):Int)) N W D O I A.av.bi.ln (by rw[Ct];exact cb E);rw[Ct]at L M;rw[Ss,Ct]at T
 conv=>arg 6;whnf
 unfold sumStep;by_cases h:Vr (zs S) ((o^^^one:Nat):Int) 0 (S.length:Nat)=Sk (zs S) ((o^^^one:Nat):Int) 0 (S.length:Nat)
 ·rw[if_pos h];refine PS.one (P1.ifT (PB.of (PB.cmp (PE.call (A.kind _ rfl) P J.fn (.two (PE.nameO (AC _ B)) hx) L) (PE.call (A.kind _ rfl) I D.fn (.two (PE.nameO (AC _ B)) hx) M) C5.eqI) (by rw[h];simp)) (PS.one (P1.ins (Li.call B (A.kind _ rfl) a N.fn (.one hx) T (Ah 19 rfl)) A.inter)))
 ·rw[if_neg h];exact PS.one (P1.ifF (PB.of (PB.cmp (PE.call (A.kind _ rfl) P J.fn (.two (PE.nameO (AC _ B)) hx) L) (PE.call (A.kind _ rfl) I D.fn (.two (PE.nameO (AC _ B)) hx) M) C5.eqI) (by rw[beq_eq_false_iff_ne];exact h)) PS.nil)
theorem Zp{s:LS}{one:Nat}(G:s.on= .val (.int (one:Int))):∀(A S:List Nat)(ol:Internal.Slot),S.length+A.length≤100000→
  ∃B,∀(F:Fx),Mj F Z.C→Loop Z (k+10) F [] (DP (FQ 0 (BW (FQ 14 DU)))) (BW (FQ 0 (BW (FQ 14 DU)))) (EG (FQ 0 (BW (FQ 14 DU)))) (Bj A) (CH {s with su:=.own ((zs S).map PV.int),ol:=ol}) .next
   (CH {s with su:=.own ((zs (Gh one A S)).map PV.int),ol:=B}):=by
 intro D
 induction D with
 |nil=>
  intro S ol _;exact⟨ol,fun F E=>.done fun wr=>PS.nil⟩
 |cons o A H=>
  intro S ol h;rw[AP]at h;have hl:=ND S (o^^^one);refine B8 (H (sumStep S (o^^^one)) (.val (.int (o:Int))) (AA (Bf hl _) (by rw[Bb];exact h))) fun B hr=>?_;exact⟨B,fun F E=>.next (ρ₁:=CH {s with su:=.own ((zs S).map PV.int),ol:=.val (.int (o:Int))}) (.name (Ah 23 rfl)) (fun wr=>Zq (s:={s with ol:=.val (.int (o:Int))}) (S:=S) (one:=one) E.loop G rfl (AA (AM _ _) h)) (hr F E)⟩
theorem Zo{s:LS}:∀(R S:List Nat)(on ol:Internal.Slot),2^R.length*S.length≤50000→
  ∃B D,∀(F:Fx),Mj F Z.C→Loop Z (k+10) F [] (DP (FQ 14 DU)) (BW (FQ 14 DU)) (EG (FQ 14 DU)) (Bj R) (CH {s with su:=.own ((zs S).map PV.int),on:=on,ol:=ol}) .next
   (CH {s with su:=.own ((zs (EH R S)).map PV.int),on:=B,ol:=D}):=by
 intro G
 induction G with
 |nil=>
  intro S on ol _;exact X2 on ol fun F H=>.done fun wr=>PS.nil
 |cons r R M=>
  intro S on ol h;rw[AP,Dt]at h;have hl:=U7 r S S;have I:S.length≤50000:=AA (by have:1≤2^R.length*2:=AA dc (B3 2 (ZH (n:=R.length)));calc S.length=1*S.length:=by exact f5
                                                                                          _≤2^R.length*2*S.length:=B3 _ this) h
  refine B8 (Zp (Z:=Z) (k:=k) (s:={s with on:=.val (.int (r:Int))}) (one:=r) rfl S S ol (BA I I)) fun J L=>?_;refine P3 (M (Gh r S S) (.val (.int (r:Int))) J (AA (BE _ (by exact hZ hl:(Gh r S S).length≤2*S.length)) (by rw[←J7];exact h))) fun B D hr=>?_;refine X2 B D fun F H=>.next (ρ₁:=CH {s with su:=.own ((zs S).map PV.int),on:=.val (.int (r:Int)),ol:=ol}) (.name (Ah 3 rfl)) (fun wr=>?_) (hr F H);have A:=H.loop (wr:=wr);generalize F.loop wr=N at A;have E:=L N A
  conv=>arg 6;whnf
  refine PS.one (P1.for (PI.list (PC.list (PF.pe (PF.up (st:=true) (PF.copy (st:=false) (xs:=Bj S) (A.kind _ rfl) A.av.ls (PE.of (PE.nameO (xs:=(zs S).map PV.int) (AD 19 rfl)) (by rw[L4])) (by rw[A'];exact AA I dc)) (by unfold Bj;rw[Nl];exact Al.mpr fun O O=>rfl))))) rfl E)
theorem Zn(G:Mj F Z.C){s:LS}{R:List Nat}(H:s.rg= .val (.list (Bj R)))(I:R.length≤10)
  (A:∀on ol,EM Z (k+10) F (CH {s with su:=.own ((zs (EH R [0])).map PV.int),on:=on,ol:=ol}) [] (DU.drop 15) fl):EM Z (k+10) F (CH {s with su:=.own (Bj [0])}) [] (DU.drop 14) fl:=by
 have B:(Ap "rings",Internal.Slot.val (.list (Bj R)))∈CH {s with su:=.own (Bj [0])}:=by rw[←H];exact AD 18 rfl
 obtain⟨D,E,h⟩:=Zo (Z:=Z) (k:=k) (s:=s) R [0] s.on s.ol (by
  have:2^R.length≤2^10:=Bq dc I;show 2^R.length*1≤_;exact ha this)
 conv=>arg 6;whnf
 exact EM.cons (P1.for (PI.list (PC.list (PE.name (AC _ B)))) rfl (h F G)) (A D E)
end
noncomputable def GR:Nat→List Nat
 |0=> [0]
 |n+1=>GR n++(GR n).map fun x=>1-x
theorem GR.c2:GR (n+1)=GR n++(GR n).map fun x=>1-x:=rfl
noncomputable def Ho:List Nat:=GR 5
noncomputable def SE(hid T:List Nat)(one k:Nat):Bool:=(one.testBit k && hid.contains k) || Ho.getD (one &&& T.getD k 0) 0 !=0
noncomputable def GQ(hid T:List Nat):List Nat:=(AW 32).filter fun one=>((AW 5).filter (SE hid T one)).isEmpty
theorem Zg:Ho.length=32:=dc
theorem cU{i:Nat}(h:i<5):Db (i:Int) Ls.length=some i∧Ls.cps[i]?=some (97+i):=by
 have A:i=0∨i=1∨i=2∨i=3∨i=4:=Ma h;rcases A with h|h|h|h|h<;>subst h<;>exact⟨rfl,rfl⟩
theorem JN(l:List Nat):Lay 64 (.list (Bj l)):=Lay.list (n:=63) fun p hp=>by
 refine Bz (Gm hp) fun i _ A=>?_;subst A;exact .int _
theorem Vg(l:List Nat):DB (PV.list (Bj l)).d (PV.list []).d=l.isEmpty:=by cases l<;>rfl
section
variable{Z:Zx}{k:Nat}{F:Fx}
set_option maxHeartbeats 1000000 in
theorem Zs(G:Mj F Z.C){s:LS}{T hid:List Nat}(P:s.tb= .val (.list (Bj T)))(Q:s.hi= .val (.list (Bn hid)))(hp:s.pa= .own (Bj Ho))(B:T.length=5)(R:∀r∈T,r<32)(J:∀x∈hid,x≤5)
  (H:EM Z (k+10) F (CH {s with ev:=.val (.list (Bj (GQ hid T)))}) [] (DU.drop 17) fl):EM Z (k+10) F (CH s) [] (DU.drop 16) fl:=by
 have L:(Ap "table",Internal.Slot.val (.list (Bj T)))∈CH s:=by rw[←P];exact AD 26 rfl
 have M:(Ap "hidden",Internal.Slot.val (.list (Bn hid)))∈CH s:=by rw[←Q];exact AD 7 rfl
 have N:(Ap "parity",Internal.Slot.own (Bj Ho))∈CH s:=by rw[←hp];exact AD 20 rfl
 have hl:=Zg
 conv=>arg 6;whnf
 refine EM.cons (P1.assignComp (ys:=Bj (GQ hid T)) false ⟨X7 (Bj (AW 32)) (fun p=>((AW 5).filter (SE hid T (Ha p))).isEmpty) (fun p=>p) [("one",.unb)] [("hidden",.val (.list (Bn hid))),("parity",.own (Bj Ho)),("table",.val (.list (Bj T)))] true true ⟨?_,rfl,?_,?_,?_,?_⟩,fun D=>rfl⟩ (ρ':=CH {s with ev:=.val (.list (Bj (GQ hid T)))}) ?_ (HG G.sc fun D=>rfl)) H
 ·rw[←Eo];exact PI.range1 (G.kind _ rfl) G.av.bi.rg (n:=32) (PE.cint (i:=((32:Nat):Int))) dc
 ·exact CS.of ["one"] ["hidden","parity","table"] rfl rfl (.cons rfl (AC _ M) (by rw[G.kind _ rfl];decide) (.cons rfl (AC _ N) (by rw[G.kind _ rfl];decide) (.cons rfl (AC _ L) (by rw[G.kind _ rfl];decide) .nil))) rfl dc rfl rfl rfl
 ·intro p hp;refine Bz (Gm hp) fun r hr I=>?_;subst I;rw[An]at hr;refine⟨[("one",.val (.int (r:Int)))],.name (Ah 0 rfl),fun a A=>⟨?_,fun D=>PE.name (p:=.int (r:Int)) (AD 0 rfl)⟩⟩;refine PB.of (PB.cmp (PE.comp (st:=false) (ys:=Bj ((AW 5).filter (SE hid T r))) ⟨X7 (Bj (AW 5)) (fun p=>SE hid T r (Ha p)) (fun p=>p) [("k",.unb)] [("hidden",.val (.list (Bn hid))),("one",.val (.int (r:Int))),("parity",.own (Bj Ho)),("table",.val (.list (Bj T)))] false true ⟨?_,rfl,?_,?_,?_,?_⟩,fun D=>rfl⟩) (PE.list .nil) (C5.eqD (JN _).1 (JN []).1 (.inl (JN _).2))) (Vg _)
  ·rw[←Eo];exact PI.range1 (MI A rfl) G.av.bi.rg (n:=5) (PE.cint (i:=((5:Nat):Int))) dc
  ·exact CS.of ["k"] ["hidden","one","parity","table"] rfl rfl (.cons rfl (AD 1 rfl) (KU A (kd:=.free) rfl dc) (.cons rfl (AD 0 rfl) (KU A (kd:=.cell) rfl dc) (.cons rfl (AD 2 rfl) (KU A (kd:=.free) rfl dc) (.cons rfl (AD 3 rfl) (KU A (kd:=.free) rfl dc) .nil)))) rfl dc rfl rfl rfl
  ·intro p hp;refine Bz (Gm hp) fun i hi I=>?_;subst I;rw[An]at hi;refine ER (cU hi) fun S U=>?_;have V:T.getD i 0<32:=by
    rw[AE,AL (TV B hi)];exact R _ (BY _)
   have E:r &&& T.getD i 0<32:=AY dO hr;refine⟨[("k",.val (.int (i:Int)))],.name (Ah 0 rfl),fun W O=>⟨?_,fun D=>PE.name (p:=.int (i:Int)) (AD 0 rfl)⟩⟩;refine PB.of (PB.or (PB.and (PB.plain (PE.band (PE.shr (PE.name (p:=.int (r:Int)) (AD 2 rfl)) (PE.name (p:=.int (i:Int)) (AD 0 rfl)) (M6 hi)) PE.cint) I3.int) fun D=>PB.and (PB.inRow (PE.of (PE.itemS (PE.cstr (x:=Ls)) (PE.name (p:=.int (i:Int)) (AD 0 rfl)) S U dc) (congrArg PV.str ((if_pos hi).symm:(⟨#[97+i]⟩:Ax)=CN i))) (PE.name (p:=.list (Bn hid)) (AD 1 rfl)) (Qy hi) J) fun D=>PB.andN) fun D=>PB.or (PB.plain (PE.itemL (PE.nameO (xs:=Bj Ho) (AD 3 rfl)) (PE.of (q:=.int ((r &&& T.getD i 0:Nat):Int)) (PE.band (PE.name (p:=.int (r:Int)) (AD 2 rfl)) (PE.itemL (PE.name (p:=.list (Bj T)) (AD 4 rfl)) (PE.name (p:=.int (i:Int)) (AD 0 rfl)) (C' (k:=i) (M6 hi) (by rw[A'];exact BR.mpr (B▸hi))) (by rw[Ag];exact Ji (TV B hi)) (by rw[A'];exact ae B))) (congrArg PV.int (Js r _))) (C' (k:=((r &&& T.getD i 0:Nat):Int)) (AZ _) (by rw[A'];exact BR.mpr (hl▸E))) (by rw[Ag];exact Ji (hl▸E)) (by rw[A'];exact AA (BC hl) dc)) I3.int) fun D=>PB.orN) ?_;rw[SC,Sj,DY];show _=SE hid T r (B0 (i:Int));rw[Ag];unfold SE;congr 1;rw[CK,bne_iff_ne,bne_iff_ne];exact gA
  ·decide
  ·unfold Bj;rw[C1,Ki];rfl
 ·rw[A'];decide
 ·unfold Bj GQ;rw[C1,Ki];rfl
 ·show Upd _ _ (.val (.list _)) _;unfold CH;dsimp only;exact Ah 25 rfl
end
noncomputable def IT:Ax:="lo must be non-negative"
noncomputable def M9(h:GY)(l:List Ti):Prop:=∀env∈l,env.scope.kind≠ .module∧∃L o,env.frame=some L∧129≤L∧h.get? L=some o∧∀vs,o.data≠ .fields vs
theorem M9.ext(H:M9 s.heap l)(x:D9 C s s'):M9 s'.heap l:=fun env B=>
 by obtain⟨D,L,o,E,A,F,h5⟩:=H env B;exact⟨D,L,o,E,A,x.keep _ _ (Cg A) F,h5⟩
noncomputable def cD(h:GY)(l:List Ti):GY:=hideAll h (l.filterMap (·.frame))
theorem M9.frames(H:M9 h l):h.FunFrames (cD h l) l:=by
 have:∀m:List Ti,(∀e∈m,e∈l)→h.FunFrames (cD h l) m:=by
  intro m
  induction m with
  |nil=>intro _;trivial
  |cons e m D=>
   intro A;obtain⟨E,L,o,B,G,F,h5⟩:=H e (A e AB);exact⟨E,X2 L o ⟨B,hideAll_none _ (M'.mpr ⟨e,A e AB,B⟩),F,h5⟩,D fun x hx=>A x (AG _ hx)⟩
 exact this l fun I h=>h
structure J3(C:Cx)(l:List Ti)(s s':AO)(e:Ad):Prop where
 ex:∃s₁ base a t tk,D9 C s s₁∧e= .ref a∧Heap.FlyingW base l a (.type "ValueError") (.ref t) s'.heap∧s'.heap.TupAt t [.str IT tk]∧
  (∀b o,s₁.heap.get? b=some o→base.get? b=some o∨(Gp o∧(s.heap.objs.size≤b∨∃env∈l,env.frame=some b)))∧s₁.heap.UpToSlots s'.heap∧s'.gens=s₁.gens∧s'.os=s₁.os
noncomputable def JU(Z:Zx)(k:Nat)(f:Ad)(ps:List PV)(D:List Ax)(ks:List PV):Prop:=
 ∀(A:Bl)(W:AS)(s:AO)(vs B:List Ad)(Q:Ad→AO→Prop)(E:Ad→AO→Prop)(l:List Ti),Good k A→A.frames=some l→M9 s.heap l→(∀b,Tb b→W b)→(∀b,W b→b<s.heap.objs.size)→DM Z.C s→
  DW W s.heap vs ps→DW W s.heap B ks→(∀e s',J3 Z.C l s s' e→E e s')→Af (Ar Z.prog Z.w) A (DC f vs (D.zip B)) Q E s
theorem XK(h:∀vs,o.data≠ .fields vs):Gp o:=fun vs A A e=>absurd e (h vs)
section
variable{Z:Zx}{k:Nat}{F:Fx}
theorem Oe{i:Nat}(B:i=2∨i=4)(H:F.env.scope=Bu (Au i))(I:Gl Z.C "ValueError" (.type "ValueError")) {xs:List Int} {x lo:Int} {hi key:PV} (J:lo<0) {A:Bl} (G:Good k A) (R:Cj Z.C F O (Hs xs x lo hi key .unb) [] s)
  (c:∀s₁ h' a tk,D9 Z.C s s₁→Heap.MadeExc s₁.heap h' a "ValueError" [.str IT tk]→E (.ref a) {s₁ with heap:=h'}):Af (Ar Z.prog Z.w) A (Io (Ba (Au i)) F.env) Q E s:=by
 have hb:∃p1 N P S T U V L W b rest,Ba (Au i)= .If (.Compare (.Name "lo" p1) [.Lt] [.Constant (.int 0) N P] S) [.Raise (some (.Call (.Name "ValueError" T) [.Constant (.str IT) U V] [] L)) none W] [] b::rest:=by
  rcases B with rfl|rfl<;>exact lz _ _ _ _ _ _ _ _ _ _ _ rfl
 refine l2 hb fun p1 N P S T U V L W b rest hb=>?_;have d:F.env.kindOf "ValueError"=some .globalImplicit:=by
  show F.env.scope.names.lookup _=_;rw[H];rcases B with rfl|rfl<;>rfl
 rw[hb];refine C9 (Ue ((PB.of (PB.cmp (PE.name (p:=.int lo) (AD 2 rfl)) PE.cint C5.ltI) (decide_eq_true J)).run A O s _ _ G R fun s₁ x=>?_));refine C9 (Raise_madeB PySem.F.excCall_ValueError PySem.F.excRaise_ValueError G.handled (EL (R.ext x) d I dc ⟨rfl,?_⟩));refine(JY.one (st:=false) (PE.cstr (x:=IT))).run A O s₁ L _ _ G (R.ext x) fun vs s₂ M y=>?_;refine Bz M.one fun v D e=>?_;subst D;refine B8 e.str_inv fun tk D=>?_;subst D;exact⟨by show(1:Nat)≤Ey;decide,fun h' a f=>c s₂ h' a tk (x.trans y) f⟩
theorem JU.bis{i:Nat}(H:i=2∨i=4){a:Ch}{fd:Dc}(T:K6 Z.C i a fd)(U:Gl Z.C "ValueError" (.type "ValueError")) {ps ks:List PV} {v:List Ax} {xs:List Int} {x lo:Int} {hi key:PV} (c:lo<0)
  (N:∀(W:AS)(s:AO) vs J,DM Z.C s→DW W s.heap vs ps→DW W s.heap J ks→∃binds,Hh s fd ⟨vs,v.zip J⟩ binds∧V' s.heap W binds [("a",.val (.list (xs.map PV.int))),("x",.val (.int x)),("lo",.val (.int lo)),("hi",.val hi),("key",.val key)]):JU Z (k+1) (.ref a) ps v ks:=by
 intro A W s vs J Q E l G d At Gt hl B j O If;refine Bz (N W s vs J B j O) fun binds hb n=>?_;refine IF (Jq (us:=[("mid",.unb)]) G B T.ok (by rw[T.sc];rcases H with rfl|rfl<;>rfl) Gt hl hb n (by
  intro x sl hx;simp only[AN,BH,or_false,GJ]at hx;exact hx.2) ?_ (by show[("a":Ax),"x","lo","hi","key","mid"].Nodup;decide) rfl fun F s' p av I Is D e=>?_)
 ·intro x sl hx;rw[T.sc];have:x∈ [("a":Ax),"x","lo","hi","key","mid"]:=by
   have:=CY (f:=WG) hx;exact this
  simp only[AN,BH,or_false]at this;rcases H with rfl|rfl<;>rcases this with rfl|rfl|rfl|rfl|rfl|rfl<;>exact .inl rfl
 ·refine Oe (i:=i) (F:=F) H (by rw[p.scope,T.sc]) U c (A:=A.deeper F.env) G.deeper D fun s₁ h' Lt tk y w=>?_;obtain⟨V,⟨m,hn,_⟩,_⟩:=D.st;have P:s.heap.objs.size≤F.env.locals:=Is _ D.lN;have R:M9 s₁.heap (F.env::l):=by
   intro env M;rcases AN.mp M with rfl|M
   ·refine V8 hn fun o es bi S hd _=>?_;exact⟨by rw[D.kind];decide,F.env.locals,o,I,D.hi _ (.inl D.lN),y.keep _ _ (Cg (D.hi _ (.inl D.lN))) S,fun vs q=>by cases hd.symm.trans q⟩
   ·exact At.ext (e.trans y) env M
  refine wpAny_leaves_madeW (base:=cD s₁.heap (F.env::l)) (h:=s₁.heap) (outer:=l) (by show(A.frames.map fun l=>F.env::l)=_;rw[d];rfl) I (fun b o q=>of_hideAll _ q) R.frames w.of fun Ns t x1 x2 x3 x4=>?_;refine If _ _ ⟨s₁,_,Lt,t,tk,e.trans y,rfl,x1,x2,fun b o S=>?_,(Heap.UpToSlots.of_keeps w.keeps).trans x4,rfl,rfl⟩;by_cases hb:b∈(F.env::l).filterMap (·.frame)
  ·refine Bz (M'.mp hb) fun env M z=>?_;obtain⟨_,L,o',r,_,Sa,h5⟩:=R env M;have u:L=b:=by rw[r]at z;exact CT z
   subst u;cases Sa.symm.trans S;refine .inr ⟨XK h5,?_⟩;rcases AN.mp M with rfl|M
   ·cases I.symm.trans r;exact .inl P
   ·exact .inr ⟨env,M,r⟩
  ·exact .inl (hideAll_get _ S hb)
noncomputable def eG(xs:List Int)(x lo:Int)(key:PV):Ci:=[("a",.val (.list (xs.map PV.int))),("x",.val (.int x)),("lo",.val (.int lo)),("hi",.val .none),("key",.val key)]
theorem Ob(I:F.env.kindOf x=some .globalImplicit)(J:Gl Z.C x f)(L:Fn Z.C f)(B:JY Z k F ρ κ false es ps)(M:JU Z k f ps [] [])(hn:C0 es=true)(hd:(x==("__debug__":Ax))=false)
  (G:Good k A) (D:A.frames=some l) (N:M9 s.heap l) (R:Cj Z.C F O ρ κ s) (P:∀s₁ e s',D9 Z.C s s₁→J3 Z.C l s₁ s' e→E e s'):Af (Ar Z.prog Z.w) A (D4 (.Call (.Name x p) es [] pos) F.env) Q E s:=
 Jv rfl (EL R I J hd (DG (C:=Z.C) L hn (B.run A O s pos _ _ G R fun vs s₁ H y=>⟨(R.ext y).base,M A (F.V O false) s₁ vs [] Q E l G D (N.ext y) (Fx.V_tb R false) (Fx.V_lt (R.ext y) false) (R.ext y).base H trivial fun e s' h=>P s₁ e s' y h⟩)))
theorem SA(U:F.env.kindOf x=some .globalImplicit)(V:Gl Z.C x (.ref B))(W:Fn Z.C (.ref B))(N:JY Z k F ρ κ false (e::es) ps)(I:aq Z k F ρ κ false M b ks)(c:JU Z k (.ref B) ps b ks)(hn:C0 (e::es)=true)(hd:(x==("__debug__":Ax))=false)
  (G:Good k A) (P:A.frames=some l) (d:M9 s.heap l) (R:Cj Z.C F O ρ κ s) (f:∀s₁ e s',D9 Z.C s s₁→J3 Z.C l s₁ s' e→E e s'):Af (Ar Z.prog Z.w) A (D4 (.Call (.Name x p) (e::es) M pos) F.env) Q E s:=by
 refine G_ (EL R U V hd ?_);refine Nc (I.names (env:=F.env) (pos:=pos)) fun i o j=>?_;have H:=hn;unfold C0 at H;simp only[Dk,A7,Dn]at H;have go:Af (Ar Z.prog Z.w) A (P9 (.ref B) true (DO pos (B_ (e::es) F.env)) (Di pos (CZ M F.env))) (fun a s₁=>DM Z.C s₁∧Af (Ar Z.prog Z.w) A (DC (.ref B) ([]++a.pos) a.kw) Q E s₁) E s:=by
  have D:=N.run A O s pos (fun vs s₁=>Af (Ar Z.prog Z.w) A (Tg ((Di pos (CZ M F.env)).map (·.2))) (fun ks s₂=>DM Z.C s₂∧Af (Ar Z.prog Z.w) A (DC (.ref B) vs (((Di pos (CZ M F.env)).filterMap (·.1)).zip ks)) Q E s₂) E s₁) E G R
   fun vs s' S x=>I.run A O s' pos _ _ G (R.ext x) fun T J L y=>⟨((R.ext x).ext y).base,by
    rw[j];exact c A (F.V O false) J vs T Q E l G P (d.ext (x.trans y)) (Fx.V_tb R false) (Fx.V_lt ((R.ext x).ext y) false) ((R.ext x).ext y).base (S.ext (Fx.V_tb R false) y) L fun e s₃ h=>f J e s₃ (x.trans y) h⟩
  rw[B9 H.1]at D⊢;exact NR i D
 cases W with
 |func m hd=>exact Ip (B1 go (fun a s' h'=>⟨⟨h'.1.objs _ _ m,hd⟩,h'.2⟩) fun n n x=>x)
theorem J3.leave(h:J3 Z.C (F.env::l) D s' e)(x:D9 Z.C s D)(B:F.env.frame=some F.env.locals)(G:s.heap.objs.size≤F.env.locals)(P:A.frames=some (F.env::l))(R:∀H,J3 Z.C l s H e→Q () H):Af (Ar Z.prog Z.w) A (leaving F.env e) Q E s':=by
 obtain⟨s₁,base,a,t,tk,y,rfl,I,S,hb,J,T,L⟩:=h.ex;refine wpAny_leaves_onW P B I fun h' U N=>R _ ⟨s₁,base,a,t,tk,x.trans y,rfl,U,S.of_slots N,fun b o V=>?_,J.trans N,T,L⟩;rcases hb b o V with q|⟨hp,q⟩
 ·exact .inl q
 ·refine .inr ⟨hp,?_⟩;rcases q with q|⟨env,M,O⟩
  ·exact .inl (AA x.size q)
  ·rcases AN.mp M with rfl|M
   ·cases B.symm.trans O;exact .inl G
   ·exact .inr ⟨env,M,O⟩
theorem aK:JT Z (k+1) 4 [] [.int v] (.int (-v)):=by
 refine KY (x:="one") (fun A A A A A=>rfl) rfl (fun y B=>by cases B) rfl rfl rfl rfl dc fun F D=>?_;show PE Z k F [("one",.val (.int v))] [] false _ _
 conv=>arg 7;whnf
 exact PE.neg (PE.name (p:=.int v) (AD 0 rfl))
theorem JU.ins{i:Nat}(H:i=1∨i=3){a:Ch}{fd:Dc}(T:K6 Z.C i a fd){ps ks:List PV}{p:List Ax}{xs:List Int}{x lo:Int}{key:PV}
  (L:∀(W:AS)(s:AO) vs I,DM Z.C s→DW W s.heap vs ps→DW W s.heap I ks→∃binds,Hh s fd ⟨vs,p.zip I⟩ binds∧V' s.heap W binds (eG xs x lo key))
  (M:∀(F:Fx)(A:Bl)(O:AS)(s:AO)(Q:RA→AO→Prop)(E:Ad→AO→Prop)(l:List Ti),F.env.scope=Bu (Au i)→Good k A→A.frames=some l→M9 s.heap l→Cj Z.C F O (eG xs x lo key) [] s→(∀s₁ e s',D9 Z.C s s₁→J3 Z.C l s₁ s' e→E e s')→Af (Ar Z.prog Z.w) A (bT (FQ 0 (Ba (Au i))) F.env) Q E s):JU Z (k+1) (.ref a) ps p ks:=by
 intro A W s vs I Q E l G S t u hl B U N v;refine Bz (L W s vs I B U N) fun binds hb b=>?_;refine IF (Jq (us:=[]) G B T.ok (by rw[T.sc];rcases H with rfl|rfl<;>rfl) u hl hb b (by intro x sl hx;cases hx) ?_ (by show[("a":Ax),"x","lo","hi","key"].Nodup;decide) rfl fun F s' c At J w D e=>?_)
 ·intro x sl hx;rw[T.sc];have:x∈ [("a":Ax),"x","lo","hi","key"]:=by
   have:=CY (f:=WG) hx;exact this
  simp only[AN,BH,or_false]at this;rcases H with rfl|rfl<;>rcases this with rfl|rfl|rfl|rfl|rfl<;>exact .inl rfl
 ·obtain⟨V,⟨m,hn,_⟩,_⟩:=D.st;have P:s.heap.objs.size≤F.env.locals:=w _ D.lN;have d:M9 s'.heap (F.env::l):=by
   intro env j;rcases AN.mp j with rfl|j
   ·refine V8 hn fun o es Gt z hd _=>?_;exact⟨by rw[D.kind];decide,F.env.locals,o,J,D.hi _ (.inl D.lN),z,fun vs q=>by cases hd.symm.trans q⟩
   ·exact t.ext e env j
  have r:(A.deeper F.env).frames=some (F.env::l):=by show(A.frames.map fun l=>F.env::l)=_;rw[S];rfl
  obtain⟨rest,n⟩:∃rest,Ba (Au i)=FQ 0 (Ba (Au i))::rest:=by rcases H with rfl|rfl<;>exact⟨_,rfl⟩
  rw[n];rw[Ao]at D;refine C9 (M F (A.deeper F.env) _ s' _ _ (F.env::l) (by rw[c.scope,T.sc]) G.deeper r d D fun s₁ If s₂ y h=>?_);exact h.leave (e.trans y) J P r fun s₃ R=>v _ _ R
theorem Xr{a b:Ch}{fd fb:Dc}{xs:List Int}{x lo:Int}(T:K6 Z.C 3 a fd)(D:∀h,Z.C.objs.In h→GC h fd)(J:K6 Z.C 4 b fb)(m:∀h,Z.C.objs.In h→GC h fb)(hn:Gl Z.C "bisect_left" (.ref b)) (L:Gl Z.C "ValueError" (.type "ValueError")) (M:lo<0):
  JU Z (k+2) (.ref a) [.list (xs.map PV.int),.int x,.int lo] [] []:=by
 refine JU.ins (xs:=xs) (x:=x) (lo:=lo) (key:=.none) (.inr rfl) T (fun W s vs N B I H=>?_) fun F A O s Q E l P G S n R o=>?_
 ·refine IW I.three fun U V c d f i j=>?_;subst d;obtain rfl:=H.l0;exact⟨_,(D _ B.objs).b3 _ rfl U V c,rfl,f,rfl,i,rfl,j,rfl,.none,rfl,.none,trivial⟩
 ·have q:F.env.kindOf "bisect_left"=some .globalImplicit:=by show F.env.scope.names.lookup _=_;rw[P];rfl
  rw[show FQ 0 (Ba (Au 3))=_ from by conv=>lhs;whnf];refine Ue ((PB.cmp (PE.name (p:=.none) (AD 4 rfl)) PE.cnone C5.isNone).run A O s _ _ G R fun s₁ y=>?_);refine C9 (He (Ob (k:=k+1) q hn J.fn (.four (PE.name (p:=.list (xs.map PV.int)) (AD 0 rfl)) (PE.name (p:=.int x) (AD 1 rfl)) (PE.name (p:=.int lo) (AD 2 rfl)) (PE.name (p:=.none) (AD 3 rfl))) (JU.bis (xs:=xs) (x:=x) (lo:=lo) (hi:=.none) (key:=.none) (.inr rfl) J L M fun W s vs N B I H=>?_) rfl dc G S (n.ext y) (R.ext y) fun s₂ e s₃ z h=>o s₂ e s₃ (y.trans z) h) rfl);obtain⟨U,V,c,r,rfl,f,i,j,t⟩:=I.four;obtain rfl:=H.l0;exact⟨_,(m _ B.objs).b4 _ rfl U V c r,rfl,f,rfl,i,rfl,j,rfl,t,rfl,.none,trivial⟩
theorem Xo{a b:Ch}{fd fb:Dc}{xs:List Int}{x lo:Int}(T:K6 Z.C 1 a fd)(D:∀h,Z.C.objs.In h→GC h fd)(L:K6 Z.C 2 b fb)(n:∀h,Z.C.objs.In h→GC h fb)(hn:Gl Z.C "bisect_right" (.ref b)) (M:Gl Z.C "ValueError" (.type "ValueError")) (N:lo<0):
  JU Z (k+2) (.ref a) [.list (xs.map PV.int),.int x,.int lo] ["key"] [.clo 4 []]:=by
 refine JU.ins (xs:=xs) (x:=x) (lo:=lo) (key:=.clo 4 []) (.inl rfl) T (fun W s vs P B J H=>?_) fun F A O s Q E l S G U o R q=>?_
 ·refine IW J.three fun V c d I f i j=>?_;subst I;refine Bz H.one fun kv I m=>?_;subst I;exact⟨_,(D _ B.objs).b3k _ rfl V c d kv,rfl,f,rfl,i,rfl,j,rfl,.none,rfl,m,trivial⟩
 ·have r:F.env.kindOf "bisect_right"=some .globalImplicit:=by show F.env.scope.names.lookup _=_;rw[S];rfl
  rw[show FQ 0 (Ba (Au 1))=_ from by conv=>lhs;whnf];refine Ue ((PB.cmp (PE.name (p:=.clo 4 []) (AD 4 rfl)) PE.cnone C5.isNoneF).run A O s _ _ G R fun s₁ y=>?_);refine C9 (He (SA (k:=k+1) r hn L.fn (.four (PE.name (p:=.list (xs.map PV.int)) (AD 0 rfl)) (PE.callClo (AD 4 rfl) (.one (PE.name (p:=.int x) (AD 1 rfl))) aK) (PE.name (p:=.int lo) (AD 2 rfl)) (PE.name (p:=.none) (AD 3 rfl))) (.cons (PE.name (p:=.clo 4 []) (AD 4 rfl)) .nil) (JU.bis (xs:=xs) (x:=-x) (lo:=lo) (hi:=.none) (key:=.clo 4 []) (.inl rfl) L M N fun W s vs P B J H=>?_) rfl dc G U (o.ext y) (R.ext y) fun s₂ e s₃ z h=>q s₂ e s₃ (y.trans z) h) rfl);obtain⟨V,c,d,t,rfl,f,i,j,m⟩:=J.four;refine Bz H.one fun kv I u=>?_;subst I;exact⟨_,(n _ B.objs).b4k _ rfl V c d t kv,rfl,f,rfl,i,rfl,j,rfl,m,rfl,u,trivial⟩
end
theorem Cj.touch(R:Cj C F O ρ κ s)(x:Ax)(hl:F.env.kindOf x=some .local)(hx:∀sl,(x,sl)∈ρ++κ→sl= .unb)(Q:∀b o,¬Tb b→b≠F.env.locals→s.heap.get? b=some o→s'.heap.get? b=some o)
  (S:∀m,s.heap.Ns F.env.locals m→∃v,s'.heap.Ns F.env.locals (fun y=>if y=x then v else m y)) (hz:s.heap.objs.size≤s'.heap.objs.size) (At:s.toks≤s'.toks) (hb:DM C s'):Cj C F O ρ κ s':=by
 obtain⟨V,⟨m,r,T⟩,J,I,N,U⟩:=R.st;refine B8 (S m r) fun v Gt=>?_;have G:=R.lN;have B:∀c u,s.heap.IsCell c u→129≤c→s'.heap.IsCell c u:=fun c u ⟨o,P,hd⟩ L=>by
  refine⟨o,Q c o (Cg L) (fun q=>?_) P,hd⟩;subst q;refine V8 r fun o' es If W Z _=>?_;cases P.symm.trans W;cases hd.symm.trans Z
 have H:∀sl u,DX s F O sl u→DX s' F O sl u:=fun sl u h=>by
  have D:Goes (F.W O) s.heap (F.W O) s'.heap:=fun b o hb P=>⟨Q b o (fun q=>hb (.inl (R.tb b q))) (fun q=>hb (.inr (.inl (q▸G)))) P,hb⟩;cases sl with
  |unb=>trivial
  |val p=>refine Bz h fun w e d=>?_;exact⟨w,e,d.goes D⟩
  |own xs=>
   refine V7 h fun a n vs e J I N U h5=>?_;exact X3 a n vs ⟨e,J,I,N,Q _ _ (fun q=>I (R.tb _ q)) (fun q=>N (q▸G)) U,h5.goes D⟩
  |tk y=>refine K8 h fun t e J I=>?_;exact⟨t,e,J,AF I At⟩
  | «at» w p=>refine ER h fun e d=>?_;exact⟨e,d.goes D⟩
 refine {base:=hb,kind:=R.kind,glob:=R.glob,blt:=R.blt,tb:=R.tb,yU:=R.yU,nU:=R.nU,lt:=fun b hb=>AF (R.lt b hb) hz,hi:=R.hi,lN:=R.lN,cd:=R.cd,nd:=R.nd,ok:=R.ok,st:=⟨fun y=>if y=x then v else V y,⟨_,Gt,fun y E=>?_⟩,fun y sl E=>?_,fun y sl E=>?_,fun y sl E=>?_,fun y z p q b E hz f i=>?_⟩}
 ·by_cases h:y=x
  ·simp only[if_pos h]
  ·simp only[if_neg h];exact T y E
 ·rcases J y sl E with h|⟨h,c,j,M,A⟩
  ·exact .inl h
  ·refine .inr ⟨h,c,j,M,?_⟩;dsimp only;rw[if_neg (fun q=>by rw[q,hl]at h;cases h)];exact B _ _ A (R.hi _ (.inl M))
 ·obtain⟨h,c,j,M,A⟩:=I y sl E;refine⟨h,c,j,M,?_⟩;dsimp only;rw[if_neg (fun q=>by rw[q,hl]at h;rcases h with h|h<;>cases h)];exact B _ _ A M.1
 ·dsimp only;by_cases h:y=x
  ·subst h;rw[hx sl E];trivial
  ·rw[if_neg h];exact H _ _ (N y sl E)
 ·dsimp only at f i;have k:y≠x:=fun q=>by subst q;have:=hx _ E;cases this
  have l:z≠x:=fun q=>by subst q;have:=hx _ hz;cases this
  rw[if_neg k]at f;rw[if_neg l]at i;exact U y z p q b E hz f i
structure Oj(C:Cx)(F:Fx)(s s':AO):Prop where
 keep:∀b o,¬Tb b→b≠F.env.locals→s.heap.get? b=some o→s'.heap.get? b=some o
 ns:∀m,s.heap.Ns F.env.locals m→s'.heap.Ns F.env.locals m
 size:s.heap.objs.size≤s'.heap.objs.size
 toks:s.toks≤s'.toks
 gens:∀(g:Nat) st,s.gens[g]?=some st→s'.gens[g]?=some st
 os:s'.os=s.os
 base:DM C s→DM C s'
theorem J3.lands{C:Cx}{F:Fx}{s s':AO}{base:GY}{s₁:AO}(J:F.env.frame=some F.env.locals)(A:129≤F.env.locals)(D:129≤s.heap.objs.size)(H:Kg s₁.gens)(y:D9 C s s₁)(L:base.StaysIn s'.heap)
  (hb:∀b o,s₁.heap.get? b=some o→base.get? b=some o∨(Gp o∧(s.heap.objs.size≤b∨∃env∈ [F.env],env.frame=some b))) (N:s₁.heap.UpToSlots s'.heap) (T:s'.gens=s₁.gens) (O:s'.os=s₁.os) (P:Up s s'):Oj C F s s':=by
 have key:∀b o,b≠F.env.locals→b<s.heap.objs.size→s₁.heap.get? b=some o→s'.heap.get? b=some o:=fun b o I Q E=>by
  rcases hb b o E with q|⟨_,q⟩
  ·exact L _ _ q
  ·exfalso;rcases q with q|⟨env,U,q⟩
   ·exact As _ (AF Q q)
   ·rw[AI.mp U,J]at q;exact I (CT q).symm
 refine⟨fun b o M I E=>key b o I (BJ E) (y.keep b o M E),fun m V=>?_,P.1,P.2,fun g st h=>by rw[T];exact y.gens g st h,by rw[O,y.os],fun B=>?_⟩
 ·refine Q6 V fun o es W E r=>?_;exact N.ns (X3 o es W ⟨y.keep _ _ (Cg A) E,r⟩)
 ·refine(y.base B).keepsL (fun b o M E=>?_) (fun b o M R E=>?_) (AA D P.1) (by rw[T];exact H)
  ·have G:(b:Nat)<129:=by rcases M with rfl|rfl<;>decide
   exact key b o (fun q=>As _ (AF G (q▸A))) (AF G D) E
  ·rcases hb b o E with q|⟨hp,q⟩
   ·exact L _ _ q
   ·rcases R with G|S
    ·exact key b o (fun q=>As _ (AF G (q▸A))) (AF G D) E
    ·exact absurd hp S
theorem Oj.rel(L:Oj C F s s')(R:Cj C F O ρ κ s)(x:Ax)(hl:F.env.kindOf x=some .local)(hx:∀sl,(x,sl)∈ρ++κ→sl= .unb):Cj C F O ρ κ s'∧Step C (F.X O) s s':=
 ⟨R.touch x hl hx L.keep (fun m A=>⟨m x,by
  have:=L.ns m A;have e:(fun y=>if y=x then m x else m y)=m:=by funext y;split<;>rename_i h<;>first|rw[h]|rfl
  rw[e];exact this⟩) L.size L.toks (L.base R.base),
  {keep:=fun b o hb B=>L.keep b o (fun q=>hb (.inl q)) (fun q=>hb (.inr (.inl (q▸R.lN)))) B,size:=L.size,gens:=L.gens,os:=L.os,toks:=L.toks,base:=L.base}⟩
section
variable{Z:Zx}{k:Nat}{F:Fx}
theorem R'(f:F.env.kindOf x=some .globalImplicit)(i:Gl Z.C x (.ref B))(j:Fn Z.C (.ref B))(N:JY Z k F ρ κ true (e::es) ps)
  (t:TabOf c P (Fy kk).qual) (I:F.env.code= .ref c) (m:F.env.qual++"<lambda>"=(Fy kk).qual) (hp:params=(Fy kk).params) (hb:body=(Fy kk).body) (S:scope=(Fy kk).scope) (L:Ug params F.env=([],[])) (n:Ok F ρ κ scope kk cap)
  (u:JU Z k (.ref B) ps [D] [.clo kk cap]) (hn:C0 (e::es)=true) (hd:(x==("__debug__":Ax))=false)
  (G:Good k A) (T:A.frames=some l) (w:M9 s.heap l) (R:Cj Z.C F O ρ κ s) (At:∀s₁ e s',D9 Z.C s s₁→J3 Z.C l s₁ s' e→E e s'):
  Af (Ar Z.prog Z.w) A (D4 (.Call (.Name x p) (e::es) [⟨some D,.Lambda params body scope U,kp⟩] pos) F.env) Q E s:=by
 refine G_ (EL R f i hd ?_);have J:=hn;unfold C0 at J;simp only[Dk,A7,Dn]at J;have go:Af (Ar Z.prog Z.w) A (P9 (.ref B) true (DO pos (B_ (e::es) F.env)) (Di pos (CZ [⟨some D,.Lambda params body scope U,kp⟩] F.env))) (fun r s₁=>DM Z.C s₁∧Af (Ar Z.prog Z.w) A (DC (.ref B) ([]++r.pos) r.kw) Q E s₁) E s:=by
  have H:=N.run A O s pos (fun vs s₁=>Af (Ar Z.prog Z.w) A (Tg ((Di pos (CZ [⟨some D,.Lambda params body scope U,kp⟩] F.env)).map (·.2))) (fun ks s₂=>DM Z.C s₂∧Af (Ar Z.prog Z.w) A (DC (.ref B) vs (((Di pos (CZ [⟨some D,.Lambda params body scope U,kp⟩] F.env)).filterMap (·.1)).zip ks)) Q E s₂) E s₁) E G R
   fun vs s₁ V y=>bZ (Qc (W':=Tb) (R.ext y) (fun b hb=>.inl hb) t I m hp hb S L n fun v s₂ W z=>kws_nil ⟨((R.ext y).ext z).base,by
    refine u A Tb s₂ vs [v] Q E l G T (w.ext (y.trans z)) (fun b hb=>hb) (fun b hb=>((R.ext y).ext z).lt b (.inl (R.tb b hb))) ((R.ext y).ext z).base ?_ ⟨W,trivial⟩ fun e s₃ h=>At s₂ e s₃ (y.trans z) h;exact V.goes fun b o M d=>⟨z.keep b o (fun q=>M (Fx.V_tb R true b q)) d,fun q=>M (Fx.V_tb R true b q)⟩⟩)
  rw[B9 J.1]at H⊢;exact NR rfl H
 cases j with
 |func d hd=>exact Ip (B1 go (fun a s' h'=>⟨⟨h'.1.objs _ _ d,hd⟩,h'.2⟩) fun u0 u0 x=>x)
end
theorem T5{h:GY}{a:Ch}(x:h.Ns a m)(y:h.Ns a E):m=E:=by
 refine IW x fun o es J F hd _ G=>?_;refine IW y fun L H I A B _ D=>?_;cases F.symm.trans A;cases hd.symm.trans B;funext z;rw[←G z,←D z]
section
variable{Z:Zx}{k:Nat}{F:Fx}
noncomputable def a'(s:D7):List ExceptHandler:=(SV s).2.2.2.2.2.2
set_option maxHeartbeats 4000000 in
theorem Zt(Ns:Mj F Z.C){ρ ρ':Ci}{xs:List PV}{A:Bl}{O:AS}{B:AO}(go:A.frames=some [F.env])(L:F.env.frame=some F.env.locals)(mC:A.units+2<Y0)(R:Cj Z.C F O ρ [] B)
  (Sa:(Ap "error",Internal.Slot.unb)∈ρ++ []) (p:(Ap "error",Internal.Slot.unb)∈ρ'++ []) (gs:(Ap "refused",Internal.Slot.own xs)∈ρ) (hl:xs.length≤100) (hr:xs.all PV.flat=true) (av:Upd ρ "refused" (.own (xs++ [.str IT])) ρ')
  (mD:∀f s' O',SM F s' .next f→Cj Z.C F O' ρ' [] s'→Step Z.C (F.X O) B s'→(∀b,O' b→O b∨B.heap.objs.size≤b)→Q f s')
  (x2:D9 Z.C B s₂) (hs:J3 Z.C [F.env] s₂ s₃ e) (U:Up B s₃):Af (Ar Z.prog Z.w) A (Ng e F.env) (fun i s₂=>Af (Ar Z.prog Z.w) A (setFlight e none) (fun i s₃=>Af (Ar Z.prog Z.w) A (handleBy e F.env (a' (FQ 1 (BW (FQ 15 DU))))) Q E s₃) E s₂) E s₃:=by
 rw[show a' (FQ 1 (BW (FQ 15 DU)))=_ from by conv=>lhs;whnf];have D:F.env.kindOf "error"=some .local:=Ns.kind _ rfl;have M:∀sl,(Ap "error",sl)∈ρ++ []→sl= .unb:=fun sl J=>FR R.nd J Sa;have H:129≤F.env.locals:=R.hi _ (.inl R.lN);obtain⟨s₁,base,a,t,tk,y,rfl,bi,mE,hx,J,l1,bl⟩:=hs.ex;have N:Kg s₁.gens:=(y.base (x2.base R.base)).bare;refine CG (wpAny_looks_onW go L bi fun mM u w u4=>?_);refine CG (wpAny_landsW u fun h5 G x u5=>?_);have hid:∀b o,s₁.heap.get? b=some o→base.get? b=some o∨(Gp o∧(B.heap.objs.size≤b∨∃env∈ [F.env],env.frame=some b)):=fun b o I=>(hx b o I).imp_right fun q=>⟨q.1,q.2.imp_left fun q=>AA x2.size q⟩;have mF:Oj Z.C F B {s₃ with heap:=h5}:=J3.lands L H R.base.low N (x2.trans y) G.1 hid ((J.trans w).trans x) l1 bl ⟨AA U.1 (AA u4.1 u5.1),AA U.2 (AA u4.2 u5.2)⟩;have mG:=(mF.rel R _ D M).1;refine wpAny_handleBy_builtin_as (X:="ValueError") (T:="ValueError") (b:=true) PySem.F.isExc_ValueError PySem.F.notTuple_ValueError (by rw[isSubtype_type];kernel_rfl) ?_;refine EL mG (Ns.kind _ rfl) Ns.av.ve dc ⟨rfl,G.there,?_⟩;rw[if_pos rfl];refine CG (lands_againW G fun b2 S b3 u6=>?_);have mH:Oj Z.C F B {s₃ with heap:=b2}:=J3.lands L H R.base.low N (x2.trans y) S.1 hid (((J.trans w).trans x).trans b3) l1 bl ⟨AA U.1 (AA u4.1 (AA u5.1 u6.1)),AA U.2 (AA u4.2 (AA u5.2 u6.2))⟩;refine ER (mH.rel R _ D M) fun il ir=>?_;obtain⟨V,⟨m,fr,mI⟩,_⟩:=il.st;have b4:(F.env.scope.kind== .class || (F.env.scope.kind== .module && F.env.locals !=F.env.globals))=false:=by rw[(R.kind:F.env.scope.kind= .function)];rfl
 refine Ml D fr (fun kw ck W=>?_) b4;have cn:∀(b:Ch)(o:Obj),b2.get? b=some o→(∀es mB,o.data≠ .dict es mB)→b≠F.env.locals:=fun b o I hd q=>by
  subst q;refine V8 fr fun o' es mB z ln _=>?_;rw[(z:b2.get? F.env.locals=some o')]at I;cases I;exact hd _ _ ln
 have c:Step Z.C (fun b=>b=F.env.locals) {s₃ with heap:=b2} {s₃ with heap:=kw,toks:=s₃.toks+1}:=Step.write W H rfl (HK fr) (BU _);have fs:Cj Z.C F O (ρ) [] {s₃ with heap:=kw,toks:=s₃.toks+1}:=il.touch _ D M (fun b o i hb I=>(W.2 b hb).trans I) (fun m' At=>⟨some (.ref a),by
  rw[(T5 At fr:m'=m)];exact ck⟩) c.size c.toks (c.base il.base)
 refine C9 (J4 ?_ Ns.inter rfl);refine a0 (fs.mut gs) fun ls n ws co mJ mK Gt If=>?_;refine HS (pl:=_) (Ed (Gt _ _ _ _ ?_) dc) (No rfl (by show(1:Nat)<30;decide) rfl (by intro _;rfl));refine Nc (If _ (.refl _)) fun I c1 c2=>?_;refine Kf Ez QE (Er I) ⟨_,I,rfl⟩ ?_;refine DG (C:=Z.C) (.builtin _) rfl ?_;rw[B9 rfl];show Af _ _ (D4 (.Call (.Name "str" _) [.Name "error" _] [] _) F.env>>=fun v=>(pure [v]:Ku (List Ad))>>=fun here=>D3 here (FU (DO _ (B_ [] F.env)))>>=fun r=>pure (here++r)) _ _ _;refine AJ (Jv rfl (EL fs (Ns.kind _ rfl) Ns.av.st dc (DG (C:=Z.C) (.type "str") rfl ?_)));rw[B9 rfl];show Af _ _ (D4 (.Name "error" _) F.env>>=fun v=>(pure [v]:Ku (List Ad))>>=fun here=>D3 here (FU (DO _ (B_ [] F.env)))>>=fun r=>pure (here++r)) _ _ _;refine AJ (Ed (NP R.kind D ck (if_pos rfl) ?_) dc);refine AJ (AX (AJ (BV ?_)));refine AX (AX ⟨fs.base,?_⟩);refine dZ S.first fun oe es c3 c4 j df=>?_
 have lv:b2.TupAt t [.str IT tk]:=((mE.of_slots w).of_slots x).of_slots b3;refine Hd lv fun ot nt em en l=>?_;refine P.str_of_exc_one PySem.F.excStr_ValueError (by exact mC) (X2 oe es ⟨(W.2 a (cn _ _ c3 fun i i q=>by cases j.symm.trans q)).trans c3,c4,j,df⟩) (X2 ot nt ⟨(W.2 t (cn _ _ em fun i i q=>by cases l.symm.trans q)).trans em,en,l⟩) ?_;refine AJ (AX (AJ (BV ?_)));refine AX (AX ⟨fs.base,?_⟩);refine Ee Ez ⟨_,I,rfl⟩ Iu (II _ _) (bS ls ws.toArray n (.str IT tk) (by rw[Ab,c1.length,Ay];exact AA hl dc)) ⟨I,?_⟩;refine Bz (Ep (C:=Z.C) I (R.hi ls (.inr co)) (·.push (.str IT tk)) (ws:=ws++ [.str IT tk]) (by simp)) fun n' z eq=>?_;have er:DW (F.W O) ({s₃ with heap:=kw.update ls (E9 (·.push (.str IT tk))),toks:=s₃.toks+1}:AO).heap (ws++ [.str IT tk]) (xs++ [.str IT]):=
  (c1.append (ws:=[.str IT tk]) (qs:=[.str IT]) ⟨.str ..,trivial⟩).flat (by rw[Fe,hr];rfl)
 have gd:=c2 _ n' _ _ ρ' eq z er av;have Is:∀sl,(Ap "error",sl)∈ρ'++ []→sl= .unb:=fun sl J=>FR gd.nd J p;refine AX ?_;obtain⟨mN,⟨m8,Lt,_⟩,_⟩:=gd.st;refine wpAny_nameGoes_keeps D Lt b4 fun mO v l0 fe=>?_;have d:=Step.write (C:=Z.C) (X:=fun b=>b=F.env.locals) fe H rfl (HK Lt) (BU _);have mL:=gd.touch _ D Is (fun b o i hb I=>(fe.2 b hb).trans I) (fun m' At=>⟨v,by rw[(T5 At Lt:m'=m8)];exact l0⟩) d.size d.toks (d.base gd.base);refine mD _ _ O rfl mL ?_ fun i h=>.inl h;have fn:∀b,b=F.env.locals→F.X O b:=fun b q=>.inr (.inl (q▸R.lN));exact((ir.trans (c.mono fn)).trans (eq.mono fun b hb=>hb.elim .inl fun q=>.inr (.inr (q▸co)))).trans (d.mono fn)
set_option maxHeartbeats 4000000 in
theorem b_(D:Mj F Z.C){s:LS}{i:Nat}(U:s.kk= .val (.int (i:Int)))(W:s.bs= .val (.list (Bj B)))(N:s.er= .unb)(hl:Rf.length≤100):
  fM Z (k+10) F (CH {s with rf:=.own (AT Rf)}) [] (FQ 1 (BW (FQ 15 DU))) .next (CH {s with rf:=.own (AT (Rf++ [IT]))}):=.ofRun fun A O H Q E G P R n=>by
 refine ER P fun M I=>?_;have c:(Ap "k",Internal.Slot.val (.int (i:Int)))∈CH {s with rf:=.own (AT Rf)}:=by rw[←U];exact AD 2 rfl
 have hb:(Ap "basis",Internal.Slot.val (.list (Bj B)))∈CH {s with rf:=.own (AT Rf)}:=by rw[←W];exact AD 17 rfl
 have a:(Ap "refused",Internal.Slot.own (AT Rf))∈CH {s with rf:=.own (AT Rf)}:=AD 21 rfl;have p:F.env.kindOf "error"=some .local:=D.kind _ rfl;have S:129≤F.env.locals:=R.hi _ (.inl R.lN);have T:M9 H.heap [F.env]:=by
  intro env r;rw[AI.mp r];obtain⟨V,⟨m,⟨o,es,bi,t,hd,_⟩,_⟩,_⟩:=R.st;exact⟨by rw[R.kind];decide,F.env.locals,o,I,S,t,fun vs q=>by cases hd.symm.trans q⟩
 refine Hd D.av.bi.ir fun ra rf d u v=>?_;refine Hd D.av.bi.il fun bl b2 j w z=>?_;refine Hd D.av.bi.br fun At b3 Gt If Is=>?_;refine Hd D.av.bi.bl fun b4 ck Lt Ns Sa=>?_;have l:Bj B=(zs B).map PV.int:=(L4 B).symm;rw[show FQ 1 (BW (FQ 15 DU))=_ from by conv=>lhs;whnf];refine wpAny_Try_except ?_;have av:A.units+2<Y0:=by have:=G.units;unfold Y0;exact AF (GK (GK (AY (AM _ _) this))) dc
 have J:=fun {e:Ad}{s₂ s₃:AO}=>Zt (Z:=Z) (e:=e) (s₂:=s₂) (s₃:=s₃) (E:=E) D M I av R (by rw[←N];exact AD 24 rfl) (by rw[←N];exact AD 24 rfl) a (by rw[CV];exact hl) (by unfold AT;rw[Nl];exact Al.mpr fun u0 u0=>rfl) (by unfold AT;rw[←I_ (f:=PV.str),←Ac];exact Ah 21 rfl) n;refine CG (C9 (J4 (IfExp_ ((PB.plain (PE.mod (PE.name (AC _ c)) PE.cint dc) I3.int).run A O H _ _ G R fun s₁ x=>?_)) D.inter rfl));have L:=R.ext x;cases ((i:Int).fmod 2 !=0) with
 |true=>
  rw[if_pos rfl];refine Ob (k:=k+10) (D.kind _ rfl) z j.fn (.three (PE.name (AC _ hb)) (PE.cint (i:=((0:Nat):Int))) (PE.neg PE.cint)) (by rw[l];exact Xr (k:=k+8) j w Lt Ns Sa D.av.ve dc) rfl dc G M (T.ext x) L fun s₂ e s₃ y h b=>J (x.trans y) h b
 |false=>
  rw[if_neg dc];refine R' (kk:=4) (cap:=[]) (k:=k+10) (D.kind _ rfl) v d.fn (.three (PE.name (AC _ hb)) (PE.cint (i:=((0:Nat):Int))) (PE.sub (PE.neg PE.cint) (PE.name (AC _ c)))) .law D.cd (by rw[D.ql];rfl) rfl rfl rfl rfl ⟨rfl,rfl⟩ (by rw[l];exact Xo (k:=k+8) d u Gt If Is D.av.ve (gb)) rfl dc G M (T.ext x) L fun s₂ e s₃ y h b=>J (x.trans y) h b
end
theorem b5:∀n,(GR n).length=2^n∧∀x∈GR n,x≤1:=by
 intro A
 induction A with
 |zero=>
  exact⟨rfl,dc⟩
 |succ n D=>
  refine ER D fun E F=>?_;rw[GR.c2];refine⟨by rw[AQ,AH,E,Dt];exact gE,fun x hx=>?_⟩;rcases AR.mp hx with h|h
  ·exact F x h
  ·refine Bz (AU.mp h) fun y _ B=>?_;subst B;exact EF _ _
section
variable{Z:Zx}{k:Nat}{F:Fx}
noncomputable def TH(s:LS)(n:Nat)(kk:Internal.Slot):LS:={s with pa:=.own (Bj (GR n)),rf:=.own (AT (Aq n IT)),kk:=kk}
set_option maxHeartbeats 1000000 in
theorem VN(O:Mj F Z.C)(I:s.bs= .val (.list (Bj B)))(J:s.er= .unb)(hn:n<5):bN Z (k+10) F (CH (TH s n (.val (.int (n:Int))))) [] (BW (FQ 15 DU)) .next (CH (TH s (n+1) (.val (.int (n:Int))))):=by
 refine ER (b5 n) fun E L=>?_;have A:2^n≤2^5:=Bq dc (Qy hn);have G:Fb Z (k+10) "extend" (Bj (GR n)) [.list (Bj ((GR n).map fun x=>1-x))] (Bj (GR (n+1))):=by
  have:=Fb.extend (Z:=Z) (k:=k+10) (xs:=Bj (GR n)) (ys:=Bj ((GR n).map fun x=>1-x)) (by rw[A',A',AH,E];exact AA (BA A A) dc);rw[GR.c2];unfold Bj at*
  rwa [Ac]
 have D:BW (FQ 15 DU)=FQ 0 (BW (FQ 15 DU))::[FQ 1 (BW (FQ 15 DU))]:=rfl;rw[D];refine bN.cons (ρ₁:=CH {TH s n (.val (.int (n:Int))) with pa:=.own (Bj (GR (n+1)))}) (P1.a ?_) (bN.cons ?_ PS.nil.g)
 ·conv=>arg 6;whnf
  refine P1.mut (AD 20 rfl) (.one (PE.comp ⟨X7 (Bj (GR n)) (fun H=>true) (fun p=>.int ((1-Ha p:Nat):Int)) [("one",.unb)] [] false true ⟨PI.list (PC.own (AD 20 rfl)),rfl,?_,?_,?_,?_⟩,fun H=>rfl⟩)) G (Ah 20 rfl) O.inter
  ·exact CS.of ["one"] [] rfl rfl .nil rfl dc rfl rfl rfl
  ·intro p hp;refine Bz (Gm hp) fun r hr M=>?_;subst M;have N:=L r hr;refine⟨[("one",.val (.int (r:Int)))],.name (Ah 0 rfl),fun Q P=>⟨rfl,fun H=>?_⟩⟩;exact PE.of (PE.sub PE.cint (PE.name (p:=.int (r:Int)) (AD 0 rfl))) (congrArg PV.int (by show(1:Int)-r=((1-(r:Int).toNat:Nat):Int);exact(Fq N).symm))
  ·rw[A',E];exact AA A dc
  ·rw[Ck.mpr (fun H H=>rfl)];unfold Bj;rw[BB,BB];rfl
 ·have:=b_ (k:=k) O (s:={TH s n (.val (.int (n:Int))) with pa:=.own (Bj (GR (n+1)))}) (i:=n) (B:=B) (Rf:=Aq n IT) rfl I J (by rw[HX];exact i8 hn);have e:Aq n IT++ [IT]=Aq (n+1) IT:=by rw[List.replicate_succ']
  rw[e]at this;exact this
theorem VQ(H:Mj F Z.C)(D:s.bs= .val (.list (Bj B)))(E:s.er= .unb):∀(m n:Nat)(kk:Internal.Slot),n+m=5→∃A,e6 Z (k+10) F [] (DP (FQ 15 DU)) (BW (FQ 15 DU)) (EG (FQ 15 DU)) (Bj (Aw n m)) (CH (TH s n kk)) .next (CH (TH s 5 A)):=by
 intro G
 induction G with
 |zero=>
  intro n kk h;exact⟨kk,by rw[(by omega:n=5)];exact .done fun wr=>PS.nil.g⟩
 |succ m I=>
  intro n kk h;refine B8 (I (n+1) (.val (.int (n:Int))) (c9 h)) fun A hl=>?_;exact⟨A,by rw[C3];exact .next (.name (Ah 2 rfl)) (fun wr=>VN H.loop D E (c8 h)) hl⟩
theorem VP(D:Mj F Z.C)(E:s.bs= .val (.list (Bj B)))(G:s.er= .unb)(A:∀kk,EM Z (k+10) F (CH (TH s 5 kk)) [] (DU.drop 16) fl):EM Z (k+10) F (CH {s with pa:=.own (Bj [0]),rf:=.own []}) [] (DU.drop 15) fl:=by
 refine B8 (VQ (k:=k) D E G 5 0 s.kk rfl) fun H h=>?_;rw[←E1,←Eo]at h
 conv=>arg 6;whnf
 exact EM.consA (e4.for (PI.range1 (D.kind _ rfl) D.av.bi.rg (n:=5) (PE.cint (i:=((5:Nat):Int))) dc) rfl h) (A H)
end
noncomputable def K3{A:Type}(lt:Nat→Nat→Bool):KasT A→Option A
 |.ret a=>some a
 |.ask i j k=>if i<5∧j<5 then K3 lt (k (lt i j)) else none
theorem K3.c1:K3 lt (.ret a)=some a:=rfl
theorem K3.c2:K3 lt (.ask i j k)=if i<5∧j<5 then K3 lt (k (lt i j)) else none:=rfl
theorem Tw(D:∀i j C,i<5→j<5→C (lt i j) s→B i j C s):∀t:KasT E,K3 lt t=some a→Q a s→t.kasWp B Q s
 |.ret b,h,q=>by
  rw[K3.c1]at h;cases h;exact q
 |.ask i j k,h,q=>by
  rw[K3.c2]at h;split at h
  ·rename_i A;exact D i j _ A.1 A.2 (Tw D (k (lt i j)) h q)
  ·cases h
noncomputable def rk(r:List Nat)(i:Nat):Nat:=r.getD i 0
noncomputable def fT(r:List Nat):Bool:=match K3 (fun i j=>decide (rk r i<rk r j)) (kas_sort 5) with
 |none=>false
 |some p=>p.toList.map (rk r)==[0,1,2,3,4] && p.toList.isPerm (AW 5)
noncomputable def Iz:List Nat→Bool
 |[]=>true
 |a::l=> !l.contains a && Iz l
theorem Iz.c1:Iz []=(true):=rfl
theorem Iz.c2:Iz (a::l)=(!l.contains a && Iz l):=rfl
theorem aL:((AW 5).all fun a=>(AW 5).all fun b=>(AW 5).all fun c=>(AW 5).all fun d=>(AW 5).all fun e=> !Iz [a,b,c,d,e] || fT [a,b,c,d,e])=true:=by decide+kernel
theorem OF{B:Type}{lt lt':Nat→Nat→Bool}(h:∀i j,i<5→j<5→lt i j=lt' i j):∀t:KasT B,K3 lt t=K3 lt' t
 |.ret _=>rfl
 |.ask i j k=>by
  rw[K3.c2,K3.c2];split
  ·rename_i A;rw[h i j A.1 A.2];exact OF h (k (lt' i j))
  ·rfl
theorem YK(N:Nat→Int)(h:x≤y):∀l:List Nat,l.countP (fun z=>decide (N z<x))≤l.countP (fun z=>decide (N z<y)):=by
 intro A
 induction A with
 |nil=>
  simp
 |cons a l D=>
  have:=D;rw[ED,ED];by_cases B:N a<x
  ·have:N a<y:=CP B h;simp[B,this];omega
  ·simp[B];exact AA this (AM _ _)
theorem YJ(N:Nat→Int)(h:x<y):∀l:List Nat,(∃z∈l,N z=x)→l.countP (fun z=>decide (N z<x))<l.countP (fun z=>decide (N z<y)):=by
 intro D
 induction D with
 |nil=>
  intro A;refine Bz A fun z hz _=>?_;cases hz
 |cons a l F=>
  intro A;refine Bz A fun z hz e=>?_;rw[ED,ED];have E:=YK N (Da h) l;rcases AN.mp hz with rfl|hz
  ·have B:¬N z<x:=lO e;have G:N z<y:=e▸h;simp[B,G];exact BS E
  ·have:=F ⟨z,hz,e⟩;by_cases B:N a<x
   ·have:N a<y:=Iy B h;simp[B,this];omega
   ·simp[B];exact AF this (AM _ _)
noncomputable def Ex(N:Nat→Int)(i:Nat):Nat:=(AW 5).countP fun z=>decide (N z<N i)
theorem MA(hi:i<5)(A:j<5):Ex N i<Ex N j↔N i<N j:=by
 constructor
 ·intro h;rcases Int.lt_or_le (N i) (N j) with q|q
  ·exact q
  ·exact absurd (YK N q (AW 5)) (JH.mpr h)
 ·intro h;exact YJ N h _ ⟨i,An.mpr hi,rfl⟩
theorem XG(hi:i<5):Ex N i<5:=by
 have B:Ex N i<(AW 5).countP (fun z=>decide (N z<N i+1)):=YJ N (L1 _) _ ⟨i,An.mpr hi,rfl⟩;have A:=List.countP_le_length (p:=fun z=>decide (N z<N i+1)) (l:=AW 5);rw[Bm]at A;exact AA B A
theorem bw(N:Nat→Int)(F:∀i j,i<5→j<5→N i=N j→i=j):∃p:Array Nat,K3 (fun i j=>decide (N i<N j)) (kas_sort 5)=some p∧p.toList.Perm (AW 5)∧p.toList.Pairwise (fun i j=>N i<N j):=by
 have A:∀i j,i<5→j<5→i≠j→Ex N i≠Ex N j:=fun i j hi E M e=>by
  have d:¬N i<N j:=fun q=>by have:=(MA hi E).mpr q;exact cf e this
  have f:¬N j<N i:=fun q=>by have:=(MA E hi).mpr q;exact hv e this
  exact M (F i j hi E (LB (Cp.mp f) (Cp.mp d)))
 have G:=aL;have H:∀i,i<5→Ex N i∈AW 5:=fun i hi=>An.mpr (XG hi);have h5:=Al.mp (Al.mp (Al.mp (Al.mp (Al.mp G _ (H 0 (Yh))) _ (H 1 (Yg))) _ (H 2 (Yf))) _ (H 3 (Ye))) _ (H 4 (Yd));have O:Iz [Ex N 0,Ex N 1,Ex N 2,Ex N 3,Ex N 4]=true:=by
  have P:=A 0 1 (Yh) (Yg) (fq);have Q:=A 0 2 (Yh) (Yf) (fo);have R:=A 0 3 (Yh) (Ye) (fm);have S:=A 0 4 (Yh) (Yd) (fk);have T:=A 1 2 (Yg) (Yf) (fj);have U:=A 1 3 (Yg) (Ye) (fi);have V:=A 1 4 (Yg) (Yd) (fh);have W:=A 2 3 (Yf) (Ye) (fg);have Z:=A 2 4 (Yf) (Yd) (ff);have c:=A 3 4 (Ye) (Yd) (fc);simp[Iz.c1,Iz.c2,P,Q,R,S,T,U,V,W,Z,c]
 rw[O]at h5;have D:fT [Ex N 0,Ex N 1,Ex N 2,Ex N 3,Ex N 4]=true:=by simpa using h5
 unfold fT at D;have B:∀i,i<5→rk [Ex N 0,Ex N 1,Ex N 2,Ex N 3,Ex N 4] i=Ex N i:=fun i hi=>by
  have:i=0∨i=1∨i=2∨i=3∨i=4:=Ma hi;rcases this with rfl|rfl|rfl|rfl|rfl<;>rfl
 rw[OF (lt':=fun i j=>decide (N i<N j)) (fun i j hi E=>by rw[B i hi,B j E,decide_eq_decide];exact MA hi E)]at D;cases hr:K3 (fun i j=>decide (N i<N j)) (kas_sort 5) with
 |none=>rw[hr]at D;cases D
 |some p=>
  rw[hr]at D;simp only[A7,beq_iff_eq]at D;have hp:=List.isPerm_iff.mp D.2;refine⟨p,rfl,hp,?_⟩;have I:(p.toList.map (rk [Ex N 0,Ex N 1,Ex N 2,Ex N 3,Ex N 4])).Pairwise (· < ·):=by rw[D.1];decide
  rw[Ja]at I;refine I.imp_of_mem fun {a b} k hb h=>?_;have J:=An.mp (hp.subset k);have L:=An.mp (hp.subset hb);rw[B a J,B b L]at h;exact(MA J L).mp h
noncomputable def Mc(h:GY)(v:Ad)(x y:Int):Prop:=∃(a:Ch)(n:Nat)(t u:Tok),v= .ref a∧¬Tb a∧h.get? a=some (dj "tuple" #[.int x t,.int y u] n)
theorem Mc.of_vr(B:∀b,Tb b→W b)(D:VR W h v (.tup [.int x,.int y])):Mc h v x y:=by
 cases D with
 | @tup a n vs _ E F hl hi=>
  obtain⟨l⟩:=vs;refine P3 (fA hl) fun G H A=>?_;subst A;refine B8 ((hi 0 G _ rfl rfl).int_inv) fun t A=>?_;subst A;refine B8 ((hi 1 H _ rfl rfl).int_inv) fun u A=>?_;subst A;exact X4 a n t u ⟨rfl,fun q=>E (B a q),F⟩
theorem Mc.keeps(H:Mc h v x y)(k:∀b o,¬Tb b→h.get? b=some o→o.cls= .type "tuple"→h'.get? b=some o):Mc h' v x y:=
 by refine kL H fun a n t u e A B=>?_;exact X4 a n t u ⟨e,A,k a _ A B rfl⟩
section
variable{prog:IZ}{w:P'}{A:Bl}{E:Ad→AO→Prop}{s:AO}
theorem ZP{ks:List Ad}{fa fb:Nat→Int}(D:∀i,i<5→Mc s.heap (ks.getD i .none) (fa i) (fb i))(hb:∀i,i<5→-4≤fb i∧fb i≤4)(i j:Nat)(C:Bool→AO→Prop)(hi:i<5)(F:j<5)
  (h:C (decide (100*fa i+fb i<100*fa j+fb j)) s):kas_ask prog w A (tuples' true) ks i j C s:=by
 refine kL (D i hi) fun a n t u H _ I=>?_;refine kL (D j F) fun M N O P J _ L=>?_;have G:=hb i hi;have b2:=hb j F;unfold kas_ask;rw[H,J];refine kat_lt I rfl L rfl (kat_cons (wpAny_eqBool_int ?_));by_cases q:fa i=fa j
 ·rw[show(fa i==fa j)=true by rw[beq_iff_eq];exact q];refine kat_yes (kat_cons (wpAny_eqBool_int ?_));by_cases B:fb i=fb j
  ·rw[show(fb i==fb j)=true by rw[beq_iff_eq];exact B];refine kat_yes (kat_nil ?_);rw[show decide (100*fa i+fb i<100*fa j+fb j)=false by rw[decide_eq_false_iff_not];exact lQ q B]at h;exact h
  ·rw[show(fb i==fb j)=false by rw[beq_eq_false_iff_ne];exact B];refine kat_no (kat_one _ _ (QI ?_));rw[show decide (100*fa i+fb i<100*fa j+fb j)=decide (fb i<fb j) by rw[decide_eq_decide];exact lP q]at h;exact h
 ·rw[show(fa i==fa j)=false by rw[beq_eq_false_iff_ne];exact q];refine kat_no (oneLt_int ?_);rw[show decide (100*fa i+fb i<100*fa j+fb j)=decide (fa i<fa j) by rw[decide_eq_decide];exact⟨fun h=>(Int.lt_or_gt_of_ne q).resolve_right fun g=>Int.lt_asymm h (bK b2 G g),bK G b2⟩]at h;exact h
theorem Xl:∀ks:List Ad,(∀v∈ks,∃x y,Mc h v x y)→∃B:List Ad,B.length=ks.length∧KatTups h ks B∧∀f∈B,∃x t,f= .int x t:=by
 intro F
 induction F with
 |nil=>
  intro _;exact⟨[],rfl,.nil,fun f D=>by cases D⟩
 |cons v ks I=>
  intro H;refine K8 (I fun x hx=>H x (AG _ hx)) fun B J L M=>?_;refine l6 (H v AB) fun x y a n t u G _ N=>?_;subst G;refine⟨.int x t::B,by rw[AP,AP,J],.cons N rfl rfl rfl L,fun f D=>?_⟩;rcases AN.mp D with rfl|D
  ·exact X2 x t rfl
  ·exact M f D
end
section
variable{Z:Zx}{k:Nat}
noncomputable def I5(vs:List Ad):Prop:=vs.length=5∧∀i:Nat,i<5→∃t,vs[i]?=some (.int (i:Int) t)
theorem O6(M:A.handled=none)(hr:IsRange s.heap r 0 5 1 t u v)(N:∀s' vs,D9 Z.C s s'→I5 vs→Q vs s'):Af (Ar Z.prog Z.w) A (collect (.ref r)) Q E s:=by
 have F:∀{R:Result→AO→Prop},(∀h' tk B I,(∀b o,b≠s.heap.objs.size→(s.heap.push {cls:=.type "list",data:=.seq #[]}).get? b=some o→h'.get? b=some o)→h'.get? s.heap.objs.size=some {cls:=.type "list",dict:=none,data:=.seq B I,slots:= #[]}→
   ItemsOf (fun i v=>∃t,v= .int (0+i*1) t) B 5→R (.ok (.ret (.ref s.heap.objs.size))) {s with heap:=h',toks:=tk})→Kd (Ar Z.prog Z.w) A (.builtin "proto.collect" ⟨[.ref r],[]⟩) R s:=by
  intro R O;refine JD PySem.F.entry_proto_collect ?_;rw[Fv PySem.F.plain_proto_collect _];show Af _ A.in1 (newList []>>=fun l=>again (.builtin "list.__iadd__" ⟨[l,.ref r],[]⟩)) _ _ s;refine AJ (D1 ?_);refine AX ⟨On Q' _,JD PySem.F.entry_list_iadd ?_⟩;rw[Fv Q' _];have P:(s.heap.push {cls:=.type "list",data:=.seq ([]:List Ad).toArray}).get? s.heap.objs.size=some {cls:=.type "list",data:=.seq #[]}:=A4 _ rfl;exact wpAny_extend_range (s:={s with heap:=s.heap.push {cls:=.type "list",data:=.seq ([]:List Ad).toArray}}) (a:=0) (b:=5) (c:=1) (n:=5) M (Am _ hr) dc dc dc s.heap.objs.size _ 0 P O
 refine CG ?_;unfold collect;refine AJ (wpAny_runValue (F fun h' tk B I S H D=>?_));show Af _ A (load s.heap.objs.size>>=_) _ _ _;refine AJ (wpAny_load H (AX fun J=>N _ _ ?_ ⟨by rw[WP,D.1],fun i hi=>?_⟩))
 ·exact .keeps (fun b o L=>S b o (BX (BJ L)) (Am _ L)) J.1 J.2
 ·have G:i<B.size:=by rw[D.1];exact hi
  refine B8 (D.2 i B[i] (Ev G)) fun t T=>?_;refine⟨t,?_⟩;rw[Fg,Ev G,T];congr 2;exact ga
theorem I5.len(h:I5 vs)(hi:i<5):∃t,vs.getD i D_= .int (i:Int) t:=by
 refine B8 (h.2 i hi) fun t A=>?_;exact⟨t,by rw[AE,A];rfl⟩
theorem Wp(h:I5 vs):∀p:List Nat,(∀i∈p,i<5)→∀W hp,DW W hp (p.map fun i=>vs.getD i D_) (Bj p):=by
 intro A
 induction A with
 |nil=>
  intro _ _ _;exact trivial
 |cons i p B=>
  intro hp W h';refine B8 (h.len (hp i AB)) fun t D=>?_;refine⟨?_,B (fun j E=>hp j (AG _ E)) W h'⟩;show VR W h' (vs.getD i D_) (.int (i:Int));rw[D];exact .int ..
set_option maxHeartbeats 2000000 in
theorem U9{A:Bl}{D s:AO}{a q:Ch}{n₀:Nat}{vs:List Ad}{kk:Nat}{cap:List Int}{fa fb:Nat→Int}{E:Ad→AO→Prop}{P:PySem.Fin→AO→Prop}(G:Good k A)(B:DM Z.C D)(co:D9 Z.C D s)(m:D.heap.objs.size≤a)(cn:s.heap.get? a=some (dj "list" vs.toArray n₀)) (If:I5 vs)
  (ln:VR Tb D.heap (.ref q) (.clo kk cap)) (Is:∀i:Nat,i<5→JT Z k kk cap [.int i] (.tup [.int (fa i),.int (fb i)])) (c1:∀i,i<5→-4≤fb i∧fb i≤4) (Lt:∀i j,i<5→j<5→100*fa i+fb i=100*fa j+fb j→i=j)
  (lv:∀(p:List Nat) n' s',p.Perm (AW 5)→p.Pairwise (fun i j=>100*fa i+fb i<100*fa j+fb j)→D9 Z.C D s'→s'.heap.get? a=some (dj "list" (BL (p.map fun i=>vs.getD i D_)) n')→P (.done (.ret .none)) s'):
  Af (Ar Z.prog Z.w) A (ksk_tree a (.ref q) false) P E s:=by
 have O:129≤a:=AA B.low m;have H:=If.1;have mI:a<s.heap.objs.size:=BJ cn;refine Bz (Ep (C:=Z.C) cn O (fun n=> #[]) (ws:=[]) rfl) fun hs r c4=>?_;have x1:D9 Z.C D _:=co.comp c4 fun b hb=>hb.imp_right fun(e:b=a)=>e▸m;unfold ksk_tree;refine AJ (listItems_at cn rfl ?_);refine AJ (Oq cn rfl ?_ (by rw[Ab,Ay];exact AA (BC H) dc) (BI _));refine AJ (seqEpoch_at r rfl ?_);refine AJ (Ft (C:=Z.C) (by show vs.length≤_;rw[Ay];exact AA (BC H) dc) fun s₂ y2 n n=>?_);refine AJ (KT (C:=Z.C) (vs:=[]) (BI _) fun s₃ y3 df il=>?_);refine BV ?_;have N:¬Tb a:=Cg O;have Ns:=y3.keep _ _ N (y2.keep _ _ N r);have R:D.heap.objs.size≤s₂.heap.objs.size:=AA x1.size y2.size;generalize em:s₂.heap.objs.size=kS at*;have f:kS≠a:=by
  intro e;have ir:=BJ (y2.keep _ _ N r);rw[em,e]at ir;exact As _ ir
 have J:129≤kS:=AA B.low R;have en:¬Tb kS:=Cg J;have x3:D9 Z.C D s₃:=(x1.trans y2).trans y3;show Af (Ar Z.prog Z.w) A (ksk_rest a (.ref q) false vs.toArray hs (.ref kS)) P E s₃;unfold ksk_rest;refine AJ (db ?_);rw[List.forIn_toArray];refine AJ (ksk_fold (fun i s'=>D9 Z.C D s'∧s'.heap.get? a=some (dj "list" #[] hs)∧∃ks c,s'.heap.get? kS=some (dj "list" (BL ks) c)∧ks.length=i∧∀j,j<i→Mc s'.heap (ks.getD j .none) (fa j) (fb j)) vs 0 s₃
  ⟨x3,Ns,[],0,df,rfl,fun j l=>by exact(cz l).elim⟩ ?step ?done)
 case step=>
  rintro j x s' hx ⟨x4,w,ks,c,I,F,L⟩;simp only[Bw]at F L⊢;have l:j<5:=by have:=(B4.mp hx).1;exact H▸this
  refine B8 (If.2 j l) fun t l0=>?_;cases l0.symm.trans hx;have eq:Goes Tb D.heap (fun b=>Tb b∨(D.heap.objs.size≤b∧b<s'.heap.objs.size)) s'.heap:=fun b o hb M=>⟨x4.keep b o hb M,fun q=>q.elim hb fun q=>As _ (AF (BJ M) q.1)⟩;refine AJ (wpAny_attempt (Is j l A (fun b=>Tb b∨(D.heap.objs.size≤b∧b<s'.heap.objs.size)) s' (.ref q) [.int (j:Int) t] _ _ G (fun b hb=>.inl hb) (fun b hb=>hb.elim (fun hb=>by
   have hl:(b:Nat)<129:=by rcases hb with rfl|rfl<;>decide
   exact AF hl (AA B.low x4.size)) fun hb=>hb.2) (x4.base B) (ln.goes eq) ⟨.int ..,trivial⟩ fun u z l1 y=>?_))
  have mB:Mc z.heap u (fa j) (fb j):=.of_vr (fun b hb=>.inl hb) l1;have S:=y.keep _ _ en I;have Sa:=y.keep _ _ N w;refine Bz (Ep (C:=Z.C) S J (·.push u) (ws:=ks++ [u]) (by simp)) fun c2 av At=>?_;refine AJ (Oq S rfl ?_ (by rw[Ab,F,Ay];exact AA (Aa l) dc) (by show(ks.toArray.push u).size≤_;rw[a8,Ab,F,Ay];exact AA l dc));have U:∀b o,¬Tb b→z.heap.get? b=some o→o.cls= .type "tuple"→(z.heap.update kS (E9 (·.push u))).get? b=some o:=fun b o hb M bi=>At.keep b o (fun q=>q.elim hb fun q=>by subst q;cases S.symm.trans M;injection bi with bi;exact absurd bi dc) M;refine AX ⟨rfl,(x4.trans y).comp At fun b hb=>hb.imp_right fun(e:b=kS)=>e▸R,At.keep a _ (fun q=>q.elim N fun q=>f q.symm) Sa,ks++ [u],c2,av,by rw[AQ,F];rfl,fun i hi=>?_⟩;rw[AE,Hu,F];by_cases W:i<j
  ·rw[if_pos W,←AE];exact(L i W).keeps fun b o hb M bi=>U b o hb (y.keep b o hb M) bi
  ·rw[if_neg W,(by exact DL (A9 hi) (A0.mp W):i=j),Dr];exact mB.keeps U
 case done=>
  rintro s' ⟨x4,w,ks,c,I,F,L⟩;rw[H]at F L;simp only[Bw]at F L;refine AJ (listItems_at I rfl ?_);unfold ksk_end;dsimp only;rw[if_neg dc];have bl:¬vs.toArray.size<2:=by rw[Ab];exact fun h=>absurd (H▸h) dc
  rw[if_neg bl,if_neg bl,if_neg dc];obtain⟨fs,f1,f2,f3⟩:=Xl (h:=s'.heap) ks fun v er=>by
   obtain⟨i,hi,rfl⟩:=List.getElem_of_mem er;refine X2 (fa i) (fb i) ?_;have:=L i (F▸hi)
   rwa [AE,AL hi]at this
  refine AJ (kat_kind f2 (iA F f1) (T:=.type "int") (fun v er=>by refine P3 (f3 v er) fun x t Gt=>?_;subst Gt;exact .of_pure rfl) rfl ?_);rw[(rfl:((It "int" !=It "tuple"):Bool)=true)];refine K8 (bw (fun i=>100*fa i+fb i) Lt) fun p hr b2 fe=>?_;refine AJ (B1 (kat_run (κ:=tuples' true) (ks:=ks) (vs:=vs) (Q:=fun d s3=>s3=s'∧arrOf d=p.map (kas_item (ks.toArray.zip vs.toArray))∧failedOf d=none) (G:=fun p' s3=>p'=p∧s3=s') (H▸F) (h9 H) (h8 H) (fun p' d s3 n mC mD mE=>by
   refine ER mE fun Gt fn=>?_;subst Gt fn;exact⟨rfl,mC,mD⟩) (by rw[H];exact Tw (fun i j C hi l mF=>ZP L c1 i j C hi l mF) _ hr ⟨rfl,rfl⟩)) ?_ fun n n e=>e)
  rintro⟨⟨⟩,d⟩ s3 ⟨rfl,fr,mG⟩;dsimp only;have b3:=kat_snds (vs:=vs) (H▸F) fr;have gd:p.toList.length=5:=by rw[b2.length_eq,Bm]
  have go:(BL (p.toList.map fun i=>vs.getD i D_)).size=5:=by rw[Ab,AH,gd]
  unfold ksk_tail;dsimp only;rw[b3];refine Bz (Ep (C:=Z.C) I J (fun n=> #[]) (ws:=[]) rfl) fun c3 kw b4=>?_;have V:=b4.keep a _ (fun q=>q.elim N fun q=>f q.symm) w;refine Bz (Ep (C:=Z.C) (vs:=[]) V O (fun n=>BL (p.toList.map fun i=>vs.getD i D_)) rfl) fun mH ck gs=>?_;refine AJ (Oq I rfl ?_ (by rw[Ab,F,Ay];exact f8) (BI _));refine AJ (wpAny_letGo ?_);refine AJ (seqEpoch_at V rfl ?_);refine AJ (Oq V rfl ?_ (BI _) (AA (BC go) (by rw[Ay];exact f9)));rw[mG];simp only[bne_self_eq_false,Gv,if_false];exact AX (lv p.toList mH _ b2 fe ((x4.comp b4 fun b hb=>hb.imp_right fun(e:b=kS)=>e▸R).comp gs fun b hb=>hb.imp_right fun(e:b=a)=>e▸m) ck)
end
section
variable{Z:Zx}{k:Nat}{F:Fx}{ρ κ:Ci}{st:Bool}
theorem RR{A:Bl}{s:AO}{r q:Ch}{t u v:Tok}{kk:Nat}{cap:List Int}{fa fb:Nat→Int}{Q:Ad→AO→Prop}{E:Ad→AO→Prop}(G:Good (k+2) A)(B:DM Z.C s)(hr:IsRange s.heap r 0 5 1 t u v)
  (N:VR Tb s.heap (.ref q) (.clo kk cap)) (H:∀i:Nat,i<5→JT Z k kk cap [.int i] (.tup [.int (fa i),.int (fb i)])) (J:∀i,i<5→-4≤fb i∧fb i≤4) (I:∀i j,i<5→j<5→100*fa i+fb i=100*fa j+fb j→i=j)
  (O:∀(p:List Nat)(a:Nat) n vs s',p.Perm (AW 5)→p.Pairwise (fun i j=>100*fa i+fb i<100*fa j+fb j)→s.heap.objs.size≤a→D9 Z.C s s'→s'.heap.get? a=some {cls:=.type "list",data:=.seq (BL vs) n}→(∀W hp,DW W hp vs (Bj p))→Q (.ref a) s'):
  Af (Ar Z.prog Z.w) A (DC (.builtin "sorted") [.ref r] [(Ap "key",.ref q)]) Q E s:=by
 refine call_function_entry_kw kind_sorted plain_sorted entry_sorted (ksk_s1 _ _) ?_;unfold Builtin.«sorted»;refine AJ (m:=checkCount "sorted" 1 1 _) (AX ?_);refine AJ (O6 (A:=A.in1) G.handled hr fun s₁ vs x D=>?_);refine AJ (KT (C:=Z.C) (by rw[D.1,Ay];decide) fun s₂ y M P=>?_);refine AJ (BV (wpAny_call_entry_kw slot_list_sort ⟨_,M,rfl⟩ entry_list_sort ?_ (ksk_l1 _ _)));show Af (Ar Z.prog Z.w) A.in1.in1 (Builtin.«list.sort» ⟨[.ref s₁.heap.objs.size],[(Ap "key",.ref q)]⟩) _ _ _;rw[ksk_t1];refine U9 (G.in1.in1) B (x.trans y) x.size M D N H J I fun p R s' hp hs e L=>⟨_,rfl,AX ⟨_,rfl,?_⟩⟩;exact O p _ R _ s' hp hs x.size e L (Wp D p fun i hi=>An.mp (hp.subset hi))
theorem PF.sorted{p U V W pos kp c:JE}{d:Nat}{kk:Nat}{cap:List Int}{params:RC}{body:Aj}{scope:Scope}{fa fb:Nat→Int}{L:List Nat}(If:F.env.kindOf "sorted"=some .globalImplicit) (Is:Gl Z.C "sorted" (.builtin "sorted")) (f:F.env.kindOf "range"=some .globalImplicit) (h:Gl Z.C "range" (.type "range"))
  (t:TabOf 127 125 (Fy kk).qual) (I:F.env.code= .ref 127) (Lt:F.env.qual++"<lambda>"=(Fy kk).qual) (hp:params=(Fy kk).params) (hb:body=(Fy kk).body) (l:scope=(Fy kk).scope) (J:Ug params F.env=([],[])) (Ns:Ok F ρ κ scope kk cap)
  (M:∀i:Nat,i<5→JT Z k kk cap [.int i] (.tup [.int (fa i),.int (fb i)])) (m:∀i,i<5→-4≤fb i∧fb i≤4) (N:∀i j,i<5→j<5→100*fa i+fb i=100*fa j+fb j→i=j) (Sa:L.Perm (AW 5)) (o:L.Pairwise (fun i j=>100*fa i+fb i<100*fa j+fb j)):
  PF Z (k+2) F ρ κ st (.Call (.Name "sorted" p) [.Call (.Name "range" U) [.Constant (.int 5) d V] [] W] [⟨some (Ap "key"),.Lambda params body scope c,kp⟩] pos) (Bj L):=.ofRun fun A O s Q E G R av=>by
 refine G_ (EL R If Is dc (bc rfl rfl ?_));have B:Af (Ar Z.prog Z.w) A (FU (DO pos (B_ [.Call (.Name "range" U) [.Constant (.int 5) d V] [] W] F.env))) (fun vs s₁=>Af (Ar Z.prog Z.w) A (Tg ((Di pos (CZ [⟨some (Ap "key"),.Lambda params body scope c,kp⟩] F.env)).map (·.2))) (fun ks s₂=>Af (Ar Z.prog Z.w) A (DC (.builtin "sorted") vs (((Di pos (CZ [⟨some (Ap "key"),.Lambda params body scope c,kp⟩] F.env)).filterMap (·.1)).zip ks)) Q E s₂) E s₁) E s:=by
  rw[B9 rfl];show Af _ _ (D4 (.Call (.Name "range" U) [.Constant (.int 5) d V] [] W) F.env>>=fun v=>(pure [v]:Ku (List Ad))>>=fun here=>D3 here (FU (DO pos (B_ [] F.env)))>>=fun r=>pure (here++r)) _ _ _;refine AJ (MZ R f h dc rfl ((PE.cint (st:=false) (i:=5)).run A O s _ _ G R fun w s₁ bi y=>?_));refine B8 bi.int_inv fun t5 u=>?_;subst u;refine call_range_1 ?_;have D:D9 Z.C s₁ {s₁ with heap:=s₁.heap.push {cls:=.type "range",data:=.fields #[.int 0 s₁.toks,.int 5 t5,.int 1 (s₁.toks+1)]},toks:=s₁.toks+1+1}:=.push (by show s₁.toks≤s₁.toks+1+1;exact Vw);refine AJ (AX (AJ (BV ?_)));refine AX (AX ?_);have H:=R.ext (y.trans D);refine bZ (Qc (W':=Tb) H (fun b hb=>.inl hb) t I Lt hp hb l J Ns fun w s₃ P z=>kws_nil ?_);have S:=P;cases S with
  | @clo q _ _ ck bl=>
   refine RR G (H.ext z).base (z.keep s₁.heap.objs.size _ (Cg (AA R.base.low y.size)) (Sn s₁.heap 0 5 1 _ _ _)) P M m N fun p' a n vs s' hp hs At x b2 Gt=>?_;have e:p'=L:=Eu (fun a b u0 u0 b3 b4=>absurd (Iy b3 b4) (Sq _)) hs o (hp.trans Sa.symm);subst e;have T:=((y.trans D).trans z);exact av a n vs s' (AA T.size At) b2 (Gt _ _) (T.trans x)
 rw[B9 rfl]at B⊢;exact NR rfl B
theorem YM{T:List Nat}{i:Nat}(hi:i<5)(A:T.length=5):JT Z (k+1) 2 (zs T) [.int i] (.tup [.int (T.getD i 0:Nat),.int i]):=by
 have hz:(zs T).getD i 0=(T.getD i 0:Nat):=by
  unfold zs;rw[AE,BD,AL (Ym hi A),AE,AL (Ym hi A)];rfl
 refine ER (Ht (xs:=zs T) (m:=(i:Int)) (M6 hi) (by rw[Ct];exact BR.mpr (A▸hi))) fun E D=>?_;rw[Ag,hz]at D;refine KY (x:="k") (fun B B B B B=>rfl) rfl (fun y G=>?_) rfl rfl rfl rfl dc fun F H=>?_
 ·cases G;exact⟨rfl,dc,rfl⟩
 ·show PE Z k F [("k",.val (.int (i:Int)))] [("table",.val (.list ((zs T).map PV.int)))] false _ _
  conv=>arg 7;whnf
  exact PE.tuple (.two (PE.itemL (PE.name (p:=.list ((zs T).map PV.int)) (AD 1 rfl)) (PE.name (p:=.int (i:Int)) (AD 0 rfl)) E D (by rw[AH,Ct];exact ae A)) (PE.name (p:=.int (i:Int)) (AD 0 rfl)))
theorem YL{T:List Nat}{i:Nat}(hi:i<5)(A:T.length=5):JT Z (k+1) 3 (zs T) [.int i] (.tup [.int (T.getD i 0:Nat),.int (-(i:Int))]):=by
 have hz:(zs T).getD i 0=(T.getD i 0:Nat):=by
  unfold zs;rw[AE,BD,AL (Ym hi A),AE,AL (Ym hi A)];rfl
 refine ER (Ht (xs:=zs T) (m:=(i:Int)) (M6 hi) (by rw[Ct];exact BR.mpr (A▸hi))) fun E D=>?_;rw[Ag,hz]at D;refine KY (x:="k") (fun B B B B B=>rfl) rfl (fun y G=>?_) rfl rfl rfl rfl dc fun F H=>?_
 ·cases G;exact⟨rfl,dc,rfl⟩
 ·show PE Z k F [("k",.val (.int (i:Int)))] [("table",.val (.list ((zs T).map PV.int)))] false _ _
  conv=>arg 7;whnf
  exact PE.tuple (.two (PE.itemL (PE.name (p:=.list ((zs T).map PV.int)) (AD 1 rfl)) (PE.name (p:=.int (i:Int)) (AD 0 rfl)) E D (by rw[AH,Ct];exact ae A)) (PE.neg (PE.name (p:=.int (i:Int)) (AD 0 rfl))))
end
structure Yt(T hid R B:List Nat):Prop where
 hs:EH R [0]=GQ hid T
 hn:R.length+B.length+hid.length=8
 hr:∃L:List Nat,L.Perm (AW 5)∧L.Pairwise (fun i j=>100*((T.getD i 0:Nat):Int)+(i:Int)<100*((T.getD j 0:Nat):Int)+(j:Int))∧Fk T 5=5::(zs L++ [6])
 hl:∃L:List Nat,L.Perm (AW 5)∧L.Pairwise (fun i j=>100*((T.getD i 0:Nat):Int)+-(i:Int)<100*((T.getD j 0:Nat):Int)+-(j:Int))∧Gj T 5=5::(zs L++ [6])
 hb:∃M:List Nat,B=32::(M++ [0])∧M.Pairwise (· ≤ ·)
theorem Rn(l:List Int):Lay 64 (.list (l.map PV.int)):=Lay.list (n:=63) fun p hp=>by
 refine Bz (AU.mp hp) fun i _ A=>?_;subst A;exact .int _
section
variable{Z:Zx}{k:Nat}{F:Fx}{ρ κ:Ci}{st:Bool}
theorem Bk.sorted{ns L:List Int}(hp:L.Perm ns)(hs:L.Pairwise (· ≤ ·))(J:ns.length<64):Bk Z k (.builtin "sorted") [.list (ns.map PV.int)] [] [] (.list (L.map PV.int)):=fun A W s vs V Q E G z hl B M H d=>by
 refine Bz M.one fun v D N=>?_;subst D;obtain rfl:=H.l0;refine IW N.list_inv fun l n ws D f h O=>?_;subst D;have R:=TI O;refine CG (sorted_ints ⟨_,h,rfl,_,rfl⟩ R (by rw[R.length];exact J) fun I P S j m T=>?_);have e:P=L:=Eu (fun a b r r u w=>LB u w) m hs (j.trans hp.symm);subst e;refine B8 (sortedAll_at s.heap ws I) fun c y=>?_;refine d _ _ (.list (n:=c) (vs:=I) (fun q=>by
  have:=hl _ q;exact As _ (AF this (BU _))) y (by rw[AH,←S.length,WP]) fun i v p N hp=>?_) (.keeps (fun b o e=>sortedAll_old e) T.1 T.2)
 rw[BD]at hp;refine Bz (Cv.mp hp) fun x hx D=>?_;subst D;refine B8 (S.get i x hx) fun t U=>?_;rw[Fg]at U;cases U.symm.trans N;exact .int ..
set_option maxHeartbeats 2000000 in
theorem VO(A:Mj F Z.C)(w:s.su= .own (Bj (EH R [0])))(y:s.ev= .val (.list (Bj (GQ hid T))))(z:s.rg= .val (.list (Bj R)))(At:s.bs= .val (.list (Bj B)))(Gt:s.hi= .val (.list (Bn hid)))(If:s.od= .val (.list ((Fk T 5).map PV.int)))(Is:s.ot= .val (.list ((Gj T 5).map PV.int)))(Lt:s.tb= .val (.list (Bj T)))(Ns:s.kp= .val (.list (Bj B)))(Sa:s.rf= .own (AT (Aq 5 IT)))
  (I:T.length=5) (c2:∀r∈T,r<32) (D:B.length≤50) (H:Yt T hid R B):EM Z (k+10) F (CH s) [] (DU.drop 17) (.ret (.bool true)):=by
 have av:(Ap "sums",Internal.Slot.own (Bj (EH R [0])))∈CH s:=by rw[←w];exact AD 19 rfl
 have bi:(Ap "even",Internal.Slot.val (.list (Bj (GQ hid T))))∈CH s:=by rw[←y];exact AD 25 rfl
 have bl:(Ap "rings",Internal.Slot.val (.list (Bj R)))∈CH s:=by rw[←z];exact AD 18 rfl
 have J:(Ap "basis",Internal.Slot.val (.list (Bj B)))∈CH s:=by rw[←At];exact AD 17 rfl
 have b2:(Ap "hidden",Internal.Slot.val (.list (Bn hid)))∈CH s:=by rw[←Gt];exact AD 7 rfl
 have b3:(Ap "order",Internal.Slot.val (.list ((Fk T 5).map PV.int)))∈CH s:=by rw[←If];exact AD 15 rfl
 have b4:(Ap "other",Internal.Slot.val (.list ((Gj T 5).map PV.int)))∈CH s:=by rw[←Is];exact AD 16 rfl
 have P:(Ap "table",Internal.Slot.val (.list ((zs T).map PV.int)))∈CH s:=by rw[L4,←Lt];exact AD 26 rfl
 have ck:(Ap "kept",Internal.Slot.val (.list (Bj B)))∈CH s:=by rw[←Ns];exact AD 22 rfl
 have cn:(Ap "refused",Internal.Slot.own (AT (Aq 5 IT)))∈CH s:=by rw[←Sa];exact AD 21 rfl
 refine K8 H.hr fun Q p2 s2 c3=>?_;refine K8 H.hl fun S p3 s3 c4=>?_;refine Bz H.hb fun M co sM=>?_;have E:∀i,i<5→T.getD i 0<32:=fun i hi=>by
  rw[AE,AL (TV I hi)];exact c2 _ (BY _)
 have U:Q.length=5:=by rw[p2.length_eq,Bm]
 have V:S.length=5:=by rw[p3.length_eq,Bm]
 have W:∀{scope:Scope},scope=(Fy 2).scope∨scope=(Fy 3).scope→∀c,F.env.cells.lookup (Ap "table")=some c→GW scope F.env=pure [(Ap "table",c)]:=fun {scope} hs c df=>by
  have L:Uh F.env (Ap "table")=pure c:=by unfold Uh;rw[df]
  have hn:scope.names=[(("k":Ax),NameKind.local),(("table":Ax),Cn)]:=by rcases hs with rfl|rfl<;>rfl
  unfold GW;rw[hn];simp only[K0,Ln,L];rfl
 have d:∀{st:Bool}{p f l m pos kp o:JE}{t:Nat},PF Z (k+10) F (CH s) [] st (.Call (.Name "sorted" p) [.Call (.Name "range" f) [.Constant (.int 5) t l] [] m] [⟨some (Ap "key"),.Lambda (Fy 2).params (Fy 2).body (Fy 2).scope o,kp⟩] pos) (Bj Q):=fun {st p f l m pos kp o t}=>
  PF.sorted (kk:=2) (cap:=zs T) (fa:=fun i=>((T.getD i 0:Nat):Int)) (fb:=fun i=>(i:Int)) (A.kind _ rfl) A.av.so (A.kind _ rfl) A.av.bi.rg .law A.cd (by rw[A.ql];rfl) rfl rfl rfl rfl ⟨AC _ P,by rw[A.kind _ rfl];decide,W (.inl rfl)⟩ (fun i hi=>YM (k:=k+7) hi I) (fun i hi=>jB hi) (fun i j hi u e=>by have:=E i hi;have:=E j u;exact Ce.mp (kb (fG hi) (fG u) e)) p2 s2
 have v:∀{st:Bool}{p f l m pos kp o:JE}{t:Nat},PF Z (k+10) F (CH s) [] st (.Call (.Name "sorted" p) [.Call (.Name "range" f) [.Constant (.int 5) t l] [] m] [⟨some (Ap "key"),.Lambda (Fy 3).params (Fy 3).body (Fy 3).scope o,kp⟩] pos) (Bj S):=fun {st p f l m pos kp o t}=>
  PF.sorted (kk:=3) (cap:=zs T) (fa:=fun i=>((T.getD i 0:Nat):Int)) (fb:=fun i=>-(i:Int)) (A.kind _ rfl) A.av.so (A.kind _ rfl) A.av.bi.rg .law A.cd (by rw[A.ql];rfl) rfl rfl rfl rfl ⟨AC _ P,by rw[A.kind _ rfl];decide,W (.inr rfl)⟩ (fun i hi=>YL (k:=k+7) hi I) (fun i hi=>jA hi) (fun i j hi u e=>by have:=E i hi;have:=E j u;exact Ce.mp (Int.neg_inj.mp (kb (fH hi) (fH u) e))) p3 s3
 have G:B.length=M.length+2:=by rw[co];simp
 have N:IS (Bj B) (some 1) (some (-1)) none=(zs M).map PV.int:=by
  rw[L4,JM (a:=1) (b:=M.length+1) (by
   rw[A',G];unfold EA;simp;exact⟨k4,k3⟩)]
  rw[co];unfold Bj;rw[←Hk,←Ff];simp
 conv=>arg 6;whnf
 refine EM.stop (P1.ret (PE.of (PE.and (b:=true) (q:=.bool true) (PE.cmp (PE.nameO (AC _ av)) (PE.name (AC _ bi)) (by rw[H.hs];exact C5.eqRefl (JN _))) I3.bool fun O=>PE.of (PE.and (b:=true) (q:=.bool true) (PE.of (q:=.bool true) (PE.cmp (PE.add (PE.call (st:=false) (A.kind _ rfl) A.av.ck.ln (.builtin _) (.one (PE.name (AC _ bl))) (Bk.lenL (by rw[A'];have:=H.hn;exact AA (AA (AM _ _) (AM _ _)) (AA (BC this) dc)))) (PE.call (st:=false) (A.kind _ rfl) A.av.ck.ln (.builtin _) (.one (PE.name (AC _ J))) (Bk.lenL (by rw[A'];exact AA D dc)))) (PE.sub PE.cint (PE.call (st:=false) (A.kind _ rfl) A.av.ck.ln (.builtin _) (.one (PE.name (AC _ b2))) (Bk.lenL (by rw[CL];have:=H.hn;exact AA (CM _ _) (AA (BC this) dc))))) C5.eqI) ?_) I3.bool fun O=>PE.of (PE.and (b:=true) (q:=.bool true) (PE.cmp (PE.name (AC _ b3)) (PE.addL (xs:=[.int 5]++Bj Q) (ys:=[.int 6]) (PE.addL (xs:=[.int 5]) (PE.list (.one PE.cint)) (PF.pe d) (by show 1+_≤_;rw[A'];exact ed U)) (PE.list (.one PE.cint)) (by rw[AQ,A'];show 1+_+1≤_;exact ee U)) ?_) I3.bool fun O=>PE.of (PE.and (b:=true) (q:=.bool true) (PE.cmp (PE.name (AC _ b4)) (PE.addL (xs:=[.int 5]++Bj S) (ys:=[.int 6]) (PE.addL (xs:=[.int 5]) (PE.list (.one PE.cint)) (PF.pe v) (by show 1+_≤_;rw[A'];exact ed V)) (PE.list (.one PE.cint)) (by rw[AQ,A'];show 1+_+1≤_;exact ee V)) ?_) I3.bool fun O=>PE.of (PE.and (b:=true) (q:=.bool true) (PE.of (q:=.bool true) (PE.cmp2 (b:=true) (c:=true) (PE.name (AC _ J)) (PE.name (AC _ ck)) (fun O=>PE.addL (xs:=[.int 32]++(zs M).map PV.int) (ys:=[.int 0]) (PE.addL (xs:=[.int 32]) (PE.list (.one PE.cint)) (PE.call (st:=false) (A.kind _ rfl) A.av.so (.builtin _) (.one (PE.of (PE.slice (PE.name (AC _ J)) (.some PE.cint) (.some (PE.neg PE.cint)) .none dc (by rw[A'];exact AA D dc)) (congrArg PV.list N))) (Bk.sorted (N4 _) ?_ (by rw[Ct];exact AY (AA (G▸AM _ 2) D) dc))) (by show 1+_≤_;rw[AH,Ct];exact AA (AV (AA (G▸AM _ 2) D) 1) dc)) (PE.list (.one PE.cint)) (by rw[AQ,AH,Ct];show 1+_+1≤_;exact AA (BS (AV (AA (G▸AM _ 2) D) 1)) dc)) (C5.eqRefl (JN _)) (fun O=>?_)) rfl) I3.bool fun O=>PE.of (PE.and1 (PE.cmp (PE.nameO (AC _ cn)) (PF.pe (PF.mul (n:=5) (PE.list (.one PE.cstr)) PE.cint dc dc (by show(1:Nat)≤_;decide))) ?_)) rfl) rfl) rfl) rfl) rfl) rfl))
 ·congr 1;rw[beq_iff_eq,A',A',CL];have:=H.hn;exact(Int.sub_eq_iff_eq_add.mpr (congrArg Int.ofNat this).symm).symm
 ·rw[c3];have e:(5::(zs Q++ [6])).map PV.int=[.int 5]++Bj Q++ [.int 6]:=by rw[Ae,Ac,L4];rfl
  rw[←e];exact C5.eqRefl (Rn _)
 ·rw[c4];have e:(5::(zs S++ [6])).map PV.int=[.int 5]++Bj S++ [.int 6]:=by rw[Ae,Ac,L4];rfl
  rw[←e];exact C5.eqRefl (Rn _)
 ·unfold zs;rw[Ja];exact sM.imp fun h=>A3.mpr h
 ·have e:Bj B=[.int 32]++(zs M).map PV.int++ [.int 0]:=by
   rw[co,L4];unfold Bj;rw[Ae,Ac];rfl
  rw[←e];exact C5.eqRefl (JN _)
 ·exact C5.eqRefl (Lay.list (n:=63) fun p hp=>by
   refine Bz (AU.mp hp) fun x hx c1=>?_;subst c1;rw[Sh hx];exact .str (by unfold WA;decide))
end
noncomputable def FX(A d1 d2 d3 d4:Nat):List Nat:=tableOf (Dp (E5 A d1 d2 d3 d4)) (unitsOf A d1 d2 d3 d4)
structure e7(d0 d1 d2 d3 d4:Nat):Prop where
 tx:TY d0 d1 d2 d3 d4
 wd:M7 (d4 % 29)
 tb:∀r∈FX d0 d1 d2 d3 d4,r<32
 fin:∃E,Ta (unitsOf d0 d1 d2 d3 d4) E∧Yt (FX d0 d1 d2 d3 d4) (GT d1) (DS E) (FZ (FX d0 d1 d2 d3 d4))
noncomputable def Q0:Prop:=∀A d1 d2 d3 d4:Nat,e7 A d1 d2 d3 d4
theorem Vj:∀(U:List Ax)(n:Nat),(Es n U).length≤U.length:=by
 intro A
 induction A with
 |nil=>
  intro n;exact AK _
 |cons x U B=>
  intro n;rw[Es.c2];split
  ·exact AA (B n) (BU _)
  ·rw[AP,AP];exact BS (B _)
section
variable{Z:Zx}{k:Nat}{F:Fx}
set_option maxHeartbeats 1000000 in
theorem Xh(G:Mj F Z.C){A:List Int}(hs:A.length≤63)(O:Q0):EM Z (k+10) F (CH {sc:=.val (.list (A.map PV.int))}) [] DU (.ret (.bool true)):=by
 refine XY G hs (Xb G ?_);have hd:drawsOf A=[F0 A 0 3296,F0 A 1 277,F0 A 2 651,F0 A 3 828636,F0 A 4 37]:=rfl;rw[hd];generalize F0 A 0 3296=D;generalize F0 A 1 277=d1;generalize F0 A 2 651=d2;generalize F0 A 3 828636=d3;generalize F0 A 4 37=d4;have H:=O D d1 d2 d3 d4;refine Bz H.fin fun E P J=>?_;have L:d4 % 29<29:=CO _ dc;have N:(unitsOf D d1 d2 d3 d4).length≤100:=by
  unfold unitsOf DD;rw[AQ,NC,H.tx.rl,(PX _).1];have:=OA (d4/29 % 4);exact AA (AV this 20) dc
 have M:(Es 0 (unitsOf D d1 d2 d3 d4)).length≤1000:=by have:=Vj (unitsOf D d1 d2 d3 d4) 0;exact AA (AA this N) dc
 have I:(FX D d1 d2 d3 d4).length=5:=by unfold FX tableOf;rw[AH,Bm]
 have hn:=J.hn;refine XX G H.tx ?_;refine XZ G (s:=S8 _ _ D d1 d2 d3 d4) rfl rfl (fun t Q=>KM Q) (by rw[Uz];decide) M ?_;refine XW G (b:=d4 % 29) rfl L H.wd ?_;refine Xa G (b:=d4 % 29) (T:=FX D d1 d2 d3 d4) rfl rfl rfl L H.wd H.tb (AA (BC I) dc) ?_;refine Xc G (b:=d4 % 29) (T:=FX D d1 d2 d3 d4) rfl rfl rfl H.wd.ld I H.tb ?_;refine Zr G (U:=unitsOf D d1 d2 d3 d4) (B:=FZ (FX D d1 d2 d3 d4)) rfl rfl P M (lj hn) ?_;refine Zn G (R:=DS E) (s:={S8 _ _ D d1 d2 d3 d4 with tb:=.val (.list (Bj (FX D d1 d2 d3 d4))),wo:=.val (.list (AT (wordsOf (d4 % 29)))),od:=.val (.list ((Fk (FX D d1 d2 d3 d4) 5).map PV.int)),ot:=.val (.list ((Gj (FX D d1 d2 d3 d4) 5).map PV.int)),bs:=.val (.list (Bj (FZ (FX D d1 d2 d3 d4)))),rg:=.val (.list (Bj (DS E))),kp:=.val (.list (Bj (FZ (FX D d1 d2 d3 d4)))),pa:=.own (Bj [0]),rf:=.own []}) rfl (AA (AA (AM _ _) (AM _ _)) (AA (BC hn) dc)) fun on ol=>?_;refine VP G (B:=FZ (FX D d1 d2 d3 d4)) (s:={S8 _ _ D d1 d2 d3 d4 with tb:=.val (.list (Bj (FX D d1 d2 d3 d4))),wo:=.val (.list (AT (wordsOf (d4 % 29)))),od:=.val (.list ((Fk (FX D d1 d2 d3 d4) 5).map PV.int)),ot:=.val (.list ((Gj (FX D d1 d2 d3 d4) 5).map PV.int)),bs:=.val (.list (Bj (FZ (FX D d1 d2 d3 d4)))),rg:=.val (.list (Bj (DS E))),kp:=.val (.list (Bj (FZ (FX D d1 d2 d3 d4)))),su:=.own ((zs (EH (DS E) [0])).map PV.int),on:=on,ol:=ol}) rfl rfl fun kk=>?_;refine Zs G (T:=FX D d1 d2 d3 d4) (hid:=GT d1) rfl rfl rfl I H.tb (fun x hx=>Aa (Qe hx)) ?_;exact VO G (T:=FX D d1 d2 d3 d4) (hid:=GT d1) (R:=DS E) (B:=FZ (FX D d1 d2 d3 d4)) (congrArg Internal.Slot.own (L4 _)) rfl rfl rfl rfl rfl rfl rfl rfl rfl I H.tb (AA (AA (CM _ _) (AM _ _)) (AA (BC hn) dc)) J
theorem Xg{A:Bl}{W:AS}{s:AO}{a:Ch}{fd:Dc}{v:Ad}{D:List Int}{Q:Ad→AO→Prop}{E:Ad→AO→Prop}(G:Good (k+11) A)(O:A.frames=some [])(B:DM Z.C s)(T:J2 Z.C 23 a fd)(P:fd.code= .ref 127)(R:fd.qualname="law") (S:Ys Z.C) (i:∀b,Tb b→W b) (hl:∀b,W b→b<s.heap.objs.size)
  (j:VR W s.heap v (.list (D.map PV.int))) (hs:D.length≤63) (m:Q0) (n:∀s',D9 Z.C s s'→Q (.bool true) s'):Af (Ar Z.prog Z.w) A (DC (.ref a) [v]) Q E s:=by
 have hb:Ir fd ⟨[v],[]⟩=pure [(("script":Ax),v)]:=T.bind fun o=>rfl;refine IF (Jq (k:=k+10) (U:=W) (bs:=[(("script":Ax),.val (.list (D.map PV.int)))]) (us:=(["taken","k","one","draws","ring","base","hidden","tail","pieces","due","left","read","inside","words","order","other","basis","rings","sums","parity","refused","kept","old","error","even","table"]:List Ax).map fun x=>(x,Internal.Slot.unb)) G B T.t.ok (by rw[T.t.sc];rfl) i hl (binds:=[(("script":Ax),v)]) (fun M A E Q p=>by rw[hb];exact AX p) ⟨rfl,j,trivial⟩ (fun x sl hx=>by
  refine Bz (AU.mp hx) fun y _ e=>?_;cases e;rfl) ?_ (by show(["script","taken","k","one","draws","ring","base","hidden","tail","pieces","due","left","read","inside","words","order","other","basis","rings","sums","parity","refused","kept","old","error","even","table"]:List Ax).Nodup;decide) rfl fun F s' H If L r N e=>?_)
 ·intro x sl hx;rw[T.t.sc];have t:=CY (f:=WG) hx;have w:x∈(["script","taken","k","one","draws","ring","base","hidden","tail","pieces","due","left","read","inside","words","order","other","basis","rings","sums","parity","refused","kept","old","error","even","table"]:List Ax):=t;have c:T7 (Bu (Au 23)) ["script","taken","k","one","draws","ring","base","hidden","tail","pieces","due","left","read","inside","words","order","other","basis","rings","sums","parity","refused","kept","old","error","even","table"]=true:=dc;unfold T7 at c;have d:=Al.mp c x w;simp only[A7,E0,beq_iff_eq]at d;exact d.1
 ·have z:Mj F Z.C:=⟨by rw[H.scope,T.t.sc],by rw[H.code,P],by rw[H.qual,R];rfl,S⟩;refine B8 (Xh (k:=k) z hs m) fun ρ' hp=>?_;refine B1 (hp.run (A.deeper F.env) _ s' (fun f I=>f= .ret (.bool true)∧D9 Z.C s I) _ G.deeper ⟨by show(A.frames.map fun l=>F.env::l)=_;rw[O];rfl,L⟩ N fun f I O' V Is y At=>?_) (fun f I h=>?_) fun u0 u0 h=>h
  ·refine Bz V fun u J Gt=>?_;subst J;cases Gt;exact⟨rfl,e.comp y fun b hb=>hb.elim .inl fun q=>q.elim (fun q=>.inr (r b q)) fun q=>q.elim⟩
  ·refine ER h fun J x=>?_;subst J;exact n _ x
end
noncomputable def dW(K:QA)(a:Ch):Option Dc:=match K.lookup a with
 |some ⟨_,_,.func fd,_⟩=>some fd
 |_=>none
noncomputable def fU(K:QA)(c:Ch):Option Ax:=match K.lookup c with
 |some ⟨_,_,.fields vs,_⟩=>(match (vs[1]?:Option Ad) with|some (.str q _)=>some q|_=>none)
 |_=>none
noncomputable def Y'(K:QA)(a:Ch):Option (Array DictEntry):=match K.lookup a with
 |some ⟨_,_,.dict es _,_⟩=>some es
 |_=>none
theorem aA{K:QA}{a:Ch}(h:dW K a=some fd):∃o,K.lookup a=some o∧o.data= .func fd:=by
 unfold dW at h;cases e:K.lookup a with
 |none=>rw[e]at h;cases h
 |some o=>
  rw[e]at h;cases o with
  |mk c d f g=>cases f<;>first|(cases h;exact⟨_,rfl,rfl⟩)|cases h
set_option tactic.hygienic true in
theorem aM{K:QA}{c:Ch}{q:Ax}(h:fU K c=some q){hp:GY}(x:K.In hp):hp.CodeRec (.ref c) q:=by
 unfold fU at h;split at h
 ·rename_i vs _ e;split at h
  ·rename_i B t A;cases h;exact X4 c _ vs t ⟨rfl,x _ _ e,rfl,A⟩
  ·cases h
 ·cases h
theorem aD{K:QA}{a:Ch}(h:Y' K a=some es):∃o n,K.lookup a=some o∧o.data= .dict es n:=by
 unfold Y' at h;cases e:K.lookup a with
 |none=>rw[e]at h;cases h
 |some o=>
  rw[e]at h;cases o with
  |mk c d f g=>cases f<;>first|(cases h;exact X2 _ _ ⟨rfl,rfl⟩)|cases h
structure Q4(K:QA)(i:Nat)(a c:Ch)(q:Ax)(dv kv:Ad):Prop where
 f:(dW K a).map (fun fd=>(fd.body,fd.scope,fd.params,fd.closure,fd.globals,fd.builtins,fd.code,fd.qualname,fd.defaults,fd.kwdefaults))=
  some (.stmts (Ba (Au i)),Bu (Au i),Kq (Au i),[],GV,J5,.ref c,q,dv,kv)
 c:fU K c=some q
 co:(Bu (Au i)).isCoroutine=false
 kd:(Bu (Au i)).kind= .function
structure dD(C:Cx)(i:Nat)(a c:Ch)(q:Ax)(dv kv:Ad)(fd:Dc):Prop where
 t:K6 C i a fd
 cd:fd.code= .ref c
 ql:fd.qualname=q
 df:fd.defaults=dv
 kd:fd.kwdefaults=kv
theorem Q4.get{C:Cx}{i:Nat}{a c:Ch}(h:Q4 C.objs i a c q dv kv):∃fd,dD C i a c q dv kv fd:=by
 refine Bz (Cv.mp h.f) fun fd G D=>?_;refine Bz (aA G) fun o H I=>?_;simp only[GJ]at D;obtain⟨J,A,L,M,N,O,E,F,P,B⟩:=D;exact⟨fd,⟨⟨⟨o,H,I⟩,J,M,N,O,fun hp x=>by rw[E,F];exact aM h.c x,by rw[A];exact h.co,by rw[A];exact h.kd⟩,A,L⟩,E,F,P,B⟩
theorem cH{K:QA}{a:Ch}(h:∃o,K.lookup a=some o∧o.data= .func fd):dW K a=some fd:=by
 obtain⟨⟨c,d,e,f⟩,A,B⟩:=h;cases B;unfold dW;rw[A]
noncomputable def kN(K:QA)(T:Ch):Nat:=match K.lookup T with
 |some ⟨_,_,.seq vs _,_⟩=>(match (vs[0]?:Option Ad) with|some (.int _ t)=>t|_=>0)
 |_=>0
noncomputable abbrev e_:=Option (List (Ax×Ad))
noncomputable def e'(K:QA)(fa T:Ch):Prop:=∀S (a x lo hi kv:Ad),(dW K fa).map (fun fd=>(peek K S (Ir fd ⟨[a,x],[]⟩),peek K S (Ir fd ⟨[a,x,lo],[]⟩),peek K S (Ir fd ⟨[a,x,lo],[("key",kv)]⟩),peek K S (Ir fd ⟨[a,x,lo,hi],[]⟩),peek K S (Ir fd ⟨[a,x,lo,hi],[("key",kv)]⟩)))=
 (some (some [("a",a),("x",x),("lo",(.int 0 (kN K T))),("hi",.none),("key",.none)],some [("a",a),("x",x),("lo",lo),("hi",.none),("key",.none)],some [("a",a),("x",x),("lo",lo),("hi",.none),("key",kv)],some [("a",a),("x",x),("lo",lo),("hi",hi),("key",.none)],some [("a",a),("x",x),("lo",lo),("hi",hi),("key",kv)]):Option (e_×e_×e_×e_×e_))
theorem Nv{K:QA}{fa T:Ch}(e:∃o,K.lookup fa=some o∧o.data= .func fd)(H:e' K fa T)(x:K.In h):GC h fd:=by
 have q:=fun S a x lo hi kv=>H S a x lo hi kv;rw[cH e]at q;exact⟨⟨kN K T,fun s e a y=>Ui (e▸x) fun S=>congrArg (·.1) (CT (q S a y .none .none .none))⟩,
  fun s e a y lo=>Ui (e▸x) fun S=>congrArg (·.2.1) (CT (q S a y lo .none .none)),
  fun s e a y lo kv=>Ui (e▸x) fun S=>congrArg (·.2.2.1) (CT (q S a y lo .none kv)),
  fun s e a y lo hi=>Ui (e▸x) fun S=>congrArg (·.2.2.2.1) (CT (q S a y lo hi .none)),
  fun s e a y lo hi kv=>Ui (e▸x) fun S=>congrArg (·.2.2.2.2) (CT (q S a y lo hi kv))⟩
structure ax(K:QA):Prop where
 f1:Q4 K 1 23 22 "insort_right" (.ref 15) (.ref 16)
 f2:Q4 K 2 32 31 "bisect_right" (.ref 24) (.ref 25)
 f3:Q4 K 3 41 40 "insort_left" (.ref 33) (.ref 34)
 f4:Q4 K 4 50 49 "bisect_left" (.ref 42) (.ref 43)
 f7:Q4 K 7 58 57 "pretty_flags" .none .none
 f10:Q4 K 10 65 64 "_ellipsis_match" .none .none
 f12:Q4 K 12 72 71 "_iter_escaped_chars" .none .none
 f13:Q4 K 13 79 78 "_strip_quoted_realnames" .none .none
 f14:Q4 K 14 86 85 "_check_parenthesis" .none .none
 f15:Q4 K 15 93 92 "_pre_parse_validation" .none .none
 f17:Q4 K 17 98 97 "_law_ring" .none .none
 f18:Q4 K 18 103 102 "_law_written" .none .none
 f19:Q4 K 19 108 107 "_law_dots" .none .none
 f20:Q4 K 20 113 112 "_law_brackets" .none .none
 f21:Q4 K 21 118 117 "_law_basis" .none .none
 f22:Q4 K 22 123 122 "_law_rings" .none .none
 f23:Q4 K 23 128 127 "law" .none .none
 d1:e' K 23 15
 d2:e' K 32 24
 d3:e' K 41 33
 d4:e' K 50 42
 fl:KTD.keyedLook (fun b=>K.lookup b) 51 [(1,.str "OPTIMIZED"),(2,.str "NEWLOCALS"),(4,.str "VARARGS"),(8,.str "VARKEYWORDS"),(16,.str "NESTED"),(32,.str "GENERATOR"),(64,.str "NOFREE"),(128,.str "COROUTINE"),(256,.str "ITERABLE_COROUTINE"),(512,.str "ASYNC_GENERATOR")]=true
 ns:((Y' K 3).map fun es=> [Df es "insort_right",Df es "bisect_right",Df es "insort_left",Df es "bisect_left",Df es "pretty_flags",Df es "_ellipsis_match",Df es "_iter_escaped_chars",Df es "_strip_quoted_realnames",Df es "_check_parenthesis",Df es "_pre_parse_validation",Df es "_law_ring",Df es "_law_written",Df es "_law_dots",Df es "_law_brackets",Df es "_law_basis",Df es "_law_rings",Df es "law",Df es "COMPILER_FLAG_NAMES"])=some ([23,32,41,50,58,65,72,79,86,93,98,103,108,113,118,123,128,51].map fun a:Nat=>some (.ref a))
 nb:((Y' K 3).map fun es=> [Df es "len",Df es "range",Df es "hex",Df es "enumerate",Df es "list",Df es "sum",Df es "sorted",Df es "str",Df es "ValueError"])=some (Aq 9 none)
 el:((Y' K 3).bind fun es=>match Df es "ELLIPSIS_MARKER" with|some (.str x _)=>some x|_=>none)=some Bv
 bm:((Y' K 3).bind fun es=>Df es "__builtins__")=some (.ref 4)
 hd1:codeHdIn K 117 115=true
 hd2:codeHdIn K 127 125=true
section
variable{C:Cx}
structure e5(C:Cx):Prop where
 g:∀es,Y' C.objs 3=some es→∀x,Df es x=C.mg x
 b:∀x:Ax,x≠"__name__"→C.mb x=bootBuiltins x
theorem ax.find(h:ax C.objs)(N:e5 C):∃es,(∀x,Df es x=C.mg x)∧Y' C.objs 3=some es:=by
 refine Bz (Cv.mp h.ns) fun es A _=>?_;exact⟨es,N.g es A,A⟩
theorem pk{f:_→List _}{l:List _}(A:∀x,Df es x=C.mg x)(B:Y' C.objs 3=some es)(hn:(Y' C.objs 3).map f=some l)(i:Nat)(e:(f es)[i]?=some (Df es x))(D:l[i]?=some b):C.mg x=b:=by
 rw[B]at hn;rw[CT hn,D]at e;exact(A x).symm.trans (CT e).symm
theorem ax.blt(h:ax C.objs)(N:e5 C):Gl C "len" (.builtin "len")∧Gl C "range" (.type "range")∧Gl C "hex" (.builtin "hex")∧Gl C "enumerate" (.type "enumerate")∧Gl C "list" (.type "list")∧Gl C "sum" (.builtin "sum")∧Gl C "sorted" (.builtin "sorted")∧Gl C "str" (.type "str")∧Gl C "ValueError" (.type "ValueError"):=by
 refine Bz (h.find N) fun es A B=>?_;exact⟨.inr ⟨pk A B h.nb 0 rfl rfl,(N.b _ dc).trans (by kernel_rfl)⟩,.inr ⟨pk A B h.nb 1 rfl rfl,(N.b _ dc).trans (by kernel_rfl)⟩,.inr ⟨pk A B h.nb 2 rfl rfl,(N.b _ dc).trans (by kernel_rfl)⟩,.inr ⟨pk A B h.nb 3 rfl rfl,(N.b _ dc).trans (by kernel_rfl)⟩,.inr ⟨pk A B h.nb 4 rfl rfl,(N.b _ dc).trans (by kernel_rfl)⟩,
  .inr ⟨pk A B h.nb 5 rfl rfl,(N.b _ dc).trans (by kernel_rfl)⟩,.inr ⟨pk A B h.nb 6 rfl rfl,(N.b _ dc).trans (by kernel_rfl)⟩,.inr ⟨pk A B h.nb 7 rfl rfl,(N.b _ dc).trans (by kernel_rfl)⟩,.inr ⟨pk A B h.nb 8 rfl rfl,(N.b _ dc).trans (by kernel_rfl)⟩⟩
theorem dD.s(h:dD C i a c q .none .none fd):J2 C i a fd:=⟨h.t,h.df,h.kd⟩
set_option tactic.hygienic true in
theorem ax.av(h:ax C.objs)(N:e5 C):Ys C∧∃fd,J2 C 23 128 fd∧fd.code= .ref 127∧fd.qualname="law"∧C.mg "law"=some (.ref 128):=by
 refine Bz (h.find N) fun es A B=>?_;have G:=h.el;rw[B]at G;simp only[Y1,A]at G;have D:∃t,C.mg "ELLIPSIS_MARKER"=some (.str Bv t):=by
  split at G
  ·rename_i x t e;cases G;exact⟨_,e⟩
  ·cases G
 refine B8 D fun tl D=>?_;obtain⟨k,b2,b3,b4,p,q,r,u,v⟩:=h.blt N;refine B8 h.f1.get fun d1 l=>?_;refine B8 h.f2.get fun d2 m=>?_;refine B8 h.f3.get fun d3 n=>?_;refine B8 h.f4.get fun d4 o=>?_;refine B8 h.f7.get fun y z=>?_;refine B8 h.f10.get fun H I=>?_;refine B8 h.f12.get fun J L=>?_;refine B8 h.f13.get fun M O=>?_;refine B8 h.f14.get fun P Q=>?_;refine B8 h.f15.get fun R S=>?_;refine B8 h.f17.get fun T U=>?_;refine B8 h.f18.get fun V W=>?_;refine B8 h.f19.get fun Z a=>?_;refine B8 h.f20.get fun b c=>?_;refine B8 h.f21.get fun d E=>?_;refine B8 h.f22.get fun f i=>?_;refine B8 h.f23.get fun j F=>?_;refine⟨⟨⟨X2 _ d2 ⟨m.t,fun hp x=>Nv m.t.ok.1 h.d2 x,.inl (pk A B h.ns 1 rfl rfl)⟩,X2 _ d4 ⟨o.t,fun hp x=>Nv o.t.ok.1 h.d4 x,.inl (pk A B h.ns 3 rfl rfl)⟩,X2 _ d1 ⟨l.t,fun hp x=>Nv l.t.ok.1 h.d1 x,.inl (pk A B h.ns 0 rfl rfl)⟩,X2 _ d3 ⟨n.t,fun hp x=>Nv n.t.ok.1 h.d3 x,.inl (pk A B h.ns 2 rfl rfl)⟩,k,b2⟩,
  ⟨⟨.inl (pk A B h.ns 17 rfl rfl),fun hp x prog w=>kt_keyed_in x h.fl prog w⟩,b3,X2 _ y ⟨z.s,.inl (pk A B h.ns 4 rfl rfl)⟩⟩,⟨⟨⟨X2 _ J ⟨L.s,.inl (pk A B h.ns 6 rfl rfl)⟩,b4⟩,X2 _ M ⟨O.s,.inl (pk A B h.ns 7 rfl rfl)⟩,k⟩,X2 _ P ⟨Q.s,.inl (pk A B h.ns 8 rfl rfl)⟩⟩,p,q,r,u,v,X2 _ T ⟨U.s,.inl (pk A B h.ns 10 rfl rfl)⟩,X2 _ V ⟨W.s,.inl (pk A B h.ns 11 rfl rfl)⟩,X2 _ Z ⟨a.s,.inl (pk A B h.ns 12 rfl rfl)⟩,X2 _ b ⟨c.s,.inl (pk A B h.ns 13 rfl rfl)⟩,X2 _ d ⟨E.s,.inl (pk A B h.ns 14 rfl rfl),E.cd,E.ql⟩,X2 _ f ⟨i.s,.inl (pk A B h.ns 15 rfl rfl)⟩,X2 _ H ⟨I.s,.inl (pk A B h.ns 5 rfl rfl)⟩,⟨tl,.inl D⟩,X2 _ R ⟨S.s,.inl (pk A B h.ns 9 rfl rfl)⟩⟩,
  j,F.s,F.cd,F.ql,pk A B h.ns 16 rfl rfl⟩
end
structure Uc(K:QA):Prop where
 low:(K.all fun p=>decide (p.1<129) && p.1 !=115 && p.1 !=125)=true
theorem OM:∀{K:List (Ch×A)},K.lookup a=some o→(a,o)∈K
 |[],h=>by cases h
 |(b,p)::K,h=>by
  rw[C4]at h;split at h
  ·rename_i e;cases h;rw[beq_iff_eq.mp e];exact AB
  ·exact AG _ (OM h)
theorem Uc.get{K:QA}(h:Uc K){a:Ch}(e:K.lookup a=some o):a<129∧¬Tb a:=by
 have:=Al.mp h.low _ (OM e);simp only[A7,decide_eq_true_eq,bne_iff_ne,ne_eq]at this;exact⟨this.1.1,fun hb=>hb.elim this.1.2 this.2⟩
theorem aU{p:IZ}{A:List Ax}{B:ExcName→Option Ad}(T:Top p A B C.mg C.mb s.heap)(h:ax C.objs)(hl:Uc C.objs)(x:C.objs.In s.heap)(I:∀P∈([115,125]:List Ch),s.heap.get? P=some (Lu #[]))(L:s.gens= #[]):DM C s∧e5 C:=by
 have N:e5 C:=by
  refine⟨fun es E y=>?_,T.builtins⟩;refine IW T.g fun o M b F G f O=>?_;refine K7 (aD E) fun j n h5 Q=>?_;have J:=x _ _ h5;rw[show(3:Ch)=GV from rfl,F]at J;cases J;cases G.symm.trans Q;exact O y
 have D:∀{c P:Ch}{q:Ax}{i:Nat}{a:Ch}{dv kv:Ad},codeHdIn C.objs c P=true→s.heap.get? P=some (Lu #[])→TabAt s.heap c P q:=fun F G=>⟨codeHd_of_K x F, #[],G,by first|exact .nil|trivial|simp[LK],fun pos v e=>by simp[LJ]at e⟩;refine Bz (h.find N) fun es E H=>?_;have hb:=h.bm;rw[H]at hb;simp only[Y1,E]at hb;refine B8 h.f23.get fun d e=>?_;refine Bz e.t.ok.obj fun o R _=>?_;refine⟨⟨T.g,T.b,x,fun a o e=>hl.get e,T.nolimit,?_,D (i:=0) (a:=0) (dv:=.none) (kv:=.none) h.hd1 (I _ dc),D (i:=0) (a:=0) (dv:=.none) (kv:=.none) h.hd2 (I _ dc),?_,?_⟩,N⟩
 ·refine l_ T.bmain fun bm S U b2 b3 b4 V W=>?_;cases hb.symm.trans U;exact X2 4 S ⟨hb,dc,by unfold Tb;decide,b2,dc,b3,b4,V,W⟩
 ·exact BJ (x _ _ R)
 ·rw[L];intro y Z;exact absurd Z (by simp)
noncomputable abbrev KN:OpenRow:=Gx.row
theorem XI(h:KN.claim.pre args=true):∃xs:List WData,args=[.list xs]∧(∀x∈xs,∃i,x= .int i)∧xs.length≤63:=by
 refine ER (pre_splitW (r:=KN.toRowW) h) fun E F=>?_;refine Hd (hasAllW_cons (e:=.list .int) (es:=[]) E) fun d r A G H=>?_;subst A;obtain rfl:=hasAllW_nil H;refine Bz (hasW_list G) fun xs A h5=>?_;subst A;refine⟨xs,rfl,fun x hx=>hasW_int (hasItemsW_at h5 x hx),?_⟩;have B:bW KN.toRowW.records (.and (.not (.lt (.lit (.int 63)) (.len (.arg 0)))) (.lit (.bool true))) {args:=[.list xs]}=true:=F;simp[bW,WTm.value,less?,Num.less?]at B;by_cases D:63<xs.length
 ·try rw[(decide_eq_true (BR.mpr D):decide ((63:Int)<(xs.length:Int))=true)]at B
  simp at B
 ·exact A0.mp D
theorem PP:∀{vs:List Ad}{xs:List WData},WellAll P h vs xs→(∀x∈xs,∃i,x= .int i)→∃zs:List Int,zs.length=xs.length∧vs.length=zs.length∧∀(i:Nat) v p,vs[i]?=some v→(zs.map PV.int)[i]?=some p→VR Tb h v p
 |_,_,.nil,_=>⟨[],rfl,rfl,fun i v p e=>by cases e⟩
 |_,_,.cons (v:=v) (d:=d) w ws,hi=>by
  refine K8 (PP ws fun x hx=>hi x (AG _ hx)) fun zs E F G=>?_;refine B8 (hi d AB) fun i A=>?_;subst A;cases w with
  |int _ t=>
   refine⟨i::zs,by rw[AP,E,AP],by rw[AP,F,AP],fun j v p B D=>?_⟩;cases j with
   |zero=>cases B;cases D;exact .int i t
   |succ j=>exact G j v p B D
theorem Uw(W:WellAll P h A [.list xs])(hi:∀x∈xs,∃i,x= .int i)(B:∀P∈([115,125]:List Ch),h.get? P=some (Lu #[])):∃(v:Ad)(zs:List Int),A=[v]∧zs.length=xs.length∧VR Tb h v (.list (zs.map PV.int)):=by
 cases W with
 |cons w ws=>
  cases ws;cases w with
  |list D E=>
   refine K8 (PP E hi) fun zs F G H=>?_;refine X2 _ zs ⟨rfl,F,.list (fun hb=>?_) D (by rw[AH];simpa using G) fun i v p I J=>H i v p (by simpa using I) J⟩;have L:∀a,Tb a→h.get? a=some (Lu #[]):=fun a hb=>by
    rcases hb with rfl|rfl
    ·exact B 115 dc
    ·exact B 125 dc
   have:=L _ hb;cases D.symm.trans this
theorem b7(X:D9 C s s')(B:DM C s)(F:∀P∈([115,125]:List Ch),s.heap.get? P=some (Lu #[])):OldK s.heap s'.heap:=by
 have G:=X.base B;have key:∀{c P:Ch}{q:Ax},s.heap.get? P=some (Lu #[])→TabAt s.heap c P q→TabAt s'.heap c P q→isCodeTable s.heap P∧∃ps,s'.heap.get? P=some (Lu ps):=fun D A E=>by
  obtain⟨⟨o,vs,_,_,_,_,_,_,_,H,I,J,L,_⟩,_⟩:=A;obtain⟨_,ps,h5,_⟩:=E;exact⟨X3 _ o vs ⟨H,I,J,L⟩,ps,h5⟩
 have tb:∀b,Tb b→isCodeTable s.heap b∧s.heap.get? b=some (Lu #[])∧∃ps,s'.heap.get? b=some (Lu ps):=fun b hb=>by
  rcases hb with rfl|rfl
  ·refine ER (key (F 115 dc) B.t1 G.t1) fun D A=>?_;exact⟨D,F 115 dc,A⟩
  ·refine ER (key (F 125 dc) B.t2 G.t2) fun D A=>?_;exact⟨D,F 125 dc,A⟩
 constructor
 ·intro b o e;by_cases hb:Tb b
  ·obtain⟨D,A,ps,E⟩:=tb b hb;cases A.symm.trans e;exact .inr (.inl ⟨D,rfl, #[],ps,rfl,by rw[E];simp⟩)
  ·exact .inl (X.keep b o hb e)
 ·intro b o e;by_cases hb:Tb b
  ·obtain⟨D,A,ps,E⟩:=tb b hb;exact⟨_,E⟩
  ·exact⟨o,X.keep b o hb e⟩
theorem join(R:Q0){w:P'}{A s₁:AO}{mg mb:Ax→Option Ad}{fa:Ch}{args:List WData}{D:List Ad}{p:IZ}{E:List Ax}{K:QA}(T:Top p E (QH A.heap) mg mb s₁.heap)(Q:ax K)(hl:Uc K)(x:K.In s₁.heap)
  (G:∀P∈([115,125]:List Ch),s₁.heap.get? P=some (Lu #[])) (S:s₁.gens= #[]) (I:mg "law"=some (.ref fa)) (H:KN.claim.pre args=true) (J:WellAll w.params s₁.heap D args):
  Af (Ar KN.prog w) callerA (DC (.ref fa) D) (fun v s'=>GoodWG KN.claim (classAt A.heap) (QH A.heap) args s₁ (.ok (.ret v)) s') (fun e s'=>GoodWG KN.claim (classAt A.heap) (QH A.heap) args s₁ (.error e) s') s₁:=by
 refine K8 (XI H) fun xs F hi hn=>?_;subst F;refine Hd (Uw J hi G) fun v zs F hz U=>?_;subst F;refine ER (aU (C:=⟨mg,mb,K⟩) T Q hl x G S) fun B N=>?_;obtain⟨L,fd,V,M,O,c⟩:=ax.av (C:=⟨mg,mb,K⟩) Q N;have d:fa=128:=by
  have:some (J6 fa)=some (.ref 128):=I.symm.trans c;cases this;rfl
 subst d;refine Xg (Z:=⟨KN.prog,w,⟨mg,mb,K⟩⟩) (k:=0) (W:=Tb) ⟨rfl,dc,dc⟩ rfl B V M O L (fun b hb=>hb) (fun b hb=>?_) U (by rw[hz];exact hn) R fun s' X=>?_
 ·rcases hb with rfl|rfl
  ·exact BJ (G 115 dc)
  ·exact BJ (G 125 dc)
 ·refine⟨.inl (X3 (.bool true) (.bool true) [] ⟨rfl,fun cls=>rfl,.bool true,?_,fun h=>⟨dR,fun a f=>by cases f⟩⟩),b7 X B G,X.os,(X.base B).bare⟩;show(WShape.has [] (.bool true) .bool && bW [] (.eq .res (.lit (.bool true))) {args:=[.list xs],res:=some (.bool true),after:=[.list xs]})=true;kernel_rfl
theorem cS:∀(n:Nat)(lo hi:Int),lo≤m→m≤hi→hi-lo<n→(∀j,lo≤j→j<m→c j=true)→(∀j,m≤j→j<hi→c j=false)→NO c n lo hi=m:=by
 intro H
 induction H with
 |zero=>
  intro lo hi D E F _ _;exact absurd F (Cp.mpr (Hz (Av D E)))
 |succ n L=>
  intro lo hi D E F I J;rw[NO.c2];by_cases B:lo<hi
  ·rw[if_pos B];have e:(lo+hi).fdiv 2=(lo+hi)/2:=F9 _ dc;rw[e];by_cases G:(lo+hi)/2<m
   ·rw[if_pos (I _ (fI (Da B)) G)];exact L _ _ (G) E (CP (Y7 (Int.lt_add_one_of_le (fC (Da B))) _) (H1 F)) (fun j a b=>I j (Av (fC (Da B)) (Av (F7 dc) a)) b) J
   ·rw[if_neg (by rw[J _ (Cp.mp G) (fB B)];decide)];exact L _ _ D (Cp.mp G) (CP (Wc (fB B) _) (H1 F)) I (fun j a b=>J j a (K1.mp fun h=>K1.mpr b (WN dc (bL (A:=_)▸RI (Av D a) h))))
  ·rw[if_neg B];exact LB D (Av E (Cp.mp B))
theorem KP(p:G→Bool):∀L:List G,L.Pairwise (fun i j=>p j=true→p i=true)→∃P S,L=P++S∧(∀y∈P,p y=true)∧(∀y∈S,p y=false):=by
 intro D
 induction D with
 |nil=>
  intro _;exact X2 [] [] ⟨rfl,fun F h=>(nomatch h),fun F h=>(nomatch h)⟩
 |cons a L H=>
  intro h;rw[DH]at h;cases B:p a with
  |true=>
   refine Hd (H h.2) fun P S E I J=>?_;subst E;refine X2 (a::P) S ⟨rfl,fun y A=>?_,J⟩;rcases AN.mp A with rfl|A
   ·exact B
   ·exact I y A
  |false=>
   refine X2 [] (a::L) ⟨rfl,fun F h=>(nomatch h),fun y A=>?_⟩;rcases AN.mp A with rfl|A
   ·exact B
   ·cases hp:p y with
    |false=>rfl
    |true=>rw[h.1 y A hp]at B;cases B
theorem Ry(pre P:List Int)(post:List Int)(A:pre.length≤i)(B:i<pre.length+P.length):(pre++(P++post)).getD i 0∈P:=by
 rw[AE,BO A,CE (aZ A B),AL (aZ A B)];exact BY _
theorem M5{t:Int→Bool}{pre P S post:List Int}{n:Nat}{lo hi:Int}(A:lo=(pre.length:Nat))(B:hi=((pre.length+P.length+S.length:Nat):Int))(hn:P.length+S.length<n)(D:∀y∈P,t y=true)(E:∀y∈S,t y=false):
  NO (fun m=>t ((pre++(P++(S++post))).getD m.toNat 0)) n lo hi=((pre.length+P.length:Nat):Int):=by
 refine cS n lo hi (A▸A3.mpr (AM _ _)) (B▸A3.mpr (AM _ _)) (lR A B hn) (fun j a b=>D _ ?_) (fun j a b=>E _ ?_)
 ·exact Ry pre P _ (lS A B a) ((N5 (Av (A▸AZ _) a)).mpr b)
 ·rw[←A8];exact Ry (pre++P) S post (by rw[AQ];exact A3.mp (Av a (N6 _))) (by rw[AQ];exact lV B a b)
theorem Rw(pre P S:List Int)(x:Int):Fz (pre++(P++S)) (pre.length+P.length) x=pre++(P++x::S):=by
 unfold Fz;rw[←A8,←AQ,FF,FG,A8]
theorem Nr{T:List Nat}(A:T.length=5){v:Nat}(B:v<5):Jl T (v:Int)=((T.getD v 0:Nat):Int):=by
 unfold Jl rowsOf;rw[Ag,AE,CE (by rw[AH,A];exact B),BD,AE];cases h:T[v]? with
 |none=>rw[JX]at h;exact absurd B (A0.mpr (A▸h))
 |some x=>rfl
theorem KJ(A B:List Nat):zs (A++B)=zs A++zs B:=by unfold zs;rw[Ac]
theorem Rd{t:Int→Bool}{p:Nat→Bool}{R:Nat→Nat→Prop}{n:Nat}{L:List Nat}(hp:L.Perm (AW n))(F:L.Pairwise R)(I:∀i<n,t (i:Int)=p i)(mono:∀i<n,∀j<n,R i j→p j=true→p i=true)(N:∀i<n,p i=true→R i n)(O:∀i<n,p i=false→R n i):
  ∃H:List Nat,H.Perm (AW (n+1))∧H.Pairwise R∧Fz (5::(zs L++ [6])) (NO (fun m=>t ((5::(zs L++ [6])).getD m.toNat 0)) ((5::(zs L++ [6])).length+1) 1 ((n+1:Nat):Int)).toNat (n:Int)=5::(zs H++ [6]):=by
 have A:∀i∈L,i<n:=fun i hi=>An.mp (hp.mem_iff.mp hi);refine Hd (KP p L (F.imp_of_mem fun {a b} G hb r=>mono a (A a G) b (A b hb) r)) fun P S B J M=>?_;subst B;have D:=hp.length_eq;rw[AQ,Bm]at D;refine⟨P++n::S,(List.perm_middle.trans (hp.cons n)).trans ?_,?_,?_⟩
 ·rw[Kz];exact(List.perm_append_singleton n _).symm
 ·rw[Cw]at F⊢;refine⟨F.1,DH.mpr ⟨fun y E=>O y (A y (Ak _ E)) (M y E),F.2.1⟩,fun a G b hb=>?_⟩;rcases AN.mp hb with rfl|hb
  ·exact N a (A a (AC _ G)) (J a G)
  ·exact F.2.2 a G b hb
 ·have e:(5:Int)::(zs (P++S)++ [6])=[5]++(zs P++(zs S++ [6])):=by rw[KJ];simp
  rw[e,M5 (t:=t) (pre:=[5]) (P:=zs P) (S:=zs S) (post:=[6]) (lo:=1) (hi:=((n+1:Nat):Int)) rfl (by rw[Ct,Ct];simp;exact jw D) (by simp;exact gD) ?_ ?_,Ag,Rw]
  ·rw[KJ];simp[zs]
  ·intro y E;refine Bz (AU.mp E) fun i hi B=>?_;subst B;rw[I i (A i (AC _ hi))];exact J i hi
  ·intro y E;refine Bz (AU.mp E) fun i hi B=>?_;subst B;rw[I i (A i (Ak _ hi))];exact M i hi
theorem T3{T:List Nat}(B:T.length=5):∀n≤5,∃L:List Nat,L.Perm (AW n)∧L.Pairwise (fun i j=>100*((T.getD i 0:Nat):Int)+(i:Int)<100*((T.getD j 0:Nat):Int)+(j:Int))∧Fk T n=5::(zs L++ [6]):=by
 intro A
 induction A with
 |zero=>
  intro _;exact⟨[],N4 _,FH,rfl⟩
 |succ n D=>
  intro hn;refine K8 (D (Yp hn)) fun L E F G=>?_;rw[Fk.c2,G];refine Rd (t:=fun v=> !decide (Jl T n<Jl T v)) (p:=fun i=>decide (T.getD i 0≤T.getD n 0)) E F (fun i hi=>?_) (fun i hi j H r q=>?_) (fun i hi q=>?_) (fun i hi q=>?_)
  ·rw[Nr B (v:=n) (c6 hn),Nr B (v:=i) (B7 hi hn),CK];simp
  ·simp only[decide_eq_true_eq]at q⊢;exact j0 hn H r q
  ·simp only[decide_eq_true_eq]at q;exact RH (H0 (A3.mpr q) dc) (BR.mpr hi)
  ·simp only[decide_eq_false_iff_not]at q;exact jx hn q
theorem Zj{T:List Nat}(B:T.length=5):∀n≤5,∃L:List Nat,L.Perm (AW n)∧L.Pairwise (fun i j=>100*((T.getD i 0:Nat):Int)+-(i:Int)<100*((T.getD j 0:Nat):Int)+-(j:Int))∧Gj T n=5::(zs L++ [6]):=by
 intro A
 induction A with
 |zero=>
  intro _;exact⟨[],N4 _,FH,rfl⟩
 |succ n D=>
  intro hn;refine K8 (D (Yp hn)) fun L E F G=>?_;rw[Gj.c2,G];refine Rd (t:=fun v=>decide (Jl T v<Jl T n)) (p:=fun i=>decide (T.getD i 0<T.getD n 0)) E F (fun i hi=>?_) (fun i hi j H r q=>?_) (fun i hi q=>?_) (fun i hi q=>?_)
  ·rw[Nr B (v:=n) (c6 hn),Nr B (v:=i) (B7 hi hn),CK];simp
  ·simp only[decide_eq_true_eq]at q⊢;exact jz hn hi r q
  ·simp only[decide_eq_true_eq]at q;exact jy hn q
  ·simp only[decide_eq_false_iff_not]at q;exact ij hi q
theorem VH(E:T.length=5):(My T).Perm (AW 5):=by
 refine K8 (T3 E 5 (Vx)) fun L B I F=>?_;unfold My;rw[F];have A:∀i∈L,i<5:=fun i hi=>An.mp (B.mem_iff.mp hi);have e:∀M:List Nat,(∀i∈M,i<5)→((zs M++ [6]).filter fun v=>decide (v<5)).map B0=M:=by
  intro M
  induction M with
  |nil=>intro _;rfl
  |cons a M G=>
   intro D;have H:=D a AB;show(((a:Int)::(zs M++ [6])).filter _).map _=_;rw[BN (by simp;exact jC H),Ae,G fun i hi=>D i (AG _ hi)];rfl
 rw[Bo dc,e L A];exact B
theorem Jj{S:List Nat}(h:S.Pairwise (· < ·)):S.Nodup:=h.imp fun {a b} q=>BX q
theorem HF(a b:Nat):a^^^b^^^b=a:=by rw[E_,N2,Iw]
theorem bv{S:List Nat}(h:S.Pairwise (· < ·))(x:Nat):∃P Q R,S=P++(Q++R)∧(∀y∈P,y<x)∧(∀y∈Q,y=x)∧(∀y∈R,x<y):=by
 refine Hd (KP (fun y=>decide (y<x)) S (h.imp fun {a b} q r=>by simp only[decide_eq_true_eq]at*;exact V1 q r)) fun P D A E F=>?_;subst A;have h':=(Cw.mp h).2.1;refine Hd (KP (fun y=>decide (y≤x)) D (h'.imp fun {a b} q r=>by simp only[decide_eq_true_eq]at*;exact aj q r)) fun Q R A G H=>?_;subst A;refine X3 P Q R ⟨rfl,fun y B=>of_decide_eq_true (E y B),fun y B=>?_,fun y B=>?_⟩
 ·have a:=of_decide_eq_false (F y (AC _ B));have b:=of_decide_eq_true (G y B);exact eX a b
 ·have b:=of_decide_eq_false (H y B);exact JH.mp b
theorem To(h:y∈zs P):∃n∈P,y=(n:Int):=by
 refine Bz (AU.mp h) fun n hn A=>?_;subst A;exact⟨n,hn,rfl⟩
theorem YX{pre P S post:List Nat}{x:Nat}{lo hi:Int}(B:lo=(pre.length:Nat))(D:hi=((pre.length+P.length+S.length:Nat):Int))(F:∀y∈P,y<x)(G:∀y∈S,x≤y):Vr (zs (pre++(P++(S++post)))) (x:Int) lo hi=((pre.length+P.length:Nat):Int):=by
 unfold Vr;rw[KJ,KJ,KJ];have:=M5 (t:=fun v=>decide (v<(x:Int))) (pre:=zs pre) (P:=zs P) (S:=zs S) (post:=zs post) (n:=(zs pre++(zs P++(zs S++zs post))).length+1) (lo:=lo) (hi:=hi) (by rw[Ct];exact B) (by rw[Ct,Ct,Ct];exact D) (by simp;exact eS)
  (fun y E=>by refine Bz (To E) fun n hn A=>?_;subst A;exact decide_eq_true (by have:=F n hn;exact ai this)) (fun y E=>by refine Bz (To E) fun n hn A=>?_;subst A;exact decide_eq_false (by have:=G n hn;exact g7 this))
 rw[Ct,Ct]at this;exact this
theorem YT{pre P S post:List Nat}{x:Nat}{lo hi:Int}(B:lo=(pre.length:Nat))(D:hi=((pre.length+P.length+S.length:Nat):Int))(F:∀y∈P,y≤x)(G:∀y∈S,x<y):Sk (zs (pre++(P++(S++post)))) (x:Int) lo hi=((pre.length+P.length:Nat):Int):=by
 unfold Sk;rw[KJ,KJ,KJ];have:=M5 (t:=fun v=> !decide ((x:Int)<v)) (pre:=zs pre) (P:=zs P) (S:=zs S) (post:=zs post) (n:=(zs pre++(zs P++(zs S++zs post))).length+1) (lo:=lo) (hi:=hi) (by rw[Ct];exact B) (by rw[Ct,Ct,Ct];exact D) (by simp;exact eS)
  (fun y E=>by refine Bz (To E) fun n hn A=>?_;subst A;have:=F n hn;simp;omega) (fun y E=>by refine Bz (To E) fun n hn A=>?_;subst A;have:=G n hn;simp;omega)
 rw[Ct,Ct]at this;exact this
theorem UD(pre S:List Nat)(x:Nat):M0 (pre++S) pre.length x=pre++x::S:=by
 unfold M0;rw[FF,FG]
theorem S1{S:List Nat}(h:S.Pairwise (· < ·))(x:Nat):(sumStep S x).Pairwise (· < ·)∧∀y,y∈sumStep S x↔y=x∨y∈S:=by
 refine IW (bv h x) fun P Q R A B D E=>?_;subst A;have I:Vr (zs (P++(Q++R))) (x:Int) 0 ((P++(Q++R)).length:Nat)=((P.length:Nat):Int):=by
  have:=YX (pre:=[]) (P:=P) (S:=Q++R) (post:=[]) (x:=x) (lo:=0) (hi:=((P++(Q++R)).length:Nat)) rfl (by simp) B (fun y F=>(AR.mp F).elim (fun q=>BC (D y q).symm) fun q=>Aa (E y q));simpa using this
 have J:Sk (zs (P++(Q++R))) (x:Int) 0 ((P++(Q++R)).length:Nat)=((P.length+Q.length:Nat):Int):=by
  have:=YT (pre:=[]) (P:=P++Q) (S:=R) (post:=[]) (x:=x) (lo:=0) (hi:=((P++(Q++R)).length:Nat)) rfl (by simp;exact gi) (fun y F=>(AR.mp F).elim (fun q=>Aa (B y q)) fun q=>BC (D y q)) E;simpa using this
 unfold sumStep;rw[I,J];by_cases G:Q=[]
 ·subst G;rw[if_pos (by rfl),Ag];rw[show P.length+([]:List Nat).length=P.length from rfl,Br,UD];rw[Br]at h;rw[Cw]at h⊢;refine⟨⟨h.1,DH.mpr ⟨E,h.2.1⟩,fun a H b hb=>?_⟩,fun y=>?_⟩
  ·rcases AN.mp hb with rfl|hb
   ·exact B a H
   ·exact h.2.2 a H b hb
  ·simp only[AR,AN];constructor
   ·rintro(q|q|q)
    ·exact .inr (.inl q)
    ·exact .inl q
    ·exact .inr (.inr q)
   ·rintro(q|q|q)
    ·exact .inr (.inl q)
    ·exact .inl q
    ·exact .inr (.inr q)
 ·have hl:=EW.mpr G;rw[if_neg (fun h=>BX (BZ hl) (Ce.mp h))];refine⟨h,fun y=>⟨.inr,fun q=>q.elim (fun e=>?_) id⟩⟩;refine B8 (List.exists_mem_of_length_pos hl) fun z hz=>?_;rw[e,←D z hz];exact Ak _ (AC _ hz)
theorem KO(one:Nat):∀(A S:List Nat),S.Pairwise (· < ·)→(Gh one A S).Pairwise (· < ·)∧∀y,y∈Gh one A S↔(∃o∈A,y=o^^^one)∨y∈S:=by
 intro D
 induction D with
 |nil=>
  intro S h;exact⟨h,fun y=>⟨.inr,fun q=>q.elim (fun⟨o,B,_⟩=>(nomatch B)) id⟩⟩
 |cons o A F=>
  intro S h;refine ER (S1 h (o^^^one)) fun G H=>?_;refine ER (F (sumStep S (o^^^one)) G) fun I J=>?_;refine⟨I,fun y=>?_⟩;rw[show Gh one (o::A) S=Gh one A (sumStep S (o^^^one)) from rfl,J,H];constructor
  ·rintro(⟨E,B,e⟩|q|q)
   ·exact .inl ⟨E,AG _ B,e⟩
   ·exact .inl ⟨o,AB,q⟩
   ·exact .inr q
  ·rintro(⟨E,B,e⟩|q)
   ·rcases AN.mp B with rfl|B
    ·exact .inr (.inl e)
    ·exact .inl ⟨E,B,e⟩
   ·exact .inr (.inr q)
noncomputable def xo:List Bool→List Nat→Nat
 |b::bs,r::R=>(if b then r else 0)^^^xo bs R
 |_,_=>0
theorem xo.c1:xo (b::bs) (r::R)=((if b then r else 0)^^^xo bs R):=rfl
structure Q2(S:List Nat):Prop where
 s:S.Pairwise (· < ·)
 z:0∈S
 x:∀a∈S,∀b∈S,a^^^b∈S
theorem Q2.zero:Q2 [0]:=⟨DH.mpr ⟨fun B h=>(nomatch h),FH⟩,AB,fun a A b hb=>by simp at A hb;subst A;subst hb;decide⟩
theorem Q2.mem(h:Q2 S)(r y:Nat):y∈Gh r S S↔y∈S∨y^^^r∈S:=by
 rw[(KO r S S h.s).2];constructor
 ·rintro(⟨o,A,rfl⟩|q)
  ·exact .inr (by rw[HF];exact A)
  ·exact .inl q
 ·rintro(q|q)
  ·exact .inr q
  ·exact .inl ⟨_,q,(HF _ _).symm⟩
theorem Wi(a b r:Nat):a^^^r^^^(b^^^r)=a^^^b:=by
 apply DJ;intro i;simp only[DK];cases a.testBit i<;>cases b.testBit i<;>cases r.testBit i<;>rfl
theorem Uu(a b r:Nat):a^^^b^^^r=a^^^(b^^^r):=E_ a b r
theorem ZK(a b r:Nat):a^^^b^^^r=a^^^r^^^b:=by rw[E_,Nat.xor_comm b r,←E_]
theorem Q2.add(h:Q2 S)(r:Nat):Q2 (Gh r S S) where
 s:=(KO r S S h.s).1
 z:=(h.mem r 0).mpr (.inl h.z)
 x:=fun a A b hb=>by
  rw[h.mem]at A hb⊢;rcases A with A|A<;>rcases hb with hb|hb
  ·exact .inl (h.x a A b hb)
  ·exact .inr (by rw[Uu];exact h.x _ A _ hb)
  ·exact .inr (by rw[ZK];exact h.x _ A _ hb)
  ·exact .inl (by rw[←Wi a b r];exact h.x _ A _ hb)
theorem Q2.len(h:Q2 S)(hr:r∉S):(Gh r S S).length=2*S.length:=by
 have hn:(S++S.map (· ^^^r)).Nodup:=by
  rw[Jb];refine⟨Jj h.s,?_,fun a E b hb e=>?_⟩
  ·exact List.Pairwise.map _ (fun a b (q:a≠b) e=>q (by have:=congrArg (· ^^^r) e;simpa[HF]using this)) (Jj h.s)
  ·refine Bz (AU.mp hb) fun c A B=>?_;subst B;refine hr ?_;have:=h.x c A a E;rw[e,←E_,N2,Fa]at this;exact this
 have hp:(Gh r S S).Perm (S++S.map (· ^^^r)):=by
  rw[Dm (Jj (KO r S S h.s).1) hn];intro y;rw[h.mem,AR,AU];exact⟨fun q=>q.imp id fun e=>⟨_,e,HF _ _⟩,fun q=>q.imp id fun D=>by refine Bz D fun c A e=>?_;rw[←e,HF];exact A⟩
 rw[hp.length_eq,AQ,AH];exact(Hy _).symm
theorem Q2.same(h:Q2 S)(hr:r∈S):Gh r S S=S:=by
 refine Eu (fun a b A A q B=>?_) (KO r S S h.s).1 h.s ?_
 ·exact ct q B
 ·rw[Dm (Jj (KO r S S h.s).1) (Jj h.s)];intro y;rw[h.mem];exact⟨fun q=>q.elim id fun e=>by have:=h.x _ e _ hr;rwa [HF]at this,.inl⟩
theorem OB:∀(R S:List Nat),Q2 S→Q2 (EH R S)∧∀y,y∈EH R S↔∃s∈S,∃bs:List Bool,bs.length=R.length∧y=s^^^xo bs R:=by
 intro A
 induction A with
 |nil=>
  intro S h;exact⟨h,fun y=>⟨fun q=>⟨y,q,[],rfl,(Iw y).symm⟩,fun B=>by
   obtain⟨s,hs,bs,hb,e⟩:=B;rw[e];cases bs with|nil=>rw[show xo [] []=0 from rfl,Iw];exact hs|cons b bs=>cases hb⟩⟩
 |cons r R D=>
  intro S h;refine ER (D (Gh r S S) (h.add r)) fun E F=>?_;refine⟨E,fun y=>?_⟩;rw[show EH (r::R) S=EH R (Gh r S S) from rfl,F];constructor
  ·rintro⟨s,hs,bs,hb,rfl⟩;rcases(h.mem r s).mp hs with q|q
   ·exact⟨s,q,false::bs,by rw[AP,hb,AP],by rw[xo.c1,if_neg dc,Fa]⟩
   ·exact⟨_,q,true::bs,by rw[AP,hb,AP],by rw[xo.c1,if_pos rfl,←E_,HF]⟩
  ·rintro⟨s,hs,bs,hb,rfl⟩;cases bs with
   |nil=>cases hb
   |cons b bs=>
    cases b with
    |false=>exact⟨s,(h.mem r s).mpr (.inl hs),bs,Jw hb,by rw[xo.c1,if_neg dc,Fa]⟩
    |true=>exact⟨s^^^r,(h.mem r _).mpr (.inr (by rw[HF];exact hs)),bs,Jw hb,by rw[xo.c1,if_pos rfl,E_]⟩
theorem Wy:∀(R S:List Nat),Q2 S→(∀s∈S,∀bs:List Bool,bs.length=R.length→xo bs R=s→∀b∈bs,b=false)→(EH R S).length=S.length*2^R.length:=by
 intro A
 induction A with
 |nil=>
  intro S h hi;rw[show EH [] S=S from rfl];simp
 |cons r R B=>
  intro S h hi;have hr:r∉S:=fun q=>by
   have:=hi r q (true::Aq R.length false) (by simp) (by
    rw[xo.c1,if_pos rfl];have:∀R:List Nat,xo (Aq R.length false) R=0:=by
     intro R
     induction R with
     |nil=>rfl
     |cons r R B=>rw[AP,IN,xo.c1,B,if_neg dc,N2]
    rw[this,Iw]) true AB
   cases this
  rw[show EH (r::R) S=EH R (Gh r S S) from rfl,B _ (h.add r) fun s hs bs hb e b D=>?_,h.len hr,AP,Dt]
  ·rw[Un 2,J7,Un 2]
  ·rcases(h.mem r s).mp hs with q|q
   ·exact hi s q (false::bs) (by rw[AP,hb,AP]) (by rw[xo.c1,if_neg dc,Fa];exact e) b (AG _ D)
   ·have:=hi _ q (true::bs) (by rw[AP,hb,AP]) (by rw[xo.c1,if_pos rfl,e,Nat.xor_comm]) true AB;cases this
theorem U5(hi:∀bs:List Bool,bs.length=R.length→xo bs R=0→∀b∈bs,b=false)(hl:∃bs:List Bool,bs.length=R.length∧r=xo bs R):(EH (R++ [r]) [0]).length=2^R.length:=by
 refine ER (OB R [0] Q2.zero) fun A B=>?_;have e:EH (R++ [r]) [0]=Gh r (EH R [0]) (EH R [0]):=by unfold EH;rw[List.foldl_append];rfl
 refine Bz hl fun bs hb hr=>?_;rw[e,A.same ((B r).mpr ⟨0,AB,bs,hb,by rw[Fa];exact hr⟩),Wy R [0] Q2.zero fun s hs bs hb e=>?_]
 ·simp
 ·cases AI.mp hs;exact hi bs hb e
noncomputable def xr(g:Nat→Bool):Nat→Bool
 |0=>false
 |n+1=>xr g n^^g n
theorem xr.c1(g:Nat→Bool):xr g 0=(false):=rfl
theorem xr.c2(g:Nat→Bool):xr g (n+1)=(xr g n^^g n):=rfl
theorem Mo(g h:Nat→Bool):∀n,xr (fun k=>g k^^h k) n=(xr g n^^xr h n):=by
 intro A
 induction A with
 |zero=>
  exact rfl
 |succ n B=>
  rw[xr.c2,xr.c2,xr.c2,B];cases xr g n<;>cases xr h n<;>cases g n<;>cases h n<;>rfl
theorem Dv:∀{n:Nat},(∀k<n,g k=h k)→xr g n=xr h n:=by
 intro A
 induction A with
 |zero=>
  intro _;exact rfl
 |succ n B=>
  intro e;rw[xr.c2,xr.c2,e n (Az n),B fun k D=>e k (By D)]
theorem HE(n:Nat):xr (fun B=>false) n=false:=by
 induction n with
 |zero=>rfl
 |succ n A=>rw[xr.c2,A];rfl
theorem N7(h:l<n)(g:Nat→Bool):xr (fun k=>decide (l=k) && g k) n=g l:=by
 induction n with
 |zero=>exact(cz h).elim
 |succ n A=>
  rw[xr.c2];by_cases hl:l=n
  ·subst hl;rw[Dv (h:=fun D=>false) fun k B=>by rw[decide_eq_false (cq B)];rfl,HE];simp
  ·rw[A (B' (A9 h) hl),decide_eq_false hl];simp
noncomputable def G1(x r:Nat):Bool:=xr (fun k=>x.testBit k && r.testBit k) 5
theorem UN(x r s:Nat):G1 x (r^^^s)=(G1 x r^^G1 x s):=by
 unfold G1;rw[←Mo];exact Dv fun k A=>by rw[DK];cases x.testBit k<;>cases r.testBit k<;>cases s.testBit k<;>rfl
theorem MW(x r:Nat):G1 x r=G1 r x:=Dv fun k A=>dp _ _
theorem R9(x y r:Nat):G1 (x^^^y) r=(G1 x r^^G1 y r):=by rw[MW,UN,MW x,MW y]
theorem OX(x:Nat):G1 x 0=false:=by
 unfold G1;rw[Dv (h:=fun A=>false) fun k A=>by rw[Bp,FI],HE]
theorem UO(hl:l<5)(m:Nat):G1 (2^l) m=m.testBit l:=by
 unfold G1;rw[Dv (h:=fun k=>decide (l=k) && m.testBit k) fun k A=>by rw[DQ],N7 hl]
theorem Zh(hx:x<32):(Ho.getD (x &&& r) 0 !=0)=G1 x r:=by
 have h:∀n<32,(Ho.getD n 0 !=0)=xr (fun k=>n.testBit k) 5:=dc;rw[h _ (AY dO hx)];exact Dv fun k A=>dM _ _ _
structure V6(M:List Nat):Prop where
 s:M.Pairwise (fun a b=>a.log2<b.log2)
 p:∀m∈M,0<m∧m<32
theorem H7(h:0<a):a<2^l↔a.log2<l:=by rw[Nat.log2_lt (Yo h)]
theorem V6.le(h:V6 M):M.Pairwise (· ≤ ·):=h.s.imp_of_mem fun {a b} A hb q=>by
 have B:=(H7 (l:=b.log2) (h.p a A).1).mpr q;have D:=Nat.log2_self_le (n:=b) (by have:=(h.p b hb).1;exact Yo this);exact aj B D
theorem V6.split(h:V6 M)(l:Nat):∃P Q R,M=P++(Q++R)∧(∀y∈P,y<2^l)∧(∀y∈Q,y.log2=l)∧(∀y∈R,l<y.log2):=by
 refine Hd (KP (fun y=>decide (y.log2<l)) M (h.s.imp fun {a b} q r=>by simp only[decide_eq_true_eq]at*;exact V1 q r)) fun P S A D E=>?_;subst A;refine Hd (KP (fun y=>decide (y.log2≤l)) S ((Cw.mp h.s).2.1.imp fun {a b} q r=>by simp only[decide_eq_true_eq]at*;exact aj q r)) fun Q R A F G=>?_;subst A;refine X3 P Q R ⟨rfl,fun y B=>(H7 (h.p y (AC _ B)).1).mpr (of_decide_eq_true (D y B)),fun y B=>?_,fun y B=>?_⟩
 ·have a:=of_decide_eq_false (E y (AC _ B));have b:=of_decide_eq_true (F y B);exact eX a b
 ·have b:=of_decide_eq_false (G y B);exact JH.mp b
theorem ON(h:0<q):q.testBit q.log2=true:=Nat.testBit_log2 (Yo h)
theorem Wh(A:0<q)(hr:0<r)(h:q.log2=r.log2):r^^^q<2^r.log2:=by
 refine SZ _ fun i hi=>?_;rw[DK];by_cases e:i=r.log2
 ·subst e;rw[ON hr,←h,ON A];rfl
 ·rw[Cb (AF (bg (n:=r)) (Bq dc (B' hi (Ne.symm e)))),
   Cb (AF (bg (n:=q)) (Bq dc (h▸B' hi (Ne.symm e))))]
  rfl
noncomputable def frame(M:List Nat):List Nat:=32::(M++ [0])
theorem eB(h:V6 (P++(Q++R)))(F:∀y∈P,y<2^l)(D:∀y∈Q,y.log2=l)(E:∀y∈R,l<y.log2):I0 (frame (P++(Q++R))) l=1+P.length∧UE (frame (P++(Q++R))) l=1+P.length+Q.length:=by
 have e:frame (P++(Q++R))=[32]++(P++((Q++R)++ [0])):=by unfold frame;simp
 have G:frame (P++(Q++R))=([32]++P)++(Q++(R++ [0])):=by unfold frame;simp
 have el:(((frame (P++(Q++R))).length-1:Nat):Int)=((1+P.length+(Q++R).length:Nat):Int):=by unfold frame;simp;exact gj
 have B:I0 (frame (P++(Q++R))) l=1+P.length:=by
  unfold I0;rw[el,e,YX (pre:=[32]) (P:=P) (S:=Q++R) (post:=[0]) (x:=2^l) (lo:=1) (hi:=((1+P.length+(Q++R).length:Nat):Int)) rfl rfl F fun y A=>?_,Ag]
  ·rfl
  ·have hp:=h.p y (Ak _ A);refine A0.mp fun q=>?_;rw[H7 hp.1]at q;rcases AR.mp A with A|A
   ·have:=D y A;exact iy q this
   ·have:=E y A;exact cu q this
 refine⟨B,?_⟩;unfold UE;rw[B,el,G,(rfl:(((2^l*2-1:Nat):Int))=((2^l*2-1:Nat):Int)),YT (pre:=[32]++P) (P:=Q) (S:=R) (post:=[0]) (x:=2^l*2-1) (by simp;exact HD _ _) (by simp;exact gg) (fun y A=>?_) fun y A=>?_,Ag]
 ·simp;exact BQ _ _
 ·have hp:=h.p y (Ak _ (AC _ A));have:=(H7 (l:=l+1) hp.1).mpr (by rw[D y A];exact AK _);rw[Dt]at this;exact Nat.le_sub_one_of_lt this
 ·have hp:=h.p y (Ak _ (Ak _ A));refine Oz fun q=>?_;have H:=Gq l;have:=(H7 (l:=l+1) hp.1).mp (by rw[Dt];exact AY q (JG (Nat.mul_pos H dc) dc));have:=E y A;exact absurd ‹_› (A0.mpr this)
theorem Pz:∀(n r:Nat)(M:List Nat),V6 M→r<2^n→r<32→∃E,E6 (n+1) r (frame M)=frame E∧V6 E∧(∀x,(∀m∈E,G1 x m=false)↔(∀m∈M,G1 x m=false)∧G1 x r=false)∧∀k,(∀m∈M,m.testBit k=false)→r.testBit k=false→∀m∈E,m.testBit k=false
 |n,0,M,h,hr,_=>⟨M,by rw[E6.c2,if_pos rfl],h,fun x=>⟨fun q=>⟨q,OX x⟩,fun q=>q.1⟩,fun k q Z=>q⟩
 |0,r+1,M,h,hr,_=>by simp at hr
 |n+1,r+1,M,h,hr,F=>by
  refine IW (h.split (r+1).log2) fun P Q R H J G L=>?_;subst H;refine ER (eB h J G L) fun N O=>?_;rw[E6.c2,if_neg (Hi _),N,O]
  match Q,h,G with
  |[],h,G=>
   rw[if_pos (show 1+P.length=1+P.length+([]:List Nat).length from rfl)];refine⟨P++(r+1)::R,?_,⟨?_,fun m A=>?_⟩,fun x=>?_,fun k q B m A=>?_⟩
   ·have:=UD (32::P) (R++ [0]) (r+1);unfold frame;rw[(by simp:32::(P++([]++R)++ [0])=(32::P)++(R++ [0])),show 1+P.length=(32::P).length by simp;exact BQ _ _,this];simp
   ·have hs:=h.s;rw[Br,Cw]at hs;rw[Cw];refine⟨hs.1,DH.mpr ⟨L,hs.2.1⟩,fun a I b hb=>?_⟩;rcases AN.mp hb with rfl|hb
    ·exact(H7 (h.p a (AC _ I)).1).mp (J a I)
    ·exact hs.2.2 a I b hb
   ·rcases AR.mp A with A|A
    ·exact h.p m (AC _ A)
    ·rcases AN.mp A with rfl|A
     ·exact⟨Bx _,F⟩
     ·exact h.p m (Ak _ A)
   ·constructor
    ·intro q;exact⟨fun m A=>q m ((AR.mp A).elim (AC _) fun a=>Ak _ (AG _ a)),q _ (Ak _ AB)⟩
    ·rintro⟨q,B⟩ m A;rcases AR.mp A with A|A
     ·exact q m (AC _ A)
     ·rcases AN.mp A with rfl|A
      ·exact B
      ·exact q m (Ak _ A)
   ·rcases AR.mp A with A|A
    ·exact q m (AC _ A)
    ·rcases AN.mp A with rfl|A
     ·exact B
     ·exact q m (Ak _ A)
  |q0::Q,h,G=>
   rw[if_neg (by simp)];have D:q0∈P++(q0::Q++R):=Ak _ (AC _ AB);have S:(frame (P++(q0::Q++R))).getD (1+P.length) 0=q0:=by
    unfold frame;rw[BQ,Mi,A8,AE,BO (AK _),Dr];rfl
   rw[S];have hl:=G q0 AB;have hp:=h.p q0 D;have hx:=Wh hp.1 (Bx r) hl;refine Tc (Pz n ((r+1)^^^q0) (P++(q0::Q++R)) h (AF hx (Bq dc (A9 ((H7 (Bx r)).mp hr)))) (Gy (n:=5) F hp.2)) fun E T U V W=>?_;refine⟨E,T,U,fun x=>(V x).trans ?_,fun k q B=>W k q (by rw[DK,B,q q0 D];rfl)⟩;rw[UN];constructor
   ·rintro⟨q,B⟩;exact⟨q,by rw[q q0 D]at B;simpa using B⟩
   ·rintro⟨q,B⟩;exact⟨q,by rw[q q0 D,B];rfl⟩
theorem YY(J:∀o<5,T.getD o 0<32):∀(os M:List Nat),V6 M→(∀o∈os,o<5)→∃F,Il T os (frame M)=frame F∧V6 F∧(∀x,(∀m∈F,G1 x m=false)↔(∀m∈M,G1 x m=false)∧∀o∈os,G1 x (T.getD o 0)=false)∧∀k,(∀m∈M,m.testBit k=false)→(∀o∈os,(T.getD o 0).testBit k=false)→∀m∈F,m.testBit k=false:=by
 intro H
 induction H with
 |nil=>
  intro M h _;exact⟨M,rfl,h,fun x=>⟨fun q=>⟨q,fun L G=>(nomatch G)⟩,fun q=>q.1⟩,fun k q L=>q⟩
 |cons o os N=>
  intro M h G;have h5:=J o (G o AB);refine Tc (Pz 5 (T.getD o 0) M h h5 h5) fun D O P Q R=>?_;refine Tc (N D P fun A h'=>G A (AG _ h')) fun E S b2 b3 b4=>?_;refine⟨E,by rw[Il.c2,O,S],b2,fun x=>(b3 x).trans ?_,fun k q B=>b4 k (R k q (B o AB)) fun A h'=>B A (AG _ h')⟩;rw[Q];constructor
  ·rintro⟨⟨q,B⟩,I⟩;refine⟨q,fun A h'=>?_⟩;rcases AN.mp h' with rfl|h'
   ·exact B
   ·exact I A h'
  ·rintro⟨q,B⟩;exact⟨⟨q,B o AB⟩,fun A h'=>B A (AG _ h')⟩
theorem TR(h5:T.length=5)(E:∀o<5,T.getD o 0<32):∃M,FZ T=frame M∧V6 M∧(∀x,(∀m∈M,G1 x m=false)↔∀o<5,G1 x (T.getD o 0)=false)∧∀k,(∀o<5,(T.getD o 0).testBit k=false)→∀m∈M,m.testBit k=false:=by
 have hp:=VH h5;have B:∀o,o∈My T↔o<5:=fun o=>by rw[hp.mem_iff,An]
 refine Tc (YY E (My T) [] ⟨FH,fun D h=>(nomatch h)⟩ fun o A=>(B o).mp A) fun M F G H I=>?_;refine⟨M,F,G,fun x=>(H x).trans ⟨fun q o A=>q.2 o ((B o).mpr A),fun q=>⟨fun D h=>(nomatch h),fun o A=>q o ((B o).mp A)⟩⟩,fun k q=>I k (fun D h=>(nomatch h)) fun o A=>q o ((B o).mp A)⟩
noncomputable def Nn(H:Nat→Bool)(M:List Nat)(l x:Nat):Bool:=((AW l).all fun k=> !(x.testBit k && H k)) && M.all fun m=> !decide (m<2^l) || !G1 x m
noncomputable def OZ(H:Nat→Bool)(M:List Nat)(l:Nat):Nat:=((AW (2^l)).filter (Nn H M l)).length
noncomputable def Ql(H:Nat→Bool)(M:List Nat)(l:Nat):Nat:=(AW l).countP H+M.countP fun m=>decide (m<2^l)
theorem Ua(h:y<2^l):2^l+y=y^^^2^l:=by
 have A:=Nat.two_pow_add_eq_or_of_lt h 1;rw[Nat.mul_one]at A;rw[A];apply DJ;intro i;rw[Nat.testBit_or,DK,DQ];by_cases e:l=i
 ·subst e;rw[Cb h];simp
 ·simp[e]
theorem VS(p q:Nat→Bool)(n:Nat):((AW (2^(n+1))).filter p).length=((AW (2^n)).filter p).length+((AW (2^n)).filter fun y=>p (2^n+y)).length:=by
 rw[Dt,Nat.mul_two,List.range_add,Be,AQ,C1,AH];rfl
theorem Xe(p c:Nat→Bool)(l:List Nat):(l.filter fun y=>p y && !c y).length+(l.filter fun y=>p y && c y).length=(l.filter p).length:=by
 induction l with
 |nil=>rfl
 |cons a l A=>
  cases hp:p a<;>cases B:c a<;>simp[List.filter_cons,hp,B]<;>first|exact A|exact congrArg (· +1) A|(rw[Bb];exact congrArg (· +1) A)
theorem Vu{A:Type}{l:List A}{p q:A→Bool}(h:∀x∈l,p x=q x):l.all p=l.all q:=by
 induction l with
 |nil=>rfl
 |cons a l B=>rw[Dk,Dk,h a AB,B fun x hx=>h x (AG _ hx)]
theorem YI{H:Nat→Bool}{M:List Nat}(h:V6 M)(f:∀k<5,H k=true→∀m∈M,m.testBit k=false){l:Nat}(hl:l<5)(S:OZ H M l*2^Ql H M l=2^l):OZ H M (l+1)*2^Ql H M (l+1)=2^(l+1):=by
 refine IW (h.split l) fun P Q R T J U i=>?_;subst T;have L:(2:Nat)^l<2^(l+1):=by rw[Dt];have:=Gq l;exact jb this
 have G:∀m∈Q,2^l≤m∧m<2^(l+1)∧m.testBit l=true:=fun m A=>by
  have hp:=h.p m (Ak _ (AC _ A));have e:=U m A;refine⟨?_,(H7 hp.1).mpr (ec e),by rw[←e];exact ON hp.1⟩;have:=mt (H7 (l:=l) hp.1).mp (eb e);exact Yk this
 have N:∀m∈R,2^(l+1)≤m:=fun m A=>by
  have hp:=h.p m (Ak _ (Ak _ A));have:=mt (H7 (l:=l+1) hp.1).mp (by have:=i m A;exact A0.mpr this);exact Yk this
 have V:∀m∈P,m.testBit l=false:=fun m A=>Cb (J m A);have E:∀x,Nn H (P++(Q++R)) l x=(((AW l).all fun k=> !(x.testBit k && H k)) && P.all fun m=> !G1 x m):=fun x=>by
  unfold Nn;congr 1;rw[Fe,Fe];have W:(Q.all fun m=> !decide (m<2^l) || !G1 x m)=true:=Al.mpr fun m A=>by rw[decide_eq_false (by have:=(G m A).1;exact A0.mpr this)];rfl
  have Z:(R.all fun m=> !decide (m<2^l) || !G1 x m)=true:=Al.mpr fun m A=>by rw[decide_eq_false (by have:=N m A;exact A0.mpr (AA (Aa L) this))];rfl
  rw[W,Z,DY,DY];exact Vu fun m A=>by rw[decide_eq_true (J m A)];rfl
 have B:∀x,Nn H (P++(Q++R)) (l+1) x=(Nn H (P++(Q++R)) l x && (!(x.testBit l && H l) && Q.all fun m=> !G1 x m)):=fun x=>by
  rw[E];unfold Nn;rw[Kz,Fe,Fe,Fe];have Z:(R.all fun m=> !decide (m<2^(l+1)) || !G1 x m)=true:=Al.mpr fun m A=>by rw[decide_eq_false (by have:=N m A;exact A0.mpr this)];rfl
  have W:(Q.all fun m=> !decide (m<2^(l+1)) || !G1 x m)=Q.all fun m=> !G1 x m:=Vu fun m A=>by rw[decide_eq_true (G m A).2.1];rfl
  have j:(P.all fun m=> !decide (m<2^(l+1)) || !G1 x m)=P.all fun m=> !G1 x m:=Vu fun m A=>by rw[decide_eq_true (by have:=J m A;exact B7 this L)];rfl
  rw[j,W,Z];simp only[Dk,List.all_nil,DY];cases ((AW l).all fun k=> !(x.testBit k && H k))<;>cases (P.all fun m=> !G1 x m)<;>cases (Q.all fun m=> !G1 x m)<;>cases (!(x.testBit l && H l))<;>rfl
 have low:∀y<2^l,Nn H (P++(Q++R)) l (2^l+y)=Nn H (P++(Q++R)) l y:=fun y F=>by
  rw[E,E,Ua F];congr 1
  ·exact Vu fun k n=>by
    have:=An.mp n;rw[DK,DQ,decide_eq_false (cq this),EJ]
  ·exact Vu fun m A=>by rw[R9,UO hl,V m A,EJ]
 have b:((AW (2^l)).filter (Nn H (P++(Q++R)) (l+1)))=(AW (2^l)).filter fun y=>Nn H (P++(Q++R)) l y && Q.all fun m=> !G1 y m:=
  DR fun y F=>by rw[B,Cb (An.mp F)];rfl
 have c:((AW (2^l)).filter fun y=>Nn H (P++(Q++R)) (l+1) (2^l+y))=(AW (2^l)).filter fun y=>Nn H (P++(Q++R)) l y && (!H l && Q.all fun m=>G1 y m):=
  DR fun y F=>by
   have F:=An.mp F;rw[B,low y F,Ua F,DK,Cb F,DQ,decide_eq_true rfl];have:(Q.all fun m=> !G1 (y^^^2^l) m)=Q.all fun m=>G1 y m:=Vu fun m A=>by rw[R9,UO hl,(G m A).2.2];cases G1 y m<;>rfl
   rw[this];rfl
 have ex:Ql H (P++(Q++R)) (l+1)=Ql H (P++(Q++R)) l+((if H l then 1 else 0)+Q.length):=by
  unfold Ql;rw[Kz,DI,DI,DI,DI,DI];have o:P.countP (fun m=>decide (m<2^(l+1)))=P.countP fun m=>decide (m<2^l):=List.countP_congr fun m A=>by simp only[decide_eq_true_eq];have:=J m A;exact⟨fun _=>this,fun _=>B7 this L⟩
  have b2:Q.countP (fun m=>decide (m<2^(l+1)))=Q.length:=Us.mpr fun m A=>decide_eq_true (G m A).2.1;have b3:Q.countP (fun m=>decide (m<2^l))=0:=EX.mpr fun m A=>by have:=(G m A).1;simp;exact this
  have b4:R.countP (fun m=>decide (m<2^(l+1)))=0:=EX.mpr fun m A=>by have:=N m A;simp;exact this
  have p:R.countP (fun m=>decide (m<2^l))=0:=EX.mpr fun m A=>by have:=N m A;simp;exact aj L this
  rw[o,b2,b3,b4,p,ED,PK];exact gU
 rw[show OZ H (P++(Q++R)) (l+1)=_ from VS _ (fun O=>false) l,b,c,ex];clear E B low b c ex;cases Q with
 |nil=>
  have a:((AW (2^l)).filter fun y=>Nn H (P++([]++R)) l y && ([]:List Nat).all fun m=> !G1 y m).length=OZ H (P++([]++R)) l:=by
   unfold OZ;congr 1;exact DR fun y O=>DY _
  rw[a];cases D:H l with
  |true=>
   have I:((AW (2^l)).filter fun y=>Nn H (P++([]++R)) l y && (!true && ([]:List Nat).all fun m=>G1 y m)).length=0:=by
    rw[Gz,Cy];intro y _;simp
   rw[I,if_pos rfl,Du,show 1+([]:List Nat).length=1 from rfl,Dt,Dt,←J7,S]
  |false=>
   have I:((AW (2^l)).filter fun y=>Nn H (P++([]++R)) l y && (!false && ([]:List Nat).all fun m=>G1 y m)).length=OZ H (P++([]++R)) l:=by
    unfold OZ;congr 1;exact DR fun y O=>DY _
   rw[I,if_neg dc,show 0+([]:List Nat).length=0 from rfl,Du,Dt,←Hy,J7,S,Un]
 |cons q0 Q=>cases Q with
 |nil=>
  have D:H l=false:=by
   cases D:H l with
   |false=>rfl
   |true=>have:=f l hl D q0 (Ak _ (AC _ AB));rw[(G q0 AB).2.2]at this;cases this
  have a:((AW (2^l)).filter fun y=>Nn H (P++([q0]++R)) l y && [q0].all fun m=> !G1 y m)=(AW (2^l)).filter fun y=>Nn H (P++([q0]++R)) l y && !G1 y q0:=DR fun y O=>by simp
  have I:((AW (2^l)).filter fun y=>Nn H (P++([q0]++R)) l y && (!H l && [q0].all fun m=>G1 y m))=(AW (2^l)).filter fun y=>Nn H (P++([q0]++R)) l y && G1 y q0:=DR fun y O=>by rw[D];simp
  rw[a,I,Xe (Nn H (P++([q0]++R)) l) (fun y=>G1 y q0),D,if_neg dc,show 0+ [q0].length=1 from rfl,Dt,Dt,←J7,show((AW (2^l)).filter (Nn H (P++([q0]++R)) l)).length=OZ H (P++([q0]++R)) l from rfl,S]
 |cons d Q=>
  exfalso;have hs:=(Cw.mp (Cw.mp h.s).2.1).1;have:=(DH.mp hs).1 d AB;rw[U q0 AB,U d (AG _ AB)]at this;exact absurd this (As _)
theorem aJ(h:V6 M)(D:∀k<5,H k=true→∀m∈M,m.testBit k=false):∀l≤5,OZ H M l*2^Ql H M l=2^l:=by
 intro B
 induction B with
 |zero=>
  intro _;have:∀m∈M,¬m<1:=fun m A=>by have:=(h.p m A).1;exact A0.mpr this
  have E:M.countP (fun m=>decide (m<2^0))=0:=EX.mpr fun m A=>by have:=this m A;simp;exact g4 this
  have F:Nn H M 0 0=true:=by
   unfold Nn;rw[A7];exact⟨rfl,Al.mpr fun m A=>by rw[decide_eq_false (by have:=this m A;simpa using this)];rfl⟩
  unfold OZ Ql;rw[E];simp[Kz,F]
 |succ l G=>
  intro hl;exact YI h D (c6 hl) (G (Yp hl))
structure JS(L:Nat)(mate step:Nat→Nat):Prop where
 ml:∀s<L,mate s<L
 mm:∀s<L,mate (mate s)=s
 mn:∀s<L,mate s≠s
 sl:∀s<L,step s<L
 ss:∀s<L,step (step s)=s
 sn:∀s<L,step s≠s
noncomputable def KW(nx:Nat→Nat)(f:Nat):Nat→Nat
 |0=>f
 |n+1=>nx (KW nx f n)
theorem eD{P:Nat→Prop}(n:Nat):P n→∃m,m≤n∧P m∧∀j<m,¬P j:=by
 induction n using Nat.strongRecOn with
 |_ n B=>
  intro h;by_cases q:∃j,j<n∧P j
  ·refine Bz q fun j A hp=>?_;refine Bz (B j A hp) fun m D E=>?_;exact⟨m,AA D (Aa A),E⟩
  ·exact⟨n,AK n,h,fun j A hp=>q ⟨j,A,hp⟩⟩
structure Yu(L:Nat)(mate step:Nat→Nat)(V:List Nat):Prop where
 ne:V≠ []
 lt:∀s∈V,s<L
 nd:V.Nodup
 fr:∀s∈V,mate s∉V
 nx:∀s∈V,step (mate s)∈V
 pv:∀s∈V,mate (step s)∈V
 cn:∀g:Nat→Bool,(∀s<L,g (mate s)=g s)→(∀s<L,g (step s)=g s)→∀s∈V,∀t∈V,g s=g t
section
variable{L:Nat}{mate step:Nat→Nat}
theorem JO(H:JS L mate step)(B:f<L):∀n,KW (fun s=>step (mate s)) f n<L:=by
 intro A
 induction A with
 |zero=>
  exact B
 |succ n D=>
  exact H.sl _ (H.ml _ (D))
theorem b8(H:JS L mate step)(hs:s<L)(A:t<L)(e:step (mate s)=step (mate t)):s=t:=by
 have B:=congrArg step e;rw[H.ss _ (H.ml _ hs),H.ss _ (H.ml _ A)]at B;have D:=congrArg mate B
 rwa [H.mm _ hs,H.mm _ A]at D
theorem UB(H:JS L mate step)(B:f<L):∀i d,KW (fun s=>step (mate s)) f (i+d)=KW (fun s=>step (mate s)) f i→KW (fun s=>step (mate s)) f d=f:=by
 intro A
 induction A with
 |zero=>
  intro d e
  rwa [Bw]at e
 |succ i D=>
  intro d e;exact D d (b8 H (JO H B _) (JO H B _) (by rw[(by exact Bb _ _ _:i+1+d=(i+d)+1)]at e;exact e))
theorem Z0(H:JS L mate step)(D:f<L):∃T,1≤T∧T≤L∧KW (fun s=>step (mate s)) f T=f∧∀j,1≤j→j<T→KW (fun s=>step (mate s)) f j≠f:=by
 have key:∃d,1≤d∧d≤L∧KW (fun s=>step (mate s)) f d=f:=by
  refine Cr fun hn=>?_;have hd:((AW (L+1)).map (KW (fun s=>step (mate s)) f)).Nodup:=by
   refine Ja.mpr ((FV).imp_of_mem fun {i j} hi E A e=>hn ⟨j-i,by exact Ds A,?_,?_⟩)
   ·have:=An.mp E;exact AA (EF _ _) (A9 this)
   ·exact UB H D i (j-i) (by rw[(by exact Dx (Aa A):i+(j-i)=j)];exact e.symm)
  have:=hd.length_le_of_subset (l₂:=AW L) fun x hx=>by
   refine Bz (AU.mp hx) fun i _ B=>?_;subst B;exact An.mpr (JO H D i)
  rw[AH,Bm,Bm]at this;exact absurd this (As _)
 refine K8 key fun d F G I=>?_;obtain⟨m,J,⟨M,N⟩,O⟩:=eD (P:=fun d=>1≤d∧KW (fun s=>step (mate s)) f d=f) d ⟨F,I⟩;exact⟨m,M,AA J G,N,fun j Q R e=>O j R ⟨Q,e⟩⟩
theorem Qd(H:JS L mate step)(A:f<L):∀d i,KW (fun s=>step (mate s)) f (i+d)≠mate (KW (fun s=>step (mate s)) f i)
 |0,i,e=>H.mn _ (JO H A i) e.symm
 |1,i,e=>H.sn _ (H.ml _ (JO H A i)) e
 |d+2,i,e=>by
  have E:step (mate (KW (fun s=>step (mate s)) f (i+d+1)))=mate (KW (fun s=>step (mate s)) f i):=e;have B:=congrArg step E;rw[H.ss _ (H.ml _ (JO H A _))]at B;have D:=congrArg mate B;rw[H.mm _ (JO H A _)]at D;exact Qd H A d (i+1) (by rw[(by exact Bb _ _ _:i+1+d=i+d+1)];exact D)
noncomputable def OG(nx:Nat→Nat)(f T:Nat):List Nat:=(AW T).map (KW nx f)
theorem cN(H:JS L mate step)(E:f<L)(G:1≤T)(Q:KW (fun s=>step (mate s)) f T=f)(S:∀j,1≤j→j<T→KW (fun s=>step (mate s)) f j≠f):Yu L mate step (OG (fun s=>step (mate s)) f T)∧f∈OG (fun s=>step (mate s)) f T:=by
 have D:∀j<T,KW (fun s=>step (mate s)) f j∈OG (fun s=>step (mate s)) f T:=fun j I=>CY (An.mpr I);have B:∀s∈OG (fun s=>step (mate s)) f T,∃j,j<T∧KW (fun s=>step (mate s)) f j=s:=fun s hs=>by
  refine Bz (AU.mp hs) fun j I e=>?_;exact⟨j,An.mp I,e⟩
 have O:∀s∈OG (fun s=>step (mate s)) f T,s<L:=fun s hs=>by refine Bz (B s hs) fun j _ A=>?_;subst A;exact JO H E j
 have R:∀g:Nat→Bool,(∀s<L,g (mate s)=g s)→(∀s<L,g (step s)=g s)→∀j,g (KW (fun s=>step (mate s)) f j)=g f:=fun g M N j=>by
  induction j with
  |zero=>rfl
  |succ j U=>exact(N _ (H.ml _ (JO H E j))).trans ((M _ (JO H E j)).trans U)
 refine⟨⟨?_,O,?_,fun s hs P=>?_,fun s hs=>?_,fun s hs=>?_,fun g M N s hs t V=>?_⟩,D 0 G⟩
 ·intro e;have:=D 0 G;rw[e]at this;cases this
 ·refine Ja.mpr ((FV).imp_of_mem fun {i j} hi I J e=>?_);have:=An.mp I;exact S (j-i) (by exact Ds J) (by exact AY (EF _ _) this) (UB H E i (j-i) (by rw[(by exact Dx (Aa J):i+(j-i)=j)];exact e.symm))
 ·refine Bz (B s hs) fun i _ A=>?_;subst A;refine Bz (B _ P) fun j _ e=>?_;rcases Nat.le_total i j with q|q
  ·exact Qd H E (j-i) i (by rw[(by exact eZ q:i+(j-i)=j)];exact e)
  ·refine Qd H E (i-j) j ?_;rw[(by exact eZ q:j+(i-j)=i),e,H.mm _ (JO H E i)]
 ·refine Bz (B s hs) fun i hi A=>?_;subst A;by_cases q:i+1<T
  ·exact D (i+1) q
  ·have:i+1=T:=by exact DL hi (A0.mp q)
   show KW (fun s=>step (mate s)) f (i+1)∈_;rw[this,Q];exact D 0 G
 ·refine Bz (B s hs) fun i hi A=>?_;subst A;have F:∀j,mate (step (KW (fun s=>step (mate s)) f (j+1)))=KW (fun s=>step (mate s)) f j:=fun j=>by
   show mate (step (step (mate _)))=_;rw[H.ss _ (H.ml _ (JO H E j)),H.mm _ (JO H E j)]
  cases i with
  |zero=>
   rw[show KW (fun s=>step (mate s)) f 0=KW (fun s=>step (mate s)) f (T-1+1) by rw[(by exact Cc G:T-1+1=T),Q];rfl,F];exact D _ (JG G dc)
  |succ i=>rw[F];exact D i (Aa hi)
 ·refine Bz (B s hs) fun i _ A=>?_;subst A;refine Bz (B t V) fun j _ A=>?_;subst A;rw[R g M N i,R g M N j]
noncomputable def Sf(mate:Nat→Nat)(V:List Nat)(s:Nat):Bool:=decide (s∈V) || decide (mate s∈V)
theorem I6:Sf mate V s=true↔s∈V∨mate s∈V:=by unfold Sf;rw[E0,decide_eq_true_iff,decide_eq_true_iff]
theorem Nw(H:JS L mate step)(hs:s<L):Sf mate V (mate s)=Sf mate V s:=by unfold Sf;rw[H.mm s hs,Bool.or_comm]
theorem Ub(H:JS L mate step)(C:Yu L mate step V)(hs:s<L):Sf mate V (step s)=Sf mate V s:=by
 have one:∀s<L,Sf mate V s=true→Sf mate V (step s)=true:=fun s hs h=>by
  rw[I6]at h⊢;rcases h with h|h
  ·exact .inr (C.pv s h)
  ·have:=C.nx _ h;rw[H.mm s hs]at this;exact .inl this
 rw[CK];exact⟨fun h=>by have:=one _ (H.sl s hs) h;rwa [H.ss s hs]at this,one s hs⟩
noncomputable def Dj(mate:Nat→Nat)(V W:List Nat):Prop:=∀s∈V,Sf mate W s=false
structure Yr(L:Nat)(mate step:Nat→Nat)(VS:List (List Nat)):Prop where
 c:∀V∈VS,Yu L mate step V
 d:VS.Pairwise fun V W=>Dj mate V W∧Dj mate W V
theorem Yr.add(H:JS L mate step)(R:Yr L mate step E)(C:Yu L mate step V)(I:f∈V)(hn:∀W∈E,Sf mate W f=false):Yr L mate step (E++ [V]) where
 c:=fun W B=>(AR.mp B).elim (R.c W) fun h=>by rw[AI.mp h];exact C
 d:=by
  rw[Cw];refine⟨R.d,List.pairwise_singleton _ _,fun W B F A=>?_⟩;rw[AI]at A;subst A;have G:=R.c W B;have D:∀s∈F,Sf mate W s=false:=fun s hs=>(C.cn (Sf mate W) (fun s hs=>Nw H hs) (fun s hs=>Ub H G hs) s hs f I).trans (hn W B);refine⟨fun s hs=>?_,D⟩;cases h:Sf mate F s with
  |false=>rfl
  |true=>
   rcases I6.mp h with h|h
   ·have:=D s h;rw[I6.mpr (.inl hs)]at this;exact this
   ·have:=D _ h;rw[Nw H (G.lt s hs),I6.mpr (.inl hs)]at this;exact this
noncomputable def fb(mate:Nat→Nat):List Bool→List (List Nat)→Nat→Bool
 |b::bs,V::A,s=>(b && Sf mate V s)^^fb mate bs A s
 |_,_,_=>false
theorem fb.c1(mate:Nat→Nat):fb mate (b::bs) (V::A) s=((b && Sf mate V s)^^fb mate bs A s):=rfl
theorem UJ(H:JS L mate step):∀(bs:List Bool)(A:List (List Nat)){s:Nat},s<L→fb mate bs A (mate s)=fb mate bs A s
 |b::bs,V::A,s,hs=>by rw[fb.c1,fb.c1,Nw H hs,UJ H bs A hs]
 |[],_,s,hs=>rfl
 |_::_,[],s,hs=>rfl
theorem UH(H:JS L mate step):∀(bs:List Bool)(A:List (List Nat)){s:Nat},(∀V∈A,Yu L mate step V)→s<L→fb mate bs A (step s)=fb mate bs A s
 |b::bs,V::A,s,B,hs=>by rw[fb.c1,fb.c1,Ub H (B V AB) hs,UH H bs A (fun W D=>B W (AG _ D)) hs]
 |[],_,s,_,hs=>rfl
 |_::_,[],s,_,hs=>rfl
theorem Qk:∀(bs:List Bool)(A:List (List Nat)){s:Nat},(∀V∈A,Sf mate V s=false)→fb mate bs A s=false
 |b::bs,V::A,s,h=>by rw[fb.c1,h V AB,Qk bs A fun W B=>h W (AG _ B)];cases b<;>rfl
 |[],_,s,_=>rfl
 |_::_,[],s,_=>rfl
theorem bE(H:JS L mate step){g:Nat→Bool}(D:∀s<L,g (mate s)=g s)(I:∀s<L,g (step s)=g s):∀(B:List (List Nat)),Yr L mate step B→∀s<L,(∃V∈B,Sf mate V s=true)→fb mate (B.map fun V=>g (V.headD 0)) B s=g s:=by
 intro E
 induction E with
 |nil=>
  intro R s hs F;refine Bz F fun V J _=>?_;exact(nomatch J)
 |cons V B M=>
  intro R s hs hex;rw[Ae,fb.c1];have hd:=DH.mp R.d;have C:=R.c V AB;cases h:Sf mate V s with
  |true=>
   rw[Qk]
   ·refine P3 (Ej C.ne) fun t N G=>?_;subst G;rw[ID,DY,EJ];rcases I6.mp h with h|h
    ·exact C.cn g D I t AB s h
    ·exact(C.cn g D I t AB _ h).trans (D s hs)
   ·intro W A;rcases I6.mp h with h|h
    ·exact(hd.1 W A).1 s h
    ·have:=(hd.1 W A).1 _ h
     rwa [Nw H hs]at this
  |false=>
   rw[FI,G7];refine M ⟨fun W A=>R.c W (AG _ A),hd.2⟩ s hs ?_;refine Bz hex fun W A e=>?_;rcases AN.mp A with rfl|A
   ·cases h.symm.trans e
   ·exact⟨W,A,e⟩
theorem UI:∀(bs:List Bool)(A:List (List Nat)),Yr L mate step A→bs.length=A.length→(∀V∈A,∀s∈V,fb mate bs A s=false)→∀b∈bs,b=false
 |[],_,_,_,_=>fun H h=>(nomatch h)
 |b::bs,[],_,e,_=>(nomatch e)
 |b::bs,V::A,R,e,h=>by
  have hd:=DH.mp R.d;have C:=R.c V AB;refine P3 (Ej C.ne) fun t I F=>?_;have E:t∈V:=by rw[F];exact AB
  have hb:b=false:=by
   have:=h V AB t E;rw[fb.c1,I6.mpr (.inl E),Qk bs A fun W D=>(hd.1 W D).1 t E]at this;simpa using this
  intro G B;rcases AN.mp B with rfl|B
  ·exact hb
  ·refine UI bs A ⟨fun W D=>R.c W (AG _ D),hd.2⟩ (Jw e) (fun W D s hs=>?_) G B;have:=h W (AG _ D) s hs;rw[fb.c1,(hd.1 W D).2 s hs]at this;simpa using this
end
structure Mk(E:List En):Prop where
 ok:Q5 E
 uq:∀p<E.length,∀q<E.length,∀r<E.length,(CF E p).1=(CF E q).1→(CF E q).1=(CF E r).1→p≠q→q≠r→p≠r→False
noncomputable def Bt(E:List En)(s:Nat):Nat:=(Ec E).getD s 0
noncomputable def Ea(E:List En)(s:Nat):Nat:=if s % 2=1 then(s+1) % (2*E.length) else(s+2*E.length-1) % (2*E.length)
theorem Zm(E:List En)(s:Nat):Gk (Ec E) s=Ea E (Bt E s):=by
 unfold Gk Ea Bt;rw[GP]
section
variable{E:List En}
theorem Mk.oth(H:Mk E)(hp:p<E.length):A6 E p<E.length∧A6 E p≠p∧(CF E (A6 E p)).1=(CF E p).1∧A6 E (A6 E p)=p:=by
 refine Nc (ME (H.ok.two p hp)) fun A B D=>?_;refine Nc (ME (H.ok.two _ A)) fun F h5 G=>?_;refine⟨A,B,D,Cr fun hn=>?_⟩;exact H.uq p hp _ A _ F D.symm G.symm (fun e=>B e.symm) (fun e=>h5 e.symm) (fun e=>hn e.symm)
theorem Mk.only(H:Mk E)(hp:p<E.length)(B:q<E.length)(e:(CF E q).1=(CF E p).1):q=p∨q=A6 E p:=by
 refine Ny (H.oth hp) fun D F A G=>?_;by_cases a:q=p
 ·exact .inl a
 ·refine .inr (Cr fun b=>H.uq p hp _ D q B A.symm (A.trans e.symm) (fun e=>F e.symm) (fun e=>b e.symm) fun e=>a e.symm)
theorem Mk.turn(H:Mk E)(hp:p<E.length):Dl E (A6 E p)=Dl E p:=by
 refine Ny (H.oth hp) fun B D F A=>?_;unfold Dl;rw[A];cases (CF E p).2<;>cases (CF E (A6 E p)).2<;>rfl
theorem R3(f:Nat→List Nat)(A:∀p,(f p).length=2):∀(l:List Nat)(p b:Nat),p<l.length→b<2→((l.map f).flatten).getD (2*p+b) 0=(f (l.getD p 0)).getD b 0
 |[],p,b,hp,_=>by simp at hp
 |a::l,0,b,_,hb=>by
  rw[Ae,Bd,AE,CE (by rw[A];exact AV hb _),Nat.mul_zero,Bw,←AE];rfl
 |a::l,p+1,b,hp,hb=>by
  rw[Ae,Bd,AE,BO (by rw[A];exact jQ hb),A,(by exact jV hb:2*(p+1)+b-2=2*p+b),←AE,R3 f A l p b (by simpa using hp) hb];rfl
theorem Ig(hp:p<E.length)(hb:b<2):Bt E (2*p+b)=2*A6 E p+(b+1+Dl E p) % 2:=by
 unfold Bt Ec;rw[R3 (Gn E) (fun B=>rfl) _ p b (by rw[Bm];exact hp) hb];have e:(AW E.length).getD p 0=p:=by rw[AE,Mh hp];rfl
 rw[e];have A:=Hx E p;unfold Gn;rcases(by exact am hb:b=0∨b=1) with rfl|rfl
 ·rw[Wa];exact jU A
 ·rw[Mi,Wa];exact jS A
theorem step_at(hs:s<2*E.length):Ea E s=if s % 2=1 then(if s+1=2*E.length then 0 else s+1) else(if s=0 then 2*E.length-1 else s-1):=by
 unfold Ea;by_cases B:s % 2=1
 ·rw[if_pos B,if_pos B];by_cases A:s+1=2*E.length
  ·rw[if_pos A,A,Nat.mod_self]
  ·rw[if_neg A,Hj (B' hs A)]
 ·rw[if_neg B,if_neg B];by_cases A:s=0
  ·subst A;rw[if_pos rfl,Bw,Hj (JG hs dc)]
  ·rw[if_neg A,(by exact Nat.sub_add_comm (Cd A):s+2*E.length-1=(s-1)+2*E.length),Nat.add_mod_right,Hj (by exact AY (EF _ _) hs)]
theorem QT:s=2*(s/2)+s % 2:=(ET _ 2).symm
noncomputable def Y9(n s:Nat):Nat:=if s % 2=1 then(if s+1=2*n then 0 else s+1) else(if s=0 then 2*n-1 else s-1)
theorem L9(n p:Nat):Y9 n (2*p+1)=if p+1=n then 0 else 2*(p+1):=by
 unfold Y9;rw[if_pos (k7 (AK 1))];show(if 2*(p+1)=2*n then 0 else 2*(p+1))=_;by_cases h:p+1=n
 ·rw[if_pos h,if_pos (by rw[h])]
 ·rw[if_neg h,if_neg fun q=>h (Nat.eq_of_mul_eq_mul_left dc q)]
theorem OD(n:Nat):Y9 n 0=2*n-1:=by
 unfold Y9;rw[if_neg dc,if_pos rfl]
theorem L8(n q:Nat):Y9 n (2*(q+1))=2*q+1:=by
 unfold Y9;rw[if_neg (by rw[Nat.mul_mod_right];decide),if_neg (show¬2*(q+1)=0 from Hi _)];rfl
theorem W6(s:Nat):(∃p,s=2*p+1)∨s=0∨∃q,s=2*(q+1):=by
 have e:=ET s 2;rcases CB s with h|h
 ·rw[h]at e;cases q:s/2 with
  |zero=>rw[q]at e;exact .inr (.inl e.symm)
  |succ k=>rw[q]at e;exact .inr (.inr ⟨k,e.symm⟩)
 ·rw[h]at e;exact .inl ⟨_,e.symm⟩
theorem W3(hs:s<2*n):Y9 n s<2*n:=by
 rcases W6 s with⟨p,rfl⟩|rfl|⟨q,rfl⟩
 ·rw[L9];split
  ·exact AY (BI _) hs
  ·rename_i h;exact Nat.mul_lt_mul_of_pos_left (B' (Sb (a:=2) (E2 hs)) h) dc
 ·rw[OD];exact JG hs dc
 ·rw[L8];exact E2 hs
theorem ZV(hs:s<2*n):Y9 n (Y9 n s)=s:=by
 rcases W6 s with⟨p,rfl⟩|rfl|⟨q,rfl⟩
 ·rw[L9];split
  ·rename_i h;subst h;rfl
  ·exact L8 n p
 ·cases n with
  |zero=>exact absurd hs (As 0)
  |succ m=>
   rw[OD];exact(L9 (m+1) m).trans (if_pos rfl)
 ·rw[L8,L9,if_neg (BX (Sb (a:=2) hs))]
theorem bu(hs:s<2*n):Y9 n s≠s:=by
 rcases W6 s with⟨p,rfl⟩|rfl|⟨q,rfl⟩
 ·rw[L9];split
  ·exact nofun
  ·exact KG _
 ·rw[OD];cases n with
  |zero=>exact absurd hs (As 0)
  |succ m=>exact nofun
 ·rw[L8];exact(KG _).symm
theorem Mk.sides(H:Mk E):JS (2*E.length) (Bt E) (Ea E) where
 ml:=fun s hs=>NG H.ok hs
 mm:=fun s hs=>by
  have hp:s/2<E.length:=O_ hs;refine Ny (H.oth hp) fun B D F A=>?_;have G:=Hx E (s/2);have e:Bt E s=2*A6 E (s/2)+(s % 2+1+Dl E (s/2)) % 2:=by
   conv=>lhs;rw[QT (s:=s)]
   exact Ig hp (CO _ dc)
  rw[e,Ig B (CO _ dc),A,H.turn hp];exact iL A e
 mn:=fun s hs=>by
  have hp:s/2<E.length:=O_ hs;refine Ny (H.oth hp) fun B D F A=>?_;have e:Bt E s=2*A6 E (s/2)+(s % 2+1+Dl E (s/2)) % 2:=by
   conv=>lhs;rw[QT (s:=s)]
   exact Ig hp (CO _ dc)
  rw[e];exact gu D A e
 sl:=fun s hs=>by
  rw[step_at hs];exact W3 hs
 ss:=fun s hs=>by
  rw[step_at hs];exact(step_at (W3 hs)).trans (ZV hs)
 sn:=fun s hs=>by
  rw[step_at hs];exact bu hs
noncomputable def xl(g:Nat→Bool):List Nat→Bool
 |[]=>false
 |s::V=>g s^^xl g V
theorem xl.c1(g:Nat→Bool):xl g []=(false):=rfl
theorem xl.c2(g:Nat→Bool):xl g (s::V)=(g s^^xl g V):=rfl
theorem Su(g h:Nat→Bool):∀V:List Nat,xl (fun s=>g s^^h s) V=(xl g V^^xl h V):=by
 intro A
 induction A with
 |nil=>
  exact rfl
 |cons s V B=>
  rw[xl.c2,xl.c2,xl.c2,B];cases g s<;>cases h s<;>cases xl g V<;>cases xl h V<;>rfl
theorem RK:∀{V:List Nat},(∀s∈V,g s=h s)→xl g V=xl h V:=by
 intro A
 induction A with
 |nil=>
  intro _;exact rfl
 |cons s V B=>
  intro e;rw[xl.c2,xl.c2,e s AB,B fun t D=>e t (AG _ D)]
theorem Wm:∀V:List Nat,xl (fun D=>false) V=false:=by
 intro A
 induction A with
 |nil=>
  exact rfl
 |cons s V B=>
  rw[xl.c2,B];rfl
theorem QK(a:Nat):∀{V:List Nat},V.Nodup→xl (fun s=>decide (s=a)) V=decide (a∈V):=by
 intro A
 induction A with
 |nil=>
  intro _;simp[xl.c1,xl.c2]
 |cons s V D=>
  intro h;have B:=Fc.mp h;rw[xl.c2,D B.2];by_cases e:s=a
  ·subst e;rw[decide_eq_true rfl,decide_eq_false B.1,decide_eq_true AB];rfl
  ·rw[decide_eq_false e,G7,CK,decide_eq_true_iff,decide_eq_true_iff,AN];exact⟨.inr,fun q=>q.elim (fun q=>absurd q.symm e) id⟩
noncomputable def Y_(E:List En)(s:Nat):Nat:=(CF E (s/2)).1
noncomputable def rv(E:List En)(V:List Nat):Nat:=V.foldl (fun r s=>r^^^2^Y_ E s) 0
theorem W8(E:List En)(k:Nat):∀(V:List Nat)(r:Nat),(V.foldl (fun r s=>r^^^2^Y_ E s) r).testBit k=(r.testBit k^^xl (fun s=>decide (Y_ E s=k)) V):=by
 intro A
 induction A with
 |nil=>
  intro r;rw[xl.c1,EJ];rfl
 |cons s V B=>
  intro r;rw[PJ,B,DK,DQ,xl.c2,Bool.xor_assoc]
theorem d7(H:Mk E)(C:Yu (2*E.length) (Bt E) (Ea E) V)(hp:p<E.length):(rv E V).testBit (CF E p).1=(Sf (Bt E) V (2*p)^^Sf (Bt E) V (2*p+1)):=by
 refine Ny (H.oth hp) fun P B M D=>?_;have N:=Hx E p;unfold rv;rw[W8,Bp,G7];have e:xl (fun s=>decide (Y_ E s=(CF E p).1)) V=xl (fun s=>((decide (s=2*p)^^decide (s=2*p+1))^^(decide (s=2*A6 E p)^^decide (s=2*A6 E p+1)))) V:=RK fun s hs=>by
  have F:=C.lt s hs;by_cases q:Y_ E s=(CF E p).1
  ·rw[decide_eq_true q];rcases H.only hp (q:=s/2) (by exact O_ F) q with A | A
   ·rw[decide_eq_false (p:=s=2*A6 E p) (by exact gr B D A),decide_eq_false (p:=s=2*A6 E p+1) (by exact gt B D A)];rcases(by exact A▸fF:s=2*p∨s=2*p+1) with r|r
    ·rw[decide_eq_true r,decide_eq_false (by exact h2 D A r)];rfl
    ·rw[decide_eq_true r,decide_eq_false (by exact h3 D A r)];rfl
   ·rw[decide_eq_false (p:=s=2*p) (by exact fun h=>B (by rw[←A,h];exact G0 _ dc)),decide_eq_false (p:=s=2*p+1) (by exact fun h=>B (by rw[←A,h];exact Sl (AK 1)))];rcases(by exact A▸fF:s=2*A6 E p∨s=2*A6 E p+1) with r|r
    ·rw[decide_eq_true r,decide_eq_false (jp A r)];rfl
    ·rw[decide_eq_true r,decide_eq_false (jq A r)];rfl
  ·have G:s/2≠p:=fun r=>q (by unfold Y_;rw[r]);have I:s/2≠A6 E p:=fun r=>q (by unfold Y_;rw[r];exact M);rw[decide_eq_false q,decide_eq_false (fun h=>G (by rw[h];exact G0 _ dc)),decide_eq_false (fun h=>G (by rw[h];exact Sl (AK 1))),decide_eq_false (fun h=>I (by rw[h];exact G0 _ dc)),decide_eq_false (fun h=>I (by rw[h];exact Sl (AK 1)))];rfl
 rw[e,Su,Su,Su,QK _ C.nd,QK _ C.nd,QK _ C.nd,QK _ C.nd];have J:∀s,Sf (Bt E) V s=(decide (s∈V)^^decide (Bt E s∈V)):=fun s=>by
  unfold Sf;by_cases q:s∈V
  ·rw[decide_eq_true q,decide_eq_false (C.fr s q)];rfl
  ·rw[decide_eq_false q,Jz,G7]
 rw[J,J];have L:=Ig (E:=E) (b:=0) hp (eR);have O:=Ig (E:=E) (b:=1) hp (eQ);rw[Du]at L;rw[L,O];rcases(by exact fZ N:Dl E p=0∨Dl E p=1) with r|r<;>rw[r]
 ·generalize decide (2*p∈V)=a;generalize decide (2*p+1∈V)=b;show((a^^b)^^(decide (2*A6 E p∈V)^^_))=((a^^decide (2*A6 E p+1∈V))^^(b^^decide (2*A6 E p∈V)));generalize decide (2*A6 E p∈V)=c;generalize decide (2*A6 E p+1∈V)=d;revert a b c d;decide
 ·generalize decide (2*p∈V)=a;generalize decide (2*p+1∈V)=b;show((a^^b)^^(decide (2*A6 E p∈V)^^_))=((a^^decide (2*A6 E p∈V))^^(b^^decide (2*A6 E p+1∈V)));generalize decide (2*A6 E p∈V)=c;generalize decide (2*A6 E p+1∈V)=d;revert a b c d;decide
theorem d6(C:∀s∈V,s<2*E.length)(h:∀p<E.length,(CF E p).1≠k):(rv E V).testBit k=false:=by
 unfold rv;rw[W8,Bp,G7,RK (h:=fun A=>false) fun s hs=>decide_eq_false (show Y_ E s≠k from h _ (by have:=C s hs;exact O_ this)),Wm]
theorem d8(B:KW (fun s=>Ea E (Bt E s)) f T=f)(D:∀j,1≤j→j<T→KW (fun s=>Ea E (Bt E s)) f j≠f):∀(n i:Nat)(sn:List Nat)(rg:Nat),i<T→T-i≤n→
  HJ E (Ec E) f n sn rg (KW (fun s=>Ea E (Bt E s)) f i)=(sn++(((Aw i (T-i)).map (KW (fun s=>Ea E (Bt E s)) f)).map fun s=> [s,Bt E s]).flatten,((Aw i (T-i)).map (KW (fun s=>Ea E (Bt E s)) f)).foldl (fun r s=>r^^^2^Y_ E s) rg):=by
 intro A
 induction A with
 |zero=>
  intro i sn rg hi hn;exact(As 0 (AF (Ds hi) hn)).elim
 |succ n F=>
  intro i sn rg hi hn;rw[HJ.c2,Zm];have e:T-i=(T-(i+1))+1:=ih hi;rw[e,C3,Ae,Ae,Bd,PJ];by_cases q:i+1=T
  ·rw[if_pos (by rw[←q]at B;exact B),q,Dr];rfl
  ·rw[if_neg (fun r=>D (i+1) (cW) (B' hi q) r:¬Ea E (Bt E (KW (fun s=>Ea E (Bt E s)) f i))=f)];have:=F (i+1) (sn++ [KW (fun s=>Ea E (Bt E s)) f i,Bt E (KW (fun s=>Ea E (Bt E s)) f i)]) (rg^^^2^Y_ E (KW (fun s=>Ea E (Bt E s)) f i)) (B' hi q) (jr hn e);rw[A8]at this;exact this
theorem VK{m:Nat→Nat}:∀{V:List Nat},s∈(V.map fun s=> [s,m s]).flatten↔∃t∈V,s=t∨s=m t:=by
 intro V;rw[Ef];constructor
 ·rintro⟨l,hl,hs⟩;refine Bz (AU.mp hl) fun t A B=>?_;subst B;simp only[AN,BH,or_false]at hs;exact⟨t,A,hs⟩
 ·rintro⟨t,A,q⟩;exact⟨_,CY A,by simp only[AN,BH,or_false];exact q⟩
theorem XD(H:Mk E):∀(M sn:List Nat)(F:List (List Nat)),(∀f∈M,f<2*E.length)→Yr (2*E.length) (Bt E) (Ea E) F→(∀s<2*E.length,s∈sn↔∃V∈F,Sf (Bt E) V s=true)→
  ∃A,JL E (Ec E) M sn (F.map (rv E))=A.map (rv E)∧Yr (2*E.length) (Bt E) (Ea E) A∧(∀V∈F,V∈A)∧∀f∈M,∃V∈A,Sf (Bt E) V f=true:=by
 intro N
 induction N with
 |nil=>
  intro sn F _ R _;exact⟨F,rfl,R,fun c h=>h,fun c h=>(nomatch h)⟩
 |cons f M Z=>
  intro sn F O R hs;have G:=O f AB;rw[JL.c2];by_cases q:f∈sn
  ·rw[if_pos (by simpa using q)];refine Tc (Z sn F (fun g D=>O g (AG _ D)) R hs) fun A P Q I S=>?_;refine⟨A,P,Q,I,fun g D=>?_⟩;rcases AN.mp D with rfl|D
   ·refine Bz ((hs g G).mp q) fun V B e=>?_;exact⟨V,I V B,e⟩
   ·exact S g D
  ·rw[if_neg (by simpa using q)];refine Tc (Z0 H.sides G) fun T t1 t2 a b=>?_;refine ER (cN H.sides G t1 a b) fun C J=>?_;have hr:=d8 a b (Ec E).length 0 sn 0 (t1) (by rw[GP];omega);rw[show KW (fun s=>Ea E (Bt E s)) f 0=f from rfl,Kx,←E1]at hr;rw[hr];have hn:∀W∈F,Sf (Bt E) W f=false:=fun W d=>by
    cases h:Sf (Bt E) W f with
    |false=>rfl
    |true=>exact absurd ((hs f G).mpr ⟨W,d,h⟩) q
   obtain⟨A,P,Q,I,S⟩:=Z (sn++((OG (fun s=>Ea E (Bt E s)) f T).map fun s=> [s,Bt E s]).flatten) (F++ [OG (fun s=>Ea E (Bt E s)) f T]) (fun g D=>O g (AG _ D)) (R.add H.sides C J hn) fun s L=>by
    rw[AR,VK,hs s L];constructor
    ·rintro(⟨V,B,e⟩|⟨t,U,e⟩)
     ·exact⟨V,AC _ B,e⟩
     ·refine⟨_,Ak _ AB,I6.mpr ?_⟩;rcases e with rfl|rfl
      ·exact .inl U
      ·exact .inr (by rw[H.sides.mm t (C.lt t U)];exact U)
    ·rintro⟨V,B,e⟩;rcases AR.mp B with B|B
     ·exact .inl ⟨V,B,e⟩
     ·rw[AI]at B;subst B;rcases I6.mp e with e|e
      ·exact .inr ⟨s,e,.inl rfl⟩
      ·exact .inr ⟨_,e,.inr (H.sides.mm s L).symm⟩
   refine⟨A,?_,Q,fun V B=>I V (AC _ B),fun g D=>?_⟩
   ·rw[←P,Ac];rfl
   ·rcases AN.mp D with rfl|D
    ·exact⟨_,I _ (Ak _ AB),I6.mpr (.inl J)⟩
    ·exact S g D
theorem S_(H:Mk E):∃A,Em E=A.map (rv E)∧Yr (2*E.length) (Bt E) (Ea E) A∧∀s<2*E.length,∃V∈A,Sf (Bt E) V s=true:=by
 refine Tc (XD H (AW (2*E.length)) [] [] (fun f B=>An.mp B) ⟨fun D h=>(nomatch h),FH⟩ fun s D=>⟨fun h=>(nomatch h),fun⟨_,h,_⟩=>(nomatch h)⟩) fun A F G _ I=>?_;exact⟨A,by unfold Em;rw[GP];exact F,G,fun s hs=>I s (An.mpr hs)⟩
end
noncomputable def NY(E:List En)(j q:Nat):Bool:=decide ((CF E q).1=j)
structure IB(E:List En)(T hid:List Nat):Prop where
 t5:T.length=5
 t32:∀o<5,T.getD o 0<32
 row:∀p<E.length,p<A6 E p→∀j<5,(T.getD (CF E p).1 0).testBit j=((xr (NY E j) (A6 E p)^^xr (NY E j) (p+1))^^(decide ((CF E p).1=j) && decide (Dl E p=1)))
 hrow:∀k<5,k∈hid→T.getD k 0=0
 hd:∀k<5,k∈hid↔∀p<E.length,(CF E p).1≠k
 nd:hid.Nodup
 lt:∀k∈hid,k<5
structure V5(T hid:List Nat)(y:Nat):Prop where
 lt:y<32
 hd:∀k<5,k∈hid→y.testBit k=false
 dt:∀k<5,G1 y (T.getD k 0)=false
theorem ZJ(a:Nat→Bool)(g:Nat→Nat→Bool)(m:Nat):∀n,xr (fun j=>a j && xr (g j) n) m=xr (fun q=>xr (fun j=>a j && g j q) m) n:=by
 intro A
 induction A with
 |zero=>
  rw[xr.c1,Dv (g:=fun j=>a j && xr (g j) 0) (h:=fun B=>false) fun j B=>FI _,HE]
 |succ n D=>
  rw[xr.c2,←D,←Mo];exact Dv fun j B=>by rw[xr.c2];cases a j<;>cases xr (g j) n<;>cases g j n<;>rfl
section
variable{E:List En}{T hid:List Nat}
noncomputable def Yw(E:List En)(y q:Nat):Bool:=y.testBit (CF E q).1
noncomputable def Gc(E:List En)(y s:Nat):Bool:=xr (Yw E y) ((s+1)/2)
theorem Zu(H:Mk E)(A:q<E.length):(CF E q).1<5:=H.ok.l5 _ (JQ A)
theorem LQ(H:Mk E)(y:Nat)(hn:n≤E.length):xr (fun j=>y.testBit j && xr (NY E j) n) 5=xr (Yw E y) n:=by
 rw[ZJ];refine Dv fun q A=>?_;rw[Dv (g:=fun j=>y.testBit j && NY E j q) (h:=fun j=>decide ((CF E q).1=j) && y.testBit j) fun j B=>dp _ _,N7 (Zu H (cZ hn A))];rfl
theorem aI(H:Mk E)(R:IB E T hid)(y:Nat)(hp:p<E.length)(A:p<A6 E p):G1 y (T.getD (CF E p).1 0)=((xr (Yw E y) (A6 E p)^^xr (Yw E y) (p+1))^^(Yw E y p && decide (Dl E p=1))):=by
 refine Ny (H.oth hp) fun B F G I=>?_;rw[←LQ H y (n:=A6 E p) (cs B),←LQ H y (n:=p+1) (hp),←Mo];have e:(Yw E y p && decide (Dl E p=1))=xr (fun j=>decide ((CF E p).1=j) && (y.testBit j && decide (Dl E p=1))) 5:=by rw[N7 (Zu H hp)];rfl
 rw[e,←Mo];unfold G1;refine Dv fun j D=>?_;rw[R.row p hp A j D];generalize y.testBit j=a;generalize xr (NY E j) (A6 E p)=b;generalize xr (NY E j) (p+1)=c;generalize decide ((CF E p).1=j)=d;generalize decide (Dl E p=1)=e;revert a b c d e;decide
theorem Ri(H:Mk E)(R:IB E T hid)(y:Nat)(hp:p<E.length)(A:p<A6 E p):(Gc E y (Bt E (2*p))=Gc E y (2*p)↔G1 y (T.getD (CF E p).1 0)=false)∧(G1 y (T.getD (CF E p).1 0)=false→Gc E y (Bt E (2*p+1))=Gc E y (2*p+1)):=by
 refine Ny (H.oth hp) fun N O I B=>?_;have J:=Hx E p;have D:=Ig (E:=E) (b:=0) hp (by exact eR);have L:=Ig (E:=E) (b:=1) hp (by exact eQ);rw[Du]at D;have M:Yw E y (A6 E p)=Yw E y p:=by unfold Yw;rw[I]
 have F:xr (Yw E y) (p+1)=(xr (Yw E y) p^^Yw E y p):=rfl;have G:xr (Yw E y) (A6 E p+1)=(xr (Yw E y) (A6 E p)^^Yw E y p):=by rw[←M];rfl
 rw[aI H R y hp A,D,L];unfold Gc;rw[(by exact hh B:(2*p+1)/2=p),(by exact hj B:(2*p+1+1)/2=p+1)];rcases(by exact fZ J:Dl E p=0∨Dl E p=1) with r|r<;>rw[r]
 ·rw[(by exact gn:(2*A6 E p+(0+1+0) % 2+1)/2=A6 E p+1),(by exact Sl (b:=1) (AK 1):(2*A6 E p+(1+1+0) % 2+1)/2=A6 E p),F,G,decide_eq_false dc];generalize xr (Yw E y) p=a;generalize xr (Yw E y) (A6 E p)=b;generalize Yw E y p=c;revert a b c;decide
 ·rw[(by exact Sl (b:=1) (AK 1):(2*A6 E p+(0+1+1) % 2+1)/2=A6 E p),(by exact gm:(2*A6 E p+(1+1+1) % 2+1)/2=A6 E p+1),F,G,decide_eq_true dc];generalize xr (Yw E y) p=a;generalize xr (Yw E y) (A6 E p)=b;generalize Yw E y p=c;revert a b c;decide
theorem R4(H:Mk E)(hp:p<E.length):∃A,A<E.length∧A<A6 E A∧(CF E A).1=(CF E p).1∧(p=A∨p=A6 E A):=by
 refine Ny (H.oth hp) fun D F G B=>?_;rcases JI F with q|q
 ·exact⟨_,D,by rw[B];exact q,G,.inr B.symm⟩
 ·exact⟨p,hp,q,rfl,.inl rfl⟩
theorem Wj(R:List Nat):xo [] R=0:=by cases R<;>rfl
theorem a_(bs:List Bool):xo bs []=0:=by cases bs<;>rfl
theorem bG(m:Nat→Nat)(A:List (List Nat))(s:Nat):fb m [] A s=false:=by cases A<;>rfl
theorem bF(m:Nat→Nat)(bs:List Bool)(s:Nat):fb m bs [] s=false:=by cases bs<;>rfl
theorem N8(H:Mk E)(hp:p<E.length):∀(bs:List Bool)(A:List (List Nat)),(∀V∈A,Yu (2*E.length) (Bt E) (Ea E) V)→(xo bs (A.map (rv E))).testBit (CF E p).1=(fb (Bt E) bs A (2*p)^^fb (Bt E) bs A (2*p+1))
 |b::bs,V::A,B=>by
  rw[Ae,xo.c1,DK,N8 H hp bs A fun W D=>B W (AG _ D),fb.c1,fb.c1];have e:(if b=true then rv E V else 0).testBit (CF E p).1=(b && (Sf (Bt E) V (2*p)^^Sf (Bt E) V (2*p+1))):=by
   cases b with
   |true=>rw[if_pos rfl,d7 H (B V AB) hp,Hm]
   |false=>rw[if_neg dc,Bp,G8]
  rw[e];clear e;generalize Sf (Bt E) V (2*p)=a;generalize Sf (Bt E) V (2*p+1)=c;generalize fb (Bt E) bs A (2*p)=d;generalize fb (Bt E) bs A (2*p+1)=e;revert a b c d e;decide
 |[],A,_=>by rw[Wj,Bp,bG,bG];rfl
 |_::_,[],_=>by rw[DZ,a_,Bp,bF,bF];rfl
theorem RJ(h:∀p<E.length,(CF E p).1≠k):∀(bs:List Bool)(A:List (List Nat)),(∀V∈A,Yu (2*E.length) (Bt E) (Ea E) V)→(xo bs (A.map (rv E))).testBit k=false
 |b::bs,V::A,B=>by
  rw[Ae,xo.c1,DK,RJ h bs A fun W D=>B W (AG _ D)];cases b with
  |true=>rw[if_pos rfl,d6 (B V AB).lt h];rfl
  |false=>rw[if_neg dc,Bp];rfl
 |[],A,_=>by rw[Wj,Bp]
 |_::_,[],_=>by rw[DZ,a_,Bp]
theorem dq(H:Mk E)(bs:List Bool){A:List (List Nat)}(B:∀V∈A,Yu (2*E.length) (Bt E) (Ea E) V):xo bs (A.map (rv E))<32:=
 SZ (n:=5) _ fun i hi=>RJ (fun p hp=>by have:=Zu H hp;exact jZ hi this) bs A B
theorem Qj(H:Mk E)(bs:List Bool)(D:∀V∈A,Yu (2*E.length) (Bt E) (Ea E) V):∀s<2*E.length,fb (Bt E) bs A s=(fb (Bt E) bs A 0^^Gc E (xo bs (A.map (rv E))) s):=by
 have G:∀q<E.length,fb (Bt E) bs A (2*q)=(fb (Bt E) bs A 0^^xr (Yw E (xo bs (A.map (rv E)))) q)∧fb (Bt E) bs A (2*q+1)=(fb (Bt E) bs A 0^^xr (Yw E (xo bs (A.map (rv E)))) (q+1)):=fun q=>by
  induction q with
  |zero=>
   intro B;refine⟨by rw[xr.c1,EJ],?_⟩;have:=N8 H B bs A D;rw[xr.c2,xr.c1,show Yw E (xo bs (A.map (rv E))) 0=_ from this,Nat.mul_zero];generalize fb (Bt E) bs A 0=a;generalize fb (Bt E) bs A (0+1)=b;revert a b;decide
  |succ q I=>
   intro B;refine ER (I (by exact Aa B)) fun _ J=>?_;have F:fb (Bt E) bs A (2*(q+1))=(fb (Bt E) bs A 0^^xr (Yw E (xo bs (A.map (rv E)))) (q+1)):=by
    rw[←J,←UH H.sides bs A D (s:=2*q+1) (by exact E2 ((Ib (a:=2) dc).mpr B)),step_at (by exact E2 ((Ib (a:=2) dc).mpr B)),if_pos (by exact gf),if_neg (by exact BX ((Ib (a:=2) dc).mpr B))];rfl
   refine⟨F,?_⟩;have:=N8 H B bs A D;rw[xr.c2,show Yw E (xo bs (A.map (rv E))) (q+1)=_ from this,F];generalize fb (Bt E) bs A 0=a;generalize fb (Bt E) bs A (2*(q+1)+1)=b;generalize xr (Yw E (xo bs (A.map (rv E)))) (q+1)=c;revert a b c;decide
 intro s hs;refine ER (G (s/2) (by exact O_ hs)) fun L M=>?_;unfold Gc;rcases(by exact fF:s=2*(s/2)∨s=2*(s/2)+1) with q|q
 ·rw[(by exact iX q:(s+1)/2=s/2),←L,←q]
 ·rw[(by exact ie q:(s+1)/2=s/2+1),←M,←q]
theorem W0(H:Mk E)(R:IB E T hid)(bs:List Bool){A:List (List Nat)}(B:∀V∈A,Yu (2*E.length) (Bt E) (Ea E) V):V5 T hid (xo bs (A.map (rv E))) where
 lt:=dq H bs B
 hd:=fun k D F=>RJ ((R.hd k D).mp F) bs A B
 dt:=fun k D=>by
  by_cases F:k∈hid
  ·rw[R.hrow k D F,OX]
  ·have hx:∃p,p<E.length∧(CF E p).1=k:=Cr fun hn=>F ((R.hd k D).mpr fun p hp e=>hn ⟨p,hp,e⟩);refine Bz hx fun p hp L=>?_;subst L;refine Tc (R4 H hp) fun G I M N _=>?_;rw[←N];refine(Ri H R _ I M).1.mp ?_;have O:=Qj H bs B (2*G) (Yl I);have J:=Qj H bs B (Bt E (2*G)) (H.sides.ml _ (Yl I));rw[UJ H.sides bs A (Yl I),O]at J;generalize fb (Bt E) bs A 0=a at J;generalize Gc E (xo bs (A.map (rv E))) (2*G)=b at J⊢;generalize Gc E (xo bs (A.map (rv E))) (Bt E (2*G))=c at J⊢;revert a b c;decide
theorem d0(H:Mk E)(R:IB E T hid)(F:V5 T hid y):xr (Yw E y) E.length=false:=by
 rw[←LQ H y (AK _),Dv (h:=fun M=>false) fun j B=>?_,HE];by_cases D:j∈hid
 ·rw[F.hd j B D,G8]
 ·have hx:∃p,p<E.length∧(CF E p).1=j:=Cr fun hn=>D ((R.hd j B).mpr fun p hp e=>hn ⟨p,hp,e⟩);refine Bz hx fun p hp A=>?_;subst A;refine Ny (H.oth hp) fun G I J N=>?_;have e:xr (NY E (CF E p).1) E.length=xr (fun q=>(decide (p=q) && true)^^(decide (A6 E p=q) && true)) E.length:=Dv fun q L=>by
   unfold NY;rw[DY,DY];by_cases a:p=q
   ·subst a;rw[decide_eq_true rfl,decide_eq_true rfl,decide_eq_false I];rfl
   ·by_cases b:A6 E p=q
    ·rw[decide_eq_false a,decide_eq_true b,decide_eq_true (by rw[←b];exact J)];rfl
    ·rw[decide_eq_false a,decide_eq_false b,decide_eq_false fun r=>by rcases H.only hp L r with r|r;exact a r.symm;exact b r.symm];rfl
  rw[e,Mo,N7 hp,N7 G];cases y.testBit (CF E p).1<;>rfl
theorem Vf(H:Mk E)(R:IB E T hid)(D:V5 T hid y):(∀s<2*E.length,Gc E y (Bt E s)=Gc E y s)∧∀s<2*E.length,Gc E y (Ea E s)=Gc E y s:=by
 have first:∀p<E.length,p<A6 E p→Gc E y (Bt E (2*p))=Gc E y (2*p)∧Gc E y (Bt E (2*p+1))=Gc E y (2*p+1):=fun p hp B=>by
  refine ER (Ri H R y hp B) fun a b=>?_;have hd:=D.dt _ (Zu H hp);exact⟨a.mpr hd,b hd⟩
 have A:∀s<2*E.length,s/2<A6 E (s/2)→Gc E y (Bt E s)=Gc E y s:=fun s hs h=>by
  refine ER (first (s/2) (by exact O_ hs) h) fun a b=>?_;rcases(by exact fF:s=2*(s/2)∨s=2*(s/2)+1) with q|q
  ·rw[←q]at a;exact a
  ·rw[←q]at b;exact b
 constructor
 ·intro s hs;refine Ny (H.oth (by exact O_ hs:s/2<E.length)) fun L G M I=>?_;rcases JI G with q|q
  ·have J:Bt E s/2=A6 E (s/2):=by
    conv=>lhs;rw[QT (s:=s)]
    rw[Ig (by exact O_ hs) (by exact CO _ dc)];exact Sl (A9 (CO _ dc))
   have:=A (Bt E s) (H.sides.ml s hs) (by rw[J,I];exact q);rw[H.sides.mm s hs]at this;exact this.symm
  ·exact A s hs q
 ·intro s hs;have F:=d0 H R D;rw[step_at hs];unfold Gc;by_cases a:s % 2=1
  ·rw[if_pos a];by_cases b:s+1=2*E.length
   ·rw[if_pos b,(by exact lJ a b:(s+1)/2=E.length),F];rfl
   ·rw[if_neg b,(by exact lI a:(s+1+1)/2=(s+1)/2)]
  ·rw[if_neg a];by_cases b:s=0
   ·subst b;rw[if_pos rfl,(by exact je hs:(2*E.length-1+1)/2=E.length),F];rfl
   ·rw[if_neg b,(by exact g5 a b:(s-1+1)/2=(s+1)/2)]
theorem X'(H:Mk E)(R:IB E T hid)(B:V5 T hid y)(Q:Yr (2*E.length) (Bt E) (Ea E) A)(G:∀s<2*E.length,∃V∈A,Sf (Bt E) V s=true):∃bs:List Bool,bs.length=A.length∧y=xo bs (A.map (rv E)):=by
 refine ER (Vf H R B) fun I J=>?_;refine⟨A.map fun V=>Gc E y (V.headD 0),AH _,?_⟩;have F:=fun s hs=>bE H.sides I J A Q s hs (G s hs);apply DJ;intro i;by_cases hx:∃p,p<E.length∧(CF E p).1=i
 ·refine Bz hx fun p hp D=>?_;subst D;rw[N8 H hp _ A Q.c,F _ (by exact Yl hp),F _ (ej hp)];unfold Gc;rw[(by exact Sl (AK 1):(2*p+1)/2=p),(by exact gl:(2*p+1+1)/2=p+1),xr.c2];show Yw E y p=_;generalize Yw E y p=a;generalize xr (Yw E y) p=b;revert a b;decide
 ·have hn:∀p<E.length,(CF E p).1≠i:=fun p hp e=>hx ⟨p,hp,e⟩;rw[RJ hn _ A Q.c];by_cases h5:i<5
  ·exact B.hd i h5 ((R.hd i h5).mpr hn)
  ·exact Cb (AF B.lt (Bq (n:=2) (i:=5) dc (cY h5)))
theorem Wl:∀(bs:List Bool)(R:List Nat)(b:Bool)(r:Nat),bs.length=R.length→xo (bs++ [b]) (R++ [r])=xo bs R^^^(if b then r else 0)
 |[],[],b,r,_=>by rw[Br,Br,xo.c1,Wj,Iw,Fa]
 |c::bs,q::R,b,r,h=>by rw[Bg,Bg,xo.c1,xo.c1,Wl bs R b r (Jw h),E_]
 |[],_::_,_,_,h=>(nomatch h)
 |_::_,[],_,_,h=>(nomatch h)
theorem VB(H:Mk E)(Q:Yr (2*E.length) (Bt E) (Ea E) (A++ [W]))(U:∀s<2*E.length,∃V∈A++ [W],Sf (Bt E) V s=true):(EH ((A++ [W]).map (rv E)) [0]).length=2^A.length:=by
 have hd:=Cw.mp Q.d;have G:Yr (2*E.length) (Bt E) (Ea E) A:=⟨fun V D=>Q.c V (AC _ D),hd.1⟩;have N:=Q.c W (Ak _ AB);rw[Ac,Ae,DZ,U5 (R:=A.map (rv E)) ?_ ?_,AH]
 ·intro bs hb Z;rw[AH]at hb;have I:=Qj H bs G.c;rw[Z]at I;have O:∀s,Gc E 0 s=false:=fun s=>by
   unfold Gc;rw[Dv (g:=Yw E 0) (h:=fun B=>false) fun q B=>Bp _,HE]
  refine P3 (Ej N.ne) fun t a J=>?_;have P:t∈W:=by rw[J];exact AB
  have F:fb (Bt E) bs A t=false:=Qk bs A fun V D=>(hd.2.2 V D W AB).2 t P;have L:fb (Bt E) bs A 0=false:=by
   have:=I t (N.lt t P);rw[F,O,EJ]at this;exact this.symm
  exact UI bs A G hb fun V D s hs=>by rw[I s ((G.c V D).lt s hs),L,O];rfl
 ·refine⟨A.map fun B=>true,by rw[AH,AH],?_⟩;have S:=fun s hs=>bE H.sides (g:=fun B=>true) (fun B B=>rfl) (fun B B=>rfl) (A++ [W]) Q s hs (U s hs);have hz:xo ((A++ [W]).map fun B=>true) ((A++ [W]).map (rv E))=0:=by
   apply DJ;intro i;rw[Bp];by_cases hx:∃p,p<E.length∧(CF E p).1=i
   ·refine Bz hx fun p hp M=>?_;subst M;rw[N8 H hp _ _ Q.c,S _ (Yl hp),S _ (ej hp)];rfl
   ·exact RJ (fun p hp e=>hx ⟨p,hp,e⟩) _ _ Q.c
  rw[Ac,Ac,Ae,DZ,Ae,DZ,Wl _ _ _ _ (by rw[AH,AH]),if_pos rfl]at hz;have:=congrArg (xo (A.map fun B=>true) (A.map (rv E))^^^ ·) hz;simp only[←E_,N2,Fa,Iw]at this;exact this
theorem UY(hx:x<32):SE hid T x k=false↔¬(x.testBit k=true∧k∈hid)∧G1 x (T.getD k 0)=false:=by
 unfold SE;rw[Zh hx,Lp,Bool.and_eq_false_iff];constructor
 ·rintro⟨h,h'⟩;exact⟨fun⟨a,b⟩=>h.elim (fun q=>by cases q.symm.trans a) fun q=>by simp at q;exact q b,h'⟩
 ·rintro⟨h,h'⟩;refine⟨?_,h'⟩;cases q:x.testBit k with
  |false=>exact .inl rfl
  |true=>exact .inr (by simp;exact fun b=>h ⟨q,b⟩)
theorem R5:x∈GQ hid T↔V5 T hid x:=by
 unfold GQ;rw[CD,An,a6,Cy];constructor
 ·rintro⟨hx,h⟩;have h':∀k<5,¬(x.testBit k=true∧k∈hid)∧G1 x (T.getD k 0)=false:=fun k A=>(UY hx).mp (by simpa using h k (An.mpr A));refine⟨hx,fun k A B=>?_,fun k A=>(h' k A).2⟩;cases q:x.testBit k with
  |false=>rfl
  |true=>exact absurd ⟨q,B⟩ (h' k A).1
 ·rintro h;refine⟨h.lt,fun k A=>?_⟩;have A:=An.mp A;rw[(UY h.lt).mpr ⟨fun⟨a,b⟩=>(by rw[h.hd k A b]at a;cases a),h.dt k A⟩];decide
theorem YA(R:IB E T hid)(F:V6 M)(G:∀x,(∀m∈M,G1 x m=false)↔∀o<5,G1 x (T.getD o 0)=false)(J:∀k,(∀o<5,(T.getD o 0).testBit k=false)→∀m∈M,m.testBit k=false)(D:∀o<5,∀k<5,k∈hid→(T.getD o 0).testBit k=false):(GQ hid T).length*2^(hid.length+M.length)=32:=by
 have I:=aJ (H:=hid.contains) F (fun k B L=>J k fun o N=>D o N k B (by simpa using L)) 5 (AK 5);have O:Ql hid.contains M 5=hid.length+M.length:=by
  unfold Ql;congr 1
  ·rw[PL];refine Si ?_;rw[Dm (HZ.filter _) R.nd];intro a;rw[CD,An];exact⟨fun q=>by simpa using q.2,fun q=>⟨R.lt a q,by simpa using q⟩⟩
  ·exact Us.mpr fun m A=>decide_eq_true (F.p m A).2
 have P:OZ hid.contains M 5=(GQ hid T).length:=by
  refine Si ?_;rw[Dm (HZ.filter _) (by unfold GQ;exact HZ.filter _)];intro x;rw[R5,CD,An];unfold Nn;rw[A7,Al,Al];constructor
  ·rintro⟨hx,a,b⟩;refine⟨hx,fun k B A=>?_,(G x).mp fun m A=>?_⟩
   ·have:=a k (An.mpr B);cases q:x.testBit k with
    |false=>rfl
    |true=>rw[q]at this;simp at this;exact absurd A this
   ·have:=b m A;rw[decide_eq_true ((F.p m A).2:m<2^5)]at this;simpa using this
  ·rintro h;refine⟨h.lt,fun k B=>?_,fun m A=>?_⟩
   ·have B:=An.mp B;by_cases q:k∈hid
    ·rw[h.hd k B q];rfl
    ·have:hid.contains k=false:=by simpa using q
     rw[this,FI];rfl
   ·rw[(G x).mpr h.dt m A,E0];exact .inr rfl
 rw[O,P]at I;exact I
theorem cO(H:Mk E)(R:IB E T hid):∀o<5,∀k<5,k∈hid→(T.getD o 0).testBit k=false:=fun o G k I M=>by
 by_cases q:o∈hid
 ·rw[R.hrow o G q,Bp]
 ·have hx:∃p,p<E.length∧(CF E p).1=o:=Cr fun hn=>q ((R.hd o G).mpr fun p hp e=>hn ⟨p,hp,e⟩);refine Bz hx fun p hp B=>?_;subst B;refine Tc (R4 H hp) fun A D J N _=>?_;refine ER (H.oth D) fun L _=>?_;have hn:=(R.hd k I).mp M;rw[←N,R.row A D J k I,decide_eq_false (hn A D),Dv (g:=NY E k) (h:=fun O=>false) (n:=A6 E A) fun q F=>decide_eq_false (hn q (B7 F L)),Dv (g:=NY E k) (h:=fun O=>false) (n:=A+1) fun q F=>decide_eq_false (hn q (AY (A9 F) (B7 J L))),HE,HE];rfl
theorem U6(H:Mk E)(R:IB E T hid):(∀y,y∈EH (DS E) [0]↔V5 T hid y)∧(EH (DS E) [0]).length*2=2^(DS E).length:=by
 refine K8 (S_ H) fun D G Q B=>?_;unfold DS;rw[G];rcases List.eq_nil_or_concat D with rfl|⟨I,W,A⟩
 ·rw[DZ,if_pos rfl];have J:E.length=0:=by
   refine Cr fun hn=>?_;refine Bz (B 0 (Nat.mul_pos dc (Cd hn))) fun V A _=>?_;cases A
  have e:EH [0] [0]=[0]:=Q2.zero.same AB;rw[e];refine⟨fun y=>?_,rfl⟩;rw[AI];constructor
  ·rintro rfl;exact⟨dc,fun k F F=>Bp k,fun k F=>by rw[MW,OX]⟩
  ·intro h;apply DJ;intro i;rw[Bp];by_cases h5:i<5
   ·exact h.hd i h5 ((R.hd i h5).mpr fun p hp=>iK J hp)
   ·exact Cb (AF h.lt (Bq (n:=2) (i:=5) dc (cY h5)))
 ·rw[if_neg (by rw[A];simp)];refine⟨fun y=>?_,?_⟩
  ·rw[(OB (D.map (rv E)) [0] Q2.zero).2];constructor
   ·rintro⟨s,hs,bs,hb,rfl⟩;cases AI.mp hs;rw[Fa];exact W0 H R bs Q.c
   ·intro h;refine Bz (X' H R h Q B) fun bs hb e=>?_;exact⟨0,AB,bs,by rw[AH];exact hb,by rw[Fa];exact e⟩
  ·rw[List.concat_eq_append]at A;subst A;rw[VB H Q B,AH,AQ,←Dt];rfl
theorem cG(H:Mk E)(R:IB E T hid):Yt T hid (DS E) (FZ T):=by
 refine Tc (TR R.t5 R.t32) fun M D b2 b3 b4=>?_;refine ER (U6 H R) fun G F=>?_;have hl:=YA R b2 b3 b4 (cO H R);have hs:EH (DS E) [0]=GQ hid T:=by
  have B:(EH (DS E) [0]).Pairwise (· < ·):=(OB (DS E) [0] Q2.zero).1.s;have A:(GQ hid T).Pairwise (· < ·):=by unfold GQ;exact FV.filter _
  refine Eu (fun a b I I q J=>ct q J) B A ?_;rw[Dm (Jj B) (Jj A)];exact fun y=>(G y).trans R5.symm
 refine⟨hs,?_,T3 R.t5 5 (AK 5),Zj R.t5 5 (AK 5),⟨M,D,b2.le⟩⟩;rw[hs]at F;have e:2^((DS E).length+(hid.length+M.length))=2^6:=by
  rw[Nat.pow_add,←F,Nat.mul_right_comm,hl]
 have L:=(Nat.pow_right_inj dc).mp e;rw[D];unfold frame;rw[AP,AQ,HW];exact j4 L
end
open Builtin Builtin.Str
noncomputable abbrev Lc(x:Ax):List Nat:=x.cps.toList
theorem kO:I9 x w a []=[strSub x a x.length]:=rfl
theorem kt:I9 x w a (c::r)=strSub x a c::I9 x w (c+w) r:=rfl
theorem D0(x y:Ax):Lc (x++y)=Lc x++Lc y:=by
 show(x.cps++y.cps).toList=_;rw[L3]
theorem Co(x:Ax):(Lc x).length=x.length:=rfl
theorem Kb(h:Lc x=Lc y):x=y:=Str.ext' (Array.toList_inj.mp h)
theorem YZ:D6 x y x.length k↔k+y.length≤x.length∧((Lc x).drop k).take y.length=Lc y:=by
 unfold D6;rw[NS,beq_iff_eq]
theorem Qs(B:Lc y=c::r)(h:D6 x y x.length k):(Lc x)[k]?=some c:=by
 have D:=(YZ.mp h).2;rw[B]at D;have A:=congrArg (·[0]?) D;have hl:0<y.length:=by rw[←Co,B];exact Bx _
 simp only[So]at A;rw[E8 hl,EC]at A;exact A
theorem W1(h:(Lc x).drop a=Lc w++B)(hb:b=a+w.length):strSub x a b=w:=by
 apply Kb;unfold Lc;rw[SQ,h,hb,CX,←Co,FF]
theorem NM(G:Lc y=c::r):∀(ws:List Ax)(a:Nat)(D:List Nat)(f:Nat),ws≠ []→(∀w∈ws,c∉Lc w)→(Lc x).drop a=Lc (BK y ws)→StrLaws.ChainG x y x.length a D f→(∀k,f≤k→¬D6 x y x.length k)→I9 x y.length a D=ws
 |[],_,_,_,h,_,_,_,_=>absurd rfl h
 |[w],a,D,f,_,H,hd,E,hn=>by
  have A:(Lc x).drop a=Lc w:=hd;have L:∀k,a≤k→¬D6 x y x.length k:=fun k I h=>by
   have:=Qs G h;rw[(by exact eY I:k=a+(k-a)),←EC,A]at this;exact H w AB (B2 this)
  cases D with
  |nil=>
   rw[kO];by_cases M:a≤x.length
   ·rw[W1 (w:=w) (B:=[]) (by rw[A,Ao]) (by have P:=congrArg FS A;rw[Ca,Co,Co]at P;exact P▸(Dx M).symm)]
   ·have e:Lc w=[]:=by rw[←A];exact Tn (by rw[Co];exact gv M)
    congr 1;apply Kb;unfold Lc at e⊢;rw[SQ,e,(by exact WH (Aa (Oz M)):x.length-a=0),dP]
  |cons i q=>exact absurd E.2.1 (L i E.1)
 |w::J::ws,a,D,f,_,H,hd,E,hn=>by
  have A:(Lc x).drop a=Lc w++(Lc y++Lc (BK y (J::ws))):=by
   rw[hd,show BK y (w::J::ws)=w++y++BK y (J::ws) from rfl,D0,D0,A8]
  have hl:=congrArg FS A;rw[Ca,AQ,AQ,Co,Co,Co]at hl;have N:0<y.length:=by rw[←Co,G];exact Bx _
  have F:D6 x y x.length (a+w.length):=by
   rw[YZ];refine⟨by exact jt hl N,?_⟩;rw[←Lo,A,←Co w,FG,←Co y,FF]
  have L:∀k,a≤k→k<a+w.length→¬D6 x y x.length k:=fun k I O h=>by
   have:=Qs G h;rw[(by exact eY I:k=a+(k-a)),←EC,A,CE (by rw[Co];exact aZ I O)]at this;exact H w AB (B2 this)
  cases D with
  |nil=>
   have e:f=a:=E;exact absurd F (hn _ (hf e))
  |cons i q=>
   refine Ny E fun Q R S T=>?_;have hi:i=a+w.length:=by
    rcases HB i (a+w.length) with g|g|g
    ·exact absurd R (L i Q g)
    ·exact g
    ·exact absurd F (S _ (Yc) g)
   subst hi;rw[kt,W1 A rfl];congr 1;refine NM G (J::ws) (a+w.length+y.length) q f (by exact dc) (fun v U=>H v (AG _ U)) ?_ T hn;rw[←Lo,←Lo,A,←Co w,FG,←Co y,FG]
theorem Je(G:Lc y=c::r)(B:ws≠ [])(J:∀w∈ws,c∉Lc w)(L:¬strKind (BK y ws)<strKind y):CI (BK y ws) y=ws∧partsBetween (BK y ws) (occurrences (BK y ws) y 0 (BK y ws).length ((BK y ws).length+1)) y.length=ws:=by
 have E:1≤y.length:=by rw[←Co,G];exact BS (BI _)
 refine Bz (StrLaws.occ_tight (BK y ws) y E) fun f M N=>?_;have key:=NM (x:=BK y ws) G ws 0 _ f B J (by rw[G6]) M N;have A:partsBetween (BK y ws) (occurrences (BK y ws) y 0 (BK y ws).length ((BK y ws).length+1)) y.length=ws:=by rw[StrLaws.partsBetween_eq];exact key
 refine⟨?_,A⟩;unfold CI;by_cases D:(BK y ws).length<y.length
 ·have:∃w,ws=[w]:=by
   match ws,B with
   |[w],_=>exact⟨w,rfl⟩
   |w::H::ws,_=>
    exfalso;rw[show BK y (w::H::ws)=w++y++BK y (H::ws) from rfl,A2,A2]at D;exact lk D
  refine B8 this fun w F=>?_;subst F;rw[if_pos (by rw[decide_eq_true D];rfl)];rfl
 ·rw[if_neg (by rw[decide_eq_false D,decide_eq_false L];decide)];split
  ·rename_i I;rw[a6]at I;rw[I,kO]at key;rw[←key,show(BK y [strSub (BK y ws) 0 (BK y ws).length])=strSub (BK y ws) 0 (BK y ws).length from rfl,StrLaws.sub_whole]
  ·exact A
open Builtin Builtin.Str
theorem Zc:∀(n i:Nat),F_ n i 0=[Lf 0]:=by
 intro A
 induction A with
 |zero=>
  intro i;exact rfl
 |succ n B=>
  intro i;rw[F_.c2,Bp,if_neg dc,B]
theorem Zf:∀(n i f:Nat),i+n=32→f≠0→f<2^33→(∀j<i,f.testBit j=false)→F_ n i f=((Aw i (n+1)).filter fun j=>f.testBit j).map C_:=by
 intro F
 induction F with
 |zero=>
  intro i f hi G B hb;have e:f=2^32:=by
   have D:f % 2^32=0:=by
    apply DJ;intro j;rw[Tj,Bp];by_cases A:j<32
    ·rw[hb j (j3 hi A),FI]
    ·rw[decide_eq_false A,G8]
   exact(bH B D).resolve_left G
  have H:i=32:=hi;subst H e;rfl
 |succ n I=>
  intro i f hi G B hb;rw[F_.c2,C3];cases E:f.testBit i with
  |true=>
   rw[if_pos rfl,BN (E),Ae];have hx:∀j,(f^^^2^i).testBit j=(f.testBit j^^decide (i=j)):=fun j=>by rw[DK,DQ]
   by_cases hz:f^^^2^i=0
   ·rw[if_pos hz];have:(Aw (i+1) (n+1)).filter (fun j=>f.testBit j)=[]:=by
     rw[Cy];intro j A;have D:=C8.mp A;have J:=hx j;rw[hz,Bp,decide_eq_false (BX D.1),EJ]at J;rw[←J];decide
    rw[this];rfl
   ·rw[if_neg hz,I (i+1) (f^^^2^i) (ao hi) hz (Gy B (WU dc (Fw (AA (AM _ _) (BC hi))))) fun j A=>?_]
    ·congr 2;refine DR fun j A=>?_;have D:=C8.mp A;rw[hx,decide_eq_false (BX D.1),EJ]
    ·rw[hx];by_cases e:i=j
     ·subst e;rw[E,decide_eq_true rfl];rfl
     ·rw[hb j (B' (A9 A) (Ne.symm e)),decide_eq_false e];rfl
  |false=>
   rw[if_neg dc,Bo (by rw[E];decide)];refine I (i+1) f (ao hi) G B fun j A=>?_;by_cases e:j=i
   ·rw[e];exact E
   ·exact hb j (kD hi A e)
noncomputable def NN(r:Nat):List Nat:=(AW 5).filter fun k=>r.testBit k
theorem Ze(hr:r<32)(hb:b<29):F_ 32 0 (r*2^b)=if r=0 then[Lf 0] else(NN r).map fun k=>C_ (b+k):=by
 by_cases B:r=0
 ·rw[if_pos B,B,Nat.zero_mul,Zc]
 ·rw[if_neg B,Zf 32 0 (r*2^b) rfl (Nat.mul_ne_zero B (CU (Gq b))) ?_ fun j A=>(cz A).elim]
  ·have e:Aw 0 (32+1)=Aw 0 b++(Aw b 5++Aw (b+5) (28-b)):=by
    rw[(by rw[Nat.one_mul]:Aw (b+5) (28-b)=Aw (b+1*5) (28-b)),Y3,(by simp:Aw b (5+(28-b))=Aw (0+1*b) (5+(28-b))),Y3];congr 1;exact jP hb
   have tb:∀j,(r*2^b).testBit j=(decide (b≤j) && r.testBit (j-b)):=fun j=>Nat.testBit_mul_two_pow r j b;rw[e,Be,Be];have D:(Aw 0 b).filter (fun j=>(r*2^b).testBit j)=[]:=by
    rw[Cy];intro j A;have:=C8.mp A;rw[tb,decide_eq_false (lb this),G8];decide
   have E:(Aw (b+5) (28-b)).filter (fun j=>(r*2^b).testBit j)=[]:=by
    rw[Cy];intro j A;have:=C8.mp A;rw[tb,Cb (x:=r) (i:=j-b) (AF hr (Bq (n:=2) (i:=5) dc (WW (BQ _ 5▸this.1)))),FI];decide
   rw[D,E,Br,Ao,Sd,C1,BB];unfold NN;congr 1;refine DR fun k G=>?_;show(r*2^b).testBit (b+k)=_;rw[tb,decide_eq_true (Yc),Hm,CX]
  ·have F:2^b≤2^28:=Bq dc (cy hb)
   calc r*2^b≤31*2^28:=Lx (cx hr) F
    _<2^33:=dc
theorem Px:∀i<33,C_ i=E7.getD i Ai:=by decide+kernel
theorem Qu:E7.length=33:=by decide+kernel
noncomputable def PN(x:Ax):Bool:=decide (x.length≤25) && x.cps.toList.all fun c=>decide (c<128) && c !=44
theorem SH:∀x∈E7,PN x=true:=by
 have:E7.all PN=true:=by decide+kernel
 exact Al.mp this
theorem Vt:(("0x0":Ax)::E7).Nodup:=by decide+kernel
theorem fR:Lf 0=("0x0":Ax):=by decide+kernel
theorem dx:PN "0x0"=true:=by decide+kernel
theorem X8(h:i<33):C_ i∈E7:=by
 rw[Px i h,AE,AL (by rw[Qu];exact h)];exact BY _
theorem RM(hb:b<29)(A:k<5):(wordsOf b).getD k Ai=C_ (b+k)∧k<(wordsOf b).length:=by
 unfold wordsOf;have h:((E7.drop b).take 5).length=5:=by rw[CC,Ca,Qu];exact ey hb
 refine⟨?_,Ym A h⟩;rw[Px _ (AY (BA (A9 hb) (A9 A)) dc),AE,E8 A,EC,AE]
theorem Od(h:r≠0)(A:r<32):NN r≠ []∧(NN r).getLast?=some r.log2:=by
 have B:∀r<32,r≠0→NN r≠ []∧(NN r).getLast?=some r.log2:=by decide+kernel
 exact B r A h
theorem UW(h:k∈NN r):k<5:=An.mp (CD.mp h).1
noncomputable def pieces(r b:Nat):List Ax:=if r=0 then[("0x0":Ax)] else(NN r).map fun k=>C_ (b+k)
theorem Ic(hb:b<29):∀x∈pieces r b,PN x=true:=fun x hx=>by
 unfold pieces at hx;split at hx
 ·rw[AI.mp hx];exact dx
 ·refine Bz (AU.mp hx) fun k B A=>?_;subst A;exact SH _ (X8 (by have:=UW B;exact AY (BA (A9 hb) (A9 this)) dc))
theorem Pj(hr:r<32):pieces r b≠ []:=by
 unfold pieces;split
 ·simp
 ·rename_i h;rw[ne_eq,List.map_eq_nil_iff];exact(Od h hr).1
theorem Jg(r b:Nat):(pieces r b).length≤5:=by
 unfold pieces;split
 ·decide
 ·rw[AH];exact AA (CR _ _) (by rw[Bm];exact AK 5)
theorem Nq(x:Ax):1≤HR x:=by unfold HR;split;exact AK 1;split<;>decide
theorem NH(hs:sep.length≤B):∀{ws:List Ax},(∀w∈ws,w.length≤B)→(BK sep ws).length≤ws.length*(2*B)
 |[],_=>BI _
 |[w],h=>by have:=h w AB;rw[(rfl:BK sep [w]=w),HW];exact g8 this
 |w::A::ws,h=>by
  have D:=h w AB;have E:=NH hs (ws:=A::ws) fun v F=>h v (AG _ F);rw[show BK sep (w::A::ws)=w++sep++BK sep (A::ws) from rfl,A2,A2,AP,Nat.succ_mul];exact g_ hs D E
theorem Rr{sep:Ax}{P:Nat→Prop}(hs:∀c∈Lc sep,P c):∀{ws:List Ax},(∀w∈ws,∀c∈Lc w,P c)→∀c∈Lc (BK sep ws),P c
 |[],_,c,A=>by cases A
 |[w],h,c,A=>h w AB c A
 |w::B::ws,h,c,A=>by
  rw[show BK sep (w::B::ws)=w++sep++BK sep (B::ws) from rfl,D0,D0,AR,AR]at A;rcases A with(A|A)|A
  ·exact h w AB c A
  ·exact hs c A
  ·exact Rr hs (ws:=B::ws) (fun v D=>h v (AG _ D)) c A
theorem Mp(h:PN x=true):x.length≤25:=of_decide_eq_true (WO.mp h).1
theorem PM(h:PN x=true):∀c∈Lc x,c<128∧c≠44:=fun c A=>by
 have:=Al.mp (WO.mp h).2 c A;simp only[A7,decide_eq_true_eq,bne_iff_ne,ne_eq]at this;exact this
theorem KL(sep:Ax)(ws:List Ax):Cf sep ws=BK sep ws:=KD sep ws
section
variable{r b:Nat}
theorem MC(hr:r<32)(hb:b<29):F_ 32 0 (r*2^b)=pieces r b∧D' (r*2^b)=BK ", " (pieces r b):=by
 have h:F_ 32 0 (r*2^b)=pieces r b:=by rw[Ze hr hb,fR];rfl
 exact⟨h,by unfold D';rw[h,KL]⟩
theorem MD(hr:r<32)(hb:b<29):CI (D' (r*2^b)) ", "=pieces r b∧partsBetween (D' (r*2^b)) (occurrences (D' (r*2^b)) ", " 0 (D' (r*2^b)).length ((D' (r*2^b)).length+1)) 2=pieces r b:=by
 rw[(MC hr hb).2];exact Je (y:=", ") (c:=44) (r:=[32]) rfl (Pj hr) (fun w A h=>(PM (Ic hb w A) 44 h).2 rfl) (A0.mpr (AA (by decide+kernel) (Nq _)))
theorem Zy(hr:r<32)(hb:b<29):LD b r=if r=0 then("0x0":Ax) else C_ (b+r.log2):=by
 unfold LD;rw[(MD hr hb).1];unfold pieces;by_cases h:r=0
 ·rw[if_pos h,if_pos h];rfl
 ·rw[if_neg h,if_neg h,List.getLast?_map,(Od h hr).2];rfl
theorem Xv(hr:r<32)(hb:b<29):(("0x0":Ax)::wordsOf b)[if r=0 then 0 else r.log2+1]?=some (LD b r):=by
 rw[Zy hr hb];by_cases h:r=0
 ·rw[if_pos h,if_pos h];rfl
 ·rw[if_neg h,if_neg h,DA];have h5:r.log2<5:=(H7 (jM hr h)).mp (hr:r<2^5);refine ER (RM hb h5) fun A B=>?_;rw[AE,AL B]at A;rw[AL B];exact congrArg some A
theorem RL(b:Nat):(("0x0":Ax)::wordsOf b).Nodup:=by
 have h:=Fc.mp Vt;have hs:(wordsOf b).Sublist E7:=(List.take_sublist _ _).trans (List.drop_sublist _ _);exact Fc.mpr ⟨fun q=>h.1 (hs.subset q),h.2.sublist hs⟩
end
theorem Xu:∀{l:List Ax}{i:Nat},l.Nodup→l[i]?=some a→l.idxOf a=i
 |[],i,_,h=>by cases h
 |x::l,0,_,h=>by
  rw[So]at h;rw[←CT h,List.idxOf_cons_self]
 |x::l,i+1,hn,h=>by
  rw[DA]at h;have A:=Fc.mp hn;rw[List.idxOf_cons,(beq_eq_false_iff_ne.mpr fun e=>A.1 (e▸B2 h):(x==a)=false),cond_false,Xu A.2 h]
theorem ZL{b:Nat}(hb:b<29):M7 b where
 ld:={
  hb:=hb
  wl:=by unfold wordsOf;rw[CC];exact AA (IL 5 _) dc
  pj:=fun r hr=>by
   rw[(MC hr hb).1];refine joinOk_of (B:=25) (fun x hx=>Mp (Ic hb x hx)) ?_;have:=Jg r b;have e:(", ":Ax).length=2:=rfl;rw[e];exact AA (BA (B3 25 this) (B3 2 this)) dc
  tl:=fun r hr=>by
   rw[(MC hr hb).2];exact AA (NH (sep:=", ") (B:=25) dc fun w A=>Mp (Ic hb (r:=r) w A)) (AA (B3 _ (Jg r b)) dc)
  sl:=fun r hr=>by rw[(MD hr hb).2];have:=Jg r b;exact AA this dc
  ne:=fun r hr=>by rw[(MD hr hb).1];exact Pj hr
  nl:=fun r hr=>by rw[(MD hr hb).1];have:=Jg r b;exact AA this dc
  me:=fun r hr=>B2 (Xv hr hb)
  ix:=fun r hr=>by
   have h:=Xv hr hb;exact Xu (RL b) h}
 aw:=Qu
 wl:=fun x hx=>by have:=Mp (SH x hx);exact AA this dc
 pt:=fun r hr=>by
  rw[(MC hr hb).2,KL];congr 1;unfold pieces O2;by_cases h:r=0
  ·subst h;rw[if_pos rfl,if_pos dc]
  ·rw[if_neg h,if_neg (show¬(AW 5).filter (fun k=>r.testBit k)=[] from(Od h hr).1)];exact IP fun k D=>((RM hb (UW D)).1).symm
 pa:=fun r hr=>by
  rw[(MC hr hb).2];exact Rr (P:=fun c=>c<1114112) dc fun w A c E=>by have:=(PM (Ic hb w A) c E).1;exact AA this dc
open Builtin Builtin.Str
noncomputable def Mr(t:List Nat):Ax:=⟨t.toArray⟩
theorem dB(t:List Nat):Lc (Mr t)=t:=rfl
theorem bq(x:Ax):Mr (Lc x)=x:=Kb rfl
noncomputable def Tok(t:List Nat):Prop:=(∃c,t=[c]∧c≠92)∨∃c,t=[92,c]
noncomputable def Fi:Nat→List (List Nat)→List (Nat×Ax)
 |_,[]=> []
 |i,t::A=>(i+t.length-1,Mr t)::Fi (i+t.length) A
theorem Fi.c1:Fi A []=([]):=rfl
theorem Fi.c2:Fi i (t::A)=((i+t.length-1,Mr t)::Fi (i+t.length) A):=rfl
theorem OH:∀(A us:List (List Nat))(i:Nat),Fi i (A++us)=Fi i A++Fi (i+A.flatten.length) us:=by
 intro B
 induction B with
 |nil=>
  intro us i;exact rfl
 |cons t A D=>
  intro us i;rw[Bg,Fi.c2,Fi.c2,D us,Bd,AQ,Bg,A1]
theorem Qn:∀(A:List (List Nat))(rest:List Nat)(i:Nat),(∀t∈A,Tok t)→CA i false (A.flatten++rest)=Fi i A++CA (i+A.flatten.length) false rest:=by
 intro D
 induction D with
 |nil=>
  intro rest i _;exact rfl
 |cons t A B=>
  intro rest i h;have B:=fun j=>B rest j fun u E=>h u (AG _ E);rw[Bd,A8,Fi.c2,Bg];rcases h t AB with⟨c,rfl,F⟩|⟨c,rfl⟩
  ·rw[Bg,Br,CA.c4,if_neg F,B,AQ,HW,A1];rfl
  ·rw[Bg,Bg,Br,CA.c4,if_pos rfl,CA.c3,B,AQ,show([92,c]:List Nat).length=1+1 from rfl,show i+(1+1)-1=i+1 from rfl,←A1 i 1 1,←A1 i (1+1),←A1 i 1 1];rfl
noncomputable abbrev Sg:=Bool×List (List Nat)
noncomputable def ZW(g:Sg):List (List Nat):=if g.1 then[34]::(g.2++ [[34]]) else g.2
noncomputable def bx(g:Sg):List (List Nat):=if g.1 then[] else g.2
noncomputable def PD(g:Sg):Prop:=∀t∈g.2,Tok t∧t≠ [34]
noncomputable def Cq(G:List Sg):List (List Nat):=(G.map ZW).flatten
noncomputable def FW(G:List Sg):List (List Nat):=(G.map bx).flatten
theorem Fs(G H:List Sg):Cq (G++H)=Cq G++Cq H:=by unfold Cq;rw[Ac,BF]
theorem JK(G H:List Sg):FW (G++H)=FW G++FW H:=by unfold FW;rw[Ac,BF]
theorem Wx(h:∀g∈G,PD g):∀t∈Cq G,Tok t:=fun t A=>by
 refine Bz (Ef.mp A) fun l hl A=>?_;refine Bz (AU.mp hl) fun g D B=>?_;subst B;have q:Tok [34]:=.inl ⟨34,rfl,dc⟩;unfold ZW at A;split at A
 ·rcases AN.mp A with rfl|A
  ·exact q
  ·rcases AR.mp A with A|A
   ·exact(h g D t A).1
   ·rw[AI.mp A];exact q
 ·exact(h g D t A).1
theorem RQ(h:∀g∈G,PD g):∀t∈FW G,Tok t∧t≠ [34]:=fun t A=>by
 refine Bz (Ef.mp A) fun l hl A=>?_;refine Bz (AU.mp hl) fun g D B=>?_;subst B;unfold bx at A;split at A
 ·cases A
 ·exact h g D t A
theorem QR:Mr t=Jp↔t=[34]:=⟨fun h=>by have:=congrArg Lc h;exact this,fun h=>by rw[h];rfl⟩
theorem S5(X:Ax):∀(B:List (List Nat))(R:List (Nat×Ax))(i st:Nat)(A:List Ax),(∀t∈B,t≠ [34])→Bh X (Fi i B++R) st none A=Bh X R st none A:=by
 intro D
 induction D with
 |nil=>
  intro R i st A _;exact rfl
 |cons t B E=>
  intro R i st A h;rw[Fi.c2,Bg,Bh.c2,if_neg (fun e=>h t AB (QR.mp e)),E R _ st A fun u F=>h u (AG _ F)]
theorem S3(X:Ax)(o:Nat):∀(B:List (List Nat))(R:List (Nat×Ax))(i st:Nat)(A:List Ax),(∀t∈B,t≠ [34])→Bh X (Fi i B++R) st (some o) A=Bh X R st (some o) A:=by
 intro D
 induction D with
 |nil=>
  intro R i st A _;exact rfl
 |cons t B E=>
  intro R i st A h;rw[Fi.c2,Bg,Bh.c3,if_neg (fun e=>h t AB (QR.mp e)),E R _ st A fun u F=>h u (AG _ F)]
theorem Kr(A:List Ax):Lc (Cf "" A)=(A.map Lc).flatten:=by
 rw[KL]
 induction A with
 |nil=>rfl
 |cons a A B=>
  cases A with
  |nil=>rw[show BK "" [a]=a from rfl];simp
  |cons b A=>rw[show BK "" (a::b::A)=a++""++BK "" (b::A) from rfl,D0,D0,B,show Lc ("":Ax)=[] from rfl,Ao];rfl
theorem Rs(A:List Ax)(x:Ax):Lc (Cf "" (A++ [x]))=Lc (Cf "" A)++Lc x:=by
 rw[Kr,Kr];simp
theorem PW{X:Ax}(A:a≤b)(hb:b≤X.length):Lc (CJ X (some (a:Int)) (some (b:Int)))=((Lc X).drop a).take (b-a):=by
 rw[show CJ X (some (a:Int)) (some (b:Int))=Gw X (some (a:Int)) (some (b:Int)) from rfl,SR X A hb]
theorem S9{X:Ax}(A:a≤X.length):Lc (CJ X (some (a:Int)) none)=(Lc X).drop a:=by
 rw[show CJ X (some (a:Int)) none=Gw X (some (a:Int)) none from rfl];have e:Gw X (some (a:Int)) none=Gw X (some (a:Int)) (some (X.length:Int)):=by unfold Gw;rw[StrLaws.sliceIdx_none_hi]
 rw[e,SR X A (AK _)];show((Lc X).drop a).take (X.length-a)=_;exact DN (by rw[Ca];exact AK _)
theorem S4(X:Ax)(R:List (Nat×Ax)):∀(G:List Sg)(A B:List Nat)(st:Nat)(D:List Ax),(∀g∈G,PD g)→Lc X=A++((Cq G).flatten++B)→st≤A.length→
  ∃H E,Bh X (Fi A.length (Cq G)++R) st none D=Bh X R H none E∧H≤(A++(Cq G).flatten).length∧Lc (Cf "" E)++(A++(Cq G).flatten).drop H=(Lc (Cf "" D)++A.drop st)++(FW G).flatten:=by
 intro N
 induction N with
 |nil=>
  intro A B st D _ J I;exact X2 st D ⟨rfl,by simpa[Cq]using I,by simp[Cq,FW]⟩
 |cons g G Z=>
  intro A B st D O J I;have L:=O g AB;have eT:Cq (g::G)=ZW g++Cq G:=rfl;have a:FW (g::G)=bx g++FW G:=rfl;rw[eT,BF,A8,←A8]at J;rw[eT,a,BF,BF,OH,A8,←A8 A];obtain⟨h,F⟩:=g;cases h with
  |false=>
   have P:ZW (false,F)=F:=rfl;have Q:bx (false,F)=F:=rfl;rw[P]at J⊢;rw[Q,S5 X F _ _ _ _ fun t S=>(L t S).2];refine Hd (Z (A++F.flatten) B st D (fun g L=>O g (AG _ L)) J (by rw[AQ];exact AA I (AM _ _))) fun H E M T U=>?_;rw[AQ]at M;refine X2 H E ⟨M,T,?_⟩;rw[U,Hw I];simp only[A8]
  |true=>
   have P:ZW (true,F)=[34]::(F++ [[34]]):=rfl;have Q:bx (true,F)=[]:=rfl;rw[P]at J⊢;rw[Q];have b:Bh X (Fi A.length ([34]::(F++ [[34]]))++(Fi (A.length+([34]::(F++ [[34]])).flatten.length) (Cq G)++R)) st none D=Bh X (Fi (A.length+([34]::(F++ [[34]])).flatten.length) (Cq G)++R) (A.length+1+F.flatten.length+1) none (if st=A.length then D else D++ [CJ X (some (st:Int)) (some (A.length:Int))]):=by
    rw(config:={}) [Fi.c2,Bg,Bh.c2,if_pos (QR.mpr rfl),OH,A8,S3 X _ F _ _ _ _ fun t S=>(L t S).2,Fi.c2,Fi.c1,Bg,Bh.c3,if_pos (QR.mpr rfl)];rfl
   have el:(A++([34]::(F++ [[34]])).flatten).length=A.length+1+F.flatten.length+1:=by simp;exact gG
   have V:A.length+([34]::(F++ [[34]])).flatten.length=(A++([34]::(F++ [[34]])).flatten).length:=by rw(config:={}) [AQ]
   have W:A.length≤X.length:=by rw[←Co,J];simp
   rw[b,V];refine Hd (Z (A++([34]::(F++ [[34]])).flatten) B (A.length+1+F.flatten.length+1) (if st=A.length then D else D++ [CJ X (some (st:Int)) (some (A.length:Int))]) (fun g L=>O g (AG _ L)) J (BC el.symm)) fun H E M T U=>?_;refine X2 H E ⟨M,T,?_⟩;rw[U,←el,Ow,Ao];congr 1;split
   ·rename_i e;rw[e,Ow,Ao]
   ·rw[Rs,PW I W];congr 1;rw[J,A8,Hw I,List.take_append_of_le_length (by rw[Ca];exact AK _)];exact DN (by rw[Ca];exact AK _)
structure Tl(tl:List Nat):Prop where
 go:∀(X:Ax)(i st:Nat)(acc:List Ax),Bh X (CA i false tl) st none acc=(st,acc)
 ps:∀i,CA i false tl=Fi i (tl.map fun c=> [c])
theorem Tl.tail(n:Nat):Tl (Lc (FC n)):=by
 have e:Lc (FC n)=[]∨Lc (FC n)=[34,40]∨Lc (FC n)=[92]∨Lc (FC n)=[34]:=by
  unfold FC
  match n with
  |0=>exact .inl rfl
  |1=>exact .inr (.inl rfl)
  |2=>exact .inr (.inr (.inl rfl))
  |3=>exact .inr (.inr (.inr rfl))
  |n+4=>exact .inl rfl
 have d:(⟨#[34]⟩:Ax)=Jp:=rfl;rcases e with e|e|e|e<;>rw[e]
 ·exact⟨fun B B B B=>rfl,fun B=>rfl⟩
 ·refine⟨fun X i st A=>?_,fun i=>?_⟩
  ·rw[CA.c4,if_neg dc,CA.c4,if_neg dc,CA.c2,Bh.c2,if_pos d,Bh.c3,if_neg dc,Bh.c1]
  ·rw[CA.c4,if_neg dc,CA.c4,if_neg dc,CA.c2];rfl
 ·refine⟨fun X i st A=>?_,fun i=>?_⟩
  ·rw[CA.c4,if_pos dc,CA.c1,Bh.c2,if_neg dc,Bh.c1]
  ·rw[CA.c4,if_pos dc,CA.c1];rfl
 ·refine⟨fun X i st A=>?_,fun i=>?_⟩
  ·rw[CA.c4,if_neg dc,CA.c2,Bh.c2,if_pos d,Bh.c1]
  ·rw[CA.c4,if_neg dc,CA.c2];rfl
theorem Tp:∀{G:List Sg},34∉(Cq G).flatten→Cq G=FW G
 |[],_=>rfl
 |(false,A)::G,h=>by
  have eT:Cq ((false,A)::G)=A++Cq G:=rfl;have B:FW ((false,A)::G)=A++FW G:=rfl;rw[eT,BF,AR,not_or]at h;rw[eT,B,Tp h.2]
 |(true,A)::G,h=>by
  exfalso;refine h ?_;show 34∈(([34]::(A++ [[34]]))++Cq G).flatten;exact dc
theorem LU{X:Ax}{G:List Sg}(F:∀g∈G,PD g)(I:Tl tl)(A:Lc X=(Cq G).flatten++tl):Lc (Cs X)=(FW G).flatten++tl:=by
 unfold Cs;have J:B6 X Jp=decide (34∈Lc X):=Mn X 34;rw[J];by_cases h:34∈Lc X
 ·rw[if_pos (decide_eq_true h)];have L:K4 X=Fi 0 (Cq G)++CA (Cq G).flatten.length false tl:=by
   unfold K4;rw[show X.cps.toList=Lc X from rfl,A,Qn _ _ _ (Wx F),Bw]
  refine Hd (S4 X (CA (Cq G).flatten.length false tl) G [] tl 0 [] F (by rw[A];rfl) (BI _)) fun st B H E D=>?_;rw[Br]at E D;rw[Fd]at H;rw[L,H,I.go];rw[show Lc (Cf "" [])=[] from rfl,List.drop_nil,Ao,Br]at D;have hl:X.length=(Cq G).flatten.length+tl.length:=by rw[←Co,A,AQ]
  have hd:(Lc X).drop st=(Cq G).flatten.drop st++tl:=by rw[A,Hw E]
  show Lc (Cf "" (if st<X.length then B++ [CJ X (some (st:Int)) none] else B))=_;by_cases q:st<X.length
  ·rw[if_pos q,Rs,S9 (Aa q),hd,←A8,D]
  ·rw[if_neg q,←D];have:tl=[]:=Hv (WV.mp (Nat.le_of_add_le_add_left (hl▸AA (A0.mp q) E:_+_≤_+0)));rw[this,Ao,Tn (AA (AM _ _) (hl▸A0.mp q)),Ao]
 ·rw[if_neg (by rw[decide_eq_false h];decide),A,Tp fun q=>h (by rw[A];exact AC _ q)]
open Builtin Builtin.Str
noncomputable def kT:Nat→List (List Nat)
 |1=> [[92,34]]|3=> [[92,41]]|4=> [[92,92]]|_=> []
noncomputable def kS:Nat→List Sg
 |1=> [(false,[[92,34]])]|2=> [(true,[[40],[92,34]])]|3=> [(false,[[92,41]])]|4=> [(false,[[92,92]])]|_=> []
noncomputable def eT(m p c:Nat):List Nat:=if Dz m p=0 then[97+c] else[92,97+c]
noncomputable def F2(hid:List Nat)(m b p c:Nat)(ex:List (List Nat)):List Sg:=kS (kindOf b p)++ [(hid.contains c,eT m p c::ex)]
noncomputable def Mu(hid:List Nat)(m b:Nat):Nat→List Nat→List Sg
 |_,[]=> []
 |p,c::r=>F2 hid m b p c []++Mu hid m b (p+1) r
theorem Mu.c2(hid:List Nat)(m b:Nat):Mu hid m b p (c::r)=(F2 hid m b p c []++Mu hid m b (p+1) r):=rfl
noncomputable def NB(hid:List Nat)(m b p c:Nat):List (List Nat):=kT (kindOf b p)++if hid.contains c then[] else[eT m p c]
noncomputable def Ga(hid:List Nat)(m b:Nat):Nat→List Nat→List (List Nat)
 |_,[]=> []
 |p,c::r=>NB hid m b p c++Ga hid m b (p+1) r
theorem Ga.c1(hid:List Nat)(m b:Nat):Ga hid m b A []=([]):=rfl
theorem Ga.c2(hid:List Nat)(m b:Nat):Ga hid m b p (c::r)=(NB hid m b p c++Ga hid m b (p+1) r):=rfl
section
variable{hid:List Nat}{m b:Nat}
theorem OP{P:Nat→Prop}(h:n<5)(A:P 0)(B:P 1)(D:P 2)(E:P 3)(F:P 4):P n:=by
 cases n with
 |zero=>exact A
 |succ n=>cases n with
  |zero=>exact B
  |succ n=>cases n with
   |zero=>exact D
   |succ n=>cases n with
    |zero=>exact E
    |succ n=>cases n with
     |zero=>exact F
     |succ n=>exact absurd h (A0.mpr (CM 5 n))
theorem bC(b p:Nat):kindOf b p<5:=CO _ dc
theorem Zz{K:Nat}(h:K<5):Lc (Rp K)=(Cq (kS K)).flatten:=OP (P:=fun K=>Lc (Rp K)=(Cq (kS K)).flatten) h rfl rfl rfl rfl rfl
theorem eF(K:Nat):∀g∈kS K,PD g:=by
 intro g A;have two:∀c,Tok [92,c]∧([92,c]:List Nat)≠ [34]:=fun c=>⟨.inr ⟨c,rfl⟩,by exact dc⟩
 match K,A with
 |1,A=>rw[AI.mp A];intro t B;rw[AI.mp B];exact two _
 |2,A=>
  rw[AI.mp A];intro t B;rcases AN.mp B with rfl|B
  ·exact⟨.inl ⟨40,rfl,dc⟩,by exact dc⟩
  ·rw[AI.mp B];exact two _
 |3,A=>rw[AI.mp A];intro t B;rw[AI.mp B];exact two _
 |4,A=>rw[AI.mp A];intro t B;rw[AI.mp B];exact two _
 |0,A=>cases A
 |n+5,A=>cases A
theorem cC(K:Nat):FW (kS K)=kT K:=by
 match K with
 |0=>rfl
 |1=>rfl
 |2=>rfl
 |3=>rfl
 |4=>rfl
 |n+5=>rfl
theorem eI(m p c:Nat):Tok (eT m p c)∧(c<5→Tok (eT m p c)∧eT m p c≠ [34]):=by
 unfold eT;split
 ·by_cases h:97+c=92
  ·exact(lZ h).elim
  ·exact⟨.inl ⟨_,rfl,h⟩,fun A=>⟨.inl ⟨_,rfl,h⟩,by simp;exact i7 A⟩⟩
 ·exact⟨.inr ⟨_,rfl⟩,fun A=>⟨.inr ⟨_,rfl⟩,by exact dc⟩⟩
theorem M8(h:c<5):Lc (CN c)=[97+c]:=by unfold CN;rw[if_pos h]
theorem TZ(h:c<5):Lc (Ij m p c)=eT m p c:=by
 unfold Ij eT;rw[D0,M8 h];split<;>rfl
theorem Ra(h:c<5)(hx:∀t∈ex,Tok t∧t≠ [34]):∀g∈F2 hid m b p c ex,PD g:=fun g A=>by
 rcases AR.mp A with A|A
 ·exact eF _ g A
 ·rw[AI.mp A];intro t B;rcases AN.mp B with rfl|B
  ·exact(eI m p c).2 h
  ·exact hx t B
theorem Pi(p c:Nat)(ex:List (List Nat)):FW (F2 hid m b p c ex)=kT (kindOf b p)++if hid.contains c then[] else eT m p c::ex:=by
 unfold F2;rw[JK,cC];congr 1;show((if hid.contains c=true then[] else eT m p c::ex)++ []:List (List Nat))=_;rw[Ao]
theorem La{p c:Nat}(h:c<5):Lc (pieceOf hid m b p c)=(Cq (F2 hid m b p c [])).flatten:=by
 unfold pieceOf F2;rw[D0,Zz (bC b p),Fs,BF];congr 1;cases A:hid.contains c with
 |true=>
  rw[if_pos rfl,D0,D0,TZ h];show[34]++eT m p c++ [34]=(([34]::([eT m p c]++ [[34]]))++ []:List (List Nat)).flatten;rfl
 |false=>
  rw[if_neg dc,TZ h];show _=([eT m p c]++ []:List (List Nat)).flatten;simp
theorem W9:∀(r:List Nat)(p:Nat),(∀c∈r,c<5)→∀g∈Mu hid m b p r,PD g:=by
 intro B
 induction B with
 |nil=>
  intro p _ g A;exact(nomatch A)
 |cons c r D=>
  intro p h g A;rcases AR.mp A with A|A
  ·exact Ra (ex:=[]) (h c AB) (fun F q=>(nomatch q)) g A
  ·exact D (p+1) (fun c E=>h c (AG _ E)) g A
theorem QV:∀(r:List Nat)(p:Nat),FW (Mu hid m b p r)=Ga hid m b p r:=by
 intro A
 induction A with
 |nil=>
  intro p;exact rfl
 |cons c r B=>
  intro p;rw[Mu.c2,JK,Pi,B (p+1)];rfl
theorem RT:∀(r:List Nat)(p:Nat),(∀c∈r,c<5)→((CQ hid m b p r).map Lc).flatten=(Cq (Mu hid m b p r)).flatten:=by
 intro A
 induction A with
 |nil=>
  intro p _;exact rfl
 |cons c r B=>
  intro p h;rw[CQ.c2,Ae,Bd,Mu.c2,Fs,BF,La (h c AB),B (p+1) fun c D=>h c (AG _ D)]
theorem RO:∀(r A:List Nat)(p:Nat),Ga hid m b p (r++A)=Ga hid m b p r++Ga hid m b (p+r.length) A:=by
 intro B
 induction B with
 |nil=>
  intro A p;exact rfl
 |cons c r D=>
  intro A p;rw[Bg,Ga.c2,Ga.c2,D A (p+1),A8,AP,A1,BQ 1]
theorem Xm{K:Nat}(h:K<5):([OQ K].map Lc).filter (fun t=> !t.isEmpty)=kT K:=OP (P:=fun K=>([OQ K].map Lc).filter (fun t=> !t.isEmpty)=kT K) h rfl rfl rfl rfl rfl
theorem Ux:∀(r:List Nat)(p:Nat),(∀c∈r,c<5)→((Do hid m b p r).map Lc).filter (fun t=> !t.isEmpty)=Ga hid m b p r:=by
 intro A
 induction A with
 |nil=>
  intro p _;exact rfl
 |cons c r B=>
  intro p h;rw[Do.c2,Ac,Be,B (p+1) fun c D=>h c (AG _ D),Ga.c2];congr 1;unfold Hn NB;rw[show[OQ (kindOf b p),if hid.contains c then Ai else Ij m p c]=[OQ (kindOf b p)]++ [if hid.contains c then Ai else Ij m p c] from rfl,Ac,Be,Xm (bC b p)];congr 1;cases hid.contains c with
  |true=>rfl
  |false=>
   rw[if_neg dc,if_neg dc,I_,TZ (h c AB)];unfold eT;split<;>rfl
end
theorem YG:∀(U:List Ax)(n:Nat),Es n U=Fi n ((U.map Lc).filter fun t=> !t.isEmpty):=by
 intro A
 induction A with
 |nil=>
  intro n;exact rfl
 |cons x U B=>
  intro n;rw[Es.c2,Ae];by_cases h:x.length=0
  ·have e:Lc x=[]:=Hv h;rw[if_pos h,B n,Bo (by rw[e];decide)]
  ·have e:(Lc x).isEmpty=false:=by
    cases hx:Lc x with
    |nil=>exact absurd (by rw[←Co,hx];rfl) h
    |cons a l=>rfl
   rw[if_neg h,B,BN (by rw[e];rfl),Fi.c2,bq];rfl
structure Wr where
 hid:List Nat
 m:Nat
 b:Nat
 row:List Nat
 tn:Nat
noncomputable def Wr.whole(w:Wr):Ax:=Cf "" (CQ w.hid w.m w.b 0 w.row)++FC w.tn
noncomputable def Wr.left(w:Wr):Ax:=Cs w.whole
noncomputable def Wr.units(w:Wr):List Ax:=DD w.hid w.m w.b w.row (FC w.tn)
noncomputable def Wr.vis(w:Wr):List (List Nat):=Ga w.hid w.m w.b 0 w.row
noncomputable def Wr.tl(w:Wr):List Nat:=Lc (FC w.tn)
section
variable{w:Wr}
theorem Wr.left_text(h:∀c∈w.row,c<5):Lc w.left=w.vis.flatten++w.tl:=by
 have A:Lc w.whole=(Cq (Mu w.hid w.m w.b 0 w.row)).flatten++w.tl:=by
  unfold Wr.whole;rw[D0,Kr,RT w.row 0 h];rfl
 unfold Wr.left;rw[LU (W9 w.row 0 h) (Tl.tail w.tn) A,QV];rfl
theorem Wr.vis_ok(h:∀c∈w.row,c<5):∀t∈w.vis,Tok t∧t≠ [34]:=by
 unfold Wr.vis;rw[←QV];exact RQ (W9 w.row 0 h)
theorem U'(t:Ax):((signsOf t).map Lc).filter (fun t=> !t.isEmpty)=(Lc t).map fun c=> [c]:=by
 unfold signsOf;rw[BB,Ck.mpr fun a B=>?_]
 ·rfl
 ·refine Bz (AU.mp B) fun c _ A=>?_;subst A;rfl
theorem Wr.due(h:∀c∈w.row,c<5):Es 0 w.units=Fi 0 (w.vis++w.tl.map fun c=> [c]):=by
 unfold Wr.units DD;rw[YG,Ac,Be,Ux w.row 0 h,U'];rfl
theorem Wr.read(h:∀c∈w.row,c<5):K4 w.left=Es 0 w.units:=by
 rw[w.due h];unfold K4;rw[show w.left.cps.toList=Lc w.left from rfl,w.left_text h,Qn _ _ _ fun t A=>(w.vis_ok h t A).1,show CA (0+w.vis.flatten.length) false w.tl=_ from(Tl.tail w.tn).ps _,OH];rfl
end
open Builtin Builtin.Str
noncomputable def ch(a:Nat):Ax:=⟨#[a]⟩
theorem LG:D6 X (ch a) X.length k↔(Lc X)[k]?=some a:=Mm X a k
theorem ML:(A++a::B)[A.length]?=some a:=by rw[BO (AK _),Dr];rfl
theorem Z'(E:Lc X=A++a::B)(F:a∉A):N1 X (ch a)=(A.length:Nat):=by
 unfold N1;rcases WS X (ch a) 1 (AK 1) with⟨_,hn⟩|⟨i,r,G,H,I⟩
 ·exact absurd (LG.mpr (by rw[E];exact ML)) (hn A.length)
 ·rw[G];have D:=LG.mp H;show(i:Int)=_;congr 1;rcases HB i A.length with g|g|g
  ·rw[E,CE g]at D;exact absurd (B2 D) F
  ·exact g
  ·exact absurd (LG.mpr (by rw[E];exact ML)) (I A.length g)
theorem XF(E:Lc X=A++a::B)(F:a∉B):Mg X (ch a)=(A.length:Nat):=by
 unfold Mg;rcases WB X (ch a) with⟨_,hn⟩|⟨i,G,H,I⟩
 ·exact absurd (LG.mpr (by rw[E];exact ML)) (hn A.length)
 ·rw[G];have D:=LG.mp H;show(i:Int)=_;congr 1;rcases HB i A.length with g|g|g
  ·exact absurd (LG.mpr (by rw[E];exact ML)) (I A.length g)
  ·exact g
  ·rw[E,BO (Aa g),(by exact(Cc (Ds g)).symm:i-A.length=(i-A.length-1)+1),DA]at D;exact absurd (B2 D) F
theorem UG(D:a∉Lc X):N1 X (ch a)=-1∧Mg X (ch a)=-1:=by
 constructor
 ·unfold N1;rcases WS X (ch a) 1 (AK 1) with⟨A,_⟩|⟨i,r,_,B,_⟩
  ·rw[A]
  ·exact absurd (B2 (LG.mp B)) D
 ·unfold Mg;rcases WB X (ch a) with⟨A,_⟩|⟨i,_,B,_⟩
  ·rw[A]
  ·exact absurd (B2 (LG.mp B)) D
theorem UF{n k:Nat}:HQ n (k:Int)=k:=by
 unfold HQ;rw[if_neg (Cp.mpr (AZ k)),Hl (AZ k)];rfl
theorem Jn(X Y:Ax){lo hi:Nat}(J:hi≤X.length):(find4 X Y (lo:Int) (hi:Int)=-1∧∀i,lo≤i→¬D6 X Y hi i)∨∃i:Nat,find4 X Y (lo:Int) (hi:Int)=(i:Int)∧lo≤i∧D6 X Y hi i∧∀k,lo≤k→k<i→¬D6 X Y hi k:=by
 have L:HQ X.length (lo:Int)=lo:=UF;have H:Uq (HQ X.length (hi:Int)) X.length=hi:=by rw[UF];exact IM J
 unfold find4;rw[L,H,StrLaws.occ_eq];rcases StrLaws.occ_first X Y hi 1 (AK 1) (Aw lo (hi+1-lo)) lo (fun i hi=>by have:=C8.mp hi;exact this.1) with⟨E,hn⟩|⟨pre,a,post,e,E,M,hn⟩
 ·refine .inl ⟨by rw[E],fun i F A=>?_⟩;exact hn i (by have:=A.1;rw[C8];exact jf H F this) A
 ·have hs:=StrLaws.range'_split_from e;refine .inr ⟨a,?_,hs.1,M,fun k G N=>hn k (hs.2 k G N)⟩;generalize (forIn (Aw lo (hi+1-lo)) ((#[]:Array Nat),lo) (StrLaws.occBody X Y hi 1)).run.fst=B at E;have D:B.toList[0]?=some a:=by simpa using E
  cases I:B.toList with
  |nil=>rw[I]at D;cases D
  |cons b t=>rw[I]at D;simp at D;rw[D]
theorem Oh(D:hi≤X.length):D6 X (ch a) hi k↔k<hi∧(Lc X)[k]?=some a:=by
 unfold D6;have:=@LG X a k;unfold D6 at this;have e:(ch a).length=1:=rfl;rw[e]at this⊢;constructor
 ·rintro⟨A,B⟩;exact⟨c5 A,this.mp ⟨AA A D,B⟩⟩
 ·rintro⟨A,B⟩;exact⟨ah A,(this.mpr B).2⟩
theorem Vi{X:Ax}:∀(n:Nat)(P M S:List Nat),Lc X=P++(M++S)→DT (Aq n (ch a)) X ((P.length:Nat):Int) ((P.length+M.length:Nat):Int)=decide (n≤M.count a):=by
 intro I
 induction I with
 |zero=>
  intro P M S _;rw[List.replicate_zero,DT.c1,decide_eq_true (BI _)]
 |succ n T=>
  intro P M S E;rw[IN,DT.c2];have hl:=congrArg FS E;rw[Co,AQ,AQ]at hl;by_cases J:a∈M
  ·refine K7 (JA J) fun A B L O=>?_;subst L;have e:find4 X (ch a) ((P.length:Nat):Int) ((P.length+(A++a::B).length:Nat):Int)=((P.length+A.length:Nat):Int):=by
    have F:(Lc X)[P.length+A.length]?=some a:=by
     rw[E,BO (Yc),CX,A8];exact ML
    have G:(A++a::B).length=A.length+1+B.length:=by simp;exact aX
    rcases Jn X (ch a) (lo:=P.length) (hi:=P.length+(A++a::B).length) (TW hl) with⟨_,hn⟩|⟨i,Q,H,N,R⟩
    ·exact absurd ((Oh (TW hl)).mpr ⟨Dy (G▸AM (_+1) _) _,F⟩) (hn (P.length+A.length) (Yc))
    ·rw[Q];congr 1;have D:=(Oh (TW hl)).mp N;rcases HB i (P.length+A.length) with g|g|g
     ·have:=D.2;rw[E,BO H,A8,CE (aZ H g)]at this;exact absurd (B2 this) O
     ·exact g
     ·exact absurd ((Oh (TW hl)).mpr ⟨Dy (G▸AM (_+1) _) _,F⟩) (R _ (Yc) g)
   rw[e,if_neg (Cp.mpr (AZ _))];have:=T (P++(A++ [a])) B S (by rw[E];simp);have U:((P.length+A.length:Nat):Int)+((ch a).length:Nat)=(((P++(A++ [a])).length:Nat):Int):=by rw[(rfl:(ch a).length=1)];simp;exact rfl
   have V:((P.length+(A++a::B).length:Nat):Int)=(((P++(A++ [a])).length+B.length:Nat):Int):=by simp;exact gk
   rw[U,V,this,A5,Dd,BM.mpr O,CK,decide_eq_true_iff,decide_eq_true_iff];exact gB
  ·have e:find4 X (ch a) ((P.length:Nat):Int) ((P.length+M.length:Nat):Int)=-1:=by
    rcases Jn X (ch a) (lo:=P.length) (hi:=P.length+M.length) (TW hl) with⟨h,_⟩|⟨i,Q,H,N,R⟩
    ·exact h
    ·have D:=(Oh (TW hl)).mp N;have:=D.2;rw[E,BO H,CE (SY H D.1)]at this;exact absurd (B2 this) J
   rw[e,if_pos dc,BM.mpr J,decide_eq_false (by exact K9 _)]
theorem NK{X:Ax}{lo hi:Nat}(B:lo≤hi)(D:hi≤X.length):find4 X Ai (lo:Int) (hi:Int)=(lo:Int):=by
 have A:D6 X Ai hi lo:=⟨B,by rw[NS];rfl⟩;rcases Jn X Ai (lo:=lo) (hi:=hi) D with⟨_,hn⟩|⟨i,e,E,G,F⟩
 ·exact absurd A (hn lo (AK _))
 ·rw[e];congr 1;rcases Ix lo i with g|g
  ·exact absurd A (F lo (AK _) g)
  ·exact DL g E
theorem Ms(X:Ax)(a:Nat):G' X (ch a)=decide ((Lc X)[0]?=some a):=by
 have:=Mm X a 0;unfold G';rw[CK,A7,decide_eq_true_iff,decide_eq_true_iff];exact this
theorem UK(X:Ax)(a:Nat):Kt X (ch a)=decide ((Lc X).getLast?=some a):=by
 have h:=Mm X a (X.length-1);rw[(rfl:(⟨#[a]⟩:Ax).length=1)]at h;unfold Kt;rw[CK,A7,decide_eq_true_iff,decide_eq_true_iff,JW,(rfl:(ch a).length=1)];exact⟨fun⟨B,D⟩=>h.mp ⟨BC (Cc B),D⟩,fun q=>by have A:=h.mpr q;exact⟨AA (CM 1 _) A.1,A.2⟩⟩
theorem Xx(w A:Ax)(ws:List Ax):B6 (BK Bv (w::A::ws)) Bv=true:=by
 unfold B6;rw[WC];have e:Lc (BK Bv (w::A::ws))=Lc w++(Lc Bv++Lc (BK Bv (A::ws))):=by rw[show BK Bv (w::A::ws)=w++Bv++BK Bv (A::ws) from rfl,D0,D0,A8]
 have hl:=congrArg FS e;rw[Co,AQ,AQ,Co,Co]at hl;refine⟨w.length,TW hl,?_⟩;rw[NS,beq_iff_eq];show((Lc _).drop w.length).take Bv.length=_;rw[e,←Co w,FG,←Co Bv,FF]
theorem T6(h:46∉Lc X):B6 X Bv=false:=by
 cases q:B6 X Bv with
 |false=>rfl
 |true=>
  unfold B6 at q;rw[WC]at q;refine Bz q fun i A B=>?_;exact absurd (B2 (Qs (y:=Bv) (c:=46) (r:=[46,46]) rfl ⟨A,B⟩)) h
theorem TK(A:ws≠ [])(B:∀w∈ws,46∉Lc w):CI (BK Bv ws) Bv=ws:=
 (Je (y:=Bv) (c:=46) (r:=[46,46]) rfl A B (A0.mpr (AA (by decide+kernel) (Nq _)))).1
theorem MU(B:∀v∈w::A::ws,46∉Lc v)(X:Ax):Hq (BK Bv (w::A::ws)) X=Ik (w::A::ws) X:=by
 unfold Hq;rw[Xx,if_pos rfl,TK (by exact dc) B]
open Builtin Builtin.Str
structure GB(w:Wr):Prop where
 rl:w.row.length=10
 r5:∀c∈w.row,c<5
 two:∀c<5,∃r1 r2 r3,w.row=r1++c::(r2++c::r3)∧c∉r1∧c∉r2∧c∉r3
 h5:∀c∈w.hid,c<5
 hn:w.hid.Nodup
noncomputable def bB(m p:Nat):List Nat:=if Dz m p=0 then[] else[92]
theorem R8(m p c:Nat):eT m p c=bB m p++ [97+c]:=by unfold eT bB;split<;>rfl
theorem Jf(h:c<5):CN c=ch (97+c):=Kb (M8 h)
section
variable{hid:List Nat}{m b:Nat}
theorem OR(K:Nat):∀x∈(kT K).flatten,x=92∨x=34∨x=41:=by
 intro x hx
 match K,hx with
 |0,hx=>cases hx
 |1,hx=>replace hx:x∈ [92,34]:=hx;simp at hx;exact hx.imp_right .inl
 |2,hx=>cases hx
 |3,hx=>replace hx:x∈ [92,41]:=hx;simp at hx;exact hx.imp_right .inr
 |4,hx=>replace hx:x∈ [92,92]:=hx;simp at hx;exact h6 hx
 |n+5,hx=>cases hx
theorem Lb(p:Nat):∀x∈bB m p,x=92:=by
 intro x hx;unfold bB at hx;split at hx
 ·cases hx
 ·exact AI.mp hx
theorem Sx(w:Wr):∀x∈w.tl,x=92∨x=34∨x=40:=by
 intro x hx;unfold Wr.tl FC at hx
 match h:w.tn with
 |0=>rw[h]at hx;cases hx
 |1=>rw[h]at hx;have:x∈([34,40]:List Nat):=hx;simp at this;exact jh this
 |2=>rw[h]at hx;have:x∈([92]:List Nat):=hx;simp at this;exact h7 this
 |3=>rw[h]at hx;have:x∈([34]:List Nat):=hx;simp at this;exact iF this
 |n+4=>rw[h]at hx;cases hx
theorem Wq:∀(r:List Nat)(p:Nat),∀x∈(Ga hid m b p r).flatten,x=92∨x=34∨x=41∨∃c∈r,c∉hid∧x=97+c:=by
 intro A
 induction A with
 |nil=>
  intro p x hx;cases hx
 |cons c r B=>
  intro p x hx;rw[Ga.c2,BF,AR]at hx;rcases hx with hx|hx
  ·unfold NB at hx;rw[BF,AR]at hx;rcases hx with hx|hx
   ·exact(OR _ x hx).imp_right (·.imp_right .inl)
   ·split at hx
    ·cases hx
    ·rename_i D;rw[Bd,Eg,Ao,R8,AR,AI]at hx;rcases hx with hx|hx
     ·exact .inl (Lb p x hx)
     ·exact .inr (.inr (.inr ⟨c,AB,by simpa using D,hx⟩))
  ·rcases B (p+1) x hx with h|h|h|⟨d,E,F⟩
   ·exact .inl h
   ·exact .inr (.inl h)
   ·exact .inr (.inr (.inl h))
   ·exact .inr (.inr (.inr ⟨d,AG _ E,F⟩))
theorem GS{l:List Nat}(h:∀x∈l,x=92∨x=34∨x=41):l.count (97+j)=0:=BM.mpr fun A=>by have:=h _ A;exact lq this
theorem Kj{j:Nat}:∀(r:List Nat)(p:Nat),(Ga hid m b p r).flatten.count (97+j)=if hid.contains j then 0 else r.count j:=by
 intro B
 induction B with
 |nil=>
  intro p;simp[Ga.c1,Ga.c2]
 |cons c r D=>
  intro p;rw[Ga.c2,BF,A5,D (p+1)];unfold NB;rw[BF,A5,GS (OR _),Bw];by_cases A:hid.contains c=true
  ·rw[if_pos A];by_cases e:c=j
   ·subst e;rw[if_pos A,if_pos A];rfl
   ·simp[IE,e]
  ·rw[if_neg A,Bd,Eg,Ao,R8,A5,GS fun x hx=>.inl (Lb p x hx),Bw];by_cases e:c=j
   ·subst e;rw[if_neg A,if_neg A,Dd];simp[BQ]
   ·have E:97+c≠97+j:=gw e;simp[IE,e,E]
end
section
variable{w:Wr}
theorem Wr.left_sign(H:GB w):∀x∈Lc w.left,x=92∨x=34∨x=41∨x=40∨∃c∈w.row,c∉w.hid∧x=97+c:=by
 rw[w.left_text H.r5];intro x hx;rcases AR.mp hx with hx|hx
 ·rcases Wq w.row 0 x hx with h|h|h|h
  ·exact .inl h
  ·exact .inr (.inl h)
  ·exact .inr (.inr (.inl h))
  ·exact .inr (.inr (.inr (.inr h)))
 ·rcases Sx w x hx with h|h|h
  ·exact .inl h
  ·exact .inr (.inl h)
  ·exact .inr (.inr (.inr (.inl h)))
theorem Wr.left_two(H:GB w){c:Nat}(I:c<5)(J:c∉w.hid)(hr:w.row=E++c::(F++c::G))(L:c∉E)(N:c∉F)(O:c∉G):
  ∃A M B,Lc w.left=A++(97+c)::(M++(97+c)::B)∧97+c∉A∧97+c∉M∧97+c∉B∧∀j,M.count (97+j)=if w.hid.contains j then 0 else F.count j:=by
 have D:w.hid.contains c=false:=by simpa using J
 refine X3 ((Ga w.hid w.m w.b 0 E).flatten++((kT (kindOf w.b (0+E.length))).flatten++bB w.m (0+E.length))) ((Ga w.hid w.m w.b (0+E.length+1) F).flatten++((kT (kindOf w.b (0+E.length+1+F.length))).flatten++bB w.m (0+E.length+1+F.length))) ((Ga w.hid w.m w.b (0+E.length+1+F.length+1) G).flatten++w.tl) ⟨?_,?_,?_,?_,fun j=>?_⟩
 ·rw[w.left_text H.r5];unfold Wr.vis;rw[hr,RO,Ga.c2,RO,Ga.c2];unfold NB;rw[D];simp[R8]
 ·rw[←BM,A5,A5,Kj,D,GS (OR _),GS fun x hx=>.inl (Lb _ x hx),BM.mpr L];rfl
 ·rw[←BM,A5,A5,Kj,D,GS (OR _),GS fun x hx=>.inl (Lb _ x hx),BM.mpr N];rfl
 ·rw[←BM,A5,Kj,D,BM.mpr O];have:w.tl.count (97+c)=0:=BM.mpr fun P=>by have:=Sx w _ P;exact jL I this
  rw[this];rfl
 ·rw[A5,A5,Kj,GS (OR _),GS fun x hx=>.inl (Lb _ x hx)];rfl
theorem QS(X:Ax):Lc (CJ X (some (-1)) (some (-1+1)))=[]:=by
 have e:∀n:Nat,strSliceIndices (some (-1)) (some (-1+1)) 1 n=[]:=fun n=>by
  have A:¬((-1:Int)+1<0):=by decide
  unfold strSliceIndices dd;simp only[(by decide:(1:Int)>0),if_true,(by decide:(-1:Int)<0),A,if_false];rw[if_neg (Cp.mpr (Av (Int.max_le.mpr ⟨Wd 0,Int.min_le_left (-1+1) _⟩) (dU 0 _)))];rfl
 unfold CJ;rw[e];split
 ·rename_i h;have:X.length=0:=by simp at h;exact h.symm
  exact Hv this
 ·rfl
theorem Wr.piece_hid(H:GB w)(A:c<5)(D:c∈w.hid):Lc (Bs w.left c)=[]∧97+c∉Lc w.left:=by
 have hn:97+c∉Lc w.left:=fun E=>by
  rcases w.left_sign H _ E with h|h|h|h|⟨d,_,B,F⟩
  ·exact jI A h
  ·exact cw A h
  ·exact jJ A h
  ·exact jK A h
  ·have:d=c:=la F;rw[this]at B;exact B D
 unfold Bs;rw[Jf A,(UG hn).1,(UG hn).2];exact⟨QS _,hn⟩
theorem OJ(E:c<5)(D:Lc X=A++(97+c)::(M++(97+c)::B))(F:97+c∉A)(H:97+c∉M)(G:97+c∉B):Lc (Bs X c)=(97+c)::(M++ [97+c]):=by
 unfold Bs;rw[Jf E,Z' D F,XF (A:=A++(97+c)::M) (B:=B) (by rw[D];simp) G];have hl:=congrArg FS D;simp only[AQ,AP]at hl;rw[Co]at hl;rw[(by exact Yj:(((A++(97+c)::M).length:Nat):Int)+1=(((A++(97+c)::M).length+1:Nat):Int)),PW (by simp;exact fz) (by simp;exact iS hl),D,FG];have e:(97+c)::(M++(97+c)::B)=((97+c)::(M++ [97+c]))++B:=by simp
 rw[e,show(A++(97+c)::M).length+1-A.length=((97+c)::(M++ [97+c])).length by simp;exact ge,FF]
theorem KZ(h:a≠46):46∉Lc (ch a):=fun A=>h (AI.mp A).symm
theorem Nu(E:c<5)(X:Ax):Hq (FO c) X=(decide ((Lc X)[0]?=some (97+c)) && (decide ((Lc X).getLast?=some (97+c)) && decide (2≤X.length))):=by
 have e:FO c=BK Bv [CN c,CN c]:=rfl;rw[e,Jf E,MU (fun v F=>by simp at F;rw[F];exact KZ (SK E))];unfold Ik;rw[ID,if_neg (show¬(ch (97+c)).length=0 from Gr),Ms];by_cases A:(Lc X)[0]?=some (97+c)
 ·rw[if_pos (decide_eq_true A),decide_eq_true A,Hm];unfold Hp;rw[show([ch (97+c),ch (97+c)].tail.getLast?.getD Ai)=ch (97+c) from rfl];dsimp only;rw[if_neg (show¬(ch (97+c)).length=0 from Gr),UK];by_cases B:(Lc X).getLast?=some (97+c)
  ·rw[if_pos (decide_eq_true B),decide_eq_true B,Hm];have el:(ch (97+c)).length=1:=rfl;rw[el,show[ch (97+c),ch (97+c)].tail.dropLast=[] from rfl,DT.c1];by_cases D:2≤X.length
   ·rw[if_neg (Cp.mpr (RF (A3.mpr D))),decide_eq_true D]
   ·rw[if_pos (Int.sub_right_lt_of_lt_add (BR.mpr (JH.mp D))),decide_eq_false D]
  ·rw[if_neg (by rw[decide_eq_false B];decide),decide_eq_false B];rfl
 ·rw[if_neg (by rw[decide_eq_false A];decide),decide_eq_false A];rfl
theorem cL(D:c<5)(X:Ax):Hq (Bv++CN c++Bv) X=decide (97+c∈Lc X):=by
 have e:Bv++CN c++Bv=BK Bv [Ai,CN c,Ai]:=Kb (by
  rw[show BK Bv [Ai,CN c,Ai]=Ai++Bv++(CN c++Bv++Ai) from rfl];simp only[D0];rw[show Lc Ai=[] from rfl];simp)
 rw[e,Jf D,MU (fun v E=>by
  simp at E;rcases E with rfl|rfl|rfl
  ·intro q;cases q
  ·exact KZ (SK D)
  ·intro q;cases q)]
 unfold Ik;rw[ID,if_pos (show Ai.length=0 from rfl)];unfold Hp;rw[show([Ai,ch (97+c),Ai].getLast?.getD Ai)=Ai from rfl];dsimp only;rw[if_pos (show Ai.length=0 from rfl),if_neg (SI),DT.c2,DT.c2,DT.c2,DT.c1];have G:find4 X Ai 0 (X.length:Int)=0:=NK (lo:=0) (hi:=X.length) (BI _) (AK _);rw[G,if_neg dc,show(0:Int)+(Ai.length:Nat)=((0:Nat):Int) from rfl];rcases Jn X (ch (97+c)) (lo:=0) (hi:=X.length) (AK _) with⟨B,F⟩|⟨i,B,F,H,J⟩
 ·rw[B,if_pos dc,decide_eq_false];intro I;refine B8 (HV.mp I) fun i hi=>?_;exact F i (BI _) (LG.mpr hi)
 ·have A:=(Oh (AK _)).mp H;rw[B,if_neg (SI),decide_eq_true (B2 A.2),show((i:Nat):Int)+((ch (97+c)).length:Nat)=((i+1:Nat):Int) from rfl,NK A.1 (AK _),if_neg (Cp.mpr (AZ _))]
theorem YE(h:46∉Lc P):Hq P X=(P==X):=by
 unfold Hq;rw[T6 h,if_neg dc]
theorem R7(B:c<5)(E:j<5)(A:Lc X=(97+c)::(M++ [97+c]))(n:Nat):Hq (Hb c j n) X=decide (n≤M.count (97+j)):=by
 have e:Hb c j n=BK Bv (ch (97+c)::(Aq n (ch (97+j))++ [ch (97+c)])):=by unfold Hb;rw[KL,Jf B,Jf E]
 obtain⟨v,vs,D⟩:∃v vs,Aq n (ch (97+j))++ [ch (97+c)]=v::vs:=Ej (by simp);have hd:∀u∈ch (97+c)::(Aq n (ch (97+j))++ [ch (97+c)]),46∉Lc u:=fun u F=>by
  simp at F;rcases F with rfl|⟨_,rfl⟩|rfl
  ·exact KZ (SK B)
  ·exact KZ (SK E)
  ·exact KZ (SK B)
 rw[e,D,MU (by rw[←D];exact hd),←D];have hl:=congrArg FS A;simp only[AQ,AP,Fd]at hl;rw[Co]at hl;unfold Ik;rw[ID,if_neg (show¬(ch (97+c)).length=0 from Gr),Ms,if_pos (decide_eq_true (by rw[A];rfl)),List.tail_cons];unfold Hp;rw[(by simp:((Aq n (ch (97+j))++ [ch (97+c)]).getLast?.getD Ai)=ch (97+c))];dsimp only;rw[if_neg (show¬(ch (97+c)).length=0 from Gr),UK,if_pos (decide_eq_true (by rw[A,←Bg];exact Ll ..)),show(ch (97+c)).length=1 from rfl,if_neg (ib hl)];have:=Vi (X:=X) (a:=97+j) n [97+c] M [97+c] (by rw[A];rfl);rw[(by simp:(Aq n (ch (97+j))++ [ch (97+c)]).dropLast=Aq n (ch (97+j))),←this];congr 1;simp;exact ic hl
theorem Wr.nd(H:GB w)(D:c<5):46∉Lc (Bs w.left c):=by
 have hl:46∉Lc w.left:=fun E=>by
  rcases w.left_sign H _ E with h|h|h|h|⟨d,_,_,h⟩<;>first|exact absurd h dc|exact absurd h (BX (AF dc (AM 97 d)))
 refine IW (H.two c D) fun P Q R hr G I J=>?_;by_cases F:c∈w.hid
 ·rw[(w.piece_hid H D F).1];exact fun h=>(nomatch h)
 ·refine a0 (w.left_two H D F hr G I J) fun A M B e L N O _=>?_;rw[OJ D e L N O];intro E;refine hl ?_;rw[e];simp only[AN,AR,BH,or_false]at E⊢;rcases E with h|h|h
  ·exact .inr (.inl h)
  ·exact .inr (.inr (.inl h))
  ·exact .inr (.inl h)
theorem UX{x y:Ax}(h:x.length≠y.length):(x==y)=false:=beq_eq_false_iff_ne.mpr fun e=>h (by rw[e])
set_option maxHeartbeats 1000000 in
theorem Wr.told(H:GB w){c:Nat}(D:c<5):Gg w.left c=NA w.hid c:=by
 refine IW (H.two c D) fun b d f hr N O P=>?_;have hs:Lc (CN c)=[97+c]:=M8 D;have J:46∉Lc (CN c):=by rw[hs];simp;exact i5 D
 unfold Gg NA;rw[cL D,Nu D,YE (w.nd H D),YE J,Nu D,Nu D,Nu D,beq_self_eq_true];have Q:Lc (NX++Bs w.left c)=40::Lc (Bs w.left c):=D0 _ _;have R:Lc (Bs w.left c++NX)=Lc (Bs w.left c)++ [40]:=D0 _ _;have F:¬(some 40=some (97+c)):=by simp;exact i6 D
 have S:decide ((Lc (CN c))[0]?=some (97+c))=true:=by rw[hs];simp
 have L:decide (2≤(CN c).length)=false:=by rw[←Co,hs];rfl
 have T:decide ((Lc (NX++Bs w.left c))[0]?=some (97+c))=false:=by rw[Q];exact decide_eq_false F
 have U:decide ((Lc (Bs w.left c++NX)).getLast?=some (97+c))=false:=by rw[R,Ll];exact decide_eq_false F
 rw[S,L,T,U];by_cases I:c∈w.hid
 ·refine ER (w.piece_hid H D I) fun p1 V=>?_;have E:w.hid.contains c=true:=by simpa using I
  have q:(CN c==Bs w.left c)=false:=UX (by rw[←Co,←Co,hs,p1];exact Gr);rw[p1,decide_eq_false V,E,q];simp
 ·refine a0 (w.left_two H D I hr N O P) fun A M B e W Z a _=>?_;have E:w.hid.contains c=false:=by simpa using I
  have hp:=OJ D e W Z a;have G:(Bs w.left c).length=M.length+2:=by rw[←Co,hp];simp
  have q:(CN c==Bs w.left c)=false:=UX (by rw[G,←Co,hs];exact dc);have d1:decide ((Lc (Bs w.left c))[0]?=some (97+c))=true:=by rw[hp];simp
  have d2:decide ((Lc (Bs w.left c)).getLast?=some (97+c))=true:=by rw[hp,←Bg,Ll];simp
  rw[d1,d2,E,q,decide_eq_true (show 97+c∈Lc w.left by rw[e];simp),decide_eq_true (by exact iM G:2≤(Bs w.left c).length)];simp
theorem Wr.cnt(H:GB w)(D:c<5)(J:j<5)(hr:w.row=P++c::(F++c::Q))(R:c∉P)(S:c∉F)(T:c∉Q)(U:F.count j≤2):
  K5 w.left c j=if w.hid.contains c || w.hid.contains j then 0 else F.count j:=by
 unfold K5 pairD;by_cases L:c∈w.hid
 ·have E:w.hid.contains c=true:=by simpa using L
  refine ER (w.piece_hid H D L) fun p1 _=>?_;have N:∀n,Hq (Hb c j n) (Bs w.left c)=false:=fun n=>by
   have e:Hb c j n=BK Bv (ch (97+c)::(Aq n (ch (97+j))++ [ch (97+c)])):=by unfold Hb;rw[KL,Jf D,Jf J]
   obtain⟨v,vs,G⟩:∃v vs,Aq n (ch (97+j))++ [ch (97+c)]=v::vs:=Ej (by simp);rw[e,G,MU (by
    rw[←G];intro u O;simp at O;rcases O with rfl|⟨_,rfl⟩|rfl
    ·exact KZ (SK D)
    ·exact KZ (SK J)
    ·exact KZ (by exact SK D))]
   unfold Ik;rw[ID,if_neg (show¬(ch (97+c)).length=0 from Gr),Ms,p1];rw[if_neg (by exact dc)]
  rw[N,N,E];rfl
 ·have E:w.hid.contains c=false:=by simpa using L
  refine a0 (w.left_two H D L hr R S T) fun A M B e V W Z a=>?_;have hp:=OJ D e V W Z;rw[R7 D J hp 1,R7 D J hp 2,a j,E,Jz];by_cases I:w.hid.contains j=true
  ·rw[if_pos I];rfl
  ·rw[if_neg I];rcases(by exact ea U:F.count j=0∨F.count j=1∨F.count j=2) with q|q|q<;>rw[q]<;>rfl
end
open Builtin Builtin.Str
theorem Qf{c d:Nat}{A B D:List Nat}(G:c∉A)(H:c∉B)(I:c∉D)(hp:p<(A++c::(B++c::D)).length):(A++c::(B++c::D)).getD p d=c↔p=A.length∨p=A.length+1+B.length:=by
 rw[AE];simp only[AQ,AP]at hp;by_cases a:p<A.length
 ·rw[CE a,AL a];exact⟨fun e=>absurd (by rw[←e];exact BY a) G,fun q=>i3 a q⟩
 ·rw[BO (Yk a)];by_cases b:p=A.length
  ·subst b;rw[Dr];exact⟨fun E=>.inl rfl,fun E=>rfl⟩
  ·rw[(by exact(Cc (Ds (B' (Eh a) (Ne.symm b)))).symm:p-A.length=(p-A.length-1)+1),DA];by_cases e:p-A.length-1<B.length
   ·rw[CE e,AL e];exact⟨fun F=>absurd (by rw[←F];exact BY e) H,fun q=>g2 a b e q⟩
   ·rw[BO (A0.mp e)];by_cases f:p-A.length-1=B.length
    ·rw[f,Dr];exact⟨fun E=>.inr (g1 a b f),fun E=>rfl⟩
    ·rw[(by exact(Cc (Ds (B' (Eh e) (Ne.symm f)))).symm:p-A.length-1-B.length=(p-A.length-1-B.length-1)+1),DA];have g:p-A.length-1-B.length-1<D.length:=jY hp e f;rw[AL g];exact⟨fun F=>absurd (by rw[←F];exact BY g) I,fun q=>g3 a e f g q⟩
theorem LZ(hl:row.length=10)(hr:row=B++c::(D++c::J))(E:c∉B)(F:c∉D)(G:c∉J):placesOf row c=[B.length,B.length+1+D.length]:=by
 have A:=hl;rw[hr]at A;simp only[AQ,AP]at A;have H:(placesOf row c).Pairwise (· < ·):=by unfold placesOf;exact FV.filter _
 have I:[B.length,B.length+1+D.length].Pairwise (· < ·):=by simp;exact cV
 refine Eu (fun a b L L q M=>ct q M) H I ?_;rw[Dm (Jj H) (Jj I)];intro p;unfold placesOf;rw[CD,An,beq_iff_eq];simp only[AN,BH,or_false];constructor
 ·rintro⟨a,b⟩;rw[hr]at b;exact(Qf E F G (by simp;exact A▸a)).mp b
 ·intro q;refine⟨lE A q,?_⟩;rw[hr];exact(Qf E F G (by simp;exact lF A q)).mpr q
theorem UA(h:a<256):HR (ch a)=1:=by
 unfold HR ch;rw[if_pos];simpa using h
theorem b1(B:a<256)(hx:Lc x=pre++a::post)(D:a∉pre)(E:a∉post)(z:Ax):Lc (F5 x (ch a) z)=pre++(Lc z++post):=by
 have e:x=BK (ch a) [Mr pre,Mr post]:=Kb (by
  rw[hx,show BK (ch a) [Mr pre,Mr post]=Mr pre++ch a++Mr post from rfl,D0,D0];show _=pre++ [a]++post;simp)
 have hs:CI x (ch a)=[Mr pre,Mr post]:=by
  rw[e];refine(Je (y:=ch a) (c:=a) (r:=[]) rfl (by simp) (fun w A=>?_) (A0.mpr (by rw[UA B];exact Nq _))).1;simp at A;rcases A with rfl|rfl
  ·exact D
  ·exact E
 rw[show F5 x (ch a) z=BK z (CI x (ch a)) from Th x z a,hs,show BK z [Mr pre,Mr post]=Mr pre++z++Mr post from rfl,D0,D0,A8];rfl
theorem b0(A:a<256)(hx:a∉Lc x)(z:Ax):F5 x (ch a) z=x:=by
 have hs:CI (BK (ch a) [x]) (ch a)=[x]:=(Je (y:=ch a) (c:=a) (r:=[]) rfl (by exact dc) (fun w B=>by rw[AI.mp B];exact hx) (A0.mpr (by rw[UA A];exact Nq _))).1;rw[show F5 x (ch a) z=BK z (CI x (ch a)) from Th x z a,show x=BK (ch a) [x] from rfl,hs];rfl
theorem Xn(K:Nat):∀x∈(Cq (kS K)).flatten,x=34∨x=40∨x=41∨x=92:=by
 intro x hx;have key:∀l:List Nat,(Cq (kS K)).flatten=l→(∀y∈l,y=34∨y=40∨y=41∨y=92)→x=34∨x=40∨x=41∨x=92:=fun l e h=>h x (e▸hx)
 match K with
 |0=>exact key [] rfl (fun A h=>(nomatch h))
 |1=>exact key [92,34] rfl dc
 |2=>exact key [34,40,92,34,34] rfl dc
 |3=>exact key [92,41] rfl dc
 |4=>exact key [92,92] rfl dc
 |n+5=>exact key [] rfl (fun A h=>(nomatch h))
theorem Mx(hid:List Nat)(m b p c:Nat)(ex:List (List Nat)):∃pre post:List Nat,(Cq (F2 hid m b p c ex)).flatten=pre++(97+c)::(ex.flatten++post)∧(∀x∈pre,x=34∨x=40∨x=41∨x=92)∧(∀x∈post,x=34)∧∀A,(Cq (F2 hid m b p c A)).flatten=pre++(97+c)::(A.flatten++post):=by
 have e:∀A,(Cq (F2 hid m b p c A)).flatten=(Cq (kS (kindOf b p))).flatten++(ZW (hid.contains c,eT m p c::A)).flatten:=fun A=>by
  unfold F2;rw[Fs,BF];congr 1;show(ZW _++ []:List (List Nat)).flatten=_;rw[Ao]
 cases D:hid.contains c with
 |true=>
  have B:∀A,(Cq (F2 hid m b p c A)).flatten=((Cq (kS (kindOf b p))).flatten++34::bB m p)++(97+c)::(A.flatten++ [34]):=fun A=>by
   rw[e,D];show _++(([34]::((eT m p c::A)++ [[34]])):List (List Nat)).flatten=_;simp[R8]
  refine X2 _ _ ⟨B ex,fun x hx=>?_,fun x hx=>AI.mp hx,B⟩;rcases AR.mp hx with hx|hx
  ·exact Xn _ x hx
  ·rcases AN.mp hx with hx|hx
   ·exact .inl hx
   ·exact .inr (.inr (.inr (Lb p x hx)))
 |false=>
  have B:∀A,(Cq (F2 hid m b p c A)).flatten=((Cq (kS (kindOf b p))).flatten++bB m p)++(97+c)::(A.flatten++ []):=fun A=>by
   rw[e,D];show _++((eT m p c::A):List (List Nat)).flatten=_;simp[R8]
  refine X2 _ _ ⟨B ex,fun x hx=>?_,fun x hx=>(nomatch hx),B⟩;rcases AR.mp hx with hx|hx
  ·exact Xn _ x hx
  ·exact .inr (.inr (.inr (Lb p x hx)))
noncomputable def Qm(j:Nat)(w:Bool)(R:List Nat)(c:Nat):List (List Nat):=if c=j then[[K2 w (R.contains j)]] else[]
theorem Pc(A:c<5)(B:j<5):Lc (F5 (pieceOf hid m b p c) (CN j) (CN j++⟨#[K2 w (R.contains j)]⟩))=(Cq (F2 hid m b p c (Qm j w R c))).flatten:=by
 refine dZ (Mx hid m b p c []) fun pre post G D E F=>?_;rw[Jf B];have hx:Lc (pieceOf hid m b p c)=pre++(97+c)::post:=by rw[La A,G];rfl
 unfold Qm;by_cases e:c=j
 ·subst e;rw[if_pos rfl,F,b1 (ek A) hx (fun q=>by have:=D _ q;exact et A this) (fun q=>by have:=E _ q;exact cw A this),D0];rfl
 ·rw[if_neg e,F,b0 (ek B) fun q=>?_,hx]
  ·rfl
  ·rw[hx]at q;rcases AR.mp q with q|q
   ·have:=D _ q;exact et B this
   ·rcases AN.mp q with q|q
    ·exact gx e q
    ·have:=E _ q;exact cw B this
noncomputable def Vq(hid:List Nat)(m b j:Nat)(w:Bool):Nat→List Nat→List Nat→List Sg
 |_,_,[]=> []
 |p,R,c::r=>F2 hid m b p c (Qm j w R c)++Vq hid m b j w (p+1) (R++ [c]) r
theorem Vq.c2(hid:List Nat)(m b j:Nat)(w:Bool):Vq hid m b j w p R (c::r)=(F2 hid m b p c (Qm j w R c)++Vq hid m b j w (p+1) (R++ [c]) r):=rfl
theorem OI:∀(R:List Nat)(c:Nat)(r:List Nat)(q:Nat),(CQ hid m b q (R++c::r)).getD R.length Ai=pieceOf hid m b (q+R.length) c:=by
 intro A
 induction A with
 |nil=>
  intro c r q;exact rfl
 |cons d R B=>
  intro c r q;rw[Bg,CQ.c2,AP,Mi,B c r (q+1),A1,BQ 1]
theorem Pl(A:j<5):∀(r R S:List Nat),row=R++(r++S)→(∀c∈r,c<5)→(((Aw R.length r.length).map (LW row (CQ hid m b 0 row) j w)).map Lc).flatten=(Cq (Vq hid m b j w R.length R r)).flatten
 |[],R,S,_,_=>rfl
 |c::r,R,S,hr,h5=>by
  have e:LW row (CQ hid m b 0 row) j w R.length=F5 (pieceOf hid m b R.length c) (CN j) (CN j++⟨#[K2 w (R.contains j)]⟩):=by
   unfold LW;rw[(by rw[hr,FF]:row.take R.length=R)];congr 1;rw[hr,Bg,OI,Bw]
  rw[AP,C3,Ae,Ae,Bd,Vq.c2,Fs,BF,e,Pc (h5 c AB) A];congr 1;have:=Pl A (row:=row) (hid:=hid) (m:=m) (b:=b) (w:=w) r (R++ [c]) S (by rw[hr];simp) fun d hd=>h5 d (AG _ hd);rw[(by simp:(R++ [c]).length=R.length+1)]at this;exact this
noncomputable def Rt(t:List Nat):Bool:=t==[40] || t==[41]
noncomputable def Jr:List (List Nat)→Int→Option Int
 |[],o=>some o
 |t::r,o=>if t=[40] then Jr r (o+1) else if t=[41] then(if o-1<0 then none else Jr r (o-1)) else Jr r o
theorem Jr.c2:Jr (t::r) o=(if t=[40] then Jr r (o+1) else if t=[41] then(if o-1<0 then none else Jr r (o-1)) else Jr r o):=rfl
theorem YO:∀(A:List (List Nat))(i:Nat)(o:Int),FP (Fi i A) o=Jr A o:=by
 intro B
 induction B with
 |nil=>
  intro i o;exact rfl
 |cons t A D=>
  intro i o;have E:(Mr t=NX)=(t=[40]):=propext ⟨fun h=>congrArg Lc h,fun h=>by rw[h];rfl⟩;have F:(Mr t=Tx)=(t=[41]):=propext ⟨fun h=>congrArg Lc h,fun h=>by rw[h];rfl⟩;rw[Fi.c2,FP.c2,Jr.c2];simp only[E,F,D]
theorem TP:∀(A:List (List Nat))(o:Int),Jr A o=Jr (A.filter Rt) o:=by
 intro B
 induction B with
 |nil=>
  intro o;exact rfl
 |cons t A D=>
  intro o;by_cases a:t=[40]
  ·subst a;rw[BN dc,Jr.c2,Jr.c2,if_pos rfl,if_pos rfl,D]
  ·by_cases b:t=[41]
   ·subst b;rw[BN dc,Jr.c2,if_neg a,if_pos rfl,D,Jr.c2,if_neg a,if_pos rfl]
   ·rw[Bo (by simp[Rt,a,b]),Jr.c2,if_neg a,if_neg b,D]
noncomputable def brk(hid:List Nat)(j:Nat)(w:Bool):List Nat→List Nat→List (List Nat)
 |_,[]=> []
 |R,c::r=>(if hid.contains c then[] else Qm j w R c)++brk hid j w (R++ [c]) r
theorem brk.c2(hid:List Nat)(j:Nat)(w:Bool):brk hid j w R (c::r)=((if hid.contains c then[] else Qm j w R c)++brk hid j w (R++ [c]) r):=rfl
theorem eE(K:Nat):(kT K).filter Rt=[]:=by
 match K with
 |0=>rfl
 |1=>rfl
 |2=>rfl
 |3=>rfl
 |4=>rfl
 |n+5=>rfl
theorem eJ:Rt (eT m p c)=false:=by
 unfold eT Rt;split
 ·have A:¬(97+c=40):=fy;have B:¬(97+c=41):=fx;simp[A,B]
 ·simp
theorem cJ:(Qm j w R c).filter Rt=Qm j w R c:=by
 rw[Ck];intro t A;unfold Qm at A;split at A
 ·rw[AI.mp A];unfold K2;split<;>rfl
 ·cases A
theorem aR:∀(r:List Nat)(p:Nat)(R:List Nat),(FW (Vq hid m b j w p R r)).filter Rt=brk hid j w R r:=by
 intro A
 induction A with
 |nil=>
  intro p R;exact rfl
 |cons c r B=>
  intro p R;rw[Vq.c2,JK,Be,Pi,Be,eE,Br,B,brk.c2];congr 1;split
  ·rfl
  ·rw[Bo (by rw[eJ];decide),cJ]
section
variable{hid:List Nat}{j:Nat}{w:Bool}
theorem aP(h:hid.contains j=true):∀(r R:List Nat),brk hid j w R r=[]:=by
 intro A
 induction A with
 |nil=>
  intro R;exact rfl
 |cons c r B=>
  intro R;rw[brk.c2,B,Ao];unfold Qm;by_cases e:c=j
  ·rw[e,if_pos h]
  ·rw[if_neg e];split<;>rfl
theorem Oc(e:c≠j)(r R:List Nat):brk hid j w R (c::r)=brk hid j w (R++ [c]) r:=by
 rw[brk.c2];unfold Qm;rw[if_neg e];split<;>rfl
theorem UQ(h:hid.contains j=false)(r R:List Nat):brk hid j w R (j::r)=[K2 w (R.contains j)]::brk hid j w (R++ [j]) r:=by
 rw[brk.c2,h];unfold Qm;rw[if_neg dc,if_pos rfl];rfl
theorem bJ:∀(r R:List Nat),r.count j=0→brk hid j w R r=[]:=by
 intro A
 induction A with
 |nil=>
  intro R _;exact rfl
 |cons c r D=>
  intro R h;have B:=BM.mp h;simp only[AN,not_or]at B;rw[Oc (fun e=>B.1 e.symm),D _ (BM.mpr B.2)]
theorem bI(h:hid.contains j=false):∀(r R:List Nat),r.count j=1→∃x,(x=40∨x=41)∧brk hid j w R r=[[x]]∧(j∈R→x=K2 w true):=by
 intro A
 induction A with
 |nil=>
  intro R e;cases e
 |cons c r D=>
  intro R e;by_cases q:c=j
  ·subst q;rw[Dd]at e;rw[UQ h,bJ r _ (j2 e)];refine⟨_,?_,rfl,fun B=>by rw[(by simpa using B:R.contains c=true)]⟩;unfold K2;split
   ·exact .inr rfl
   ·exact .inl rfl
  ·rw[C6 q]at e;rw[Oc q];refine K8 (D (R++ [c]) e) fun x E F G=>?_;exact⟨x,E,F,fun B=>G (AC _ B)⟩
theorem eL(h:hid.contains j=false):∀(r R:List Nat),r.count j=2→j∉R→brk hid j w R r=[[K2 w false],[K2 w true]]:=by
 intro A
 induction A with
 |nil=>
  intro R e _;cases e
 |cons c r E=>
  intro R e D;by_cases q:c=j
  ·subst q;rw[Dd]at e;rw[UQ h];refine K8 (bI h (w:=w) r (R++ [c]) (j1 e)) fun x _ F G=>?_;rw[F,G (Ak _ AB),(by simpa using D:R.contains c=false)]
  ·rw[C6 q]at e;rw[Oc q];exact E (R++ [c]) e (fun B=>(AR.mp B).elim D fun B=>q (AI.mp B).symm)
end
open Builtin Builtin.Str
noncomputable def Wr.pieces(w:Wr):List Ax:=CQ w.hid w.m w.b 0 w.row
noncomputable def dV(y:Bool)(c:Nat):List Sg:=if y then[(false,[[c]])] else[]
theorem MB(y:Bool)(c:Nat):(Cq (dV y c)).flatten=if y then[c] else[]:=by cases y<;>rfl
theorem T0(y:Bool)(c:Nat):FW (dV y c)=if y then[[c]] else[]:=by cases y<;>rfl
theorem XH(h:c=40∨c=41):∀g∈dV y c,PD g:=by
 intro g A;unfold dV at A;split at A
 ·rw[AI.mp A];intro t B;rw[AI.mp B];rcases h with rfl|rfl
  ·exact⟨.inl ⟨40,rfl,dc⟩,dc⟩
  ·exact⟨.inl ⟨41,rfl,dc⟩,dc⟩
 ·cases A
theorem cI:∀t∈Qm j y R c,Tok t∧t≠ [34]:=by
 intro t A;unfold Qm at A;split at A
 ·rw[AI.mp A];unfold K2;split
  ·exact⟨.inl ⟨41,rfl,dc⟩,dc⟩
  ·exact⟨.inl ⟨40,rfl,dc⟩,dc⟩
 ·cases A
theorem cR:∀(r:List Nat)(p:Nat)(R:List Nat),(∀c∈r,c<5)→∀g∈Vq hid m b j y p R r,PD g:=by
 intro B
 induction B with
 |nil=>
  intro p R _ g A;exact(nomatch A)
 |cons c r D=>
  intro p R h g A;rcases AR.mp A with A|A
  ·exact Ra (h c AB) cI g A
  ·exact D (p+1) _ (fun d hd=>h d (AG _ hd)) g A
theorem aC:∀x∈(Qm j y R c).flatten,x=40∨x=41:=by
 intro x hx;unfold Qm at hx;split at hx
 ·rw[Bd,Eg,Ao,AI]at hx;rw[hx];unfold K2;split
  ·exact .inr rfl
  ·exact .inl rfl
 ·cases hx
theorem aS:∀(r:List Nat)(p:Nat)(R:List Nat),(∀c∈r,c<5)→∀x∈(Cq (Vq hid m b j y p R r)).flatten,x<128:=by
 intro A
 induction A with
 |nil=>
  intro p R _ x hx;exact(nomatch hx)
 |cons c r B=>
  intro p R h x hx;rw[Vq.c2,Fs,BF,AR]at hx;rcases hx with hx|hx
  ·refine dZ (Mx hid m b p c (Qm j y R c)) fun pre post D E F _=>?_;have G:=h c AB;rw[D]at hx;rcases AR.mp hx with hx|hx
   ·have:=E x hx;exact ji this
   ·rcases AN.mp hx with hx|hx
    ·exact hx▸AF (Dy G 97) dc
    ·rcases AR.mp hx with hx|hx
     ·have:=aC x hx;exact jg this
     ·have:=F x hx;exact iD this
  ·exact B (p+1) _ (fun d hd=>h d (AG _ hd)) x hx
theorem Sw:∀G:List Sg,(FW G).flatten.length≤(Cq G).flatten.length
 |[]=>AK _
 |(h,A)::G=>by
  have eT:Cq ((h,A)::G)=ZW (h,A)++Cq G:=rfl;have B:FW ((h,A)::G)=bx (h,A)++FW G:=rfl;have D:=Sw G;rw[eT,B,BF,BF,AQ,AQ];have:(bx (h,A)).flatten.length≤(ZW (h,A)).flatten.length:=by
   cases h with
   |true=>exact BI _
   |false=>exact AK _
  exact BA this D
theorem Tl.nil:Tl []:=Tl.tail 0
section
variable{w:Wr}
theorem Wr.text_segs(H:GB w)(N:c<5)(I:j<5)(y:Bool)(hr:w.row=A++c::(D++c::F))(J:c∉A)(L:c∉D)(M:c∉F):
  ∃G,Lc (Cz w.row w.hid w.pieces (c,j,e) y)=(Cq G).flatten∧(∀g∈G,PD g)∧(∀x∈(Cq G).flatten,x<128)∧(FW G).filter Rt=(if y then[[40]] else[])++((if w.hid.contains c then[] else brk w.hid j y (A++ [c]) D)++if y then[[41]] else[]):=by
 have hp:=LZ H.rl hr J L M;have h5:∀d∈D,d<5:=fun d hd=>H.r5 d (by rw[hr];simp[hd]);have E:((if w.hid.contains c then[] else(Aw (A.length+1) D.length).map (LW w.row w.pieces j y)).map Lc).flatten=(Cq (if w.hid.contains c then[] else Vq w.hid w.m w.b j y (A.length+1) (A++ [c]) D)).flatten:=by
  by_cases q:w.hid.contains c=true
  ·rw[if_pos q,if_pos q];rfl
  ·rw[if_neg q,if_neg q];have:=Pl I (hid:=w.hid) (m:=w.m) (b:=w.b) (w:=y) (row:=w.row) D (A++ [c]) (c::F) (by rw[hr];simp) h5;rw[(by simp:(A++ [c]).length=A.length+1)]at this;exact this
 refine⟨dV y 40++((if w.hid.contains c then[] else Vq w.hid w.m w.b j y (A.length+1) (A++ [c]) D)++dV y 41),?_,?_,?_,?_⟩
 ·unfold Cz Ts Ie FM EI;rw[hp];show Lc ((if y=true then NX else Ai)++Cf "" (if w.hid.contains c=true then[] else(Aw (A.length+1) (A.length+1+D.length-(A.length+1))).map (LW w.row w.pieces j y))++(if y=true then Tx else Ai))=_;rw[CX,D0,D0,Kr,E,Fs,Fs,BF,BF,MB,MB,A8];cases y<;>rfl
 ·intro g B;rcases AR.mp B with B|B
  ·exact XH (.inl rfl) g B
  ·rcases AR.mp B with B|B
   ·split at B
    ·cases B
    ·exact cR D _ _ h5 g B
   ·exact XH (.inr rfl) g B
 ·intro x hx;rw[Fs,Fs,BF,BF,MB,MB,AR,AR]at hx;rcases hx with hx|hx|hx
  ·split at hx
   ·rw[AI.mp hx];decide
   ·cases hx
  ·split at hx
   ·cases hx
   ·exact aS D _ _ h5 x hx
  ·split at hx
   ·rw[AI.mp hx];decide
   ·cases hx
 ·rw[JK,JK,Be,Be,T0,T0];congr 1
  ·cases y<;>rfl
  ·congr 1
   ·by_cases q:w.hid.contains c=true
    ·rw[if_pos q,if_pos q];rfl
    ·rw[if_neg q,if_neg q,aR]
   ·cases y<;>rfl
theorem Tz{H:GB w}{j:Nat}(D:j<5)(y:Bool)(hp:p<10):(LW w.row w.pieces j y p).length≤60:=by
 have A:p<w.row.length:=by rw[H.rl];exact hp
 obtain⟨R,c,r,hr,E⟩:∃R c r,w.row=R++c::r∧R.length=p:=X3 (w.row.take p) (w.row[p]) (w.row.drop (p+1)) ⟨by rw[Tk,HU],by rw[CC];exact IM (Aa A)⟩;have B:=H.r5 c (by rw[hr];exact Ak _ (.head _));subst E;have e:LW w.row w.pieces j y R.length=F5 (pieceOf w.hid w.m w.b R.length c) (CN j) (CN j++⟨#[K2 y (R.contains j)]⟩):=by
  unfold LW Wr.pieces;rw[(by rw[hr,FF]:w.row.take R.length=R)];congr 1;rw[hr,OI,Bw]
 have hl:=Kl (hid:=w.hid) (m:=w.m) (b:=w.b) [c] R.length (pieceOf w.hid w.m w.b R.length c) (by rw[CQ.c2];exact AB);rw[e,←Co,Pc B D];refine dZ (Mx w.hid w.m w.b R.length c []) fun pre post F _ _ G=>?_;rw[←Co,La B,F]at hl;rw[G];simp only[AQ,AP,Eg,Fd]at hl⊢;have:(Qm j y R c).flatten.length≤1:=by unfold Qm;split<;>simp
 exact lH hl this
theorem Pq:∀{l:List Ax},(∀x∈l,x.length≤60)→(Cf "" l).length≤l.length*60:=by
 intro l h;rw[←Co,Kr]
 induction l with
 |nil=>exact BI _
 |cons a l A=>
  have B:=h a AB;have D:=A fun x hx=>h x (AG _ hx);rw[Ae,Bd,AQ,Co,AP,Nat.succ_mul];exact hI B D
theorem Wr.text_len(H:GB w){c j e:Nat}(E:c<5)(F:j<5)(y:Bool):(Cz w.row w.hid w.pieces (c,j,e) y).length≤700:=by
 refine IW (H.two c E) fun A B O hr G I J=>?_;have hp:=LZ H.rl hr G I J;have hl:=H.rl;rw[hr]at hl;simp only[AQ,AP]at hl;unfold Cz Ts Ie FM EI;rw[hp];show((if y=true then NX else Ai)++Cf "" (if w.hid.contains c=true then[] else(Aw (A.length+1) (A.length+1+B.length-(A.length+1))).map (LW w.row w.pieces j y))++(if y=true then Tx else Ai)).length≤700;rw[CX,A2,A2];have L:(if y=true then NX else Ai).length≤1:=by cases y<;>decide
 have M:(if y=true then Tx else Ai).length≤1:=by cases y<;>decide
 have N:(Cf "" (if w.hid.contains c=true then[] else(Aw (A.length+1) B.length).map (LW w.row w.pieces j y))).length≤600:=by
  split
  ·exact BI _
  ·have:=Pq (l:=(Aw (A.length+1) B.length).map (LW w.row w.pieces j y)) fun x hx=>by
    refine Bz (AU.mp hx) fun p hp D=>?_;subst D;have:=C8.mp hp;exact Tz (H:=H) F y (lG hl this)
   rw[AH,Gs]at this;exact lD hl this
 exact AA (BA (BA L N) M) dc
noncomputable def fS:Option Int→Bool
 |none=>false
 |some o=>o==0
theorem Wr.text_ok(H:GB w)(N:c<5)(O:j<c)(y:Bool)(hr:w.row=J++c::(D++c::Q))(R:c∉J)(S:c∉D)(T:c∉Q)(A:w.row.count j=2):
  D8 (Cz w.row w.hid w.pieces (c,j,K5 w.left c j) y)=M3 (K5 w.left c j) y (Cz w.row w.hid w.pieces (c,j,K5 w.left c j) y):=by
 refine Tc (w.text_segs H (e:=K5 w.left c j) N (TX N O:j<5) y hr R S T) fun G V U b W=>?_;have I:c≠j:=CU O;have P:J.count j+(D.count j+Q.count j)=2:=by
  rw[hr]at A;rw[A5,C6 I,A5,C6 I]at A;exact A
 have F:=w.cnt H N (TX N O:j<5) hr R S T (by exact c7 P);have L:G5 (Cz w.row w.hid w.pieces (c,j,K5 w.left c j) y)=fS (Jr ((if y then[[40]] else[])++((if w.hid.contains c then[] else brk w.hid j y (J++ [c]) D)++if y then[[41]] else[])) 0):=by
  unfold G5;have hs:=LU U Tl.nil (by rw[Ao];exact V);rw[Ao]at hs;have Z:K4 (Cs (Cz w.row w.hid w.pieces (c,j,K5 w.left c j) y))=Fi 0 (FW G):=by
   unfold K4;rw[show(Cs (Cz w.row w.hid w.pieces (c,j,K5 w.left c j) y)).cps.toList=(FW G).flatten++ [] by rw[Ao];exact hs,Qn _ _ _ fun t a=>(RQ U t a).1,CA.c2,Ao]
  rw[Z,YO,TP,W];generalize Jr _ 0=z;cases z<;>rfl
 unfold D8;rw[L];unfold M3;by_cases E:w.hid.contains c=true
 ·rw[F,E,Bool.true_or,if_pos (rfl:true=true),if_pos (rfl:true=true)];cases y<;>rfl
 ·have E:w.hid.contains c=false:=by simpa using E
  rw[F,E,if_neg EE,Jz];by_cases B:w.hid.contains j=true
  ·rw[B,if_pos (rfl:true=true),aP B];cases y<;>rfl
  ·have B:w.hid.contains j=false:=by simpa using B
   rw[B,if_neg EE];rcases(by exact j5 P:D.count j=0∨D.count j=1∨D.count j=2) with q|q|q
   ·rw[q,bJ D _ q];cases y<;>rfl
   ·refine K8 (bI B (w:=y) D (J++ [c]) q) fun x hx hb _=>?_;rw[q,hb];rcases hx with rfl|rfl<;>cases y<;>rfl
   ·have hn:j∉J++ [c]:=fun M=>by
     rcases AR.mp M with M|M
     ·have:=Gu.mpr M;exact j6 P q this
     ·exact I (AI.mp M).symm
    rw[q,eL B D _ q hn];cases y<;>rfl
end
theorem RP(left:Ax):(Dp left).length=10:=by unfold Dp;simp
theorem Ww(h:t∈Dp left):t.2.2=K5 left t.1 t.2.1:=by
 unfold Dp at h;refine Bz (Ef.mp h) fun l hl B=>?_;refine Bz (AU.mp hl) fun c _ A=>?_;subst A;refine Bz (AU.mp B) fun j _ A=>?_;subst A;rfl
section
variable{w:Wr}
theorem Wr.count2(H:GB w)(A:j<5):w.row.count j=2:=by
 refine IW (H.two j A) fun F G I hr B D E=>?_;rw[hr,A5,Dd,A5,Dd,BM.mpr B,BM.mpr D,BM.mpr E]
theorem Wr.br(H:GB w):SN w.row w.hid w.pieces (Dp w.left) where
 rl:=H.rl
 r5:=H.r5
 h5:=fun c O=>Aa (H.h5 c O)
 pl:=by unfold Wr.pieces;rw[Jh,H.rl]
 pb:=fun x hx=>AA (Kl w.row 0 x hx) dc
 ll:=by rw[RP];decide
 tr:=fun t D=>by
  refine ER (KM D) fun A B=>?_;refine IW (H.two t.1 A) fun E L M hr F I J=>?_;have hp:=LZ H.rl hr F I J;have hl:=H.rl;rw[hr]at hl;simp only[AQ,AP]at hl;unfold FM EI;rw[hp];refine⟨A,TX A B,rfl,?_,?_⟩
  ·show E.length<E.length+1+L.length;exact cV
  ·show E.length+1+L.length<10;exact lC hl
 rb:=fun j P y p hp=>Tz (H:=H) P y hp
 st:=fun t D y=>by
  refine ER (KM D) fun A B=>?_;refine IW (H.two t.1 A) fun E L M hr F I J=>?_;refine Tc (w.text_segs H (e:=t.2.2) A (by exact TX A B:t.2.1<5) y hr F I J) fun G N Q _ _=>?_;have hs:=LU Q Tl.nil (by rw[Ao];exact N);have hl:=w.text_len H (e:=t.2.2) A (by exact TX A B:t.2.1<5) y;rw[←Co,N]at hl;rw[←Co];show(Lc (Cs (Cz w.row w.hid w.pieces (t.1,t.2.1,t.2.2) y))).length≤1000;rw[hs,Ao];have:=Sw G;exact AA this (AA hl dc)
 ok:=fun t D y=>by
  refine ER (KM D) fun A B=>?_;refine IW (H.two t.1 A) fun E L M hr F I J=>?_;have:=w.text_ok H A B y hr F I J (w.count2 H (TX A B));rw[←Ww D]at this;exact this
theorem Wr.basc(H:GB w):∀t∈Dp w.left,∀y,WA (Cz w.row w.hid w.pieces t y):=fun t B y=>by
 refine ER (KM B) fun A D=>?_;refine IW (H.two t.1 A) fun M N O hr E F I=>?_;refine Tc (w.text_segs H (e:=t.2.2) A (by exact TX A D:t.2.1<5) y hr E F I) fun G J _ L _=>?_;intro x hx;have:=L x (by rw[←J];exact hx);exact AA this dc
theorem Wr.whole_len(H:GB w):w.whole.length≤602:=by
 unfold Wr.whole;rw[A2];have B:=OA w.tn;have A:=Pq (l:=CQ w.hid w.m w.b 0 w.row) fun x hx=>AA (Kl w.row 0 x hx) dc;rw[Jh,H.rl]at A;exact BA A B
theorem Wr.left_len(H:GB w):w.left.length≤900:=by
 have A:=w.whole_len H;have D:Lc w.whole=(Cq (Mu w.hid w.m w.b 0 w.row)).flatten++w.tl:=by
  unfold Wr.whole;rw[D0,Kr,RT w.row 0 H.r5];rfl
 have E:=w.left_text H.r5;have B:=Sw (Mu w.hid w.m w.b 0 w.row);rw[QV]at B;rw[←Co,D,AQ]at A;rw[←Co,E,AQ];have F:w.vis.flatten.length≤(Cq (Mu w.hid w.m w.b 0 w.row)).flatten.length:=B;exact AA (Bf F _) (AA A dc)
theorem RZ:∀(A:List (List Nat))(i:Nat),∀q∈Fi i A,∃t∈A,q.2=Mr t:=by
 intro B
 induction B with
 |nil=>
  intro i q h;exact(nomatch h)
 |cons t A D=>
  intro i q h;rcases AN.mp h with rfl|h
  ·exact⟨t,AB,rfl⟩
  ·refine Bz (D _ q h) fun u E e=>?_;exact⟨u,AG _ E,e⟩
theorem Wr.asc(H:GB w):∀q∈Es 0 w.units,WA q.2:=fun q D=>by
 rw[w.due H.r5]at D;refine Bz (RZ _ _ q D) fun t A e=>?_;intro x hx;rw[e]at hx;have hx:x∈t:=hx;have hl:x∈Lc w.left:=by
  rw[w.left_text H.r5];rcases AR.mp A with A|A
  ·exact AC _ (Ef.mpr ⟨t,A,hx⟩)
  ·refine Bz (AU.mp A) fun y E B=>?_;subst B;rw[AI.mp hx];exact Ak _ E
 rcases w.left_sign H x hl with h|h|h|h|⟨d,F,_,h⟩
 ·exact h4 h
 ·exact iE h
 ·exact iB h
 ·exact iC h
 ·have:=H.r5 d F;exact h▸AF (Dy this 97) dc
theorem Wr.dots(H:GB w):Q7 w.left w.hid where
 len:=w.left_len H
 hid5:=fun c A=>Aa (H.h5 c A)
 nd:=fun c A=>T6 (w.nd H A)
 told:=fun c A=>w.told H A
end
open Builtin Builtin.Str
noncomputable def De(hid:List Nat)(m:Nat):Nat→List Nat→List En
 |_,[]=> []
 |p,c::r=>(if hid.contains c then[] else[(c,decide (Dz m p≠0))])++De hid m (p+1) r
theorem De.c2(hid:List Nat)(m:Nat):De hid m p (c::r)=((if hid.contains c then[] else[(c,decide (Dz m p≠0))])++De hid m (p+1) r):=rfl
noncomputable def Wr.ends(w:Wr):List En:=De w.hid w.m 0 w.row
noncomputable def Cu(hid:List Nat)(c:Nat):Bool:= !hid.contains c
noncomputable def Wr.lets(w:Wr):List Nat:=w.row.filter (Cu w.hid)
section
variable{hid:List Nat}{m b:Nat}
theorem MT:∀(r:List Nat)(p:Nat),(De hid m p r).map (·.1)=r.filter (Cu hid):=by
 intro A
 induction A with
 |nil=>
  intro p;exact rfl
 |cons c r B=>
  intro p;rw[De.c2,Ac,B];cases h:hid.contains c with
  |true=>rw[if_pos rfl,Bo (by unfold Cu;rw[h];decide)];rfl
  |false=>rw[if_neg dc,BN (by unfold Cu;rw[h];rfl)];rfl
theorem R6:∀(r A:List Nat)(p:Nat),De hid m p (r++A)=De hid m p r++De hid m (p+r.length) A:=by
 intro B
 induction B with
 |nil=>
  intro A p;exact rfl
 |cons c r D=>
  intro A p;rw[Bg,De.c2,De.c2,D A,A8,AP,A1,BQ 1]
theorem dy(h:c<5):uS (c,decide (Dz m p≠0))=Mr (eT m p c):=Kb (by
 show Lc ((if decide (Dz m p≠0)=true then Lr else Ai)++CN c)=eT m p c;rw[D0,M8 h];unfold eT;by_cases q:Dz m p=0
 ·rw[if_pos q,if_neg (by simp[q])];rfl
 ·rw[if_neg q,if_pos (by simp[q])];rfl)
noncomputable def OO(t:List Nat):Bool:=B6 Ls (T' (Mr t))
theorem Po(x:Nat):OO [x]=decide (x∈([97,98,99,100,101]:List Nat)):=Mn Ls x
theorem Ko(x:Nat):OO [92,x]=decide (x∈([97,98,99,100,101]:List Nat)):=Mn Ls x
theorem VV(h:c<5):OO (eT m p c)=true:=by
 have A:97+c∈([97,98,99,100,101]:List Nat):=by simp;exact i9 h
 unfold eT;split
 ·rw[Po];exact decide_eq_true A
 ·rw[Ko];exact decide_eq_true A
theorem Xk(K:Nat):(kT K).filter OO=[]:=by
 rw[Cy];intro t A
 match K,A with
 |0,A=>cases A
 |1,A=>rw[AI.mp A,Ko];decide
 |2,A=>cases A
 |3,A=>rw[AI.mp A,Ko];decide
 |4,A=>rw[AI.mp A,Ko];decide
 |n+5,A=>cases A
theorem Ws:∀(r:List Nat)(p:Nat),(∀c∈r,c<5)→((Ga hid m b p r).filter OO).map Mr=(De hid m p r).map uS:=by
 intro A
 induction A with
 |nil=>
  intro p _;exact rfl
 |cons c r D=>
  intro p h;have B:=h c AB;rw[Ga.c2,De.c2,Be,Ac,Ac,D (p+1) fun d hd=>h d (AG _ hd)];congr 1;unfold NB;rw[Be,Xk,Br];cases hid.contains c with
  |true=>rfl
  |false=>
   rw[if_neg EE,if_neg EE,BN (VV B),I_,dy B];rfl
noncomputable def PR(k:Nat)(t:List Nat):Bool:=Mr t==Lr++CN k
theorem N'(A:k<5)(t:List Nat):PR k t=decide (t=[92,97+k]):=by
 unfold PR;rw[CK,beq_iff_eq,decide_eq_true_iff];constructor
 ·intro h;have:=congrArg Lc h;rw[D0,M8 A]at this;exact this
 ·intro h;apply Kb;rw[D0,M8 A,h];rfl
theorem ZO(D:k<5)(K:Nat):(kT K).countP (PR k)=0:=by
 rw[EX];intro t A;rw[N' D];have B:∀x,x<97→¬(decide (([92,x]:List Nat)=[92,97+k])=true):=fun x hx=>by simp;exact BX (AF hx (AM 97 _))
 match K,A with
 |0,A=>cases A
 |1,A=>rw[AI.mp A];exact B 34 dc
 |2,A=>cases A
 |3,A=>rw[AI.mp A];exact B 41 dc
 |4,A=>rw[AI.mp A];exact B 92 dc
 |n+5,A=>cases A
theorem Uy(B:k<5):∀(r:List Nat)(p:Nat),(Ga hid m b p r).countP (PR k)=(De hid m p r).countP fun e=>e==(k,true):=by
 intro A
 induction A with
 |nil=>
  intro p;exact rfl
 |cons c r D=>
  intro p;rw[Ga.c2,De.c2,DI,DI,D (p+1)];congr 1;unfold NB;rw[DI,ZO B,Bw];cases hid.contains c with
  |true=>rfl
  |false=>
   rw[if_neg EE,if_neg EE,ED,PK,ED,PK];congr 1;rw[N' B];have:decide (eT m p c=[92,97+k])=((c,decide (Dz m p≠0))==(k,true)):=by
    rw[CK,decide_eq_true_iff,beq_iff_eq,GJ,decide_eq_true_iff];unfold eT;by_cases q:Dz m p=0
    ·rw[if_pos q];simp[q]
    ·rw[if_neg q];simp[q]
   rw[this]
end
theorem NF(f:List Nat→Bool)(g:Nat×Ax→Bool)(h:∀i t,g (i,Mr t)=f t):∀(A:List (List Nat))(i:Nat),((Fi i A).filter g).map (·.2)=(A.filter f).map Mr:=by
 intro B
 induction B with
 |nil=>
  intro i;exact rfl
 |cons t A D=>
  intro i;rw[Fi.c2];cases q:f t with
  |true=>rw[BN (by rw[h];exact q),BN q,Ae,Ae,D]
  |false=>rw[Bo (by rw[h,q];decide),Bo (by rw[q];decide),D]
section
variable{w:Wr}
theorem PU(h:∀x,x=92∨x=34∨x=40→f [x]=false):(w.tl.map fun c=> [c]).filter f=[]:=by
 rw[Cy];intro t B;refine Bz (AU.mp B) fun x hx A=>?_;subst A;rw[h x (Sx w x hx)];decide
theorem Wr.lets_eq:w.ends.map (·.1)=w.lets:=MT _ _
theorem Wr.ends_due(H:GB w):((Es 0 w.units).filter fun q=>B6 Ls (T' q.2)).map (·.2)=w.ends.map uS:=by
 rw[w.due H.r5,NF OO _ (fun A A=>rfl),Be,Ac,PU fun x hx=>by rw[Po];rcases hx with rfl|rfl|rfl<;>decide];show((w.vis.filter OO).map Mr)++ []=_;rw[Ao];exact Ws w.row 0 H.r5
theorem Wr.turned(H:GB w)(A:k<5):El w.units k=(w.ends.countP fun e=>e==(k,true)) % 2:=by
 unfold El;have B:=congrArg FS (NF (PR k) (fun q=>q.2==Lr++CN k) (fun D D=>rfl) (w.vis++w.tl.map fun c=> [c]) 0);rw[AH,AH,Be,PU fun x hx=>by rw[N' A];simp,Ao]at B;rw[w.due H.r5,B,←PL,show w.vis.countP (PR k)=_ from Uy A w.row 0];rfl
theorem Wr.due_len(H:GB w):∀q∈Es 0 w.units,q.2.length≠0∧q.2.length≤1000:=fun q D=>by
 rw[w.due H.r5]at D;refine Bz (RZ _ _ q D) fun t A e=>?_;have hl:t.length=1∨t.length=2:=by
  rcases AR.mp A with A|A
  ·rcases(w.vis_ok H.r5 t A).1 with⟨c,rfl,_⟩|⟨c,rfl⟩
   ·exact .inl rfl
   ·exact .inr rfl
  ·refine Bz (AU.mp A) fun x _ B=>?_;subst B;exact .inl rfl
 rw[e,←Co,dB];exact jj hl
theorem YD(q:Nat):(CF w.ends q).1=w.lets.getD q 5:=by
 rw[←w.lets_eq];unfold CF;rw[AE,AE,BD];cases w.ends[q]?<;>rfl
theorem Wr.lets_len:w.lets.length=w.ends.length:=by rw[←w.lets_eq,AH]
theorem Wr.lets_two(H:GB w)(G:k<5)(B:k∉w.hid)(hr:w.row=D++k::(E++k::F)):w.lets=D.filter (Cu w.hid)++k::(E.filter (Cu w.hid)++k::F.filter (Cu w.hid)):=by
 have A:Cu w.hid k=true:=by unfold Cu;simpa using B
 unfold Wr.lets;rw[hr,Be,BN A,Be,BN A]
theorem Wr.let_of(H:GB w)(A:q<w.ends.length):(CF w.ends q).1<5∧(CF w.ends q).1∉w.hid:=by
 have B:(CF w.ends q).1∈w.lets:=by
  rw[←w.lets_eq];exact CY (JQ A)
 have h:=CD.mp B;refine⟨H.r5 _ h.1,fun D=>?_⟩;have:=h.2;unfold Cu at this;simp[D]at this
structure V4(w:Wr)(k a b:Nat):Prop where
 lt:a<b
 bl:b<w.ends.length
 iff:∀q<w.ends.length,(CF w.ends q).1=k↔q=a∨q=b
theorem Wr.pos2(H:GB w)(F:k<5)(G:k∉w.hid)(hr:w.row=D++k::(E++k::I))(J:k∉D)(L:k∉E)(M:k∉I):
  V4 w k (D.filter (Cu w.hid)).length ((D.filter (Cu w.hid)).length+1+(E.filter (Cu w.hid)).length):=by
 have e:=w.lets_two H F G hr;have hl:=w.lets_len;have A:=congrArg FS e;simp only[AQ,AP]at A;refine⟨cV,h0 hl A,fun q N=>?_⟩;rw[YD,e];exact Qf (fun B=>J (CD.mp B).1) (fun B=>L (CD.mp B).1) (fun B=>M (CD.mp B).1) (by simp only[AQ,AP];exact h1 hl A N)
theorem Wr.at2(H:GB w)(A:k<5)(B:k∉w.hid):∃a b,V4 w k a b:=by
 refine IW (H.two k A) fun G I J hr D E F=>?_;exact X2 _ _ (w.pos2 H A B hr D E F)
theorem Wr.chd(H:GB w):Mk w.ends where
 ok:={
  len:=by rw[←w.lets_len];exact AA (CR _ _) (BC H.rl)
  l5:=fun e G=>by
   refine B8 (HV.mp G) fun q B=>?_;have I:=(B4.mp B).1;have:=(w.let_of H I).1;unfold CF at this;rw[AE,B]at this;exact this
  two:=fun p hp=>by
   refine ER (w.let_of H hp) fun h5 J=>?_;refine P3 (w.at2 H h5 J) fun a b P=>?_;have D:=(P.iff p hp).mp rfl;have E:∀q,q<w.ends.length→q≠p→(CF w.ends q).1=(CF w.ends p).1→q∈Fj w.ends p:=fun q B L G=>by
    unfold Fj;rw[CD,An,A7,bne_iff_ne,beq_iff_eq];exact⟨B,L,G⟩
   have A:=P.lt;have F:=P.bl;intro hn;rcases D with e|e
   ·have:=E b F (e▸CU A) ((P.iff b F).mpr (.inr rfl));rw[hn]at this;cases this
   ·have:=E a (B7 A (e▸hp)) (io A e) ((P.iff a (B7 A (e▸hp))).mpr (.inl rfl));rw[hn]at this;cases this}
 uq:=fun p hp q B r hr M N O Q R=>by
  refine ER (w.let_of H hp) fun h5 J=>?_;refine P3 (w.at2 H h5 J) fun a b P=>?_;have S:=(P.iff p hp).mp rfl;have T:=(P.iff q B).mp M.symm;have U:=(P.iff r hr).mp (M.trans N).symm;exact gq O Q R S T U
theorem Wr.ends_ok(H:GB w):Ta w.units w.ends:=⟨w.due_len H,w.ends_due H,(w.chd H).ok⟩
end
noncomputable def dz(n:Nat→Nat→Nat):List I4:=([0,1,2,3,4].map fun c=>(AW c).map fun j=>(c,j,n c j)).flatten
theorem T1(t:I4)(L:List I4)(k:Nat):FD (t::L) k=(if GO k t then 2^(t.1+t.2.1-k) else 0)+FD L k:=by
 unfold FD;cases h:GO k t with
 |true=>rw[BN h,if_pos rfl,Ae,Gd]
 |false=>rw[Bo (by rw[h];decide),if_neg dc,Bw]
noncomputable def bt(b:Bool)(n:Nat):Nat:=if b then n else 0
noncomputable def Sz(k:Nat)(A B b2 b3 b4:Bool)(t:Nat):Nat:=(if k=0 then 0 else bt A 1)+(if k=1 then 0 else bt B 2)+(if k=2 then 0 else bt b2 4)+(if k=3 then 0 else bt b3 8)+(if k=4 then 0 else bt b4 16)+2^k*t
theorem d'(h:(k==c || k==j)=false):(if GO k (c,j,n) then v else 0)=0:=by unfold GO;rw[(h:(k==(c,j,n).1 || k==(c,j,n).2.1)=false),FI];rfl
theorem d_(h:(k==c || k==j)=true):(if GO k (c,j,n) then v else 0)=bt (n==1) v:=by unfold GO bt;rw[(h:(k==(c,j,n).1 || k==(c,j,n).2.1)=true),DY]
noncomputable def cr(n:Nat→Nat→Nat)(k j:Nat):Bool:=n (max k j) (Uq k j)==1
theorem Ph(h:(k==c || k==j)=true)(e:FD L k=s):FD ((c,j,n)::L) k=bt (n==1) (2^(c+j-k))+s:=by rw[T1,d_ h,e]
theorem Lq(h:(k==c || k==j)=false)(e:FD L k=s):FD ((c,j,n)::L) k=s:=by rw[T1,d' h,e,Bw]
theorem d9(h:FD L k=s)(g:s+u=r):FD L k+u=r:=by rw[h];exact g
theorem ko(a b c d e:Nat):a+(b+(c+(d+0)))+e=0+a+b+c+d+e:=by simp only[Du,Bw,A1]
theorem kn(a b c d e:Nat):a+(b+(c+(d+0)))+e=a+0+b+c+d+e:=by simp only[Du,Bw,A1]
theorem km(a b c d e:Nat):a+(b+(c+(d+0)))+e=a+b+0+c+d+e:=by simp only[Du,Bw,A1]
theorem kl(a b c d e:Nat):a+(b+(c+(d+0)))+e=a+b+c+0+d+e:=by simp only[Du,Bw,A1]
theorem kj(a b c d e:Nat):a+(b+(c+(d+0)))+e=a+b+c+d+0+e:=by simp only[Du,Bw,A1]
theorem bp(n:Nat→Nat→Nat)(t:Nat)(A:k<5):FD (dz n) k+2^k*t=Sz k (cr n k 0) (cr n k 1) (cr n k 2) (cr n k 3) (cr n k 4) t:=by
 have e:dz n=[(1,0,n 1 0),(2,0,n 2 0),(2,1,n 2 1),(3,0,n 3 0),(3,1,n 3 1),(3,2,n 3 2),(4,0,n 4 0),(4,1,n 4 1),(4,2,n 4 2),(4,3,n 4 3)]:=rfl;rw[e]
 match k,A with
 |0,_=>exact d9 (Ph rfl (Ph rfl (Lq rfl (Ph rfl (Lq rfl (Lq rfl (Ph rfl (Lq rfl (Lq rfl (Lq rfl rfl)))))))))) (ko ..)
 |1,_=>exact d9 (Ph rfl (Lq rfl (Ph rfl (Lq rfl (Ph rfl (Lq rfl (Lq rfl (Ph rfl (Lq rfl (Lq rfl rfl)))))))))) (kn ..)
 |2,_=>exact d9 (Lq rfl (Ph rfl (Ph rfl (Lq rfl (Lq rfl (Ph rfl (Lq rfl (Lq rfl (Ph rfl (Lq rfl rfl)))))))))) (km ..)
 |3,_=>exact d9 (Lq rfl (Lq rfl (Lq rfl (Ph rfl (Ph rfl (Ph rfl (Lq rfl (Lq rfl (Lq rfl (Ph rfl rfl)))))))))) (kl ..)
 |4,_=>exact d9 (Lq rfl (Lq rfl (Lq rfl (Lq rfl (Lq rfl (Lq rfl (Ph rfl (Ph rfl (Ph rfl (Ph rfl rfl)))))))))) (kj ..)
theorem U4:∀k<5,∀A B b2 b3 b4:Bool,∀t<2,Sz k A B b2 b3 b4 t<32∧(Sz k A B b2 b3 b4 t).testBit 0=(if k=0 then decide (t=1) else A)∧(Sz k A B b2 b3 b4 t).testBit 1=(if k=1 then decide (t=1) else B)∧(Sz k A B b2 b3 b4 t).testBit 2=(if k=2 then decide (t=1) else b2)∧
  (Sz k A B b2 b3 b4 t).testBit 3=(if k=3 then decide (t=1) else b3)∧(Sz k A B b2 b3 b4 t).testBit 4=(if k=4 then decide (t=1) else b4):=by decide+kernel
theorem tab_bits(n:Nat→Nat→Nat)(A:k<5)(B:t<2):FD (dz n) k+2^k*t<32∧∀j<5,(FD (dz n) k+2^k*t).testBit j=if k=j then decide (t=1) else cr n k j:=by
 rw[bp n t A];refine mA (U4 k A (cr n k 0) (cr n k 1) (cr n k 2) (cr n k 3) (cr n k 4) t B) fun h D E F G H=>?_;refine⟨h,fun j I=>?_⟩
 match j,I with
 |0,_=>exact D
 |1,_=>exact E
 |2,_=>exact F
 |3,_=>exact G
 |4,_=>exact H
theorem a9(a:Nat):∀n,xr (fun q=>decide (a=q)) n=decide (a<n):=by
 intro A
 induction A with
 |zero=>
  exact rfl
 |succ n B=>
  rw[xr.c2,B];rcases HB a n with h|h|h
  ·rw[decide_eq_true h,decide_eq_false (BX h),decide_eq_true (By h)];rfl
  ·rw[decide_eq_false (eb h),decide_eq_true h,decide_eq_true (ec h)];rfl
  ·rw[decide_eq_false (ig h),decide_eq_false (cq h),decide_eq_false (A0.mpr h)];rfl
section
variable{w:Wr}
theorem Mw(P:V4 w k a b)(hn:n≤w.ends.length):xr (NY w.ends k) n=(decide (a<n)^^decide (b<n)):=by
 rw[←a9,←a9,←Mo];refine Dv fun q E=>?_;have h:=P.iff q (cZ hn E);have D:=P.lt;unfold NY;by_cases A:a=q
 ·rw[decide_eq_true (h.mpr (.inl A.symm)),decide_eq_true A,decide_eq_false (iw D A)];rfl
 ·by_cases B:b=q
  ·rw[decide_eq_true (h.mpr (.inr B.symm)),decide_eq_false A,decide_eq_true B];rfl
  ·rw[decide_eq_false (fun r=>(h.mp r).elim (fun r=>A r.symm) fun r=>B r.symm),decide_eq_false A,decide_eq_false B];rfl
theorem T9(j:Nat):∀n≤w.ends.length,xr (NY w.ends j) n=decide ((w.lets.take n).count j % 2=1):=by
 intro A
 induction A with
 |zero=>
  intro _;simp[xr.c1,xr.c2]
 |succ n B=>
  intro hn;have hl:n<w.lets.length:=by rw[w.lets_len];exact c5 hn
  rw[xr.c2,B (Aa hn),List.take_succ_eq_append_getElem hl,A5];have e:NY w.ends j n=decide (w.lets[n]=j):=by
   unfold NY;rw[YD,AE,AL hl];rfl
  rw[e];by_cases q:w.lets[n]=j
  ·rw[decide_eq_true q,q,List.count_singleton_self];by_cases r:(w.lets.take n).count j % 2=1
   ·rw[decide_eq_true r,decide_eq_false (fun h=>by rw[Jy,r]at h;exact absurd h dc)];rfl
   ·rw[decide_eq_false r,decide_eq_true (im hl r)];rfl
  ·rw[decide_eq_false q,EJ,(BM.mpr fun h=>q (AI.mp h).symm:[w.lets[n]].count j=0),Du]
theorem Wr.between(H:GB w)(G:k<5)(I:k∉w.hid)(hr:w.row=A++k::(B++k::E))(J:k∉A)(L:k∉B)(M:k∉E)(F:k≠j):
  (xr (NY w.ends j) ((A.filter (Cu w.hid)).length+1+(B.filter (Cu w.hid)).length)^^xr (NY w.ends j) ((A.filter (Cu w.hid)).length+1))=decide ((B.filter (Cu w.hid)).count j % 2=1):=by
 have e:=w.lets_two H G I hr;have hl:=w.lets_len;have D:=congrArg FS e;simp only[AQ,AP]at D;rw[T9 j _ (hy hl D),T9 j _ (hw hl D)];have t1:w.lets.take ((A.filter (Cu w.hid)).length+1+(B.filter (Cu w.hid)).length)=A.filter (Cu w.hid)++k::B.filter (Cu w.hid):=by
  rw[e,(by simp:A.filter (Cu w.hid)++k::(B.filter (Cu w.hid)++k::E.filter (Cu w.hid))=(A.filter (Cu w.hid)++k::B.filter (Cu w.hid))++k::E.filter (Cu w.hid))];exact PH (by simp;exact aX)
 have t2:w.lets.take ((A.filter (Cu w.hid)).length+1)=A.filter (Cu w.hid)++ [k]:=by
  rw[e,(by simp:A.filter (Cu w.hid)++k::(B.filter (Cu w.hid)++k::E.filter (Cu w.hid))=(A.filter (Cu w.hid)++ [k])++(B.filter (Cu w.hid)++k::E.filter (Cu w.hid)))];exact PH (by simp)
 rw[t1,t2,A5,A5,C6 F,(BM.mpr fun h=>F (AI.mp h).symm:[k].count j=0),Du];generalize (A.filter (Cu w.hid)).count j=x;generalize (B.filter (Cu w.hid)).count j=y;by_cases p:(x+y) % 2=1
 ·by_cases q:x % 2=1
  ·rw[decide_eq_true p,decide_eq_true q,decide_eq_false (fun h=>absurd p (by rw[Jy,q,h];decide))];rfl
  ·rw[decide_eq_true p,decide_eq_false q,decide_eq_true (lm p q)];rfl
 ·by_cases q:x % 2=1
  ·rw[decide_eq_false p,decide_eq_true q,decide_eq_true ((CB _).resolve_left fun h=>p (by rw[Jy,q,h]))];rfl
  ·rw[decide_eq_false p,decide_eq_false q,decide_eq_false (fun h=>p (by rw[Jy,h,(CB _).resolve_right q]))];rfl
theorem TO(a b:Nat):decide (a<b+1)= !decide (b<a):=by rw[←decide_not];exact decide_eq_decide.mpr (Nat.lt_succ_iff.trans A0.symm)
theorem Vp(P:V4 w k a b)(Q:V4 w j A B)(h:k≠j):(xr (NY w.ends j) b^^xr (NY w.ends j) (a+1))=(xr (NY w.ends k) B^^xr (NY w.ends k) (A+1)):=by
 have p1:=P.lt;have F:=P.bl;have G:=Q.lt;have E:=Q.bl;have ne:∀x y,(x=a∨x=b)→(y=A∨y=B)→x≠y:=fun x y hx H e=>by
  subst e;have D:x<w.ends.length:=iv G E H;exact h (((P.iff x D).mpr hx).symm.trans ((Q.iff x D).mpr H))
 have I:=ne a A (.inl rfl) (.inl rfl);have S:=ne a B (.inl rfl) (.inr rfl);have T:=ne b A (.inr rfl) (.inl rfl);have J:=ne b B (.inr rfl) (.inr rfl);rw[Mw Q (cs F),Mw Q (B7 p1 F),Mw P (cs E),Mw P (B7 G E)];have d1:decide (A<a+1)= !decide (a<A):=TO A a;have d2:decide (B<a+1)= !decide (a<B):=TO B a;have d3:decide (A<b)= !decide (b<A+1):=by rw[TO b A,Bool.not_not]
 have d4:decide (B<b)= !decide (b<B):=by rw[←decide_not];exact decide_eq_decide.mpr ⟨Ky,fun h=>B' (A0.mp h) (Ne.symm J)⟩
 have L:decide (a<A+1)=decide (a<A):=decide_eq_decide.mpr ⟨fun h=>B' (A9 h) I,By⟩;rw[d1,d2,d3,d4,L];generalize decide (a<A)=M;generalize decide (a<B)=N;generalize decide (b<A+1)=O;generalize decide (b<B)=R;revert M N O R;decide
theorem Wr.told_cross(H:GB w){c j:Nat}(E:c<5)(N:j<5)(A:c≠j)(I:c∉w.hid){a b:Nat}(P:V4 w c a b):(K5 w.left c j==1)=(xr (NY w.ends j) b^^xr (NY w.ends j) (a+1)):=by
 refine IW (H.two c E) fun O B U hr J L M=>?_;have F:=w.pos2 H E I hr J L M;have D:a=(O.filter (Cu w.hid)).length∧b=(O.filter (Cu w.hid)).length+1+(B.filter (Cu w.hid)).length:=by
  have p1:=P.lt;have G:=P.bl;have R:=F.lt;have V:=F.bl;have x:=(F.iff a (V1 p1 G)).mp ((P.iff a (by exact V1 p1 G)).mpr (.inl rfl));have y:=(F.iff b G).mp ((P.iff b G).mpr (.inr rfl));exact iu p1 R x y
 rw[D.1,D.2,w.between H E I hr J L M A];have Q:B.count j≤2:=by
  have:=w.count2 H N;rw[hr,A5,C6 A,A5,C6 A]at this;exact c7 this
 rw[w.cnt H E N hr J L M Q,(by simpa using I:w.hid.contains c=false),Jz];by_cases q:w.hid.contains j=true
 ·have:(B.filter (Cu w.hid)).count j=0:=BM.mpr fun S=>by
   have:=(CD.mp S).2;unfold Cu at this;rw[q]at this;cases this
  rw[if_pos q,this];rfl
 ·have T:Cu w.hid j=true:=by unfold Cu;simpa using q
  rw[if_neg q,List.count_filter T];rcases(by exact ea Q:B.count j=0∨B.count j=1∨B.count j=2) with r|r|r<;>rw[r]<;>rfl
theorem Wr.told_hid(H:GB w)(B:c<5)(D:j<5)(A:c≠j)(E:c∈w.hid∨j∈w.hid):K5 w.left c j=0:=by
 refine IW (H.two c B) fun M F N hr G I J=>?_;have L:F.count j≤2:=by
  have:=w.count2 H D;rw[hr,A5,C6 A,A5,C6 A]at this;exact c7 this
 rw[w.cnt H B D hr G I J L,if_pos];rw[E0];exact E.imp (fun h=>by simpa using h) fun h=>by simpa using h
noncomputable def Wr.tab(w:Wr):List Nat:=tableOf (Dp w.left) w.units
theorem Wr.tab_at(A:k<5):w.tab.getD k 0=FD (dz (K5 w.left)) k+2^k*El w.units k:=by
 unfold Wr.tab tableOf;rw[AE,BD,Mh A];rfl
theorem ZN(U:List Ax)(k:Nat):El U k<2:=by unfold El;exact gH
theorem Wr.tab_bits(w:Wr)(A:k<5):w.tab.getD k 0<32∧∀j<5,(w.tab.getD k 0).testBit j=if k=j then decide (El w.units k=1) else cr (K5 w.left) k j:=by
 rw[w.tab_at A];exact Internal.tab_bits _ A (ZN _ _)
theorem Wr.turns(H:GB w)(G:k<5)(M:k∉w.hid)(hp:p<w.ends.length)(F:(CF w.ends p).1=k):decide (El w.units k=1)=decide (Dl w.ends p=1):=by
 refine IW (H.two k G) fun A B N hr O Q R=>?_;have P:=w.pos2 H G M hr O Q R;have I:w.hid.contains k=false:=by simpa using M
 have J:w.ends=De w.hid w.m 0 A++(k,decide (Dz w.m (0+A.length)≠0))::(De w.hid w.m (0+A.length+1) B++(k,decide (Dz w.m (0+A.length+1+B.length)≠0))::De w.hid w.m (0+A.length+1+B.length+1) N):=by
  unfold Wr.ends;rw[hr,R6,De.c2,R6,De.c2,I];rfl
 have S:(De w.hid w.m 0 A).length=(A.filter (Cu w.hid)).length:=by rw[←MT,AH]
 have D:(De w.hid w.m (0+A.length+1) B).length=(B.filter (Cu w.hid)).length:=by rw[←MT,AH]
 have L:∀(r:List Nat)(q:Nat),k∉r→(De w.hid w.m q r).countP (fun e=>e==(k,true))=0:=fun r q h=>by
  rw[EX];intro e F hb;rw[beq_iff_eq]at hb;have:e.1∈(De w.hid w.m q r).map (·.1):=CY F;rw[MT,hb]at this;exact h (CD.mp this).1
 have E:El w.units k=((if decide (Dz w.m (0+A.length)≠0) then 1 else 0)+(if decide (Dz w.m (0+A.length+1+B.length)≠0) then 1 else 0)) % 2:=by
  rw[w.turned H G,J,DI,ED,DI,ED,L A _ O,L B _ Q,L N _ R];generalize decide (Dz w.m (0+A.length)≠0)=x;generalize decide (Dz w.m (0+A.length+1+B.length)≠0)=y;have e:∀z:Bool,((k,z)==(k,true))=z:=fun z=>by
   rw[CK,beq_iff_eq,GJ];exact⟨fun h=>h.2,fun h=>⟨rfl,h⟩⟩
  rw[e,e];exact gZ
 have T:CF w.ends (A.filter (Cu w.hid)).length=(k,decide (Dz w.m (0+A.length)≠0)):=by
  unfold CF;rw[J,←S,AE,BO (AK _),Dr];rfl
 have U:CF w.ends ((A.filter (Cu w.hid)).length+1+(B.filter (Cu w.hid)).length)=(k,decide (Dz w.m (0+A.length+1+B.length)≠0)):=by
  unfold CF;rw[J,←S,←D,AE,BO (by exact he D),(by exact hg D:(De w.hid w.m 0 A).length+1+(De w.hid w.m (0+A.length+1) B).length-(De w.hid w.m 0 A).length=(De w.hid w.m (0+A.length+1) B).length+1),DA,BO (AK _),Dr];rfl
 have C:=w.chd H;refine Ny (C.oth hp) fun Z V a W=>?_;have x:=(P.iff p hp).mp F;have y:=(P.iff _ Z).mp (a.trans F);have p1:=P.lt;rw[E];unfold Dl;rcases x with x|x
 ·rw[(by exact hk D V W y x:A6 w.ends p=(A.filter (Cu w.hid)).length+1+(B.filter (Cu w.hid)).length),x,T,U];cases decide (Dz w.m (0+A.length)≠0)<;>cases decide (Dz w.m (0+A.length+1+B.length)≠0)<;>rfl
 ·rw[(by exact hm D V W y x:A6 w.ends p=(A.filter (Cu w.hid)).length),x,T,U];cases decide (Dz w.m (0+A.length)≠0)<;>cases decide (Dz w.m (0+A.length+1+B.length)≠0)<;>rfl
theorem Wr.law(H:GB w):IB w.ends w.tab w.hid where
 t5:=by unfold Wr.tab tableOf;rw[AH,Bm]
 t32:=fun o R=>(w.tab_bits R).1
 row:=fun p hp B j F=>by
  refine ER (w.let_of H hp) fun A G=>?_;refine P3 (w.at2 H A G) fun a b P=>?_;refine Ny ((w.chd H).oth hp) fun L Z S M=>?_;have x:=(P.iff p hp).mp rfl;have y:=(P.iff _ L).mp S;have p1:=P.lt;have J:p=a:=by exact iq B M x y p1
  have E:A6 w.ends p=b:=by exact ip B M y J
  rw[(w.tab_bits A).2 j F];by_cases q:(CF w.ends p).1=j
  ·rw[if_pos q,w.turns H A G hp rfl,decide_eq_true q,Hm,←q,E,Mw P (by have:=P.bl;exact E▸Aa L),Mw P (by exact hp),←J,decide_eq_true (by exact E▸B:p<b),decide_eq_false (As b),decide_eq_true (Az p),decide_eq_false (by exact A0.mpr (E▸B):¬b<p+1)];rw[show((true^^false)^^(true^^false))=false from rfl,G7]
  ·rw[if_neg q,decide_eq_false q,G8,EJ,E,(by exact hu M J:p+1=a+1)];unfold cr;rcases JI q with g|g
   ·rw[bf (Aa g),IM (Aa g)];by_cases D:j∈w.hid
    ·rw[w.told_hid H F A (fun e=>q e.symm) (.inl D)];have z:∀n≤w.ends.length,xr (NY w.ends j) n=false:=fun n hn=>by
      rw[Dv (g:=NY w.ends j) (h:=fun c=>false) fun q T=>decide_eq_false fun e=>(w.let_of H (by exact cZ hn T:q<w.ends.length)).2 (e▸D),HE]
     rw[z b (by have:=P.bl;exact E▸Aa L),z (a+1) (by have:=P.bl;exact J▸hp)];rfl
    ·refine P3 (w.at2 H F D) fun d f Q=>?_;rw[w.told_cross H F A (fun e=>q e.symm) D Q,←Vp P Q q]
   ·rw[dN (Aa g),be (Aa g)];exact w.told_cross H A F q G P
 hrow:=fun k A I=>by
  refine ER (w.tab_bits A) fun U V=>?_;apply DJ;intro i;rw[Bp];by_cases h5:i<5
  ·rw[V i h5];by_cases q:k=i
   ·have z:El w.units k=0:=by
     rw[w.turned H A,EX.mpr fun e W hb=>?_];rw[beq_iff_eq]at hb;refine B8 (HV.mp W) fun p hp=>?_;have N:=(B4.mp hp).1;have:=(w.let_of H N).2;unfold CF at this;rw[AE,hp,hb]at this;exact this I
    rw[if_pos q,z];rfl
   ·rw[if_neg q];unfold cr;rcases JI q with g|g
    ·rw[bf (Aa g),IM (Aa g),w.told_hid H h5 A (fun e=>q e.symm) (.inr I)];rfl
    ·rw[dN (Aa g),be (Aa g),w.told_hid H A h5 q (.inl I)];rfl
  ·exact Cb (AF U (Bq (n:=2) (i:=5) dc (cY h5)))
 hd:=fun k A=>by
  constructor
  ·intro I p hp e;exact(w.let_of H hp).2 (e▸I)
  ·intro h;refine Cr fun G=>?_;refine P3 (w.at2 H A G) fun a b P=>?_;have p1:=P.lt;have O:=P.bl;exact h a (V1 p1 O) ((P.iff a (V1 p1 O)).mpr (.inl rfl))
 nd:=H.hn
 lt:=H.h5
end
theorem bo{c:Nat}(h:l.count c=2):∃B D E,l=B++c::(D++c::E)∧c∉B∧c∉D∧c∉E:=by
 refine K7 (JA (Gu.mp (iG h:0<l.count c))) fun B s A F=>?_;subst A;rw[A5,Dd,BM.mpr F]at h;refine K7 (JA (Gu.mp (lh h:0<s.count c))) fun D E A G=>?_;subst A;rw[A5,Dd,BM.mpr G]at h;exact X3 B D E ⟨rfl,F,G,BM.mp (li h)⟩
theorem X1:∀l:List Nat,((AW l.length).filter fun i=>l.getD i 0==5).length=l.count 5:=by
 intro A
 induction A with
 |nil=>
  exact rfl
 |cons a l B=>
  have B:=B;rw[AP,Kh,IE];have e:((WJ Nat.succ (AW l.length)).filter fun i=>(a::l).getD i 0==5).length=l.count 5:=by
   rw[C1,AH,←B];rfl
  by_cases h:a=5
  ·rw[BN (by simp[h]),AP,e,if_pos (by simp[h])]
  ·rw[Bo (by simp[h]),e,if_neg (by simp[h])];rfl
structure V2(k:Nat)(row:List Nat):Prop where
 l:row.length=10
 f:row.count 5=10-2*k
 c:∀c<5,row.count c=if c<k then 2 else 0
 m:∀c∈row,c≤5
theorem PY{l:List Nat}(h:i<l.length)(hi:l.getD i 0=5):(l.set i a).count b+(if 5=b then 1 else 0)=l.count b+if a=b then 1 else 0:=by
 rw[List.set_eq_take_append_cons_drop,if_pos h,A5,IE];have e:l=l.take i++5::l.drop (i+1):=by
  have A:l[i]=5:=by rw[AE,AL h]at hi;exact hi
  rw[←A,Tk,HU]
 have B:l.count b=(l.take i).count b+((l.drop (i+1)).count b+if 5=b then 1 else 0):=by
  conv=>lhs;rw[e]
  rw[A5,IE];simp
 rw[B];simp only[beq_iff_eq];exact gT
theorem W4{k:Nat}(H:V2 k row)(F:k<5)(d:Nat):V2 (k+1) (EK row d k).1:=by
 have B:(freeOf row).length=10-2*k:=by
  unfold freeOf;have:=X1 row;rw[H.l]at this;rw[this,H.f]
 have hs:(freeOf row).Pairwise (· < ·):=by unfold freeOf;exact FV.filter _
 have E:∀x∈freeOf row,x<10∧row.getD x 0=5:=fun x hx=>by
  unfold freeOf at hx;have:=CD.mp hx;exact⟨An.mp this.1,by simpa using this.2⟩
 have A:1+d % ((freeOf row).length-1)<(freeOf row).length:=by
  have:=CO d (by exact jF F B:0<(freeOf row).length-1);exact BQ _ 1▸WY this
 obtain⟨a,G⟩:∃a,(freeOf row).getD 0 0=a:=⟨_,rfl⟩;obtain⟨b,hb⟩:∃b,(freeOf row).getD (1+d % ((freeOf row).length-1)) 0=b:=⟨_,rfl⟩;have J:(freeOf row)[0]'(cp B A)=a:=by rw[AE,AL (cp B A)]at G;exact G
 have L:(freeOf row)[1+d % ((freeOf row).length-1)]=b:=by rw[AE,AL A]at hb;exact hb
 have I:a<b:=by
  rw[←J,←L];exact List.pairwise_iff_getElem.mp hs 0 _ (cp B A) A (AM _ _)
 refine ER (E a (by rw[←J];exact BY _)) fun M N=>?_;refine ER (E b (by rw[←L];exact BY _)) fun O b2=>?_;have e:(EK row d k).1=(row.set a k).set b k:=by unfold EK;rw[G,hb]
 have b3:(row.set a k).getD b 0=5:=by
  rw[AE,List.getElem?_set_ne (BX I),←AE];exact b2
 have cnt:∀x,((row.set a k).set b k).count x+((if 5=x then 1 else 0)+(if 5=x then 1 else 0))=row.count x+((if k=x then 1 else 0)+(if k=x then 1 else 0)):=fun x=>by
  have P:=PY (l:=row.set a k) (i:=b) (a:=k) (b:=x) (by rw[IC,H.l];exact O) b3;have Q:=PY (l:=row) (i:=a) (a:=k) (b:=x) (by rw[H.l];exact M) N;exact ia B A P Q
 rw[e];refine⟨by rw[IC,IC];exact H.l,?_,fun c D=>?_,fun c D=>?_⟩
 ·have:=cnt 5;rw[if_pos rfl,if_neg (BX F),H.f]at this;exact jG F B A this
 ·have:=cnt c;rw[if_neg (CU D),H.c c D]at this;by_cases q:k=c
  ·rw[if_pos q,if_neg (iY B A q)]at this;rw[if_pos (iZ B A q)];omega
  ·rw[if_neg q]at this;by_cases r:c<k
   ·rw[if_pos r]at this;rw[if_pos (By r)];omega
   ·rw[if_neg r]at this;rw[if_neg (fun h=>q (DL (A0.mp r) (A9 h)))];omega
 ·rcases GL D with D|D
  ·rcases GL D with D|D
   ·exact H.m c D
   ·exact D▸Aa F
  ·exact D▸Aa F
theorem ZY:∀(n k:Nat)(row:List Nat)(d:Nat),k+n=5→V2 k row→V2 5 (Fh (Aw k n) row d).1:=by
 intro A
 induction A with
 |zero=>
  intro k row d h H;have:k=5:=by omega
  subst this;exact H
 |succ n B=>
  intro k row d h H;rw[C3,Fh.c2];exact B (k+1) _ _ (c9 h) (W4 H (c8 h) d)
theorem W_(d:Nat):V2 5 (Fh [0,1,2,3,4] (Aq 10 5) d).1:=by
 have B:V2 0 (Aq 10 5):=⟨rfl,rfl,fun c A=>by rw[if_neg (K9 _),List.count_replicate];simp;exact CU A,fun c A=>by rw[Sh A];exact AK 5⟩;have:=ZY 5 0 (Aq 10 5) d rfl B
 rwa [(rfl:Aw 0 5=[0,1,2,3,4])]at this
theorem QW(d:Nat):(Ei d).length=10∧(∀c<5,(Ei d).count c=2)∧∀c∈Ei d,c<5:=by
 have H:=W_ d;unfold Ei;generalize Fh [0,1,2,3,4] (Aq 10 5) d=g at H⊢;have D:∀(l:List Nat)(n x:Nat),(l.drop n++l.take n).count x=l.count x:=fun l n x=>by
  rw[A5,BQ,←A5,HU]
 refine⟨?_,fun c A=>?_,fun c B=>?_⟩
 ·show(Lz _ _++Ly _ _).length=10;rw[AQ,BQ,←AQ,HU];exact H.l
 ·show(Lz _ _++Ly _ _).count c=2;rw[D,H.c c A,if_pos A]
 ·have B:c∈Lz (g.2 % 10) g.1++Ly (g.2 % 10) g.1:=B;have hp:=Gu.mpr B;rw[D]at hp;have h5:=H.m c (Gu.mp hp);rcases Nat.lt_or_eq_of_le h5 with q|q
  ·exact q
  ·rw[q,H.f]at hp;exact absurd hp dc
noncomputable def Sv(A d1 d2 d3 d4:Nat):Wr:=⟨GT d1,d2,d3,Ei A,d4/29 % 4⟩
theorem L5(A d1 d2 d3 d4:Nat):GB (Sv A d1 d2 d3 d4) where
 rl:=(QW A).1
 r5:=(QW A).2.2
 two:=fun c B=>bo ((QW A).2.1 c B)
 h5:=fun c B=>Qe B
 hn:=HZ.filter _
theorem MH(A d1 d2 d3 d4:Nat):E5 A d1 d2 d3 d4=(Sv A d1 d2 d3 d4).left:=rfl
theorem L7(A d1 d2 d3 d4:Nat):unitsOf A d1 d2 d3 d4=(Sv A d1 d2 d3 d4).units:=rfl
theorem Wn(A d1 d2 d3 d4:Nat):L6 A d1 d2 d3 d4=(Sv A d1 d2 d3 d4).whole:=rfl
theorem Tt(A d1 d2 d3 d4:Nat):FX A d1 d2 d3 d4=(Sv A d1 d2 d3 d4).tab:=by unfold FX Wr.tab;rw[MH,L7]
theorem Xf(A d1 d2 d3 d4:Nat):TY A d1 d2 d3 d4 where
 rl:=(L5 A d1 d2 d3 d4).rl
 r5:=(L5 A d1 d2 d3 d4).r5
 wl:=by rw[Wn];exact AA (Wr.whole_len (L5 A d1 d2 d3 d4)) dc
 rd:=by rw[MH,L7];exact Wr.read (L5 A d1 d2 d3 d4).r5
 asc:=by rw[L7];exact Wr.asc (L5 A d1 d2 d3 d4)
 dots:=by rw[MH];exact Wr.dots (L5 A d1 d2 d3 d4)
 br:=by rw[MH];exact Wr.br (L5 A d1 d2 d3 d4)
 basc:=by rw[MH];exact Wr.basc (L5 A d1 d2 d3 d4)
theorem Zw:Q0:=fun A d1 d2 d3 d4=>by
 have H:=L5 A d1 d2 d3 d4;refine⟨Xf A d1 d2 d3 d4,ZL (CO _ dc),fun r hr=>?_,(Sv A d1 d2 d3 d4).ends,?_,?_⟩
 ·rw[Tt]at hr;unfold Wr.tab tableOf at hr;refine Bz (AU.mp hr) fun k B D=>?_;subst D;have B:=An.mp B;have E:=((Sv A d1 d2 d3 d4).tab_bits B).1;rw[Wr.tab_at B]at E;exact E
 ·rw[L7];exact Wr.ends_ok H
 ·rw[Tt];exact cG (Wr.chd H) (Wr.law H)
end
end Internal
namespace Mine
open PySem PySem.W PyProof.Rows Internal
set_option tactic.hygienic true
set_option Elab.async true
namespace hd
def tw3436097430739950109:=Nat
def tw10111801491309104144:=Nat
def tw1011335219593555734:=Nat
def tw10170382586518783626:=Nat
def tw10258999931320997221:=Nat
def tw10458740792067480800:=Nat
def tw10601615944963115059:=Nat
def tw10727248033764811480:=Nat
def tw10792051664901133789:=Nat
def tw1097998534492414930:=Nat
def tw11117797201346649052:=Nat
def tw11210553801493137410:=Nat
def tw11232374478483605306:=Nat
def tw11465210709893060100:=Nat
def tw11893437276241958245:=Nat
def tw11917015161858427179:=Nat
def tw11953376511379268794:=Nat
def tw12070051907170230399:=Nat
def tw12173100003817136821:=Nat
def tw12173540411733591300:=Nat
def tw12271959270614036898:=Nat
def tw12487502673411948298:=Nat
def tw13225837485096350037:=Nat
def tw13267510147771200024:=Nat
def tw13330244855972007585:=Nat
def tw13828106393651249627:=Nat
def tw14103535550066685397:=Nat
def tw1413172679324656950:=Nat
def tw14620637471214046174:=Nat
def tw14754404106442844205:=Nat
def tw15527848837575444561:=Nat
def tw15595854959937240912:=Nat
def tw15616948245753086127:=Nat
def tw15759970867653108152:=Nat
def tw15967140613478806237:=Nat
def tw16037735763661986305:=Nat
def tw16056359734778111409:=Nat
def tw16091413853298234908:=Nat
def tw16240987189780228909:=Nat
def tw16259696140248634718:=Nat
def tw16345102440705955213:=Nat
def tw16432713993328977331:=Nat
def tw16828841361933241965:=Nat
def tw17054507655720011243:=Nat
def tw17087091549796120035:=Nat
def tw17177331786930743035:=Nat
def tw17311223219408574766:=Nat
def tw17574625026820762457:=Nat
def tw17650839729002327288:=Nat
def tw17672654358674132775:=Nat
def tw17673860158736603733:=Nat
def tw18103342009636024947:=Nat
def tw18300207936620678264:=Nat
def tw18322514126500204803:=Nat
def tw1997569388931296116:=Nat
def tw2068664650715991707:=Nat
def tw2114630138375439770:=Nat
def tw2195365466389143174:=Nat
def tw22551697357593593:=Nat
def tw2605216425844631887:=Nat
def tw26425463804135960:=Nat
def tw2708950531961675432:=Nat
def tw2867327485932766208:=Nat
def tw2930668341846507884:=Nat
def tw3229955645248102723:=Nat
def tw3350844169311001129:=Nat
def tw3451239065008710300:=Nat
def tw3493717111155160527:=Nat
def tw3571134770919094901:=Nat
def tw3646829019195819677:=Nat
def tw3789350110615891812:=Nat
def tw4086058157674990017:=Nat
def tw4115565904173853331:=Nat
def tw4272726840584523970:=Nat
def tw4360684699965382250:=Nat
def tw4402725079659364252:=Nat
def tw4478166936697009375:=Nat
def tw4494801613693538912:=Nat
def tw464777395874653626:=Nat
def tw5148922909946612681:=Nat
def tw5373601922739893978:=Nat
def tw5961118342813265553:=Nat
def tw5978321128707920903:=Nat
def tw6060742912462422084:=Nat
def tw6082411064634330575:=Nat
def tw6196171512934965099:=Nat
def tw6276725880618359904:=Nat
def tw6305734824756694309:=Nat
def tw6407587892757256292:=Nat
def tw6411954120941647267:=Nat
def tw6442067068224118133:=Nat
def tw6767318904944593275:=Nat
def tw6785817131721698500:=Nat
def tw6820862383352777685:=Nat
def tw7028611270464810887:=Nat
def tw7296583596125217682:=Nat
def tw7752767780024739350:=Nat
def tw7754304195085646258:=Nat
def tw7914949630228597729:=Nat
def tw8226494294326810461:=Nat
def tw8457440626546761165:=Nat
def tw8458067239894703972:=Nat
def tw8716120427605611371:=Nat
def tw8735263284916673568:=Nat
def tw8943638576539356737:=Nat
def tw8959176491354863721:=Nat
def tw9015742629738998832:=Nat
def tw9170477692918782315:=Nat
def tw9277588360372424766:=Nat
def tw9421340871869096474:=Nat
def tw9641152695372364146:=Nat
def tw9673543361469618366:=Nat
def tw9719896912496429819:=Nat
def tw9960721518486171458:=Nat
end hd
set_option maxHeartbeats 8000000 in
theorem hd:PySem.Challenge.rw_ta0041_01.Holds:=by
 w_on;o_law;k_head;(case hw=>w_witness2)
 k_fill
 intro w s₀ s₁ mg mb G Y fa o pm cd doc dV kV ho hd hcd hD hmg hg args vals as hpre hlay hrd hwl hlo;have KX:=km_in_of Y
 km_tabs Y
 refine Internal.join Zw G.T (K:=_) ?_ ?_ KX hT8 hg hmg hpre hwl
 ·exact {
   f1:=⟨by kernel_rfl,by kernel_rfl,by kernel_rfl,by kernel_rfl⟩
   f2:=⟨by kernel_rfl,by kernel_rfl,by kernel_rfl,by kernel_rfl⟩
   f3:=⟨by kernel_rfl,by kernel_rfl,by kernel_rfl,by kernel_rfl⟩
   f4:=⟨by kernel_rfl,by kernel_rfl,by kernel_rfl,by kernel_rfl⟩
   f7:=⟨by kernel_rfl,by kernel_rfl,by kernel_rfl,by kernel_rfl⟩
   f10:=⟨by kernel_rfl,by kernel_rfl,by kernel_rfl,by kernel_rfl⟩
   f12:=⟨by kernel_rfl,by kernel_rfl,by kernel_rfl,by kernel_rfl⟩
   f13:=⟨by kernel_rfl,by kernel_rfl,by kernel_rfl,by kernel_rfl⟩
   f14:=⟨by kernel_rfl,by kernel_rfl,by kernel_rfl,by kernel_rfl⟩
   f15:=⟨by kernel_rfl,by kernel_rfl,by kernel_rfl,by kernel_rfl⟩
   f17:=⟨by kernel_rfl,by kernel_rfl,by kernel_rfl,by kernel_rfl⟩
   f18:=⟨by kernel_rfl,by kernel_rfl,by kernel_rfl,by kernel_rfl⟩
   f19:=⟨by kernel_rfl,by kernel_rfl,by kernel_rfl,by kernel_rfl⟩
   f20:=⟨by kernel_rfl,by kernel_rfl,by kernel_rfl,by kernel_rfl⟩
   f21:=⟨by kernel_rfl,by kernel_rfl,by kernel_rfl,by kernel_rfl⟩
   f22:=⟨by kernel_rfl,by kernel_rfl,by kernel_rfl,by kernel_rfl⟩
   f23:=⟨by kernel_rfl,by kernel_rfl,by kernel_rfl,by kernel_rfl⟩
   d1:=fun S a x lo hi kv=>by kernel_rfl
   d2:=fun S a x lo hi kv=>by kernel_rfl
   d3:=fun S a x lo hi kv=>by kernel_rfl
   d4:=fun S a x lo hi kv=>by kernel_rfl
   fl:=by kernel_rfl
   ns:=by kernel_rfl
   nb:=by kernel_rfl
   el:=by kernel_rfl
   bm:=by kernel_rfl
   hd1:=by kernel_rfl
   hd2:=by kernel_rfl}
 ·exact⟨by kernel_rfl⟩
end Mine
theorem PySem.Challenge.cw_ta0041_01_holds : PySem.Challenge.rw_ta0041_01.Holds :=
 Mine.hd
