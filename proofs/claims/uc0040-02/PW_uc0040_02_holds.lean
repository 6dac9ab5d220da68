import PyProof.Rows.All
import Wide.All
import OpenK.AllK
import Wide.FinOn
import Lean
import KE.KStopIter
import KE.KSortAsk
import KE.KRevIter
import KE.KDictIter
import KE.KNest
import PyProof.FactsAll.str_5
import PySem.Challenge.RW_uc0040_02
set_option Elab.async false
set_option genSizeOf false
set_option genCtorIdx false
set_option genInjectivity false
set_option linter.all false
set_option maxRecDepth 1000000
set_option maxHeartbeats 0
set_option tactic.hygienic false
noncomputable section
open Option.some renaming inj→aac
open PySem.Builtin.Int renaming intBits→aae
open List renaming range→aai,length_map→aan,length_append→aao,replicate→aar,all_eq_true→aaG,append_assoc→aaI,length_range→aa0,map_cons→aa6,getElem?_eq_some_iff→abb,mem_range→abd,mem_cons→abk,getElem?_eq_getElem→abz,mem_singleton→abF,map_congr_left→abG,map_map→abH,mem_append→abQ,append_nil→abW,map_append→acf,mem_map→ac2,mem_of_getElem?→ade,getElem?_append_left→adk,mem_map_of_mem→adB,not_mem_nil→adH,nil_append→adK,getElem?_map→adR,cons_append→adS,nodup_append→adX,length_cons→adY,nodup_cons→ad1,mem_append_left→ad3,mapM_cons→ad4,lookup_cons→ad5,mem_cons_of_mem→ad8,toArray→aed,drop_eq_getElem_cons→ael,flatten_cons→aey,length_reverse→ae3,length_replicate→afa,set_cons_zero→aff,set_cons_succ→afg,mem_append_right→afJ,forIn_cons→afK,size_toArray→af4,getElem?_range→af5,getElem?_toArray→af9,filter_cons→aga,getElem?_of_mem→age,getElem?_append_right→agH,length→ag9,map_nil→ahc,lookup→ahp,perm_middle→ahx,replicate_succ→ahC,filterMap_cons→ahD,pairwise_cons→ahK,mem_replicate→ahL,length_eq_zero_iff→ahP,take_of_length_le→ahV,reverse_cons→ahW,contains_iff_mem→ah2,any_eq_true→ah4,mem_filterMap→aiw,getD_eq_getElem?_getD→aix,getElem?_inj→aiE,length_take→aiN,getD→aiO,filter_cons_of_pos→aiP,filter_cons_of_neg→aiQ,drop_length→aiR,getElem?_set_self→aiW,drop_eq_nil_of_le→aiX,all_map→aiY,length_nil→ai5,singleton_append→aja,length_singleton→ajb,length_filter_le→ajc,getElem?_set_ne→ajp,zip_cons_cons→ajF,mem_reverse→aj0,map_reverse→aj1,length_drop→aj2,getElem_mem→aj5,flatten_nil→aj6,map_id→ake,mem_filter→akj,dropLast_concat_getLast→akk,take_zero→aky,getElem?_eq_none_iff→akI,filterMap_cons_some→akQ,any_cons→akR,all_cons→akS,pairwise_singleton→akX,getElem?_singleton→akY,getElem?_cons_succ→akZ,Perm→ak0,take_append_drop→alo,filterMap_append→alp,mem_of_mem_take→alA,flatten_append→alM,mem_cons_self→al6,map_replicate→al7,foldl→al8,find?_toArray→al9,push_toArray→amn,pairwise_map→amo,map_inj_left→amq,ext_getElem→amB,cons_ne_nil→amC,sum_append→amV,range_succ→amW,of_mem_zip→amX,find?_cons→amY,filter_map→amZ,forIn_nil→am6,drop_drop→am7
open Bool renaming and_eq_true→aap,false_eq_true→aeG,or_eq_true→agh,and_true→agy,false_ne_true→agI,not_eq_true'→ahj,eq_iff_iff→ahG,and_eq_true_iff→aid,or_eq_false_iff→alC,not_eq_true→amH,false_or→anm
open PySem renaming Value→aaq,Program→aas,Shared→aaD,wpAny_bind→aaH,sizeLine→aa7,Addr→aa9,Params→abA,model→abD,World→abI,wpAny→abJ,Expr→ado,Heap→adF,wpAny_pure→adG,compEnvC→adO,Around→adV,treeTable→adW,OsState→ad7,FuncData→aeV,wpAny_execs_nil→afb,NameKind→afc,DictEntry→afd,wpAny_execs_cons→aft,wpAny_Call_method_lateS→af1,wpAny_Return_some→af7,wpAny_Assign_Name→agw,Operator→agA,wpAny_assign_Name→ag3,wpAny_of_eq→ahf,wpAny_holding→ahn,wpAny_storeName_local→ahq,builtinLookup_eq_fast→ahr,Stmt→ahs,Flow→ahE,Code→ahO,swappedStores→ahS,intKind→ahT,holding→ah3,wpAny_newObj_type→ah5,wpAny_Expr_any→ah6,subDict→aia,wpAny_Name→aig,typeIs_str→aih,Builtin→aim,wpAny_storeName_cell→ain,wpAny_loadName_local→aio,wpAny_field→aip,binaryOp→aiq,typeLookup_type→aiy,wpAny_loadName_free→aiB,Scope→aiC,swapsWith→aiF,cellsFrom→aiG,wpAny_setField→aiK,call_meets→aiL,wpAny_BinOp→aiU,sizeLine_eq→aiV,comprehension→aiZ,wpAny_list_append_plain→aje,compareOp→ajf,GenState→ajj,wpAny_call→ajq,sysModules→ajt,standAt→aju,callWith_type→ajv,execs→ajA,wpAny_isTrue_Compare1→ajC,wpAny_AugAssign_Name→ajG,wpAny_loadName_cell→ajN,Fin→ajO,cLine→ajV,behindInMarks→ajW,Comprehension→ajY,slot_listiter_next→aj8,closureFor→aj9,step→akm,slot_list_getitem→akn,codeAny→ako,wpAny_call_entry→akB,storeName→akC,pyIter→akD,dictSet→akE,dictPut→akF,assign→akG,Arguments→akH,interactive→akN,dictDisplay→akO,wpAny_seqItems→alc,typeIs_int→ald,isSubtype_type→ale,compPost→alf,Model→ali,wpAny_newList→alE,wpAny_comprehension_free→alF,plainId_quiet→alG,assignInOrder→alH,wpAny_callSpecial?_slot→alQ,updateSeq→alS,pushCells→alT,wpAny_Assign_Subscript→amb,type_list_append→amc,truthy→amd,newList→ame,findBy→amf,codeAny_compStart_list→amg,evalPairs→amt,wpAny_If→amI,starEach→amJ,sliceBounds→amK,lookup_relabel_local→amL,isCodeTable→amM,bindName→amN,IsRangeIter→amP,wpAny_isTrue_BoolOp→am1,wpAny_isTrue_value→am9,wpAny_getItem_list→ana,wpAny_Constant_str→anb
open Nat renaming lt_of_lt_of_le→aaO,le_trans→abq,ne_of_lt→ac4,mod_lt→adC,le_refl→adJ,lt_irrefl→adP,two_pow_pos→adT,pow_le_pow_right→adU,lt_of_le_of_lt→adZ,mul_comm→ad2,div_lt_iff_lt_mul→ad6,mul_add→ad9,zero_add→aeD,mul_le_mul_left→aeL,mul_le_mul_right→aeP,lt_trans→aeT,add_comm→aeU,zero_le→ae7,lt_succ_self→afm,le_of_lt→afo,le_of_eq→afr,mul_assoc→af3,pow_add→af6,sub_add_cancel→agb,sub_lt_sub_right→agf,mul_one→agz,mod_eq_of_lt→agC,succ_mul→agR,mul_zero→agS,lt_succ_of_lt→agU,le_add_right→ag5,pow_succ→ahe,add_assoc→ahg,le_of_ble_eq_true→ahi,le_succ_of_le→ahl,mod_two_eq_zero_or_one→aht,add_mul→ahu,div_add_mod'→ahz,ble→ahA,succ_add_eq_add_succ→ahF,shiftLeft_eq→ah8,div_eq_of_lt→ah9,log2_lt→aif,mod_add_div→aij,le_antisymm→aik,div_le_self→ail,mul_lt_mul_of_pos_right→ais,add_zero→ait,eq_zero_or_pos→aiz,add_mul_mod_self_left→aiD,add_sub_cancel_left→aiT,ne_of_gt→ai3,lt_asymm→ai4,le_add_left→ai8,div_add_mod→ai9,ble_eq_true_of_le→ajm,add_le_add→ajz,add_sub_cancel'→ajD,not_lt→ajH,and_one_is_mod→ajI,mul_left_comm→ajR,and_two_pow_sub_one_eq_mod→akd,pow_pos→akh,le_succ→aki,mul_add_mod→akv,pow_succ'→akV,and_or_distrib_right→akW,le_mul_of_pos_right→alb,succ_add→alj,sub_self→alk,pow_zero→alm,div_div_eq_div_mul→aln,le_div_iff_mul_le→alz,add_mul_div_left→alL,succ_eq_add_one→al1,lt_mul_div_succ→al2,div_mul_le_self→al3,add_lt_add_left→al4,add_le_add_left→al5,not_le→amk,lt_of_le_of_ne→aml,add_sub_cancel→amm,mul_lt_mul''→amT,le_of_not_lt→amU,not_lt_zero→am3,mul_add_div→am4,min_eq_left→am5,mul_le_mul→anj
open Option renaming bind_some→aa5,bind_eq_some_iff→aec,isSome_iff_exists→afG,or_eq_some_iff→ahY,map_some→aic,getD_some→aiH,map_eq_some_iff→aiM,none_or→ai7,isNone_iff_eq_none→aku,none→ala,isSome_some→aly,or_none→amz,bind→ani
open PySem.Heap renaming get?_push_of_some→abo,lt_size→abZ,get?_push_size→ac0,SameBut→aem,get?_update_other→agx,size_push→agE,get?_update_self→agL,get?_none_of_le→aho,mk→ahw,get?_update_ne→ajB,get?→ajX,get?_some_iff→alY,get?_push_ne→amj
open Int renaming toNat_natCast→abE,natCast_nonneg→ad0,natCast_mul→aeb,toNat_of_nonneg→aeM,natAbs_natCast→afk,natCast_add→agp,sub_nonneg_of_le→agV,one_mul→agW,ofNat_lt→ag1,mul_assoc→ag2,eq_ofNat_of_zero_le→ag7,add_mul→ahR,mul_comm→ah0,mul_nonneg→aiA,sub_pos_of_lt→aiI,neg_mul→aiJ,add_zero→ai6,not_lt→ajK,ofNat_le→ajT,le_of_lt→ajU,toNat→akf,mul_neg→akl,natCast_pow→akw,mul_lt_mul_of_pos_right→akA,not_le→akJ,natAbs_mul→akK,fmod_eq_emod_of_nonneg→akL,fdiv_eq_ediv_of_nonneg→akM,add_assoc→ak3,zero_mul→alq,zero_add→alr,le_of_eq→als,fmod_nonneg_of_pos→alu,fmod_def→alv,mul_fdiv_add_fmod→alB,sub_mul→alN,mul_one→alO,natAbs→amr,fmod_lt_of_pos→ams,zero_le_ofNat→amD,sub_neg_of_lt→amE,mul_left_comm→amF,emod_eq_of_lt→amG,neg_fdiv_neg→am0,natAbs_neg→ank,add_nonneg→anl
open PySem.Builtin renaming bitNot→acg,bitAnd→adM,bitOr→agP,bitXor→ahh
open PySem.NameKind renaming free→adD,cell→adI
open PySem.Calls renaming spliced_cons→adE,evalArgs_plain→adL,spliced_nil→aea,callWith_builtin→aeN,callWith_function→agg,call_function_entry→ahX,Name_function_global→akt
open PySem.Str renaming ofString→adQ,length→alh
open PySem.Value renaming none→ae1,ref→ahI,isInt→ahJ,type→akq
open Array renaming getElem?_modify→ae6,getElem?_append_right→agr,getElem?_eq_some_iff→ahm,toList_inj→ahv,length_toList→ahB,ext_getElem?→ahH,empty_append→aiu,getElem?_append_left→akx,getElem?_push→alD,size_extract→alP
open PySem.Txt renaming lower→afe,join→ag4,split→am2
open PySem.W renaming SharedT→afP,topRun→ahM,kas_sort→ai0,behindTheImports→ajh,segRunT→ajx,piece_app→ajL,piecesOf→akp,kas_ask→ak4,fnMade→alg,ReadsAllW→alV
open List.Perm renaming nodup_iff→afU,append_left→ahQ
open PySem.Heap.FunFrames renaming mem→afX,cons→anv
open PyProof.Rows renaming Call_Name→af2,oneType'→ajl,subscriptTail→ajZ,Subscript_→akg,pairsOf→ak8,StrsAre→ak9,evalArgs_nil3→al0
open PySem.Obj renaming mapSeq→agi,data_mapFields→ahN,mapFields→aib,isFreed_of_fields→aji,mapDictKeys→akr,mapSeq_push_plain→alw,cls_mapFields→amv
open PySem.Heap.SameBut renaming update→agN
open List.Sublist renaming refl→ag6,nodup→akz
open PySem.pyHashByItsType renaming reduced→ahk
open ForInStep renaming yield→ahy
open Except renaming ok→ah1
open PySem.ScopeKind renaming function→aie
open PySem.Sre renaming forSearch→aii
open PUnit renaming unit→air
open PySem.MeetsSeq.EqGives renaming int→aiv
open PySem.W.WTm renaming value→aiS,holds→aka
open PySem.F renaming slot_str_split→ai2,args_str_split_2→ajQ,plainAttrs_list→akb,entry_str_split→akc,plainAttrs_str→aks,slot_int_bit_length→alZ,slot_list_reverse→amw
open List.cons renaming inj→ajd
open PySem.Challenge renaming rw_uc0040_02→ajk,pw_uc0040_02→anh
open PySem.W.WData renaming int→ajn
open PySem.Builtin.Str renaming tooLong→ajo,occurrences→amS
open Pure renaming pure→ajy
open PySem.Builtin.List renaming listFitsIndex→ajE,listTooLong→ajM
open List.Pairwise renaming imp_of_mem→ajJ
open Classical renaming byContradiction→aj7
open PySem.Builtin.Re renaming reTurnSteps→akP
open PySem.Sre.M renaming runFor→akT,admitted→amO
open PySem.Sem renaming wrap_wrap→akU
open PySem.SeqAt.EqAt renaming of_refs→ak6
open PySem.Around renaming under_plainId→ak7
open PyProof.Rows.SortSt renaming mk'→alx
open PySem.W.SL renaming s12411053484034534018x21→alI,s12171344214640291687x10→alJ,s10220274742760427390x26→alK,s6511155373996960695x17→alU,s3642769012341782148x3→amh,s1438033511350832697x5→ami,s658472552662922059x5→amu
open PySem.Shared renaming mk→alW
open PySem.SeqAt.RcAt renaming lists_lengths→alX
open Int.ofNat renaming inj→ama
open PySem.Expr renaming Name→amx
open Prod.mk renaming injEq→amy
open Nat.succ renaming inj→amA
open PySem.Heap.IsSliceOf renaming new→anu
section
namespace Mine.Internal
section
set_option tactic.hygienic true
universe u v
@[elab_as_elim] theorem rwG{α:Sort u}{a b:α}{P:α->Prop}(h:a=b)(k:P b):P a:=h▸k
@[elab_as_elim] theorem rwB{α:Sort u}{a b:α}{P:α->Prop}(h:a=b)(k:P a):P b:=h▸k
theorem bU{α:Sort u}{p:α->Prop}{G:Prop}(h:∃x,p x)(k:∀x,p x->G):G:=h.elim k
theorem bz {α:Sort u} {a b:α->Prop} {G:Prop}(h:∃x,a x/\b x)(k:∀x,a x->b x->G):G:=h.elim λx h=>k x h.1 h.2
theorem Ib {α:Sort u} {β:Sort v} {a b c:α->β->Prop} {G:Prop}(h:∃x y,a x y/\b x y/\c x y)(k:∀x y,a x y->b x y->c x y->G):G:=h.elim λx h=>h.elim λy h=>k x y h.1 h.2.1 h.2.2
theorem zu {α:Sort u} {β:Sort v} {a b c d:α->β->Prop} {G:Prop}(h:∃x y,a x y/\b x y/\c x y/\d x y)(k:∀x y,a x y->b x y->c x y->d x y->G):G:=h.elim λx h=>h.elim λy h=>k x y h.1 h.2.1 h.2.2.1 h.2.2.2
theorem Yp {α:Sort u} {a b c:α->Prop} {G:Prop}(h:∃x,a x/\b x/\c x)(k:∀x,a x->b x->c x->G):G:=h.elim λx h=>k x h.1 h.2.1 h.2.2
theorem zv {α:Sort u} {β:Sort v} {a:α->β->Prop} {G:Prop}(h:∃x y,a x y)(k:∀x y,a x y->G):G:=h.elim λx h=>h.elim λy h=>k x y h
theorem exF {a b c G:Prop}(h:a/\b/\c)(k:a->b->c->G):G:=k h.1 h.2.1 h.2.2
theorem N4 {α:Sort u} {c G:Prop} {a b:α->Prop}(h:c/\∃x,a x/\b x)(k:c->∀x,a x->b x->G):G:=h.2.elim λx p=>k h.1 x p.1 p.2
theorem bY{a b G:Prop}(h:a/\b)(k:a->b->G):G:=k h.1 h.2
end
end Mine.Internal
end
section
section
namespace Mine.Internal.Ar
inductive T where
 |v (i:Nat)|k (n:Nat)|l (b n:Nat)|c (t:T)|g (t:T)|a (x y:T)|s (x y:T)|m (x y:T)
inductive P where
 |l (z:Bool) (x y:T)|e (z:Bool) (x y:T)|j (z:Bool) (p q:P)|no (p:P)|fl|d (f:Nat) (x p q:T)
noncomputable abbrev at'{α:Type}(d:α)(l:List α):Nat->α:=l.rec (λV=>d) λx V f i=>i.rec x λj V=>f j
noncomputable abbrev nz(a:List Nat)(b:List Int)(t:T):Nat×Int:=
 t.rec (λi=>(at' 0 a i,at' 0 b i)) (λn=>(n,n)) (λk n=>(k^n,(k:Int)^n)) (λV t=>(0,(t.1:Nat))) (λV t=>(0, - t.2))
  (λV V x y=>(x.1+y.1,x.2+y.2)) (λV V x y=>(0,x.2-y.2)) λV V x y=>(x.1*y.1,x.2*y.2)
noncomputable abbrev opd(f:Nat)(x p q:Nat)(z:Int):Prop:=f.rec (x=p-q) λf V=>f.rec (x=p/q) λf V=>f.rec (x=p%q) λf V=>f.rec (x=min p q) λV V=>x=z.toNat
noncomputable abbrev pn(a:List Nat)(b:List Int)(p:P):Prop:=
 p.rec (λz x y=>z.rec ((nz a b x).1<=(nz a b y).1) ((nz a b x).2<=(nz a b y).2)) (λz x y=>z.rec ((nz a b x).1=(nz a b y).1) ((nz a b x).2=(nz a b y).2))
  (λz V V p q=>z.rec (p\/q) (p/\q)) (λV p=>¬p) False λf x p q=>opd f (nz a b x).1 (nz a b p).1 (nz a b q).1 (nz a b p).2
noncomputable abbrev dn(a:List Nat)(b:List Int)(g:P)(l:List P):Prop:=l.rec (pn a b g) λh V r=>pn a b h->r
noncomputable abbrev Po:=List (List Int×Int)
noncomputable def md(e:Int->Int):List Int->Int
 |[]=>1
 |i::m=>e i*md e m
noncomputable def pd(e:Int->Int):Po->Int
 |[]=>0
 |t::p=>t.2*md e t.1+pd e p
noncomputable def put(m:List Int)(c:Int)(p:Po):Po:=if c=0 then p else (m,c)::p
noncomputable def ins(m:List Int)(c:Int):Po->Po
 |[]=>put m c []
 |t::p=>if m=t.1 then put m (c+t.2) p else t::ins m c p
noncomputable def mE(s:Int)(p q:Po):Po:=p.foldr (λt q=>ins t.1 (s*t.2) q) q
noncomputable def mi(i:Int):List Int->List Int
 |[]=>[i]
 |j::m=>if i<=j then i::j::m else j::mi i m
noncomputable def mm(m n:List Int):List Int:=m.foldr mi n
noncomputable def YQ(m:List Int)(c:Int)(p q:Po):Po:=p.foldr (λt q=>ins (mm m t.1) (c*t.2) q) q
noncomputable def Up(p q:Po):Po:=p.foldr (λt r=>YQ t.1 t.2 q r) []
noncomputable def tp:T->Po×Po
 |.v i=>([([.ofNat i],1)],[([.negSucc i],1)])
 |.k n=>([([],n)],[([],n)])
 |.l k n=>([([],(k^n:Nat))],[([],(k^n:Nat))])
 |.c t=>([],(tp t).1)
 |.g t=>([],mE (-1) (tp t).2 [])
 |.a x y=>(mE 1 (tp x).1 (tp y).1,mE 1 (tp x).2 (tp y).2)
 |.s x y=>([],mE (-1) (tp y).2 (tp x).2)
 |.m x y=>(Up (tp x).1 (tp y).1,Up (tp x).2 (tp y).2)
noncomputable def El(z:Bool)(x y:T):Po:=bif z then mE (-1) (tp x).2 (tp y).2 else mE (-1) (tp x).1 (tp y).1
noncomputable def RA:P->Bool->List Po->(List Po->Bool)->Bool
 |.l z x y,t,G,k=>bif t then k (El z x y::G) else k (mE (-1) (El z x y) [([], -1)]::G)
 |.e z x y,t,G,k=>bif t then k (El z x y::El z y x::G) else k (mE 1 (El z x y) [([], -1)]::G)&&k (mE 1 (El z y x) [([], -1)]::G)
 |.j z p q,t,G,k=>bif z==t then RA p t G λG=>RA q t G k else RA p t G k&&RA q t G k
 |.no p,t,G,k=>RA p (!t) G k
 |.fl,t,G,k=>t||k G
 |.d _ _ _ _,_,G,k=>k G
noncomputable def pre:P->P
 |.d f x p q=>match f with
  |0=>.j false (.e false (.a x q) p) (.j true (.e false x (.k 0)) (.l false p q))
  |1=>.j true (.l false (.m x q) p) (.j false (.e false q (.k 0)) (.l false (.a p (.k 1)) (.a (.m x q) q)))
  |2=>.j false (.e false q (.k 0)) (.l false (.a x (.k 1)) q)
  |3=>.j false (.j true (.e false x p) (.l false p q)) (.j true (.e false x q) (.l false q p))
  |_=>.j false (.e true (.c x) p) (.j true (.e false x (.k 0)) (.l true p (.k 0)))
 |p=>p
noncomputable def Cr(m:List Int):Po->Int
 |[]=>0
 |t::p=>if m=t.1 then t.2 else Cr m p
noncomputable def even(m:List Int):Bool:=m.all fun
 |.ofNat _=>true
 |_=>false
noncomputable def YR(m:List Int)(G:List Po):List Po:=(bif even m then [[(m,1)]] else [])++G.filter λp=>decide (0<Cr m p)
noncomputable def aee(m:List Int)(G:List Po):List Po:=G.filter λp=>decide (Cr m p<0)
noncomputable def YN(m:List Int)(G:List Po):List Po:=
 (G.filter λp=>Cr m p==0)++(YR m G).flatMap λp=>(aee m G).map λq=>mE (Cr m p) q (mE (-Cr m q) p [])
noncomputable def bad:Po->Bool
 |[]=>false
 |t::p=>t.1.isEmpty&&p.isEmpty&&decide (t.2<0)
noncomputable def YS(G:List Po):List Int:=(G.flatMap λp=>(p.map (·.1)).filter λm=>!m.isEmpty).headD []
noncomputable def fm:Nat->List Po->Bool
 |0,_=>false
 |n+1,G=>G.any bad||fm n (YN (YS G) G)
noncomputable def Uq(k:List Po->Bool):List P->List Po->Bool
 |[],G=>k G
 |h::r,G=>RA (pre h) true G (Uq k r)
noncomputable def oC(hs:List P)(g:P):Bool:=Uq (λG=>RA g false G (fm 12)) hs []
@[elab_as_elim] theorem Ur{α:Type}{P:α->Prop}{c:Prop} [d:Decidable c]{a b:α}(h:c->P a)(k:¬c->P b):P (if c then a else b):=
  match d with
  |isTrue q=>h q
  |isFalse q=>k q
theorem fk{a b:Bool}{G:Prop}(h:(a&&b)=true)(k:a=true->b=true->G):G:=bY ((aap a b).mp h) k
section
variable{e:Int->Int}
theorem Ix(m:List Int)(c:Int)(p:Po):pd e (put m c p)=c*md e m+pd e p:=
 Ur (P:=λq=>pd e q=_) (λh=>h▸rwG (alq _) (alr _).symm) λV=>rfl
theorem Iy(m:List Int)(c:Int)(p:Po):pd e (ins m c p)=c*md e m+pd e p:=
 p.rec (Ix m c []) λt p ih=>Ur (P:=λq=>pd e q=_) (λh=>(Ix ..).trans (rwG (ahR ..) (rwG h (ak3 ..))))
  λV=>(congrArg (t.2*md e t.1+·) ih).trans (Int.add_left_comm ..)
theorem lg(s:Int)(p q:Po):pd e (mE s p q)=s*pd e p+pd e q:=
 p.rec (rwG (Int.mul_zero s) (alr _).symm) λt p ih=>(Iy ..).trans (rwG ih (rwG (ag2 ..) ((ak3 ..).symm.trans (congrArg (· +pd e q) (Int.mul_add ..).symm))))
theorem YT(i:Int)(m:List Int):md e (mi i m)=e i*md e m:=
 m.rec rfl λj m ih=>Ur (P:=λq=>md e q=_) (λV=>rfl) λV=>(congrArg (e j * ·) ih).trans (amF ..)
theorem YV(m n:List Int):md e (mm m n)=md e m*md e n:=
 m.rec (agW _).symm λi m ih=>(YT i _).trans ((congrArg _ ih).trans (ag2 ..).symm)
theorem N5(m:List Int)(c:Int)(p q:Po):pd e (YQ m c p q)=c*md e m*pd e p+pd e q:=
 p.rec (rwG (Int.mul_zero _) (alr _).symm) λt p ih=>(Iy ..).trans (rwG ih (rwG (YV ..) ((ak3 ..).symm.trans (congrArg (· +pd e q)
  (((congrArg (· +_) ((ag2 ..).trans ((congrArg (c * ·) (amF ..)).trans (ag2 ..).symm))).trans (Int.mul_add ..).symm))))))
theorem Em(p q:Po):pd e (Up p q)=pd e p*pd e q:=
 p.rec (alq _).symm λt p ih=>(N5 ..).trans ((congrArg _ ih).trans (ahR ..).symm)
end
noncomputable def en(a:List Nat)(b:List Int):Int->Int
 |.ofNat i=>(at' 0 a i:Nat)
 |.negSucc i=>at' 0 b i
theorem YW(x:Int):1*(x*1)+0=x:=rwG (ai6 _) (rwG (agW _) (alO x))
theorem Iz(x:Int):x*1+0=x:=rwG (ai6 _) (alO x)
section
variable{a:List Nat}{b:List Int}
theorem IB(p q:Po):pd (en a b) (mE (-1) p q)=pd (en a b) q-pd (en a b) p:=(lg ..).trans (rwG (aiJ ..) (rwG (agW _) (Int.add_comm ..)))
theorem En(t:T):pd (en a b) (tp t).1=(nz a b t).1/\pd (en a b) (tp t).2=(nz a b t).2:=
 t.rec (λi=>⟨YW _,YW _⟩) (λn=>⟨Iz _,Iz _⟩) (λk n=>⟨Iz _,(Iz _).trans (akw ..)⟩) (λt h=>⟨rfl,h.1⟩)
  (λt h=>⟨rfl,(IB ..).trans (rwG h.2 (Int.zero_sub _))⟩)
  (λx y h k=>⟨(lg ..).trans (rwG (agW _) (rwG h.1 (rwG k.1 rfl))),(lg ..).trans (rwG (agW _) (rwG h.2 (rwG k.2 rfl)))⟩)
  (λx y h k=>⟨rfl,(IB ..).trans (rwG h.2 (rwG k.2 rfl))⟩)
  (λx y h k=>⟨(Em ..).trans (rwG h.1 (rwG k.1 rfl)),(Em ..).trans (rwG h.2 (rwG k.2 rfl))⟩)
theorem N6(m:List Int):even m=true->0<=md (en a b) m:=
 m.rec (λV=>amD 1) λi m ih h=>fk h λh k=>aiA (by
  cases i with
  |ofNat i=>exact ad0 _
  |negSucc i=>exact nomatch h) (ih k)
noncomputable def Al(a:List Nat)(b:List Int)(G:List Po):Prop:=∀p∈G,0<=pd (en a b) p
theorem Al.cons{p:Po}{G:List Po}(h:0<=pd (en a b) p)(k:Al a b G):Al a b (p::G):=List.forall_mem_cons.mpr ⟨h,k⟩
theorem Eo{m:List Int}{G:List Po}(h:Al a b G)(p:Po)(hp:p∈YR m G):0<=Cr m p/\0<=pd (en a b) p:=by
 refine (abQ.mp hp).elim (λhp=>?_) λhp=>bY (akj.mp hp) λh1 h2=>⟨ajU (of_decide_eq_true h2),h p h1⟩
 revert hp
 cases he:even m with
 |false=>exact λhp=>nomatch hp
 |true=>exact λhp=>abF.mp hp▸⟨Int.le_trans (amD 1) (als (if_pos rfl).symm),rwG (show pd (en a b) [(m,1)]=md (en a b) m from (ai6 _).trans (agW _)) (N6 m he)⟩
theorem N7{m:List Int}{G:List Po}(h:Al a b G):Al a b (YN m G):=λr hr=>
 (abQ.mp hr).elim (λhr=>h r (akj.mp hr).1) λhr=>bU (List.mem_flatMap.mp hr) λp hp=>bU (ac2.mp hp.2) λq hq=>
  bY (akj.mp hq.1) λh1 h2=>hq.2▸rwG (lg ..) (anl (aiA (Eo h p hp.1).1 (h q h1)) (rwG (lg ..)
   (anl (aiA (Int.neg_nonneg_of_nonpos (ajU (of_decide_eq_true h2))) (Eo h p hp.1).2) (Int.le_refl 0))))
theorem Us(p:Po)(h:bad p=true)(k:0<=pd (en a b) p):False:=
 match p,h,k with
 |[],h,_=>nomatch h
 |(i::m,c)::p,h,_=>nomatch h
 |([],c)::t::p,h,_=>nomatch h
 |[([],c)],h,k=>akJ.mpr (of_decide_eq_true h) (rwB (Iz c) k)
theorem YX(n:Nat):∀G:List Po,fm n G=true->Al a b G->False:=
 n.rec (λV h V=>nomatch h) λn ih G h k=>((agh _ _).mp h).elim (λh=>bU (ah4.mp h) λp hp=>Us p hp.2 (k p hp.1)) λh=>ih _ h (N7 k)
theorem oL(z:Bool)(x y:T):pd (en a b) (El z x y)=bif z then (nz a b y).2-(nz a b x).2 else (nz a b y).1-(nz a b x).1:=by
 cases z with
 |true=>exact (IB ..).trans (rwG (En x).2 (rwG (En y).2 rfl))
 |false=>exact (IB ..).trans (rwG (En x).1 (rwG (En y).1 rfl))
theorem Ut(z:Bool)(x y:T)(h:pd (en a b) (El z x y)<0):0<=pd (en a b) (mE (-1) (El z x y) [([], -1)]):=
 rwG (IB ..) (agV (show pd (en a b) (El z x y)<= -1*1+0 from Int.le_sub_one_of_lt h))
theorem IC(z:Bool)(x y:T)(h:0<pd (en a b) (El z x y)):0<=pd (en a b) (mE 1 (El z x y) [([], -1)]):=
 rwG (lg ..) (rwG (agW _) (agV (show (1:Int)<=_ from h)))
theorem IG(p:P):∀(t:Bool) (G:List Po) (k:List Po->Bool),RA p t G k=true->Al a b G->(bif t then pn a b p else ¬pn a b p)->(∀G',Al a b G'->k G'=true->False)->False:=
 p.rec (λz x y t G k h hg hp K=>by
  cases t with
  |true=>exact K _ (hg.cons (rwG (oL z x y) (by cases z with
   |true=>exact agV hp
   |false=>exact agV (ajT.mpr hp)))) h
  |false=>exact K _ (hg.cons (Ut _ _ _ (rwG (oL z x y) (by cases z with
   |true=>exact amE (akJ.mp hp)
   |false=>exact amE (ag1.mpr (amk.mp hp)))))) h)
  (λz x y t G k h hg hp K=>by
   cases t with
   |true=>
    refine K _ ((hg.cons (rwG (oL z y x) ?_)).cons (rwG (oL z x y) ?_)) h <;> cases z with
    |true=>exact agV (by first|exact als hp|exact als hp.symm)
    |false=>exact agV (ajT.mpr (by first|exact afr hp|exact afr hp.symm))
   |false=>
    refine fk h λh1 h2=>?_
    have q:0<pd (en a b) (El z x y)\/0<pd (en a b) (El z y x):=by
     refine rwG (oL z x y) (rwG (oL z y x) ?_)
     cases z with
     |true=>exact (Int.lt_or_gt_of_ne hp).imp aiI aiI
     |false=>exact (Nat.lt_or_gt_of_ne hp).imp (λh=>aiI (ag1.mpr h)) λh=>aiI (ag1.mpr h)
    exact q.elim (λq=>K _ (hg.cons (IC _ _ _ q)) h1) λq=>K _ (hg.cons (IC _ _ _ q)) h2)
  (λz p q hp hq t G k h hg hh K=>by
   cases z <;> cases t
   .exact hp _ _ _ h hg (λh=>hh (.inl h)) λG' Uu h'=>hq _ _ _ h' Uu (λh=>hh (.inr h)) K
   .exact fk h λh1 h2=>hh.elim (λhh=>hp _ _ _ h1 hg hh K) λhh=>hq _ _ _ h2 hg hh K
   .exact fk h λh1 h2=>hp _ _ _ h1 hg (λh3=>hq _ _ _ h2 hg (λh4=>hh ⟨h3,h4⟩) K) K
   .exact hp _ _ _ h hg hh.1 λG' Uu h'=>hq _ _ _ h' Uu hh.2 K)
  (λp hp t G k h hg hh K=>hp _ _ _ h hg (by
   cases t with
   |true=>exact hh
   |false=>exact Classical.not_not.mp hh) K)
  (λt G k h hg hp K=>by
   cases t with
   |true=>exact hp
   |false=>exact K _ hg h)
  λV V V V V G k h hg hp K=>K _ hg h
theorem aef{x p q:Nat}(h:x=p/q):x*q<=p/\(q=0\/p+1<=x*q+q):=h▸⟨al3 ..,(aiz _).imp_right Nat.lt_div_mul_add⟩
theorem aeg{x p q:Nat}(h:x=p%q):q=0\/x+1<=q:=h▸(aiz _).imp_right (adC _)
theorem aeh{x p q:Nat}(h:x=min p q):(x=p/\p<=q)\/(x=q/\q<=p):=h▸(Nat.le_total p q).imp (λh=>⟨am5 h,h⟩) λh=>⟨Nat.min_eq_right h,h⟩
theorem Uv(p:P)(h:pn a b p):pn a b (pre p):=by
 cases p with
 |d f x p q=>
  match f,h with
  |0,h=>exact (Nat.le_total (nz a b p).1 (nz a b q).1).symm.imp (λk=>(congrArg (· +_) h).trans (agb k)) λk=>⟨h.trans (Nat.sub_eq_zero_of_le k),k⟩
  |1,h=>exact aef h
  |2,h=>exact aeg h
  |3,h=>exact aeh h
  |n+4,h=>exact (Int.le_total 0 (nz a b p).2).imp (λk=>(congrArg _ h).trans (aeM k)) λk=>⟨h.trans (Int.toNat_of_nonpos k),k⟩
 |_=>exact h
theorem N8{g:P}{k:List Po->Bool}(K:∀G,Al a b G->k G=true->pn a b g)(hs:List P):∀G,Uq k hs G=true->Al a b G->dn a b g hs:=
 hs.rec (λG h hg=>K _ hg h) λp r ih G h hg hp=>aj7 λhn=>IG (pre p) true _ _ h hg (Uv p hp) λG' Uu h'=>hn (ih _ h' Uu)
theorem xf{hs:List P}{g:P}(h:oC hs g=true):dn a b g hs:=
 N8 (λG hg h=>aj7 λhn=>IG g false _ _ h hg hn λV hg h=>YX 12 _ h hg) hs _ h λV m=>nomatch m
end
end Mine.Internal.Ar
namespace Mine.Internal
open Ar
noncomputable abbrev qa:=T.v 0
noncomputable abbrev qb:=T.v 1
noncomputable abbrev qc:=T.v 2
noncomputable abbrev qd:=T.v 3
noncomputable abbrev qe:=T.v 4
noncomputable abbrev qf:=T.v 5
noncomputable abbrev qg:=T.v 6
noncomputable abbrev qh:=T.v 7
noncomputable abbrev qi:=T.v 8
noncomputable abbrev qj:=T.v 9
noncomputable abbrev qk:=T.k
noncomputable abbrev qL:=T.l
noncomputable abbrev qC:=T.c
noncomputable abbrev qG:=T.g
noncomputable abbrev qA:=T.a
noncomputable abbrev qS:=T.s
noncomputable abbrev qM:=T.m
noncomputable abbrev qle:=P.l false
noncomputable abbrev qlt(x y:T):=P.l false (T.a x (T.k 1)) y
noncomputable abbrev qeq:=P.e false
noncomputable abbrev Qle:=P.l true
noncomputable abbrev Qlt(x y:T):=P.l true (T.a x (T.k 1)) y
noncomputable abbrev Qeq:=P.e true
noncomputable abbrev aU:=P.j true
noncomputable abbrev cz:=P.j false
noncomputable abbrev cu:=P.no
noncomputable abbrev qD:=P.d
theorem Uw(p:List P)(g:P)(h:oC p g=true):dn [] [] g p:=xf h
theorem fK(p:List P)(g:P)(h:oC p g=true){i:Int}:dn [] [i] g p:=xf h
theorem Yq(p:List P)(g:P)(h:oC p g=true){i j:Int}:dn [] [i,j] g p:=xf h
theorem YY(p:List P)(g:P)(h:oC p g=true){i j k:Int}:dn [] [i,j,k] g p:=xf h
theorem q04(p:List P)(g:P)(h:oC p g=true){i j k l:Int}:dn [] [i,j,k,l] g p:=xf h
theorem aG(p:List P)(g:P)(h:oC p g=true){x:Nat}:dn [x] [] g p:=xf h
theorem N9(p:List P)(g:P)(h:oC p g=true){x:Nat}{i:Int}:dn [x] [i] g p:=xf h
theorem q12(p:List P)(g:P)(h:oC p g=true){x:Nat}{i j:Int}:dn [x] [i,j] g p:=xf h
theorem aP(p:List P)(g:P)(h:oC p g=true){x y:Nat}:dn [x,y] [] g p:=xf h
theorem Gq(p:List P)(g:P)(h:oC p g=true){x y:Nat}{i:Int}:dn [x,y] [i] g p:=xf h
theorem bJ(p:List P)(g:P)(h:oC p g=true){x y z:Nat}:dn [x,y,z] [] g p:=xf h
theorem d4(p:List P)(g:P)(h:oC p g=true){x y z u:Nat}:dn [x,y,z,u] [] g p:=xf h
theorem Cj(p:List P)(g:P)(h:oC p g=true){x y z u v:Nat}:dn [x,y,z,u,v] [] g p:=xf h
theorem RB(p:List P)(g:P)(h:oC p g=true){x y z u v w:Nat}:dn [x,y,z,u,v,w] [] g p:=xf h
theorem YZ(p:List P)(g:P)(h:oC p g=true){x y z u v w s t r o:Nat}:dn [x,y,z,u,v,w,s,t,r,o] [] g p:=xf h
end Mine.Internal
end
end
section
set_option compiler.extract_closed false
namespace Mine.Internal
def mNd (k:Lean.Name) (a:Array Lean.Syntax):Lean.Syntax:=.node .none k a
def mTk:String→Lean.Syntax:=.atom .none
def mAp (f:Lean.Name) (a:Array Lean.Syntax):Lean.Syntax:=mNd `Lean.Parser.Term.app #[Lean.mkIdent f,mNd `null a]
def mEx (e:Array Lean.Syntax):Lean.Syntax:=mNd `Lean.Parser.Tactic.exact e
def mLg:Nat→Lean.Syntax→Lean.Syntax
 | 0,t=>t
 | n+1,t=>match ["+","-","*","<=","<","=",">=",">","=="].zip [``qA,``qS,``qM,``qle,``qlt,``qeq,``Qle,``Qlt,``Qeq]|>.lookup t[1].getAtomVal with
  | some x=>mAp x #[mLg n t[0],mLg n t[2]]
  | none=>match t with
   | .ident _ _ (.str .anonymous s) _=>if s.length==1&&s<"k" then Lean.mkIdent (.str `Mine.Internal ("q"++s)) else t
   | .node i k a=>if k==`num then mAp ``qk #[t] else if k==`Lean.Parser.Term.paren then mLg n a[1]! else .node i k (a.map fun x=>if x.isOfKind `num then x else mLg n x)
   | t=>t
def mBt (t:Lean.Syntax):Lean.Syntax:=mNd `Lean.Parser.Term.byTactic #[mTk "by",mNd `Lean.Parser.Tactic.tacticSeq #[mNd `Lean.Parser.Tactic.tacticSeq1Indented #[mNd `null #[t]]]]
def mKr:Lean.Syntax:=mBt (mNd `tacticKernel_rfl #[mTk "kernel_rfl"])
end Mine.Internal
end
section
open Mine.Internal
set_option compiler.extract_closed false
local macro_rules (kind:=«term∅»)
 | s=>if s.isMissing then Lean.Macro.throwUnsupported else pure mKr
local macro_rules (kind:=Lean.Parser.Term.omission)
 | s=>if s.isMissing then Lean.Macro.throwUnsupported else pure (mBt (mNd `Lean.Parser.Tactic.decide #[mTk "decide",mNd `Lean.Parser.Tactic.optConfig #[mNd `null #[]]]))
local macro_rules (kind:=«term%[_|_]»)
 | s=>let f:=s[3];let b:=f.isOfKind `Lean.Parser.Term.paren;let e:=if b then f[1] else f
  match s[1].getSepArgs.toList.map (mLg 40),e.getId.hasMacroScopes with
  | g::h,false=>let r:=mNd `Lean.Parser.Term.app #[if e.isIdent then e else e[0],mNd `null (#[mNd `«term[_]» #[mTk "[",mNd `null (Lean.Syntax.SepArray.ofElems (sep:=",") h.toArray).1,mTk "]"],g,mKr]++e[1].getArgs)];pure (if b then mBt (mEx #[mTk "exact",r]) else r)
  | _,_=>Lean.Macro.throwUnsupported
local macro_rules (kind:=Lean.Parser.Tactic.tacticErw___)
 | s=>pure (s[2][1].getSepArgs.foldl (fun t r=>let q:=if r[1].getId==`rfl then mEx #[mTk "exact",r[1]] else mNd `Lean.Parser.Tactic.refine #[mTk "refine",mAp (if r[0].getNumArgs==0 then ``rwG else ``rwB) #[r[1],mNd `Lean.Parser.Term.syntheticHole #[mTk "?",mNd `Lean.Parser.Term.hole #[mTk "_"]]]];if t.isMissing then q else mNd `Lean.Parser.Tactic.«tactic_<;>_» #[t,mTk "<;>",q]) .missing)
section
namespace Mine.Internal
section
open Ar
theorem q23(p:List P)(g:P)(h:oC p g=true){x y:Nat}{i j k:Int}:dn [x,y] [i,j,k] g p:=xf h
theorem q31(p:List P)(g:P)(h:oC p g=true){x y z:Nat}{i:Int}:dn [x,y,z] [i] g p:=xf h
theorem q61(p:List P)(g:P)(h:oC p g=true){x y z u v w:Nat}{i:Int}:dn [x,y,z,u,v,w] [i] g p:=xf h
theorem q70(p:List P)(g:P)(h:oC p g=true){x y z u v w s:Nat}:dn [x,y,z,u,v,w,s] [] g p:=xf h
end
end Mine.Internal
end
section
open PySem PySem.W PyProof.Rows
section
namespace Mine.Internal
noncomputable abbrev Pr:=Sem aaq×Sem aaq
noncomputable def jO(d:aa9)(run:List Pr):Sem Unit:=do
 let sub <-ah3 [.ref d] (aia run)
 (ah3 [.ref d,.ref sub] (mergeMapping d (.ref sub) false)).onRaise λx=>do let _ <-ah3 [.ref d,x] (runValue (.builtin "proto.let_go" {}))
noncomputable def iA:List (List Pr)->aa9->Sem Unit
 |[],_=>pure ()
 |c::cs,d=>do jO d c;iA cs d
section
variable(f:(Option (Sem aaq)×Sem aaq)->(Option aa9×List Pr)->Sem (ForInStep (Option aa9×List Pr)))
noncomputable def dG(p:Pr):Option (Sem aaq)×Sem aaq:=(some p.1,p.2)
theorem i5(hf:∀(p:Pr) (m:Option aa9) (run:List Pr),run.length+1<17->f (dG p) (m,run)=pure (.yield (m,run++[p]))):
 ∀(items rest run:List Pr) (m:Option aa9),run.length+items.length<17->forIn ((items++rest).map dG) (m,run) f=forIn (rest.map dG) (m,run++items) f
 |[],rest,run,m,_=>by simp
 |p::items,rest,run,m,h=>by
  erw[adS,aa6,afK ..,hf p m run (by simp at h;exact %[a+1<17,a+(b+1)<17|aP h]),pure_bind ..]
  have:=i5 hf items rest (run++[p]) m (by simp at h ⊢;exact %[a+1+b<17,a+(b+1)<17|aP h])
  simpa using this
theorem Ct(hf:∀(p:Pr) (m:Option aa9) (run:List Pr),run.length+1<17->f (dG p) (m,run)=pure (.yield (m,run++[p])))
(hs:∀(p:Pr) (d:aa9) (run:List Pr),run.length+1=17->f (dG p) (some d,run)=(do jO d (run++[p]);pure (.yield (some d,[]))))
(c rest:List Pr)(d:aa9)(h:c.length=17):forIn ((c++rest).map dG) (some d,[]) f=(do jO d c;forIn (rest.map dG) (some d,[]) f):=by
 obtain ⟨items,p,rfl⟩ :∃items p,c=items++[p]:=by
  have hc:c≠[]:=by intro e;rw[e]at h;simp at h
  exact ⟨c.dropLast,c.getLast hc,(akk hc).symm⟩
 have hl:items.length=16:=by simpa using h
 erw[aaI ..,i5 f hf items ([p]++rest) [] (some d) (by simp;exact %[a<17,a=16|aG hl])]
 simp only[adK,adS,aa6,afK]
 rw[hs p d items %[a+1=17,a=16|(aG hl)]]
 simp only[bind_assoc,pure_bind]
theorem zx(hf:∀(p:Pr) (m:Option aa9) (run:List Pr),run.length+1<17->f (dG p) (m,run)=pure (.yield (m,run++[p])))
(hn:∀(p:Pr) (run:List Pr),run.length+1=17->f (dG p) (none,run)=(do let d <-aia (run++[p]);pure (.yield (some d,[]))))
(c rest:List Pr)(h:c.length=17):forIn ((c++rest).map dG) (none,[]) f=(do let d <-aia c;forIn (rest.map dG) (some d,[]) f):=by
 obtain ⟨items,p,rfl⟩ :∃items p,c=items++[p]:=by
  have hc:c≠[]:=by intro e;rw[e]at h;simp at h
  exact ⟨c.dropLast,c.getLast hc,(akk hc).symm⟩
 have hl:items.length=16:=by simpa using h
 erw[aaI ..,i5 f hf items ([p]++rest) [] none (by simp;exact %[a<17,a=16|aG hl])]
 simp only[adK,adS,aa6,afK]
 rw[hn p items %[a+1=17,a=16|(aG hl)]]
 simp only[bind_assoc,pure_bind]
theorem vZ(hf:∀(p:Pr) (m:Option aa9) (run:List Pr),run.length+1<17->f (dG p) (m,run)=pure (.yield (m,run++[p])))
(hs:∀(p:Pr) (d:aa9) (run:List Pr),run.length+1=17->f (dG p) (some d,run)=(do jO d (run++[p]);pure (.yield (some d,[]))))(last:List Pr)(hl:last.length<17)(d:aa9):
 ∀(cs:List (List Pr)),(∀c∈cs,c.length=17)->forIn ((cs.flatten++last).map dG) (some d,[]) f=(do iA cs d;pure (some d,last))
 |[],_=>by
  have:=i5 f hf last [] [] (some d) (by simpa using hl)
  simp only[abW,adK,ahc,am6]at this
  simp only[aj6,adK,iA,pure_bind]
  exact this
 |c::cs,h=>by
  erw[aey,aaI ..,Ct f hf hs c _ d (h c (.head _)),vZ hf hs last hl d cs (λc' zy=>h c' (.tail _ zy))]
  simp only[iA,bind_assoc]
end
theorem IH(c0:List Pr)(cs:List (List Pr))(last:List Pr)(h0:c0.length=17)(h:∀c∈cs,c.length=17)(hl:last.length<17)(cW:last≠[]):
 akO ((c0++(cs.flatten++last)).map dG)=(do let d <-aia c0;iA cs d;jO d last;pure (.ref d)):=by
 unfold akO
 dsimp only
 rw[zx _ (λp m run h=>?_) (λp run h=>?_) c0 _ h0]
 .have e:last.isEmpty=false:=by cases last <;> simp_all
  simp only[bind_assoc]
  congr 1
  funext d
  rw[vZ _ (λp m run h=>?_) (λp d run h=>?_) last hl d cs h]
  .simp only[bind_assoc,pure_bind,e,aeG,if_false,jO]
  .have cW:((run++[(p.1,p.2)]).length==17)=false:=by simp;exact %[cu (a=16),a+1<17|aG h]
   simp only[dG,cW,aeG,if_false]
  .have cW:((run++[(p.1,p.2)]).length==17)=true:=by simp;exact %[a=16,a+1=17|aG h]
   have hm:(run++[(p.1,p.2)]).isEmpty=false:=by cases run <;> rfl
   simp only[dG,cW,hm,if_true,aeG,if_false,jO,bind_assoc,pure_bind]
 .have cW:((run++[(p.1,p.2)]).length==17)=false:=by simp;exact %[cu (a=16),a+1<17|aG h]
  simp only[dG,cW,aeG,if_false]
 .have cW:((run++[(p.1,p.2)]).length==17)=true:=by simp;exact %[a=16,a+1=17|aG h]
  have hm:(run++[(p.1,p.2)]).isEmpty=false:=by cases run <;> rfl
  simp only[dG,cW,hm,if_true,aeG,if_false,bind_assoc,pure_bind]
section
variable{p:aas}{w:abI}{ld:Nat}{ann:Option aaq}{c:ahO}{q:Pos}{gd:Bool->Bool}{lv:List aaq->List aaq}
noncomputable def RT(p:aas)(w:abI)(ld:Nat)(ann:Option aaq)(c:ahO)(q:Pos)(gd:Bool->Bool)(lv:List aaq->List aaq){α:Type}(n:Nat)(x:Sem α)(s:aaD)(pos:Pos)(a:α)(s':aaD)(Gr:Pos):Prop:=
 ∀(K:α->Sem Fin) (H:aaq->Sem Fin) (N:Nat) (r:aaD),ahM adW p w ld ann N s' ⟨K a,c,Gr,[topFrame q]⟩=some r->ahM adW p w ld ann (n+N) s ⟨x.wrap K H gd lv,c,pos,[topFrame q]⟩=some r
noncomputable abbrev Cu(p:aas)(w:abI)(ld:Nat)(ann:Option aaq)(c:ahO)(q:Pos){α:Type}(n:Nat)(x:Sem α)(s:aaD)(pos:Pos)(a:α)(s':aaD)(Gr:Pos):Prop:=
 ∀gd lv,RT p w ld ann c q gd lv n x s pos a s' Gr
theorem RT.Ux{α:Type}{res:α->ahE}{x:Sem α}{n:Nat}{s s':aaD}{a:α}{pos Gr:Pos}(aei:∀a',res a'=res a->a'=a)
(h:segRun adW p w ld ann 1 n s ⟨x.wrap (λa=>.pure (.done (res a))) deadEnd gd lv,c,pos,[topFrame q]⟩=some (res a,s',c,Gr)):RT p w ld ann c q gd lv n x s pos a s' Gr:=by
 intro K H N r hN
 obtain ⟨a',ha,hk⟩:=seg_top (res:=res) (K':=K) (H':=H) (gd:=gd) (lv:=lv) (B:=[topFrame q]) rfl n s ⟨x.wrap (λa=>.pure (.done (res a))) deadEnd gd lv,c,pos,[topFrame q]⟩
  ⟨x.wrap K H gd lv,c,pos,[topFrame q]⟩ _ _ _ _ ⟨rfl,rfl,.inl ⟨rfl,rfl,_,rfl,rfl⟩⟩ h
 obtain rfl:=aei a' ha
 exact hk N r hN
theorem RT.bind{α β:Type}{x:Sem α}{f:α->Sem β}{n m:Nat}{s dx qm:aaD}{pos p₁ Y0:Pos}{a:α}{b:β}(hx:RT p w ld ann c q gd lv n x s pos a dx p₁)(hf:RT p w ld ann c q gd lv m (f a) dx p₁ b qm Y0):
 RT p w ld ann c q gd lv (n+m) (x >>=f) s pos b qm Y0:=by
 intro K H N r hN
 erw[Sem.bind_eq_wrap' ..,akU ..,ahg ..]
 exact hx (λa=>(f a).wrap K H gd lv) H (m+N) r (hf K H N r hN)
theorem RT.pure{α:Type}{a:α}{s:aaD}{pos:Pos}:RT p w ld ann c q gd lv 0 (ajy a:Sem α) s pos a s pos:=by
 intro K H N r hN
 erw[aeD ..];exact hN
theorem RT.Ep{s:aaD}{pos p':Pos}:RT p w ld ann c q gd lv 1 (aju p') s pos () s p':=by
 intro K H N r hN
 erw[aeU ..]
 show ahM adW p w ld ann (N+1) s ⟨.at p' λx=>K x,c,pos,[topFrame q]⟩=some r
 skip
 exact hN
theorem RT.rule{s:aaD}{pos:Pos}{tag:String}:RT p w ld ann c q gd lv 1 (PySem.rule tag) s pos () s pos:=by
 intro K H N r hN
 erw[aeU ..]
 show ahM adW p w ld ann (N+1) s ⟨.rule tag λx=>K x,c,pos,[topFrame q]⟩=some r
 skip
 exact hN
theorem RT.load{s:aaD}{pos:Pos}{a:aa9}{o:Obj}{oM:Option aaq}(h:s.heap.get? a=some o):RT p w ld ann c q gd lv 1 (loadPart a oM) s pos o s pos:=by
 intro K H N r hN
 erw[aeU ..]
 show ahM adW p w ld ann (N+1) s ⟨.load a oM λx=>K x,c,pos,[topFrame q]⟩=some r
 skip
 obtain ⟨heap,gens,drawn,toks,os⟩:=s
 have h:heap.get? a=some o:=h
 show (match akm (denote adW) p w ⟨heap,gens,drawn,toks,os⟩ ⟨.load a oM λx=>K x,c,pos,[topFrame q]⟩ with|.go s' t'=>ahM adW p w ld ann N s' t'|.halt _ _=>none)=_
 simp only[akm,h]
 exact hN
theorem RT.update{s:aaD}{pos:Pos}{a:aa9}{o:Obj}{oM:Option aaq}{f:Obj->Obj}(h:s.heap.get? a=some o)(ha:ahA ld a=true):RT p w ld ann c q gd lv 1 (updatePart a oM f) s pos () {s with heap:=s.heap.update a f} pos:=by
 intro K H N r hN
 erw[aeU ..]
 show ahM adW p w ld ann (N+1) s ⟨.update a oM f λx=>K x,c,pos,[topFrame q]⟩=some r
 skip
 obtain ⟨heap,gens,drawn,toks,os⟩:=s
 have h:heap.get? a=some o:=h
 have ok:stepOk ld ann ⟨.update a oM f λx=>K x,c,pos,[topFrame q]⟩=true:=by
  show (true&&(ahA ld a||a==mainNs||a==cStatics||ann==some (.ref a)))=true
  erw[ha];rfl
 show (match stepOk ld ann ⟨.update a oM f λx=>K x,c,pos,[topFrame q]⟩ with|false=>none|true=>match akm (denote adW) p w ⟨heap,gens,drawn,toks,os⟩ ⟨.update a oM f λx=>K x,c,pos,[topFrame q]⟩ with|.go s' t'=>ahM adW p w ld ann N s' t'|.halt _ _=>none)=_
 erw[ok]
 simp only[akm,h,aly,if_true]
 exact hN
theorem RT.alloc{s:aaD}{pos:Pos}{o:Obj}:RT p w ld ann c q gd lv 1 (PySem.alloc o) s pos s.heap.objs.size {s with heap:=s.heap.push o} pos:=by
 intro K H N r hN
 erw[aeU ..]
 show ahM adW p w ld ann (N+1) s ⟨.alloc o λx=>K x,c,pos,[topFrame q]⟩=some r
 skip
 obtain ⟨heap,gens,drawn,toks,os⟩:=s
 exact hN
theorem RT.fresh{s:aaD}{pos:Pos}:RT p w ld ann c q gd lv 1 PySem.fresh s pos s.toks {s with toks:=s.toks+1} pos:=by
 intro K H N r hN
 erw[aeU ..]
 show ahM adW p w ld ann (N+1) s ⟨.fresh λx=>K x,c,pos,[topFrame q]⟩=some r
 skip
 obtain ⟨heap,gens,drawn,toks,os⟩:=s
 exact hN
theorem RT.keep{α:Type}{x:Sem α}{n:Nat}{s dx:aaD}{pos p₁:Pos}{a:α}{vs:List aaq}(h:RT p w ld ann c q gd (λl=>lv (vs++l)) n x s pos a dx p₁):RT p w ld ann c q gd lv n (x.keep vs) s pos a dx p₁:=by
 intro K H N r hN
 erw[Sem.keep_eq_wrap ..,akU ..]
 exact h K H N r hN
theorem RT.onRaise{α:Type}{x:Sem α}{n:Nat}{s dx:aaD}{pos p₁:Pos}{a:α}{h:aaq->Sem Unit}(hx:RT p w ld ann c q gd lv n x s pos a dx p₁):RT p w ld ann c q gd lv n (x.onRaise h) s pos a dx p₁:=by
 intro K H N r hN
 erw[Sem.onRaise_eq_wrap ..,akU ..]
 exact hx K _ N r hN
theorem Cu.holding{α:Type}{x:Sem α}{n:Nat}{s dx:aaD}{pos p₁:Pos}{a:α}{vs:List aaq}(h:Cu p w ld ann c q n x s pos a dx p₁):RT p w ld ann c q gd lv n (ah3 vs x) s pos a dx p₁:=by
 unfold ah3
 split
 .exact h gd lv
 .exact RT.keep (h gd _)
theorem RT.Y1{env:Env}{st:ahs}{rest:List ahs}{n N:Nat}{s s' r:aaD}{pos p':Pos}(h:RT p w ld ann c q id id n (exec st env) s pos .next s' p')
(k:ahM adW p w ld ann N s' (restOf rest env c p' [topFrame q])=some r):ahM adW p w ld ann (n+N) s (restOf (st::rest) env c pos [topFrame q])=some r:=by
 unfold restOf
 rw[execs_cons_wrap]
 exact h (λf=>match f with|.next=>(ajA rest env).wrap doneF (leaveH env) id id|f=>doneF f) (leaveH env) N r k
end
end Mine.Internal
namespace Mine.Internal
theorem Gs{env:Env}{id:Str}{Uy p p1:Pos}{ks:List (Option ado)}{vs:List ado}:exec (.Assign [.Name id Uy] (.Dict ks vs p) p1) env=
 (do aju p1
     let v <-(do aju p;akO ((evalEachOpt ks env).zip ((evalEach vs env).map λv=>do let x <-v;aju p;pure x)):Sem aaq)
     let sw <-ahS [.Name id Uy] (.Dict ks vs p) env
     assignStores env v sw ((assignEach [.Name id Uy] env).map (·.2))):=by
 rfl
end Mine.Internal
end
end
section
open PySem PySem.W PyProof.Rows
namespace Mine
open Internal
section
noncomputable def Er(x:Int):Int:=
 let h:Int:=x.natAbs%(2^61-1:Nat)
 let h:=if x<0 then -h else h
 if h== -1 then -2 else h
noncomputable def Es(b:Bool)(p:aas)(w:abI)(i:Int)(t:Tok)(heap:adF)(gens:Array ajj)(drawn:Drawn)(toks:Nat)(os:ad7)(bd:List ahs)(env:Env)(pos q:Pos)(ld:Nat)(ann:Option aaq)(gd:Bool->Bool)(lv:List aaq->List aaq)(K:Int->Sem ajO)(H:aaq->Sem ajO)(N:Nat):Option aaD:=
 ahM adW p (w.withFollow "special-get-raises" b) ld ann (N+5) ⟨heap,gens,drawn,toks,os⟩ ⟨(pyHash (.int i t)).wrap K H gd lv,.body bd env,pos,[topFrame q]⟩
noncomputable def Et(b:Bool)(p:aas)(w:abI)(i:Int)(t:Tok)(heap:adF)(gens:Array ajj)(drawn:Drawn)(toks:Nat)(os:ad7)(bd:List ahs)(env:Env)(pos q:Pos)(ld:Nat)(ann:Option aaq)(gd:Bool->Bool)(lv:List aaq->List aaq)(K:Int->Sem ajO)(H:aaq->Sem ajO)(N:Nat):Option aaD:=
 ahM adW p (w.withFollow "special-get-raises" b) ld ann N ⟨heap,gens,drawn,toks+1,os⟩ ⟨(ahk (Er i)).wrap K H gd lv,.body bd env,pos,[topFrame q]⟩
noncomputable def hashLf:=Es false
noncomputable def hashLt:=Es true
noncomputable def hashRf:=Et false
noncomputable def hashRt:=Et true
lay_quick Mine.hashLf Mine.hashRf Mine.hashLt Mine.hashRt
open PySem.W.Fast
theorem Y2:hashLf=hashRf:=te6981947773493496021.trans ((by kernel_rfl:tw6981947773493496021=tw7451788088923894622).trans te7451788088923894622.symm)
theorem Y3:hashLt=hashRt:=te17006379713292907523.trans ((by kernel_rfl:tw17006379713292907523=tw8852667960343240741).trans te8852667960343240741.symm)
theorem Cv(h:0<=x)(h2:x<2^63):ahk x=pure x:=by
 unfold ahk
 have e1:(decide (-(2^63:Int)<=x)&&decide (x<2^63))=true:=by simp;exact %[aU ((qG (9223372036854775808))>=a) (a>9223372036854775808),0>=a,a>(qL 2 63)|fK h h2]
 have e2:(x== -1)=false:=by simp;exact %[cu (a==(qG (1))),0>=a|fK h]
 rw[if_pos e1]
 simp only[e2,aeG,if_false]
theorem IJ(h:0<=x)(h2:x<2^60):Er x=x:=by
 unfold Er
 have e:¬x<0:=%[cu (a>0),0>=a|(fK h)]
 have e3:((x.natAbs:Int)%((2^61-1:Nat):Int))=x:=by
  rw[Int.natAbs_of_nonneg h,amG h]
  have:((2^61-1:Nat):Int)=2305843009213693951:=⋯
  rw[this];exact %[a>2305843009213693951,a>(qL 2 60)|fK h2]
 have e2:(x== -1)=false:=by simp;exact %[cu (a==(qG (1))),0>=a|fK h]
 simp only[e3,if_neg e,e2,aeG,if_false]
variable{p:aas}{w:abI}{ld:Nat}{ann:Option aaq}{bd:List ahs}{env:Env}{q:Pos}{gd:Bool->Bool}{lv:List aaq->List aaq}
theorem RT.hash(h:0<=i)(h2:i<2^60):RT p w ld ann (.body bd env) q gd lv 5 (pyHash (.int i t)) s pos i {s with toks:=s.toks+1} pos:=by
 intro K H N r hN
 obtain ⟨heap,gens,drawn,toks,os⟩:=s
 erw[aeU ..]
 have key:∀b,ahM adW p (w.withFollow "special-get-raises" b) ld ann (N+5) ⟨heap,gens,drawn,toks,os⟩ ⟨(pyHash (.int i t)).wrap K H gd lv,.body bd env,pos,[topFrame q]⟩=
  ahM adW p (w.withFollow "special-get-raises" b) ld ann N ⟨heap,gens,drawn,toks+1,os⟩ ⟨K i,.body bd env,pos,[topFrame q]⟩:=by
  intro b
  have hr:(ahk (Er i)).wrap K H gd lv=K i:=by (erw[IJ h h2,Cv h %[a>(qL 2 63),a>(qL 2 60)|(fK h2)]]);rfl
  cases b
  .have:=congrFun (congrFun (congrFun (congrFun (congrFun (congrFun (congrFun (congrFun (congrFun (congrFun (congrFun (congrFun (congrFun (congrFun (congrFun (congrFun (congrFun (congrFun (congrFun (congrFun Y2 p) w) i) t) heap) gens) drawn) toks) os) bd) env) pos) q) ld) ann) gd) lv) K) H) N
   unfold hashLf hashRf Es Et at this
   rw[this,hr]
  .have:=congrFun (congrFun (congrFun (congrFun (congrFun (congrFun (congrFun (congrFun (congrFun (congrFun (congrFun (congrFun (congrFun (congrFun (congrFun (congrFun (congrFun (congrFun (congrFun (congrFun Y3 p) w) i) t) heap) gens) drawn) toks) os) bd) env) pos) q) ld) ann) gd) lv) K) H) N
   unfold hashLt hashRt Es Et at this
   rw[this,hr]
 have:=key (w.params.followText "special-get-raises")
 rw[World.withFollow_self]at this
 erw[this];exact hN
end
end Mine
end
section
open PySem PySem.W PyProof.Rows
namespace Mine.Internal
section
variable{p:aas}{w:abI}{ld:Nat}{ann:Option aaq}{bd:List ahs}{env:Env}{q:Pos}{gd:Bool->Bool}{lv:List aaq->List aaq}
theorem RT.cast{α:Type}{x:Sem α}{n m:Nat}{s dx qm:aaD}{pos p₁:Pos}{a:α}{c:ahO}(h:RT p w ld ann c q gd lv n x s pos a dx p₁)(e:n=m)(e2:dx=qm):RT p w ld ann c q gd lv m x s pos a qm p₁:=by
 subst e e2;exact h
noncomputable def aj(es:List afd):Obj:={cls:=.type "dict",data:=.dict es.toArray es.length}
theorem zz{es:List afd}{h:Int}(hn:∀e∈es,e.hash≠h):placesWithHash es.toArray.size (λi=>es.toArray[i]?.map (·.hash)) h=[]:=by
 unfold placesWithHash
 rw[List.filter_eq_nil_iff]
 intro i hi
 rw[abd]at hi
 have:i<es.length:=by simpa using hi
 simp only[af9,abz this,aic,beq_iff_eq,Option.some.injEq]
 exact hn _ (aj5 this)
theorem RT.entries(h:s.heap.get? d=some (aj es)):RT p w ld ann c q gd lv 1 (dictEntries d oM) s pos es.toArray s pos:=by
 skip
 refine RT.bind (n:=1) (m:=0) (RT.load h) ?_
 exact RT.pure
theorem RT.RC(h:s.heap.get? d=some (aj es)):RT p w ld ann c q gd lv 1 (dictEpoch d oM) s pos es.length s pos:=by
 skip
 refine RT.bind (n:=1) (m:=0) (RT.load h) ?_
 exact RT.pure
theorem RT.find{c:ahO}{s:aaD}{pos:Pos}{d:aa9}{es:List afd}{i h:Int}{t:Tok}(hd:s.heap.get? d=some (aj es))(hn:∀e∈es,e.hash≠h):
 RT p w ld ann c q gd lv 1 (dictFind d (.int i t) h) s pos none s pos:=by
 skip
 refine Cu.holding λgd lv=>?_
 refine RT.bind (m:=0) (RT.entries hd) ?_
 skip
 erw[zz hn]
 exact RT.pure
theorem zA{h:adF}{a:aa9}{o:Obj}{f:Obj->Obj}(e:h.get? a=some o):h.update a f=h.update a (λV=>f o):=by
 obtain ⟨objs,l⟩:=h
 have e':objs[a]?=some o:=by
  unfold ajX at e
  skip
  split at e
  .cases e
  .exact e
 show ahw (objs.modify a f) l=ahw (objs.modify a λV=>f o) l
 congr 1
 apply ahH
 intro i
 erw[ae6,ae6]
 by_cases hi:a=i
 .subst hi;erw[if_pos rfl,if_pos rfl,e'];rfl
 .erw[if_neg hi,if_neg hi,rfl]
theorem gP{h:adF}{a:aa9}{o o':Obj}:(h.update a λV=>o).update a (λV=>o')=h.update a λV=>o':=by
 obtain ⟨objs,l⟩:=h
 show ahw ((objs.modify a λV=>o).modify a λV=>o') l=ahw (objs.modify a λV=>o') l
 congr 1
 apply ahH
 intro i
 erw[ae6,ae6,ae6]
 by_cases hi:a=i
 .subst hi;simp[Function.comp_def]
 .simp[hi]
theorem i6{h:adF}{a:aa9}{o o':Obj}(e:h.get? a=some o)(ho:o'.isFreed=false):(h.update a λV=>o').get? a=some o':=by
 obtain ⟨objs,l⟩:=h
 have e':objs[a]?=some o:=by
  unfold ajX at e
  skip
  split at e
  .cases e
  .exact e
 show (match (objs.modify a λV=>o')[a]? with|some ⟨_,_,.freed,_⟩=>none|o=>o)=some o'
 erw[ae6,if_pos rfl,e']
 obtain ⟨c,d,dt,sl⟩:=o'
 cases dt <;> first|rfl|cases ho
theorem lS{h:adF}{a b:aa9}{o':Obj}(cW:b≠a):(h.update a λV=>o').get? b=h.get? b:=ajB _ _ _ _ cW
theorem xg:(akr (·.push e)) (aj es)=aj (es++[e]):=by
 unfold aj akr
 simp
theorem RT.put{c:ahO}{s:aaD}{pos:Pos}{d:aa9}{es:List afd}{e:afd}{oM:Option aaq}(hd:s.heap.get? d=some (aj es))(hn:ahA ld d=true)(cL:es.length+1<=aa7):
 RT p w ld ann c q gd lv 3 (updateDictKeys d (·.push e) oM) s pos () {s with heap:=s.heap.update d λV=>aj (es++[e])} pos:=by
 skip
 refine RT.bind (n:=1) (m:=2) (RT.load hd) ?_
 have hu:s.heap.update d (akr (·.push e))=s.heap.update d λV=>aj (es++[e]):=by (erw[zA hd,xg,rfl])
 refine RT.bind (n:=1) (m:=1) (RT.update hd hn) ?_
 erw[hu]
 skip
 refine RT.bind (n:=1) (m:=0) (RT.load (o:=aj (es++[e])) (i6 hd rfl)) ?_
 have:(aj (es++[e])).data.pastItsLine=none:=by
  show (if (es++[e]).toArray.size>aa7+1 then some "dict:memory" else none)=none
  rw[if_neg]
  simp;exact %[a<=b,a<b|aP cL]
 erw[this]
 exact RT.pure
theorem RT.dictPut(hd:s.heap.get? d=some (aj es))(hn:ahA ld d=true)(cL:es.length+1<=aa7)(hh:∀e∈es,e.hash≠h):
 RT p w ld ann c q gd lv 4 (akF d h (.int i t) v) s pos () {s with heap:=s.heap.update d λV=>aj (es++[⟨h,.int i t,v⟩])} pos:=by
 skip
 exact RT.bind (n:=1) (m:=3) (RT.find hd hh) (RT.put hd hn cL)
theorem RT.dictSet{v:aaq}(hd:s.heap.get? d=some (aj es))(hn:ahA ld d=true)(cL:es.length+1<=aa7)(hh:∀e∈es,e.hash≠i)(h0:0<=i)(h1:i<2^60):
 RT p w ld ann (.body bd env) q gd lv 10 (akE d (.int i t) v) s pos () {s with heap:=s.heap.update d (λV=>aj (es++[⟨i,.int i t,v⟩])),toks:=s.toks+1} pos:=by
 skip
 refine Cu.holding λgd lv=>?_
 refine RT.bind (n:=5) (m:=5) (RT.hash h0 h1) ?_
 skip
 refine Cu.holding λgd lv=>?_
 refine RT.bind (n:=1) (m:=4) (RT.find (s:={s with toks:=s.toks+1}) hd hh) ?_
 exact RT.bind (n:=1) (m:=3) RT.rule (RT.put (s:={s with toks:=s.toks+1}) hd hn cL)
noncomputable def i7(pv:Pos)(x:Int×Str):Pr:=(mkInt x.1,do let v <-mkText x.2;aju pv;pure v)
noncomputable def zB(t:Nat)(x:Int×Str):afd:=⟨x.1,.int x.1 t,.str x.2 (t+1)⟩
noncomputable def aK:Nat->List (Int×Str)->List afd
 |_,[]=>[]
 |t,x::r=>zB t x::aK (t+3) r
theorem fY:∀(t:Nat) (l:List (Int×Str)),(aK t l).length=l.length
 |_,[]=>rfl
 |t,x::r=>by simp[aK,fY (t+3) r]
theorem d3:∀(t:Nat) (l:List (Int×Str)),(aK t l).map (·.hash)=l.map (·.1)
 |_,[]=>rfl
 |t,x::r=>by simp[aK,zB,d3 (t+3) r]
theorem RT.loop{d:aa9}{pv:Pos}(f:Pr->PUnit->Sem (ForInStep PUnit))
(hf:f=λkv V=>do let k <-kv.1;let v <-ah3 [k] kv.2;ah3 [k,v] (akE d k v);ajy (.yield ⟨⟩))(hn:ahA ld d=true){h:adF}{o:Obj}(ho:h.get? d=some o)(l:List (Int×Str)):
 ∀(es:List afd) (s:aaD),es.length+l.length<=aa7->(∀x∈l,0<=x.1/\x.1<2^60)->(es.map (·.hash)++l.map (·.1)).Nodup->
  RT p w ld ann (.body bd env) q gd lv (13*l.length) (forIn (l.map (i7 pv)) air f) {s with heap:=h.update d λV=>aj es} pv ⟨⟩ {s with heap:=h.update d (λV=>aj (es++aK s.toks l)),toks:=s.toks+3*l.length} pv:=by
 induction l with
 |nil=>
  intro es s _ _ _
  rw[show es++aK s.toks []=es from abW es]
  exact RT.pure
 |cons x l ih=>
  intro es s cL hr pS
  rw[aa6,afK]
  rw[adY]at cL
  have hx:=hr x (.head _)
  have Uz:∀e∈es,e.hash≠x.1:=by
   intro e he q
   rw[aa6,adX]at pS
   exact pS.2.2 e.hash (adB he) x.1 (.head _) q
  have ih:=ih (es++[zB s.toks x]) {s with toks:=s.toks+3} (by rw[aao,ajb];exact %[a+1+b<=c,a+(b+1)<=c|bJ cL]) (λy hy=>hr y (.tail _ hy)) (by
   rw[acf,aaI];exact pS)
  have body:RT p w ld ann (.body bd env) q gd lv 13 (f (i7 pv x) air) {s with heap:=h.update d λV=>aj es,toks:=s.toks} pv (.yield ⟨⟩) {s with heap:=h.update d λV=>aj (es++[zB s.toks x]),toks:=s.toks+3} pv:=by
   subst hf
   skip
   refine RT.bind (n:=1) (m:=12) (dx:={s with heap:=h.update d λV=>aj es,toks:=s.toks+1}) (p₁:=pv) (a:=.int x.1 s.toks) (RT.bind (n:=1) (m:=0) RT.fresh RT.pure) ?_
   refine RT.bind (n:=2) (m:=10) (dx:={s with heap:=h.update d λV=>aj es,toks:=s.toks+2}) (p₁:=pv) (a:=.str x.2 (s.toks+1)) (Cu.holding λgd lv=>RT.bind (n:=1) (m:=1) (RT.bind (n:=1) (m:=0) RT.fresh RT.pure) (RT.bind (n:=1) (m:=0) RT.Ep RT.pure)) ?_
   refine RT.bind (n:=10) (m:=0) (Cu.holding λgd lv=>RT.dictSet (es:=es) (i6 ho rfl) hn %[a<b,a+(c+1)<=b|(bJ cL)] Uz hx.1 hx.2) ?_
   refine (RT.pure).cast rfl ?_
   simp only[gP,zB]
  refine (RT.bind (n:=13) (m:=13*l.length) body ih).cast (by simp only[adY];exact %[13+13*a=13*(a+1)|aG]) ?_
  simp only[aK,aaI,adS,adK,adY]
  congr 1
  exact %[a+3+3*b=a+3*(b+1)|aP]
theorem fo{h:adF}{o o':Obj}:(h.push o).update h.objs.size (λV=>o')=h.push o':=by
 obtain ⟨objs,l⟩:=h
 show ahw ((objs.push o).modify objs.size λV=>o') l=ahw (objs.push o') l
 congr 1
 apply ahH
 intro i
 erw[ae6,alD,alD]
 by_cases hi:i=objs.size
 .subst hi;simp
 .have:objs.size≠i:=λe=>hi e.symm
  simp[hi,this]
theorem RT.subDict{pv:Pos}{l:List (Int×Str)}{s:aaD}(hl:15<l.length)(cL:l.length<=aa7)(hr:∀x∈l,0<=x.1/\x.1<2^60)(pS:(l.map (·.1)).Nodup)(hn:ahA ld s.heap.objs.size=true):
 RT p w ld ann (.body bd env) q gd lv (13*l.length+2) (aia (l.map (i7 pv))) s pv s.heap.objs.size {s with heap:=s.heap.push (aj (aK s.toks l)),toks:=s.toks+3*l.length} pv:=by
 obtain ⟨heap,gens,drawn,toks,os⟩:=s
 skip
 refine (RT.bind (n:=1) (m:=13*l.length+1) RT.alloc ?_).cast %[1+(13*a+1)=13*a+2|(aG)] rfl
 have Y4:¬(l.map (i7 pv)).length<=15:=by simpa using hl
 erw[if_neg Y4]
 refine RT.bind (n:=13*l.length+1) (m:=0) (a:=()) (Cu.holding λgd lv=>?_) RT.pure
 refine (RT.bind (n:=1) (m:=13*l.length) RT.rule ?_).cast %[1+13*a=13*a+1|(aG)] rfl
 have hp:(heap.push {cls:=.type "dict",data:=.dict #[]})=((heap.push {cls:=.type "dict",data:=.dict #[]}).update heap.objs.size λV=>aj []):=by
  erw[fo];rfl
 have:=RT.loop (p:=p) (w:=w) (ld:=ld) (ann:=ann) (bd:=bd) (env:=env) (q:=q) (gd:=gd) (lv:=lv) (d:=heap.objs.size) (pv:=pv) _ rfl hn (ac0 (o:={cls:=.type "dict",data:=.dict #[]}) heap rfl) l [] ⟨heap,gens,drawn,toks,os⟩ (by simpa using cL) hr (by simpa using pS)
 rw[fo]at this
 rw[fo,adK]at this
 exact RT.bind (n:=13*l.length) (m:=0) this RT.pure
theorem IK:isSubtype (.type "dict") (.type "dict")=pure true:=by erw[ale ..];kernel_rfl
theorem s8:typeLookup (.type "dict") "__iter__"=pure (some (.builtin "dict.__iter__")):=by (erw[aiy ..,ahr]);kernel_rfl
theorem Cw(t:Nat)(l:List (Int×Str)):∀e:afd,e∈aK t l->∃u,e.key=.int e.hash u:=by
 induction l generalizing t with
 |nil=>exact λe h=>absurd h adH
 |cons x r ih=>exact λe h=>(abk.mp h).elim (λq=>q▸⟨t,rfl⟩) (ih (t+3) e)
theorem RT.Y5{c:ahO}{d a:aa9}{pv:Pos}(f:Nat->PUnit->Sem (ForInStep PUnit))(es sub:List afd)(n:Nat)
(hf:f=λi V=>do
  let es <-dictEntries a
  match es[i]? with
  |some e=>do
   ah3 [e.key,e.val] (akF d e.hash e.key e.val)
   let ep <-dictEpoch a
   if (ep !=n)=true then (do unsupported "dict.changed-during-merge";ajy (.yield ⟨⟩)) else ajy (.yield ⟨⟩)
  |_=>do unsupported "dict.changed-during-merge";ajy (.yield ⟨⟩))(hn:ahA ld d=true)(cW:a≠d)(IL:∀e∈sub,∃u,e.key=.int e.hash u)(hnl:n=sub.length)(cL:es.length+sub.length<=aa7)
(pS:(es.map (·.hash)++sub.map (·.hash)).Nodup){h:adF}{s:aaD}{o:Obj}(ho:h.get? d=some o)(ha:h.get? a=some (aj sub))(k:Nat):
 ∀i,i+k=sub.length->RT p w ld ann c q gd lv (6*k) (forIn (List.range' i k) air f) {s with heap:=h.update d λV=>aj (es++sub.take i)} pv ⟨⟩ {s with heap:=h.update d λV=>aj (es++sub)} pv:=by
 induction k with
 |zero=>
  intro i hi
  rw[ahV (show sub.length<=i from afr hi.symm)]
  exact RT.pure
 |succ k ih=>
  intro i hi
  rw[List.range'_succ,afK]
  have bA:i<sub.length:=%[a<b,a+(c+1)=b|(bJ hi)]
  obtain ⟨u,hu⟩:=IL _ (aj5 bA)
  have Y6:sub.take (i+1)=sub.take i++[sub[i]]:=List.take_succ_eq_append_getElem bA
  have ih:=ih (i+1) %[a+1+b=c,a+(b+1)=c|(bJ hi)]
  have body:RT p w ld ann c q gd lv 6 (f i air) {s with heap:=h.update d λV=>aj (es++sub.take i)} pv (.yield ⟨⟩) {s with heap:=h.update d λV=>aj (es++sub.take (i+1))} pv:=by
   subst hf
   dsimp only
   refine RT.bind (n:=1) (m:=5) (RT.entries (es:=sub) ((lS cW).trans ha)) ?_
   have hg:sub.toArray[i]?=some sub[i]:=by rw[af9,abz bA]
   rw[hg]
   dsimp only
   have UA:∀e∈es++sub.take i,e.hash≠sub[i].hash:=by
    have IM:((es++sub).map (·.hash)).Nodup:=by rw[acf];exact pS
    have hp:(es++sub.take i)++sub.drop i=es++sub:=by rw[aaI,alo]
    rw[<-hp,acf,adX]at IM
    intro e he
    refine IM.2.2 e.hash (adB he) _ (adB ?_)
    rw[ael bA]
    exact .head _
   have aej:RT p w ld ann c q gd lv 4 (ah3 [sub[i].key,sub[i].val] (akF d sub[i].hash sub[i].key sub[i].val)) {s with heap:=h.update d λV=>aj (es++sub.take i)} pv () {s with heap:=h.update d λV=>aj (es++sub.take (i+1))} pv:=by
    refine Cu.holding λgd lv=>?_
    have:=RT.dictPut (p:=p) (w:=w) (ld:=ld) (ann:=ann) (q:=q) (gd:=gd) (lv:=lv) (c:=c) (s:={s with heap:=h.update d λV=>aj (es++sub.take i)}) (pos:=pv) (d:=d) (es:=es++sub.take i) (i:=sub[i].hash) (h:=sub[i].hash) (t:=u) (v:=sub[i].val) (i6 ho rfl) hn (by simp;exact %[a+b<c,a+d<=c,e<d,qD 3 b e d|Cj cL bA rfl]) UA
    rw[<-hu]at this
    refine this.cast rfl ?_
    simp only[gP,aaI,Y6]
   refine RT.bind (n:=4) (m:=1) aej ?_
   refine RT.bind (n:=1) (m:=0) (RT.RC (es:=sub) ((lS cW).trans ha)) ?_
   have:(sub.length !=n)=false:=by subst hnl;simp
   rw[this]
   exact RT.pure
  exact (RT.bind (n:=6) (m:=6*k) body ih).cast %[6+6*a=6*(a+1)|(aG)] rfl
theorem RT.merge{c:ahO}{d a:aa9}{pv:Pos}{es sub:List afd}{s:aaD}(hd:s.heap.get? d=some (aj es))(ha:s.heap.get? a=some (aj sub))(hn:ahA ld d=true)(cW:a≠d)(hs:(a==ajt)=false)
(IL:∀e∈sub,∃u,e.key=.int e.hash u)(cL:es.length+sub.length<=aa7)(pS:(es.map (·.hash)++sub.map (·.hash)).Nodup)(he:es≠[]):
 RT p w ld ann c q gd lv (6*sub.length+5) (mergeMapping d (.ref a) false) s pv () {s with heap:=s.heap.update d (λV=>aj (es++sub))} pv:=by
 obtain ⟨heap,gens,drawn,toks,os⟩:=s
 skip
 refine (RT.bind (n:=1) (m:=6*sub.length+4) (a:=true) (dx:=⟨heap,gens,drawn,toks,os⟩) (p₁:=pv) ?_ ?_).cast %[1+(6*a+4)=6*a+5|(aG)] rfl
 .skip
  refine RT.bind (n:=1) (m:=0) (a:=.type "dict") (RT.bind (n:=1) (m:=0) (RT.load ha) RT.pure) ?_
  erw[IK];exact RT.pure
 erw[if_pos rfl]
 refine (RT.bind (n:=1) (m:=6*sub.length+3) (a:=some (.builtin "dict.__iter__")) (dx:=⟨heap,gens,drawn,toks,os⟩) (p₁:=pv) ?_ ?_).cast %[1+(6*a+3)=6*a+4|(aG)] rfl
 .skip
  refine RT.bind (n:=1) (m:=0) (a:=.type "dict") (RT.bind (n:=1) (m:=0) (RT.load ha) RT.pure) ?_
  erw[s8];exact RT.pure
 refine (RT.bind (n:=0) (m:=6*sub.length+3) (a:=true) RT.pure ?_).cast %[0+(6*a+3)=6*a+3|(aG)] rfl
 .dsimp only
  rw[hs]
  simp only[aeG,if_false]
  refine (RT.bind (n:=1) (m:=6*sub.length+2) (RT.entries (es:=es) hd) ?_).cast %[1+(6*a+2)=6*a+3|(aG)] rfl
  have e1:es.toArray.isEmpty=false:=by cases es <;> simp_all
  erw[e1]
  skip
  refine (RT.bind (n:=1) (m:=6*sub.length+1) (RT.entries (es:=sub) ha) ?_).cast %[1+(6*a+1)=6*a+2|(aG)] rfl
  refine (RT.bind (n:=1) (m:=6*sub.length) (RT.RC (es:=sub) ha) ?_).cast %[1+6*a=6*a+1|(aG)] rfl
  have Oa:heap=heap.update d λV=>aj es:=by
   obtain ⟨objs,l⟩:=heap
   have e':objs[d]?=some (aj es):=by
    have hd:(ahw objs l).get? d=some (aj es):=hd
    unfold ajX at hd
    skip
    split at hd
    .cases hd
    .exact hd
   show ahw objs l=ahw (objs.modify d λV=>aj es) l
   congr 1
   apply ahH
   intro i
   erw[ae6]
   by_cases hi:d=i
   .subst hi;erw[if_pos rfl,e'];rfl
   .erw[if_neg hi,rfl]
  have:=RT.Y5 (p:=p) (w:=w) (ld:=ld) (ann:=ann) (q:=q) (gd:=gd) (lv:=lv) (c:=c) (d:=d) (a:=a) (pv:=pv) _ es sub sub.length rfl hn cW IL rfl cL pS (s:=⟨heap,gens,drawn,toks,os⟩) hd ha sub.length 0 (aeD _)
  rw[aky,abW,<-Oa]at this
  erw[af4,List.range_eq_range']
  exact RT.bind (n:=6*sub.length) (m:=0) this RT.pure
end
section
variable{p:aas}{w:abI}{ld:Nat}{ann:Option aaq}{bd:List ahs}{env:Env}{q:Pos}{gd:Bool->Bool}{lv:List aaq->List aaq}
noncomputable def Gu:Nat->List (Int×Str)->List (aaq×aaq)
 |_,[]=>[]
 |t,x::r=>(.int x.1 t,.str x.2 (t+1))::Gu (t+2) r
noncomputable def d9:Nat->List (Int×Str)->List afd
 |_,[]=>[]
 |t,x::r=>⟨x.1,.int x.1 t,.str x.2 (t+1)⟩::d9 (t+2) r
theorem wa:∀(t:Nat) (l:List (Int×Str)),(d9 t l).length=l.length
 |_,[]=>rfl
 |t,x::r=>by simp[d9,wa (t+2) r]
theorem s9:∀(t:Nat) (l:List (Int×Str)),(d9 t l).map (·.hash)=l.map (·.1)
 |_,[]=>rfl
 |t,x::r=>by simp[d9,s9 (t+2) r]
theorem Gv(t:Nat)(l:List (Int×Str)):∀e:afd,e∈d9 t l->∃u,e.key=.int e.hash u:=by
 induction l generalizing t with
 |nil=>exact λe h=>absurd h adH
 |cons x r ih=>exact λe h=>(abk.mp h).elim (λq=>q▸⟨t,rfl⟩) (ih (t+2) e)
theorem RT.evalPairs:∀(gd:Bool->Bool) (lv:List aaq->List aaq) (l:List (Int×Str)) (s:aaD),RT p w ld ann c q gd lv (3*l.length) (amt (l.map (i7 pv))) s pv (Gu s.toks l) {s with toks:=s.toks+2*l.length} pv
 |gd,lv,[],s=>RT.pure
 |gd,lv,x::r,s=>by
  obtain ⟨heap,gens,drawn,toks,os⟩:=s
  skip
  have ih:∀gd lv,RT p w ld ann c q gd lv (3*r.length) (amt (r.map (i7 pv))) ⟨heap,gens,drawn,toks+2,os⟩ pv (Gu (toks+2) r) ⟨heap,gens,drawn,toks+2+2*r.length,os⟩ pv:=λgd lv=>RT.evalPairs gd lv r ⟨heap,gens,drawn,toks+2,os⟩
  refine (RT.bind (n:=1) (m:=2+3*r.length) (dx:=⟨heap,gens,drawn,toks+1,os⟩) (qm:=⟨heap,gens,drawn,toks+2+2*r.length,os⟩) (p₁:=pv) (a:=.int x.1 toks) (RT.bind (n:=1) (m:=0) RT.fresh RT.pure) ?_).cast (by simp only[adY];exact %[1+(2+3*a)=3*(a+1)|aG]) (by simp only[adY];congr 1;exact %[a+2+2*b=a+2*(b+1)|aP])
  refine (RT.bind (n:=2) (m:=3*r.length) (dx:=⟨heap,gens,drawn,toks+2,os⟩) (p₁:=pv) (a:=.str x.2 (toks+1)) (Cu.holding λgd lv=>RT.bind (n:=1) (m:=1) (RT.bind (n:=1) (m:=0) RT.fresh RT.pure) (RT.bind (n:=1) (m:=0) RT.Ep RT.pure)) ?_)
  exact RT.bind (n:=3*r.length) (m:=0) (Cu.holding ih) RT.pure
theorem RT.RD(f:aaq×aaq->PUnit->Sem (ForInStep PUnit))
(hf:f=λkv V=>do akE d kv.1 kv.2;ajy (.yield ⟨⟩))(hn:ahA ld d=true):
 ∀(l:List (Int×Str)) (t:Nat) (es:List afd) (h:adF) (s:aaD),s.heap=(h.update d λV=>aj es)->(∃o,h.get? d=some o)->es.length+l.length<=aa7->(∀x∈l,0<=x.1/\x.1<2^60)->
  (es.map (·.hash)++l.map (·.1)).Nodup->
  RT p w ld ann (.body bd env) q gd lv (10*l.length) (forIn (Gu t l) air f) s pv ⟨⟩ {s with heap:=h.update d (λV=>aj (es++d9 t l)),toks:=s.toks+l.length} pv
 |[],t,es,h,s,hs,_,_,_,_=>by
  simp only[Gu,am6,d9,abW,ai5,agS,ait]
  obtain ⟨heap,gens,drawn,toks,os⟩:=s
  simp only at hs
  subst hs
  exact RT.pure
 |x::l,t,es,h,s,hs,ho,cL,hr,pS=>by
  obtain ⟨o,ho⟩:=ho
  obtain ⟨heap,gens,drawn,toks,os⟩:=s
  simp only at hs
  subst hs
  (rw[Gu];erw[afK ..])
  simp only[adY]at cL
  have hx:=hr x (.head _)
  have Uz:∀e∈es,e.hash≠x.1:=by
   intro e he q
   rw[aa6,adX]at pS
   exact pS.2.2 e.hash (adB he) x.1 (.head _) q
  have ih:=RT.RD (pv:=pv) f hf hn l (t+2) (es++[⟨x.1,.int x.1 t,.str x.2 (t+1)⟩]) h ⟨h.update d λV=>aj (es++[⟨x.1,.int x.1 t,.str x.2 (t+1)⟩]),gens,drawn,toks+1,os⟩ rfl ⟨o,ho⟩ (by simp;exact %[a+1+b<=c,a+(b+1)<=c|bJ cL]) (λy hy=>hr y (.tail _ hy)) (by
   erw[acf,aaI ..];exact pS)
  have body:RT p w ld ann (.body bd env) q gd lv 10 (f (.int x.1 t,.str x.2 (t+1)) air) ⟨h.update d λV=>aj es,gens,drawn,toks,os⟩ pv (.yield ⟨⟩) ⟨h.update d λV=>aj (es++[⟨x.1,.int x.1 t,.str x.2 (t+1)⟩]),gens,drawn,toks+1,os⟩ pv:=by
   subst hf
   have aek:(h.update d λV=>aj es).get? d=some (aj es):=i6 ho rfl
   have i9:=RT.dictSet (p:=p) (w:=w) (ld:=ld) (ann:=ann) (bd:=bd) (env:=env) (q:=q) (gd:=gd) (lv:=lv) (s:=⟨h.update d λV=>aj es,gens,drawn,toks,os⟩) (pos:=pv) (d:=d) (es:=es) (i:=x.1) (t:=t) (v:=.str x.2 (t+1)) aek hn %[a<b,a+(c+1)<=b|(bJ cL)] Uz hx.1 hx.2
   simp only[gP]at i9
   exact RT.bind (n:=10) (m:=0) i9 RT.pure
  refine (RT.bind (n:=10) (m:=10*l.length) body ih).cast (by simp only[adY];exact %[10+10*a=10*(a+1)|aG]) ?_
  simp only[d9,aaI,adS,adK,adY]
  congr 1
  exact %[a+1+b=a+(b+1)|aP]
theorem RT.IP(hl:l.length<=15)(hr:∀x∈l,0<=x.1/\x.1<2^60)(pS:(l.map (·.1)).Nodup)(hn:ahA ld s.heap.objs.size=true):
 RT p w ld ann (.body bd env) q gd lv (13*l.length+1) (aia (l.map (i7 pv))) s pv s.heap.objs.size {s with heap:=s.heap.push (aj (d9 s.toks l)),toks:=s.toks+3*l.length} pv:=by
 obtain ⟨heap,gens,drawn,toks,os⟩:=s
 skip
 refine (RT.bind (n:=1) (m:=13*l.length) RT.alloc ?_).cast %[1+13*a=13*a+1|(aG)] rfl
 have Y4:(l.map (i7 pv)).length<=15:=by simpa using hl
 erw[if_pos Y4]
 refine RT.bind (n:=13*l.length) (m:=0) (a:=()) (Cu.holding λgd lv=>?_) RT.pure
 refine (RT.bind (n:=3*l.length) (m:=10*l.length) (RT.evalPairs gd lv l ⟨heap.push {cls:=.type "dict",data:=.dict #[]},gens,drawn,toks,os⟩) ?_).cast %[3*a+10*a=13*a|(aG)] rfl
 refine Cu.holding λgd lv=>?_
 have hp:(heap.push {cls:=.type "dict",data:=.dict #[]})=((heap.push {cls:=.type "dict",data:=.dict #[]}).update heap.objs.size λV=>aj []):=by
  erw[fo];rfl
 have:=RT.RD (p:=p) (w:=w) (ld:=ld) (ann:=ann) (bd:=bd) (env:=env) (q:=q) (gd:=gd) (lv:=lv) (d:=heap.objs.size) (pv:=pv) _ rfl hn l toks [] (heap.push {cls:=.type "dict",data:=.dict #[]}) ⟨heap.push {cls:=.type "dict",data:=.dict #[]},gens,drawn,toks+2*l.length,os⟩ hp
  ⟨_,ac0 _ rfl⟩ (by simp[aiV];exact %[a<=16777216,a<=15|aG hl]) hr (by simpa using pS)
 rw[fo,adK]at this
 exact (RT.bind (n:=10*l.length) (m:=0) this RT.pure).cast rfl (by congr 1;simp only;exact %[a+2*b+b=a+3*b|aP])
theorem RT.chunk{pv:Pos}{l:List (Int×Str)}{heap:adF}{gens:Array ajj}{drawn:Drawn}{toks:Nat}{os:ad7}{d:aa9}{es:List afd}{zC:List afd}{k:Nat}
(Cy:∀gd lv,RT p w ld ann (.body bd env) q gd lv k (aia (l.map (i7 pv))) ⟨heap,gens,drawn,toks,os⟩ pv heap.objs.size ⟨heap.push (aj zC),gens,drawn,toks+3*l.length,os⟩ pv)
(bq:zC.length=l.length)(Y7:zC.map (·.hash)=l.map (·.1))(IL:∀e∈zC,∃u,e.key=.int e.hash u)
(hd:heap.get? d=some (aj es))(hn:ahA ld d=true)(hs:(heap.objs.size==ajt)=false)(cL:es.length+l.length<=aa7)(pS:(es.map (·.hash)++l.map (·.1)).Nodup)(he:es≠[]):
 RT p w ld ann (.body bd env) q gd lv (k+(6*l.length+5)) (jO d (l.map (i7 pv))) ⟨heap,gens,drawn,toks,os⟩ pv () ⟨(heap.push (aj zC)).update d (λV=>aj (es++zC)),gens,drawn,toks+3*l.length,os⟩ pv:=by
 skip
 have bA:d<heap.objs.size:=abZ hd
 refine RT.bind (n:=k) (m:=6*l.length+5) (Cu.holding Cy) ?_
 refine RT.onRaise (Cu.holding λgd lv=>?_)
 have:=RT.merge (p:=p) (w:=w) (ld:=ld) (ann:=ann) (q:=q) (gd:=gd) (lv:=lv) (c:=.body bd env) (d:=d) (a:=heap.objs.size) (pv:=pv) (es:=es) (sub:=zC) (s:=⟨heap.push (aj zC),gens,drawn,toks+3*l.length,os⟩)
  (abo _ hd) (ac0 _ rfl) hn (ai3 bA) hs IL (by erw[bq];exact cL) (by erw[Y7];exact pS) he
 rw[bq]at this
 exact this
noncomputable def HP(objs:Array Obj)(life:Life)(l:List Obj):adF:=⟨objs++l.toArray,life⟩
theorem xh:(HP objs life l).push o=HP objs life (l++[o]):=by
 show ahw ((objs++l.toArray).push o) life=ahw (objs++(l++[o]).toArray) life
 congr 1
 apply Array.ext'
 simp
theorem lh:(HP objs life l).objs.size=objs.size+l.length:=by
 show (objs++l.toArray).size=_
 simp
theorem IQ(h:o.isFreed=false):(HP objs life (o::l)).get? objs.size=some o:=by
 show (match (objs++(o::l).toArray)[objs.size]? with|some ⟨_,_,.freed,_⟩=>none|o=>o)=some o
 erw[agr (adJ _)]
 simp only[alk,af9,List.getElem?_cons_zero]
 obtain ⟨c,d,dt,sl⟩:=o
 cases dt <;> first|rfl|cases h
theorem IR:((HP objs life (o::l)).update objs.size λV=>o')=HP objs life (o'::l):=by
 show ahw ((objs++(o::l).toArray).modify objs.size λV=>o') life=ahw (objs++(o'::l).toArray) life
 congr 1
 apply ahH
 intro i
 erw[ae6]
 by_cases hi:objs.size=i
 .subst hi
  erw[if_pos rfl,agr (adJ _),agr (adJ _)]
  simp
 .erw[if_neg hi]
  by_cases bA:i<objs.size
  .erw[akx bA,akx bA,rfl]
  .have h1:objs.size<=i:=%[a<=b,cu (b<a)|(aP bA)]
   erw[agr h1,agr h1]
   obtain ⟨k,hk⟩ :∃k,i-objs.size=k+1:=⟨i-objs.size-1,%[a=b+1,cu (c=d),cu (d<c),qD 0 a d c,qD 0 b a (1)|(d4 hi bA rfl rfl)]⟩
   erw[hk]
   simp
noncomputable def cM:Nat->List (List (Int×Str))->List afd
 |_,[]=>[]
 |t,l::r=>aK t l++cM (t+3*l.length) r
noncomputable def gB:Nat->List (List (Int×Str))->List Obj
 |_,[]=>[]
 |t,l::r=>aj (aK t l)::gB (t+3*l.length) r
noncomputable def cq:Nat->List (List (Int×Str))->Nat
 |t,[]=>t
 |t,l::r=>cq (t+3*l.length) r
noncomputable def fZ:List (List (Int×Str))->Nat
 |[]=>0
 |l::r=>(13*l.length+2+(6*l.length+5))+fZ r
theorem nx:∀(u:Nat) (ls:List (List (Int×Str))),(cM u ls).map (·.hash)=ls.flatten.map (·.1)
 |_,[]=>rfl
 |u,l::r=>by simp only[cM,acf,d3,aey,nx (u+3*l.length) r]
theorem RT.rest{pv:Pos}{objs:Array Obj}{life:Life}{gens:Array ajj}{drawn:Drawn}{os:ad7}(hn:ahA ld objs.size=true)(Cz:2<=objs.size):
 ∀(ls:List (List (Int×Str))) (acc:List afd) (zE:List Obj) (t:Nat),(∀l∈ls,l.length=17)->(∀x∈ls.flatten,0<=x.1/\x.1<2^60)->(acc.map (·.hash)++ls.flatten.map (·.1)).Nodup->acc≠[]->acc.length+ls.flatten.length<=aa7->
  RT p w ld ann (.body bd env) q gd lv (fZ ls) (iA (ls.map (·.map (i7 pv))) objs.size) ⟨HP objs life (aj acc::zE),gens,drawn,t,os⟩ pv ()
   ⟨HP objs life (aj (acc++cM t ls)::(zE++gB t ls)),gens,drawn,cq t ls,os⟩ pv
 |[],acc,zE,t,_,_,_,_,_=>by
  simp only[cM,gB,cq,abW]
  exact RT.pure
 |l::r,acc,zE,t,hl,hr,pS,cW,cL=>by
  erw[aa6]
  skip
  have h17:l.length=17:=hl l (.head _)
  have IM:((acc.map (·.hash)++l.map (·.1))++r.flatten.map (·.1)).Nodup:=by simpa[aey,acf,aaI] using pS
  have Y8:(acc.map (·.hash)++l.map (·.1)).Nodup:=(adX.mp IM).1
  have UB:acc.length+l.length+r.flatten.length<=aa7:=by simpa[aey,ahg] using cL
  have hrl:∀x∈l,0<=x.1/\x.1<2^60:=λx hx=>hr x (by erw[aey];exact ad3 _ hx)
  have Cy:∀gd lv,RT p w ld ann (.body bd env) q gd lv (13*l.length+2) (aia (l.map (i7 pv))) ⟨HP objs life (aj acc::zE),gens,drawn,t,os⟩ pv (HP objs life (aj acc::zE)).objs.size
   ⟨(HP objs life (aj acc::zE)).push (aj (aK t l)),gens,drawn,t+3*l.length,os⟩ pv:=λgd lv=>
   RT.subDict %[15<a,a=17|(aG h17)] %[a<=b,c+a+d<=b|(d4 UB)] hrl (adX.mp Y8).2.1 (by
    have:ld<=objs.size:=ahi hn
    exact ajm (by simp only[lh];exact %[a<=b+c,a<=b|bJ this]))
  have c1:=RT.chunk (gd:=gd) (lv:=lv) Cy (fY t l) (d3 t l) (Cw t l) (IQ rfl) hn (by
   erw[lh];simp[ajt];exact %[cu (a+(b+1)=1),2<=a|aP Cz]) %[a+b<=c,a+b+d<=c|(d4 UB)] Y8 cW
  rw[xh,adS,IR]at c1
  have ih:=RT.rest (pv:=pv) (life:=life) (gens:=gens) (drawn:=drawn) (os:=os) hn Cz r (acc++aK t l) (zE++[aj (aK t l)]) (t+3*l.length) (λl' h=>hl l' (.tail _ h)) (λx hx=>hr x (by erw[aey];exact afJ _ hx))
   (by (erw[acf,d3 ..]);exact IM) (by intro e;exact cW (List.append_eq_nil_iff.mp e).1) (by (erw[aao,fY ..]);exact UB)
  refine (RT.bind c1 ih).cast (by simp only[fZ]) ?_
  simp only[cM,gB,cq,aaI,adS,adK]
theorem RT.display{pv:Pos}{objs:Array Obj}{life:Life}{gens:Array ajj}{drawn:Drawn}{os:ad7}{t:Nat}(l0:List (Int×Str))(ls:List (List (Int×Str)))(last:List (Int×Str))(hn:ahA ld objs.size=true)(Cz:2<=objs.size)
(h0:l0.length=17)(hl:∀l∈ls,l.length=17)(RE:last.length<=15)(hln:last≠[])(hr:∀x∈l0++ls.flatten++last,0<=x.1/\x.1<2^60)(pS:((l0++ls.flatten++last).map (·.1)).Nodup)(cL:(l0++ls.flatten++last).length<=aa7):
 RT p w ld ann (.body bd env) q gd lv (13*l0.length+2+(fZ ls+(13*last.length+1+(6*last.length+5)))) (akO (((l0++ls.flatten++last).map (i7 pv)).map dG)) ⟨HP objs life [],gens,drawn,t,os⟩ pv (.ref objs.size)
  ⟨HP objs life (aj (cM t (l0::ls)++d9 (cq t (l0::ls)) last)::(gB (t+3*l0.length) ls++[aj (d9 (cq t (l0::ls)) last)])),gens,drawn,cq t (l0::ls)+3*last.length,os⟩ pv:=by
 have e:(l0++ls.flatten++last).map (i7 pv)=l0.map (i7 pv)++((ls.map (·.map (i7 pv))).flatten++last.map (i7 pv)):=by
  rw[acf,acf,aaI,List.map_flatten]
 rw[e,IH _ _ _ (by simpa using h0) (by simpa using hl) (by simp;exact %[a<17,a<=15|aG RE]) (by simpa using hln)]
 have hnA:ld<=objs.size:=ahi hn
 rw[acf,acf]at pS
 have Y9:=(adX.mp pS).1
 have UC:l0.length+ls.flatten.length+last.length<=aa7:=by simpa only[aao] using cL
 refine RT.bind (n:=13*l0.length+2) (m:=fZ ls+(13*last.length+1+(6*last.length+5))) (a:=objs.size) (p₁:=pv) (dx:=⟨HP objs life (aj (aK t l0)::[]),gens,drawn,t+3*l0.length,os⟩) ?_ ?_
 .have:=RT.subDict (p:=p) (w:=w) (ld:=ld) (ann:=ann) (bd:=bd) (env:=env) (q:=q) (gd:=gd) (lv:=lv) (pv:=pv) (l:=l0) (s:=⟨HP objs life [],gens,drawn,t,os⟩) %[15<a,a=17|(aG h0)] %[a<=b,a+c+d<=b|(d4 UC)] (λx hx=>hr x (by simp[hx])) (adX.mp Y9).1 (ajm (by simp only[lh];exact %[a<=b+c,a<=b|bJ hnA]))
  rw[xh,lh]at this
  exact this
 .refine RT.bind (n:=fZ ls) (m:=13*last.length+1+(6*last.length+5)) (p₁:=pv) (RT.rest hn Cz ls (aK t l0) [] (t+3*l0.length) hl (λx hx=>hr x (ad3 _ (afJ _ hx))) (by rw[d3];exact Y9) (by intro e;have:=fY t l0;rw[e]at this;simp at this;lia) (by rw[fY];exact %[a+b<=c,a+b+d<=c|d4 UC])) ?_
  have hA:(aK t l0++cM (t+3*l0.length) ls).map (·.hash)=l0.map (·.1)++ls.flatten.map (·.1):=by
   rw[acf,d3,nx]
  have hAl:(aK t l0++cM (t+3*l0.length) ls).length=l0.length+ls.flatten.length:=by
   have:=congrArg ag9 hA
   rw[aan,aao,aao,aan,aan]at this
   rw[aao];exact this
  have c1:=RT.chunk (p:=p) (w:=w) (ld:=ld) (ann:=ann) (bd:=bd) (env:=env) (q:=q) (gd:=gd) (lv:=lv) (pv:=pv) (l:=last) (heap:=HP objs life (aj (aK t l0++cM (t+3*l0.length) ls)::([]++gB (t+3*l0.length) ls))) (gens:=gens) (drawn:=drawn) (toks:=cq (t+3*l0.length) ls) (os:=os) (d:=objs.size) (es:=aK t l0++cM (t+3*l0.length) ls) (k:=13*last.length+1)
   (λgd lv=>RT.IP RE (λx hx=>hr x (afJ _ hx)) (adX.mp pS).2.1 (ajm (by simp only[lh];exact %[a<=b+c,a<=b|bJ hnA]))) (wa _ _) (s9 _ _) (Gv _ _) (IQ rfl) hn (by rw[lh];simp[ajt];exact %[cu (a+(b+1)=1),2<=a|aP Cz]) (by rw[hAl];exact %[a+b+c<=d,a+b+c<=d|d4 UC]) (by rw[hA];exact pS) (by intro e;have:=congrArg ag9 e;rw[hAl]at this;simp only[ai5]at this;lia)
  rw[xh,adS,IR]at c1
  refine RT.cast (m:=13*last.length+1+(6*last.length+5)) (RT.bind (n:=13*last.length+1+(6*last.length+5)) (m:=0) c1 RT.pure) %[13*a+1+(6*a+5)+0=13*a+1+(6*a+5)|(aG)] ?_
  simp only[cM,cq,adK]
end
noncomputable def cOf:ado->Option Const
 |.Constant c _ _=>some c
 |_=>none
noncomputable def iOf:Const->Option Int
 |.int i=>some i
 |_=>none
noncomputable def sOf:Const->Option Str
 |.str s=>some s
 |_=>none
noncomputable def Ob(k:Option ado):Option Int:=k.bind λe=>(cOf e).bind iOf
noncomputable def Oc(e:ado):Option Str:=(cOf e).bind sOf
noncomputable def kvs:List (Option ado)->List ado->List (Int×Str)
 |k::ks,v::vs=>((Ob k).getD 0,(Oc v).getD "")::kvs ks vs
 |_,_=>[]
noncomputable def td:List (Option ado)->List ado->Bool
 |[],[]=>true
 |k::ks,v::vs=>(Ob k).isSome&&(Oc v).isSome&&td ks vs
 |_,_=>false
theorem IU(h:cOf e=some c):∃a b,e=.Constant c a b:=by
 cases e with
 |Constant c' a b=>cases h;exact ⟨a,b,rfl⟩
 |_=>cases h
theorem UD(h:iOf c=some i):c=.int i:=by
 cases c with
 |int j=>cases h;rfl
 |_=>cases h
theorem UE(h:sOf c=some i):c=.str i:=by
 cases c with
 |str j=>cases h;rfl
 |_=>cases h
theorem UF(h:(Ob k).isSome=true):∃i a b,k=some (.Constant (.int i) a b)/\Ob k=some i:=by
 refine bU (afG.mp h) λi hi=>?_
 (refine bz (aec.mp hi) λe cc h1=>?_;obtain rfl:=cc)
 refine bz (aec.mp h1) λc h2 h3=>?_
 (refine bU (IU h2) λa dQ=>?_;refine bU dQ λb di=>?_;have iB:=di;clear di dQ;obtain rfl:=iB)
 have:=UD h3
 subst this
 exact ⟨i,a,b,rfl,rfl⟩
theorem UG(h:(Oc e).isSome=true):∃s a b,e=.Constant (.str s) a b/\Oc e=some s:=by
 refine bU (afG.mp h) λi hi=>?_
 refine bz (aec.mp hi) λc h2 h3=>?_
 (refine bU (IU h2) λa dQ=>?_;refine bU dQ λb di=>?_;have iB:=di;clear di dQ;obtain rfl:=iB)
 have:=UE h3
 subst this
 exact ⟨i,a,b,rfl,rfl⟩
theorem IV(ks:List (Option ado)):∀vs:List ado,td ks vs=true->
 (evalEachOpt ks env).zip ((evalEach vs env).map λv=>do let x <-v;aju pv;pure x)=((kvs ks vs).map (i7 pv)).map dG:=by
 induction ks with
 |nil=>exact λvs V=>by cases vs <;> rfl
 |cons k ks ih=>
  intro vs h
  cases vs with
  |nil=>cases h
  |cons v vs=>
   refine bY (aid.mp h) λh1 h2=>?_
   refine bY (aid.mp h1) λh3 h4=>?_
   (refine bU (UF h3) λi dQ=>?_;refine bU dQ λa di=>?_;refine bU di λb jP=>?_;have Za:=jP.1;have e1:=jP.2;clear jP di dQ;obtain rfl:=Za)
   (refine bU (UG h4) λs dQ=>?_;refine bU dQ λa' di=>?_;refine bU di λb' jP=>?_;have Za:=jP.1;have e2:=jP.2;clear jP di dQ;obtain rfl:=Za)
   exact congrArg (λl=>dG (i7 pv (i,s))::l) (ih vs h2)
noncomputable def lj:List Int->Bool
 |[]=>true
 |[_]=>true
 |a::b::r=>decide (a<b)&&lj (b::r)
theorem th:∀l:List Int,lj l=true->l.Pairwise (· < ·)
 |[],_=>.nil
 |[_],_=>akX _ _
 |a::b::r,h=>by
  simp only[lj,aap,decide_eq_true_eq]at h
  have ih:=th (b::r) h.2
  refine ahK.mpr ⟨λx hx=>?_,ih⟩
  rcases abk.mp hx with rfl|hx
  .exact h.1
  .exact Int.lt_trans h.1 ((ahK.mp ih).1 x hx)
theorem pT(h:lj l=true):l.Nodup:=(th l h).imp λh e=>by subst e;exact Int.lt_irrefl _ h
end Mine.Internal
end
section
open PySem PySem.W PyProof.Rows PySem.W.Fast PySem.W.SL
open PySem.W.SL renaming s2766695959194262286x5->S0,s5856160107412720595x4->S1,s7174869446012820540x8->S2,s14018661285674007319x4->S3,s9222952809800978799x4->S4,s2742458400755230247x6->S5,s14755015743595814543x17->S6,s17162191345867700912x4->S7,s10852414792293593619x7->S8,s5991306692159431302x13->S9,s6658869562736209489x6->S10
open PySem.W.BT renaming node->Bn,nil->Bz
namespace Mine
open Internal
section
set_option tactic.hygienic true
noncomputable def aF(P:abA)(s:Str)(t:Nat)(v:aaq):afd:=⟨PyData.keyHash P s,.str s t,v⟩
local macro_rules
 | `(s! $s:interpolatedStr)=>do
   match s.raw[0].isInterpolatedStrLit? with
   |some v=>
    let ns:Array (Lean.TSyntax `term):=(v.toList.map λc=>(Lean.Syntax.mkNumLit (toString c.toNat):Lean.TSyntax `term)).toArray
    `(PySem.Str.mk #[$ns,*])
   |none=>Lean.Macro.throwUnsupported
variable(p:aas)(P:abA)
noncomputable abbrev pw:aas:=anh
noncomputable def cK(p:aas)(i:Nat):akH×List ahs×aiC:=match p.main.body[i]? with|some (.FunctionDef _ a b _ _ _ sc _ _ _)=>(a,b,sc)|_=>default
noncomputable abbrev Bl(v:Obj):BT:=.node v .nil .nil
noncomputable def iz(p:aas)(i:Nat)(c:aaq)(g:aa9)(m k:aaq)(n:Str):Obj:=⟨c,none,.func ⟨n,n,(cK p i).1,.stmts (cK p i).2.1,(cK p i).2.2,g,[],.none,.none,.none,m,none,k,.none,0⟩,#[]⟩
noncomputable def gQ(k:aaq)(n:Str)(t t1 t2:Nat)(l a:Int)(r f:aa9)(x y z:aaq)(v:Int)(u:Nat):Obj:=⟨k,none,.fields #[.str n t,.str n t1,.str s!"/claim/cut.py" t2,.int l 0,.int a 0,.int 0 0,.int 0 0,.int 3 0,.ref r,.bool true,.int 276 0,.ref f,.none,x,y,z,.int v 0,.int l 0,.str s!"/claim/cut.py" u],#[]⟩
noncomputable def zF:List afd:=[aF P s!"__doc__" 166 .none,aF P s!"__package__" 167 .none,aF P s!"__loader__" 168 (.builtin s7097527257260152453x26),aF P s!"__spec__" 169 .none,aF P s!"__annotations__" 170 (.ref 6),aF P s!"__builtins__" 171 (.ref 4),aF P s!"__file__" 173 (.str s!"/claim/cut.py" 172),aF P s!"__cached__" 174 .none,aF P s!"_sre" 275 (.ref 12),aF P s!"_DIV_LIMIT" 285 (.int 4000 284),aF P s!"_div2n1n" 302 (.ref 38),aF P s!"_div3n2n" 316 (.ref 45),aF P s!"_int2digits" 327 (.ref 52),aF P s!"_digits2int" 338 (.ref 59),aF P s!"_divmod_pos" 353 (.ref 66),aF P s!"int_divmod" 363 (.ref 73),aF P s!"_parse_varint" 374 (.ref 80),aF P s!"_twin_re_1" 392 (.ref 85),aF P s!"_twin_re_2" 434 (.ref 90),aF P s!"CRLF" 436 (.str ⟨#[13,10]⟩ 435),aF P s!"quotedata" 443 (.ref 97),aF P s!"b1_set" 505 (.ref 105),aF P s!"in_table_b1" 512 (.ref 115),aF P s!"b3_exceptions" 2463 (.ref 116),aF P s!"map_table_b3" 2471 (.ref 161),aF P s!"_law_heaps" 2479 (.ref 166),aF P s!"_law_hidden" 2487 (.ref 173),aF P s!"_law_beside" 2495 (.ref 180),aF P s!"_law_form" 2504 (.ref 187),aF P s!"_law_prepared" 2514 (.ref 194),aF P s!"_law_numbers" 2520 (.ref 199),aF P s!"_law_steps" 2532 (.ref 206),aF P s!"_law_mail" 2548 (.ref 213),aF P s!"_law_rows" 2558 (.ref 220),aF P s!"_law_shapes" 2564 (.ref 225),aF P s!"law" 2570 (.ref 230)]
noncomputable def iC(p:aas)(lo hi:Nat):List ahs:=(p.main.body.drop (lo+1)).take (hi-lo)
noncomputable def gC(p:aas):Env:={scope:=p.main.scope,locals:=mainNs,globals:=mainNs,cells:=[],code:=.ref 30,frame:=some 31}
noncomputable def wc(p:aas):ahO:=.body (ajh p) (gC p)
noncomputable def ti(T:abA->BT)(n toks:Nat)(w:abI)(os:ad7):afP:=⟨T w.params,n,{},#[],{},toks,os⟩
noncomputable def jQ:Obj:=⟨(.type S3),none,.dict #[aF P s!"__name__" 1 (.str s!"builtins" 160),aF P s!"__doc__" 2 (.builtin "builtins.__doc__:str#opaque"),aF P s!"__package__" 3 (.builtin "builtins.__package__:str#opaque"),aF P s!"__loader__" 4 (.builtin "builtins.__loader__:shared#opaque"),aF P s!"__spec__" 5 (.builtin s11665532747177232413x24),aF P s!"__build_class__" 6 (.builtin s15183661809925369436x15),aF P s!"__import__" 7 (.builtin s13915890719876406383x10),aF P s!"abs" 8 (.builtin s13459172003223722735x3),aF P s!"all" 9 (.builtin s10557405761357834076x3),aF P s!"any" 10 (.builtin s4233737765568776869x3),aF P s!"ascii" 11 (.builtin s2508922471967985374x5),aF P s!"bin" 12 (.builtin s15574269061696679450x3),aF P s!"breakpoint" 13 (.builtin s6016482663378992977x10),aF P s!"callable" 14 (.builtin s5596568736180474577x8),aF P s!"chr" 15 (.builtin s2839554839881490554x3),aF P s!"compile" 16 (.builtin s725004073602090463x7),aF P s!"delattr" 17 (.builtin s9436932552931045734x7),aF P s!"dir" 18 (.builtin s2754603736356183583x3),aF P s!"divmod" 19 (.builtin s15185746759980889043x6),aF P s!"eval" 20 (.builtin s8192189862530294059x4),aF P s!"exec" 21 (.builtin s7038307821325472102x4),aF P s!"format" 22 (.builtin s5662562618415449548x6),aF P s!"getattr" 23 (.builtin s15281542589158584767x7),aF P s!"globals" 24 (.builtin s17651547275483570877x7),aF P s!"hasattr" 25 (.builtin s4036449017235975746x7),aF P s!"hash" 26 (.builtin s8879979712987360175x4),aF P s!"hex" 27 (.builtin s1801250619170735830x3),aF P s!"id" 28 (.builtin s17659931425627118568x2),aF P s!"input" 29 (.builtin s6063217899685152688x5),aF P s!"isinstance" 30 (.builtin s8008927332132565319x10),aF P s!"issubclass" 31 (.builtin s3544116645089599534x10),aF P s!"iter" 32 (.builtin s13761710972054866084x4),aF P s!"aiter" 33 (.builtin s12896375587409280029x5),aF P s!"len" 34 (.builtin s13014049009108672802x3),aF P s!"locals" 35 (.builtin s13935586738268321596x6),aF P s!"max" 36 (.builtin s8200498257699607233x3),aF P s!"min" 37 (.builtin s14114244577727609259x3),aF P s!"next" 38 (.builtin s1499430450269397089x4),aF P s!"anext" 39 (.builtin s8755793994789770505x5),aF P s!"oct" 40 (.builtin s15725212667919936108x3),aF P s!"ord" 41 (.builtin s15791221867095933363x3),aF P s!"pow" 42 (.builtin s81309575031448614x3),aF P s!"print" 43 (.builtin s8069831620301644142x5),aF P s!"repr" 44 (.builtin s10061844253413749634x4),aF P s!"round" 45 (.builtin s9496514870978017513x5),aF P s!"setattr" 46 (.builtin s8899691144933366716x7),aF P s!"sorted" 47 (.builtin s15201008993051130160x6),aF P s!"sum" 48 (.builtin s741896355592496720x3),aF P s!"vars" 49 (.builtin s17925004256654032244x4),aF P s!"None" 50 .none,aF P s!"Ellipsis" 51 .ellipsis,aF P s!"NotImplemented" 52 .notImplemented,aF P s!"False" 53 (.bool false),aF P s!"True" 54 (.bool true),aF P s!"bool" 55 (.type s11695548795398191787x4),aF P s!"memoryview" 56 (.type s4156966113859768872x10),aF P s!"bytearray" 57 (.type s9501651726347032510x9),aF P s!"bytes" 58 (.type s15722918466584999320x5),aF P s!"classmethod" 59 (.type s591115383303110208x11),aF P s!"complex" 60 (.type s15721156781594690315x7),aF P s!"dict" 61 (.type S3),aF P s!"enumerate" 62 (.type s14340494229221121180x9),aF P s!"filter" 63 (.type s13429844117177748173x6),aF P s!"float" 64 (.type s16463266125957815391x5),aF P s!"frozenset" 65 (.type s4922535414793169389x9),aF P s!"property" 66 (.type s8101838861749082086x8),aF P s!"int" 67 (.type s7066276694103001551x3),aF P s!"list" 68 (.type S4),aF P s!"map" 69 (.type s462964344163437139x3),aF P s!"object" 70 (.type S5),aF P s!"range" 71 (.type ami),aF P s!"reversed" 72 (.type s14365286008749172514x8),aF P s!"set" 73 (.type amh),aF P s!"slice" 74 (.type s4674234679698826739x5),aF P s!"staticmethod" 75 (.type s16656946322747308186x12),aF P s!"str" 76 (.type s10796804682411823810x3),aF P s!"super" 77 (.type s4290257624100764138x5),aF P s!"tuple" 78 (.type S0),aF P s!"type" 79 (.type S7),aF P s!"zip" 80 (.type s14339709457334898076x3),aF P s!"__debug__" 81 (.bool true),aF P s!"BaseException" 82 (.type s4278001404047624695x13),aF P s!"BaseExceptionGroup" 83 (.type s6585700554429387442x18),aF P s!"Exception" 84 (.type s5946037652744460706x9),aF P s!"GeneratorExit" 85 (.type s7410770068591931388x13),aF P s!"KeyboardInterrupt" 86 (.type s11817881795495490833x17),aF P s!"SystemExit" 87 (.type s15679963881808890155x10),aF P s!"ArithmeticError" 88 (.type s3871700062485845797x15),aF P s!"AssertionError" 89 (.type s7689518266570723881x14),aF P s!"AttributeError" 90 (.type s9001593270443806431x14),aF P s!"BufferError" 91 (.type s6882542574934516792x11),aF P s!"EOFError" 92 (.type s14403400214490484960x8),aF P s!"ImportError" 93 (.type s14457978657717015782x11),aF P s!"LookupError" 94 (.type s1753610191782819921x11),aF P s!"MemoryError" 95 (.type s14119380538032626715x11),aF P s!"NameError" 96 (.type s11437920000406562045x9),aF P s!"OSError" 97 (.type S8),aF P s!"ReferenceError" 98 (.type s14816307405966870543x14),aF P s!"RuntimeError" 99 (.type s8682627914449686677x12),aF P s!"StopAsyncIteration" 100 (.type s4428170145600203450x18),aF P s!"StopIteration" 101 (.type S9),aF P s!"SyntaxError" 102 (.type s16067994140765818257x11),aF P s!"SystemError" 103 (.type s2327743974964600596x11),aF P s!"TypeError" 104 (.type s2804747833354056582x9),aF P s!"ValueError" 105 (.type s6070975301684473832x10),aF P s!"Warning" 106 (.type s14270485950484850486x7),aF P s!"FloatingPointError" 107 (.type s12041534306414923332x18),aF P s!"OverflowError" 108 (.type s2531307568338490285x13),aF P s!"ZeroDivisionError" 109 (.type s631175304937289666x17),aF P s!"BytesWarning" 110 (.type s5144983644357021410x12),aF P s!"DeprecationWarning" 111 (.type s18039099521571816885x18),aF P s!"EncodingWarning" 112 (.type s6011586214260557989x15),aF P s!"FutureWarning" 113 (.type s5430567037509283100x13),aF P s!"ImportWarning" 114 (.type s8117915138073963741x13),aF P s!"PendingDeprecationWarning" 115 (.type s3423317712779056401x25),aF P s!"ResourceWarning" 116 (.type s2007317383269046180x15),aF P s!"RuntimeWarning" 117 (.type s17481586968713580700x14),aF P s!"SyntaxWarning" 118 (.type s2450899226349176912x13),aF P s!"UnicodeWarning" 119 (.type s16626165730633575011x14),aF P s!"UserWarning" 120 (.type s14288496050688921416x11),aF P s!"BlockingIOError" 121 (.type s5735081916595925998x15),aF P s!"ChildProcessError" 122 (.type s3865607918536308442x17),aF P s!"ConnectionError" 123 (.type s13337502604062700212x15),aF P s!"FileExistsError" 124 (.type s13114017843053701147x15),aF P s!"FileNotFoundError" 125 (.type s17467278006356818441x17),aF P s!"InterruptedError" 126 (.type s17722149559621369488x16),aF P s!"IsADirectoryError" 127 (.type s7855274175708717672x17),aF P s!"NotADirectoryError" 128 (.type s13351283678309829046x18),aF P s!"PermissionError" 129 (.type s6668348653404991179x15),aF P s!"ProcessLookupError" 130 (.type s12913350958174193794x18),aF P s!"TimeoutError" 131 (.type s16115879512475548326x12),aF P s!"IndentationError" 132 (.type s15920661018069861047x16),aF P s!"_IncompleteInputError" 133 (.type s10779130036587390575x21),aF P s!"IndexError" 134 (.type s7801419657504700863x10),aF P s!"KeyError" 135 (.type s1688129525768580628x8),aF P s!"ModuleNotFoundError" 136 (.type s1031832959479892071x19),aF P s!"NotImplementedError" 137 (.type s8991790508128307865x19),aF P s!"PythonFinalizationError" 138 (.type s14539662485746970245x23),aF P s!"RecursionError" 139 (.type s11643622729373238714x14),aF P s!"UnboundLocalError" 140 (.type s3386828779285465597x17),aF P s!"UnicodeError" 141 (.type s13042696260734638735x12),aF P s!"BrokenPipeError" 142 (.type s18239426817015966623x15),aF P s!"ConnectionAbortedError" 143 (.type s1270395311379034370x22),aF P s!"ConnectionRefusedError" 144 (.type s10696252587037064777x22),aF P s!"ConnectionResetError" 145 (.type s7852717498200857586x20),aF P s!"TabError" 146 (.type s6377248116197321094x8),aF P s!"UnicodeDecodeError" 147 (.type s3834378056692298002x18),aF P s!"UnicodeEncodeError" 148 (.type s17586630440231065808x18),aF P s!"UnicodeTranslateError" 149 (.type s15234114252648025395x21),aF P s!"ExceptionGroup" 150 (.type s8496462677383758984x14),aF P s!"EnvironmentError" 151 (.type S8),aF P s!"IOError" 152 (.type S8),aF P s!"open" 153 (.builtin s16789243406116112673x4),aF P s!"quit" 154 (.builtin s14400166428656793546x20),aF P s!"exit" 155 (.builtin s5857708277339239366x20),aF P s!"copyright" 156 (.builtin "builtins.copyright#opaque"),aF P s!"credits" 157 (.builtin "builtins.credits#opaque"),aF P s!"license" 158 (.builtin "builtins.license#opaque"),aF P s!"help" 159 (.builtin s7804999707787243718x20)] 159,#[]⟩
noncomputable def jR:Obj:=⟨(.type S3),none,.dict #[aF P s!"builtins" 162 (.ref 4),aF P s!"__main__" 163 (.ref 5),aF P s!"_sre" 244 (.ref 12)] 3,#[]⟩
noncomputable def jS:Obj:=⟨.none,none,.dict #[aF P ⟨#[105,109,112,111,114,116,46,108,111,97,100,101,100,46,95,115,114,101]⟩ 183 (.bool true),aF P s!"class._frozen_importlib.BuiltinImporter" 185 (.ref 14),aF P ⟨#[119,97,116,99,104,101,100,46,105,109,112,111,114,116]⟩ 206 (.ref 18),aF P s!"class._frozen_importlib.ModuleSpec" 216 (.ref 22),aF P s!"sys.modules.booked-epoch" 245 (.int 3 0),aF P ⟨#[105,109,112,111,114,116,46,108,97,116,101,114,45,108,97,105,100,46,95,115,114,101]⟩ 270 (.bool true),aF P s!"watched.library" 272 (.ref 27),aF P s!"watched.library-objects" 0 (.str ⟨#[12]⟩ 0),aF P s!"watched.library-deep._sre" 273 (.str s!"\x04\x00\x00\x0b\x04\x00\x00\x0b\x04\x00\x00\x03\x04\x00\x00\x0b\x08\x04dict\x02" 0)] 9,#[]⟩
noncomputable def RG:Obj:=⟨(.type S3),none,.dict (aF P s!"__name__" 165 (.str s!"__main__" 164)::(zF P).take 9).toArray 10,#[]⟩
noncomputable def jT:Obj:=⟨(.type S10),(some 0),.plain,#[]⟩
noncomputable def jU:Obj:=⟨(.type S10),(some 3),.plain,#[]⟩
noncomputable def cX:Obj:=⟨(.type S3),none,.dict #[] 0,#[]⟩
noncomputable def ah:Obj:=⟨(.type S0),none,.seq #[] 0,#[]⟩
noncomputable def ay:Obj:=⟨.none,none,.fields #[],#[]⟩
noncomputable def lT:Obj:=⟨(.type S1),none,.fields #[(.str s!"<module>" 176),(.str s!"<module>" 177),(.str s!"/claim/cut.py" 178),(.int 1 0),(.int 0 0),(.int 0 0),(.int 0 0),(.int 0 0),(.ref 7),(.bool false),(.int 175 0),(.ref 8),.none,.none,.none,.none,(.int 179 0),(.int 1 0),(.str s!"/claim/cut.py" 180)],#[]⟩
noncomputable def gR:Obj:=⟨(.type amu),none,.plain,#[(some (.ref 9)),(some (.ref 3)),(some (.ref 3)),none,(some (.str s!"__main__" 164)),none,(some (.ref 0))]⟩
noncomputable def gS:Obj:=⟨(.type S3),none,.dict #[aF P s!"__name__" 247 (.str s!"_sre" 246),aF P s!"__doc__" 248 .none,aF P s!"__package__" 250 (.str s!"" 249),aF P s!"__loader__" 251 (.builtin "off-the-table:_sre.__loader__:shared#opaque"),aF P s!"__spec__" 252 (.builtin "off-the-table:_sre.__spec__:shared#opaque"),aF P s!"compile" 253 (.builtin s492968859115322481x12),aF P s!"template" 254 (.builtin "off-the-table:_sre.template:shared#opaque"),aF P s!"getcodesize" 255 (.builtin "off-the-table:_sre.getcodesize:shared#opaque"),aF P s!"ascii_iscased" 256 (.builtin "off-the-table:_sre.ascii_iscased:shared#opaque"),aF P s!"unicode_iscased" 257 (.builtin "off-the-table:_sre.unicode_iscased:shared#opaque"),aF P s!"ascii_tolower" 258 (.builtin "off-the-table:_sre.ascii_tolower:shared#opaque"),aF P s!"unicode_tolower" 259 (.builtin "off-the-table:_sre.unicode_tolower:shared#opaque"),aF P s!"MAGIC" 261 (.int 20230612 260),aF P s!"CODESIZE" 263 (.int 4 262),aF P s!"MAXREPEAT" 265 (.int 4294967295 264),aF P s!"MAXGROUPS" 267 (.int 1073741823 266),aF P s!"copyright" 269 (.str s!" SRE 2.2.2 Copyright (c) 1997-2002 by Secret Labs AB " 268)] 17,#[]⟩
noncomputable def ja:Obj:=⟨(.type S10),(some 11),.plain,#[]⟩
noncomputable def gT:Obj:=⟨(.type S3),none,.dict #[aF P s!"__module__" 189 (.str s!"_frozen_importlib" 186),aF P s!"__firstlineno__" 190 (.int 971 187),aF P s!"__doc__" 191 (.builtin "_frozen_importlib.BuiltinImporter.__doc__:str#opaque"),aF P s!"_ORIGIN" 192 (.str s!"built-in" 188),aF P s!"find_spec" 193 (.builtin "_frozen_importlib.BuiltinImporter.find_spec#opaque"),aF P s!"create_module" 194 (.builtin "_frozen_importlib.BuiltinImporter.create_module#opaque"),aF P s!"exec_module" 195 (.builtin "_frozen_importlib.BuiltinImporter.exec_module#opaque"),aF P s!"get_code" 196 (.builtin "_frozen_importlib.BuiltinImporter.get_code#opaque"),aF P s!"get_source" 197 (.builtin "_frozen_importlib.BuiltinImporter.get_source#opaque"),aF P s!"is_package" 198 (.builtin "_frozen_importlib.BuiltinImporter.is_package#opaque"),aF P s!"load_module" 199 (.builtin "_frozen_importlib.BuiltinImporter.load_module#opaque"),aF P s!"__static_attributes__" 200 (.ref 15),aF P s!"__dict__" 202 (.ref 16),aF P s!"__weakref__" 204 (.ref 17)] 14,#[]⟩
noncomputable def gU:Obj:=⟨(.type S7),none,.cls ⟨s!"BuiltinImporter",[(.type S5)],[(.ref 14),(.type S5)],13,s!"BuiltinImporter",true,[],[],false,none,false⟩,#[]⟩
noncomputable def gV:Obj:=⟨(.type S6),none,.fields #[(.str s!"__dict__" 201),(.ref 14),(.builtin alU),(.builtin alI)],#[]⟩
noncomputable def gW:Obj:=⟨(.type S6),none,.fields #[(.str s!"__weakref__" 203),(.ref 14),(.builtin alK),.none],#[]⟩
noncomputable def gX:Obj:=⟨.none,none,.seq #[(.int 13 0),(.str ⟨#[6,189,10,95,95,109,111,100,117,108,101,95,95,6,186,17,95,102,114,111,122,101,110,95,105,109,112,111,114,116,108,105,98,6,190,15,95,95,102,105,114,115,116,108,105,110,101,110,111,95,95,4,187,0,971,6,191,7,95,95,100,111,99,95,95,9,52,95,102,114,111,122,101,110,95,105,109,112,111,114,116,108,105,98,46,66,117,105,108,116,105,110,73,109,112,111,114,116,101,114,46,95,95,100,111,99,95,95,58,115,116,114,35,111,112,97,113,117,101,6,192,7,95,79,82,73,71,73,78,6,188,8,98,117,105,108,116,45,105,110,6,193,9,102,105,110,100,95,115,112,101,99,9,50,95,102,114,111,122,101,110,95,105,109,112,111,114,116,108,105,98,46,66,117,105,108,116,105,110,73,109,112,111,114,116,101,114,46,102,105,110,100,95,115,112,101,99,35,111,112,97,113,117,101,6,194,13,99,114,101,97,116,101,95,109,111,100,117,108,101,9,54,95,102,114,111,122,101,110,95,105,109,112,111,114,116,108,105,98,46,66,117,105,108,116,105,110,73,109,112,111,114,116,101,114,46,99,114,101,97,116,101,95,109,111,100,117,108,101,35,111,112,97,113,117,101,6,195,11,101,120,101,99,95,109,111,100,117,108,101,9,52,95,102,114,111,122,101,110,95,105,109,112,111,114,116,108,105,98,46,66,117,105,108,116,105,110,73,109,112,111,114,116,101,114,46,101,120,101,99,95,109,111,100,117,108,101,35,111,112,97,113,117,101,6,196,8,103,101,116,95,99,111,100,101,9,49,95,102,114,111,122,101,110,95,105,109,112,111,114,116,108,105,98,46,66,117,105,108,116,105,110,73,109,112,111,114,116,101,114,46,103,101,116,95,99,111,100,101,35,111,112,97,113,117,101,6,197,10,103,101,116,95,115,111,117,114,99,101,9,51,95,102,114,111,122,101,110,95,105,109,112,111,114,116,108,105,98,46,66,117,105,108,116,105,110,73,109,112,111,114,116,101,114,46,103,101,116,95,115,111,117,114,99,101,35,111,112,97,113,117,101,6,198,10,105,115,95,112,97,99,107,97,103,101,9,51,95,102,114,111,122,101,110,95,105,109,112,111,114,116,108,105,98,46,66,117,105,108,116,105,110,73,109,112,111,114,116,101,114,46,105,115,95,112,97,99,107,97,103,101,35,111,112,97,113,117,101,6,199,11,108,111,97,100,95,109,111,100,117,108,101,9,52,95,102,114,111,122,101,110,95,105,109,112,111,114,116,108,105,98,46,66,117,105,108,116,105,110,73,109,112,111,114,116,101,114,46,108,111,97,100,95,109,111,100,117,108,101,35,111,112,97,113,117,101,6,200,21,95,95,115,116,97,116,105,99,95,97,116,116,114,105,98,117,116,101,115,95,95,4,0,0,15,6,202,8,95,95,100,105,99,116,95,95,4,0,0,16,6,204,11,95,95,119,101,97,107,114,101,102,95,95,4,0,0,17]⟩ 0),(.bool true),(.bool true),(.str s!"" 205),(.int 21 0),(.str s!"\x06ã\x0a__module__\x06Ù\x11_frozen_importlib\x06ä\x0f__firstlineno__\x04Ú\x00Ȳ\x06å\x07__doc__\x09/_frozen_importlib.ModuleSpec.__doc__:str#opaque\x06æ\x08__init__\x09,_frozen_importlib.ModuleSpec.__init__#opaque\x06ç\x08__repr__\x09,_frozen_importlib.ModuleSpec.__repr__#opaque\x06è\x06__eq__\x09*_frozen_importlib.ModuleSpec.__eq__#opaque\x06é\x06cached\x09*_frozen_importlib.ModuleSpec.cached#opaque\x06ê\x06parent\x09*_frozen_importlib.ModuleSpec.parent#opaque\x06ë\x0chas_location\x090_frozen_importlib.ModuleSpec.has_location#opaque\x06ì\x15__static_attributes__\x04\x00\x00\x17\x06î\x08__dict__\x04\x00\x00\x18\x06ð\x0b__weakref__\x04\x00\x00\x19\x06ñ\x08__hash__\x00" 0),(.bool true),(.bool true),(.str s!"" 242)] 1,#[]⟩
noncomputable def gY:Obj:=⟨(.type S4),none,.seq #[] 0,#[]⟩
noncomputable def jb:Obj:=⟨(.type S3),none,.dict #[aF P s!"name" 208 (.str s!"_sre" 207),aF P s!"loader" 209 (.ref 14),aF P s!"origin" 210 (.str s!"built-in" 184),aF P s!"loader_state" 211 .none,aF P s!"submodule_search_locations" 212 .none,aF P s!"_uninitialized_submodules" 213 (.ref 19),aF P s!"_set_fileattr" 214 (.bool false),aF P s!"_cached" 215 .none,aF P s!"_initializing" 243 (.bool false)] 9,#[]⟩
noncomputable def gZ:Obj:=⟨(.type S3),none,.dict #[aF P s!"__module__" 227 (.str s!"_frozen_importlib" 217),aF P s!"__firstlineno__" 228 (.int 562 218),aF P s!"__doc__" 229 (.builtin "_frozen_importlib.ModuleSpec.__doc__:str#opaque"),aF P s!"__init__" 230 (.builtin "_frozen_importlib.ModuleSpec.__init__#opaque"),aF P s!"__repr__" 231 (.builtin "_frozen_importlib.ModuleSpec.__repr__#opaque"),aF P s!"__eq__" 232 (.builtin "_frozen_importlib.ModuleSpec.__eq__#opaque"),aF P s!"cached" 233 (.builtin "_frozen_importlib.ModuleSpec.cached#opaque"),aF P s!"parent" 234 (.builtin "_frozen_importlib.ModuleSpec.parent#opaque"),aF P s!"has_location" 235 (.builtin "_frozen_importlib.ModuleSpec.has_location#opaque"),aF P s!"__static_attributes__" 236 (.ref 23),aF P s!"__dict__" 238 (.ref 24),aF P s!"__weakref__" 240 (.ref 25),aF P s!"__hash__" 241 .none] 13,#[]⟩
noncomputable def g0:Obj:=⟨(.type S7),none,.cls ⟨s!"ModuleSpec",[(.type S5)],[(.ref 22),(.type S5)],21,s!"ModuleSpec",true,[],[],false,none,false⟩,#[]⟩
noncomputable def hJ:Obj:=⟨(.type S0),none,.seq #[(.str s!"_cached" 219),(.str s!"_set_fileattr" 220),(.str s!"_uninitialized_submodules" 221),(.str s!"loader" 222),(.str s!"loader_state" 223),(.str s!"name" 224),(.str s!"origin" 225),(.str s!"submodule_search_locations" 226)] 0,#[]⟩
noncomputable def hU:Obj:=⟨(.type S6),none,.fields #[(.str s!"__dict__" 237),(.ref 22),(.builtin alU),(.builtin alI)],#[]⟩
noncomputable def hV:Obj:=⟨(.type S6),none,.fields #[(.str s!"__weakref__" 239),(.ref 22),(.builtin alK),.none],#[]⟩
noncomputable def hZ:Obj:=⟨(.ref 22),(some 20),.plain,#[]⟩
noncomputable def ig:Obj:=⟨.none,none,.seq #[(.int 11 0),(.str ⟨#[6,247,8,95,95,110,97,109,101,95,95,6,246,4,95,115,114,101,6,248,7,95,95,100,111,99,95,95,0,6,250,11,95,95,112,97,99,107,97,103,101,95,95,6,249,0,6,251,10,95,95,108,111,97,100,101,114,95,95,4,0,0,14,6,252,8,95,95,115,112,101,99,95,95,4,0,0,26,6,253,7,99,111,109,112,105,108,101,9,12,95,115,114,101,46,99,111,109,112,105,108,101,6,254,8,116,101,109,112,108,97,116,101,9,13,95,115,114,101,46,116,101,109,112,108,97,116,101,6,255,11,103,101,116,99,111,100,101,115,105,122,101,9,16,95,115,114,101,46,103,101,116,99,111,100,101,115,105,122,101,6,256,13,97,115,99,105,105,95,105,115,99,97,115,101,100,9,18,95,115,114,101,46,97,115,99,105,105,95,105,115,99,97,115,101,100,6,257,15,117,110,105,99,111,100,101,95,105,115,99,97,115,101,100,9,20,95,115,114,101,46,117,110,105,99,111,100,101,95,105,115,99,97,115,101,100,6,258,13,97,115,99,105,105,95,116,111,108,111,119,101,114,9,18,95,115,114,101,46,97,115,99,105,105,95,116,111,108,111,119,101,114,6,259,15,117,110,105,99,111,100,101,95,116,111,108,111,119,101,114,9,20,95,115,114,101,46,117,110,105,99,111,100,101,95,116,111,108,111,119,101,114,6,261,5,77,65,71,73,67,4,260,0,20230612,6,263,8,67,79,68,69,83,73,90,69,4,262,0,4,6,265,9,77,65,88,82,69,80,69,65,84,4,264,0,4294967295,6,267,9,77,65,88,71,82,79,85,80,83,4,266,0,1073741823,6,269,9,99,111,112,121,114,105,103,104,116,6,268,53,32,83,82,69,32,50,46,50,46,50,32,67,111,112,121,114,105,103,104,116,32,40,99,41,32,49,57,57,55,45,50,48,48,50,32,98,121,32,83,101,99,114,101,116,32,76,97,98,115,32,65,66,32]⟩ 0),(.bool true),(.bool false),(.str s!"_sre" 271)] 0,#[]⟩
noncomputable def UH(p:aas)(P:abA):List Obj:=[(jQ P),(jR P),(jS P),(RG P),jT,jU,cX,ah,ay,lT,gR,(gS P),ja,(gT P),gU,ah]
noncomputable def UI(p:aas)(P:abA):List Obj:=[gV,gW,gX,gY,(jb P),(gZ P),g0,hJ,hU,hV,hZ,ig]
noncomputable def xi(p:aas)(P:abA):adF:=⟨(UH p P++(UI p P)).toArray,{}⟩
noncomputable def hdOpL(p:aas):abI->Option (adF×Array ajj×Drawn×Nat):=λw=>(fencedOpening adW p w 20000).map (λs=>(s.heap,s.gens,s.drawn,s.toks))
noncomputable def RH(p:aas):abI->Option (adF×Array ajj×Drawn×Nat):=λw=>some (xi p w.params,#[],{},276)
lay_quick Mine.hdOpL
theorem IW:hdOpL pw=RH pw:=(congrFun PySem.W.Fast.te1292643952995006600 pw).trans (by kernel_rfl:PySem.W.Fast.tw1292643952995006600 pw=RH pw)
noncomputable def jc:Obj:=⟨(.type S1),none,.fields #[(.str s!"<module>" 277),(.str s!"<module>" 278),(.str s!"/claim/cut.py" 279),(.int 1 0),(.int 0 0),(.int 0 0),(.int 0 0),(.int 0 0),(.ref 28),(.bool false),(.int 276 0),(.ref 29),.none,.none,.none,.none,(.int 280 0),(.int 1 0),(.str s!"/claim/cut.py" 281)],#[]⟩
noncomputable def jd:Obj:=⟨(.type amu),none,.plain,#[(some (.ref 30)),(some (.ref 3)),(some (.ref 3)),none,(some (.str s!"__main__" 164)),none,(some (.ref 0))]⟩
noncomputable def Od(p:aas)(P:abA):BT:=(Bn (jQ P) (Bn (jR P) (Bn (RG P) (Bn ah (Bn ah (Bl jd) Bz) (Bl hJ)) (Bn (gS P) (Bl gY) (Bl ig))) (Bn jU (Bn lT (Bl gW) (Bl hV)) (Bn (gT P) (Bl (gZ P)) (Bl ay)))) (Bn (jS P) (Bn jT (Bn ay (Bl gV) (Bl hU)) (Bn ja (Bl (jb P)) (Bl ah))) (Bn cX (Bn gR (Bl gX) (Bl hZ)) (Bn gU (Bl g0) (Bl jc)))))
noncomputable def hdPreL(p:aas):abI->ad7->Option (aaD×Thread):=λw os=>topGo adW p w 28 (some (.ref 6)) 12 ⟨xi p w.params,#[],{},276,os⟩ (topStub p)
noncomputable def hdPreR(p:aas):abI->ad7->Option (aaD×Thread):=λw os=>some ((ti (Od p) 32 282 w os).abs,⟨denote adW (wc p),wc p,⟨0,0,0,0⟩,[topFrame ⟨0,0,0,0⟩]⟩)
noncomputable def hdBlL(p:aas):abI->ad7->Option (ahE×afP×ahO×Pos):=λw os=>ajx adW p w 28 (some (.ref 6)) 1 1 (ti (Od p) 32 282 w os) (blockOf (ajh p) (gC p) (wc p) ⟨0,0,0,0⟩ [topFrame ⟨0,0,0,0⟩])
noncomputable def RJ(p:aas):abI->ad7->Option (ahE×afP×ahO×Pos):=λw os=>some (.next,ti (Od p) 32 282 w os,wc p,⟨0,0,0,0⟩)
lay_quick Mine.hdPreL Mine.hdPreR
theorem Gw:hdPreL pw=hdPreR pw:=(congrFun PySem.W.Fast.te10816528021983977515 pw).trans ((by kernel_rfl:PySem.W.Fast.tw10816528021983977515 pw=PySem.W.Fast.tw9769991400785242272 pw).trans (congrFun PySem.W.Fast.te9769991400785242272 pw).symm)
lay_quick Mine.hdBlL
theorem IX:hdBlL pw=RJ pw:=(congrFun PySem.W.Fast.te9774779159105393017 pw).trans (by kernel_rfl:PySem.W.Fast.tw9774779159105393017 pw=RJ pw)
noncomputable def Zb:Obj:=⟨(.type S3),none,.dict (aF P s!"__name__" 165 (.str s!"cpy313._pylong" 282)::(zF P).take 16).toArray 17,#[]⟩
noncomputable def UJ:Obj:=⟨.none,none,.fields #[(.int 4 0),(.int 0 0),(.ref 37),(.int 20 0),(.int 0 0),(.ref 44),(.int 30 0),(.int 0 0),(.ref 51),(.int 46 0),(.int 0 0),(.ref 58),(.int 55 0),(.int 0 0),(.ref 65),(.int 66 0),(.int 0 0),(.ref 72)],#[]⟩
noncomputable def jV:Obj:=⟨(.type S0),none,.seq #[(.str s!"a" 289),(.str s!"b" 290),(.str s!"n" 291),(.str s!"pad" 292),(.str s!"half_n" 293),(.str s!"mask" 294),(.str s!"b1" 295),(.str s!"b2" 296),(.str s!"q1" 297),(.str s!"r" 298),(.str s!"q2" 299)] 0,#[]⟩
noncomputable def mF:Obj:=iz p 3 .none 0 .none .none s!"_div2n1n"
noncomputable def jW:Obj:=gQ (.type S1) s!"_div2n1n" 286 287 288 4 3 32 33 (.ref 34) (.ref 35) (.ref 36) 300 301
noncomputable def jX:Obj:=iz p 3 (.type S2) 3 (.str s!"cpy313._pylong" 282) (.ref 37) s!"_div2n1n"
noncomputable def jY:Obj:=⟨(.type S0),none,.seq #[(.str s!"a12" 306),(.str s!"a3" 307),(.str s!"b" 308),(.str s!"b1" 309),(.str s!"b2" 310),(.str s!"n" 311),(.str s!"q" 312),(.str s!"r" 313)] 0,#[]⟩
noncomputable def jZ:Obj:=iz p 4 .none 0 .none .none s!"_div3n2n"
noncomputable def mG:Obj:=gQ (.type S1) s!"_div3n2n" 303 304 305 20 6 39 40 (.ref 41) (.ref 42) (.ref 43) 314 315
noncomputable def j0:Obj:=iz p 4 (.type S2) 3 (.str s!"cpy313._pylong" 282) (.ref 44) s!"_div3n2n"
noncomputable def j3:Obj:=⟨(.type S0),none,.seq #[(.str s!"a" 320),(.str s!"n" 321)] 0,#[]⟩
noncomputable def j4:Obj:=⟨(.type S0),none,.seq #[(.str s!"n" 322),(.str s!"a_digits" 323),(.str s!"inner" 324)] 0,#[]⟩
noncomputable def j5:Obj:=iz p 5 .none 0 .none .none s!"_int2digits"
noncomputable def j6:Obj:=gQ (.type S1) s!"_int2digits" 317 318 319 30 2 46 47 (.ref 48) (.ref 49) (.ref 50) 325 326
noncomputable def mH:Obj:=iz p 5 (.type S2) 3 (.str s!"cpy313._pylong" 282) (.ref 51) s!"_int2digits"
noncomputable def j7:Obj:=⟨(.type S0),none,.seq #[(.str s!"digits" 331),(.str s!"n" 332)] 0,#[]⟩
noncomputable def j8:Obj:=⟨(.type S0),none,.seq #[(.str s!"digits" 333),(.str s!"n" 334),(.str s!"inner" 335)] 0,#[]⟩
noncomputable def j9:Obj:=iz p 6 .none 0 .none .none s!"_digits2int"
noncomputable def ka:Obj:=gQ (.type S1) s!"_digits2int" 328 329 330 46 2 53 54 (.ref 55) (.ref 56) (.ref 57) 336 337
noncomputable def kc:Obj:=iz p 6 (.type S2) 3 (.str s!"cpy313._pylong" 282) (.ref 58) s!"_digits2int"
noncomputable def kd:Obj:=⟨(.type S0),none,.seq #[(.str s!"a" 342),(.str s!"b" 343),(.str s!"n" 344),(.str s!"a_digits" 345),(.str s!"r" 346),(.str s!"q_digits" 347),(.str s!"a_digit" 348),(.str s!"q_digit" 349),(.str s!"q" 350)] 0,#[]⟩
noncomputable def kf:Obj:=iz p 7 .none 0 .none .none s!"_divmod_pos"
noncomputable def kg:Obj:=gQ (.type S1) s!"_divmod_pos" 339 340 341 55 2 60 61 (.ref 62) (.ref 63) (.ref 64) 351 352
noncomputable def kh:Obj:=iz p 7 (.type S2) 3 (.str s!"cpy313._pylong" 282) (.ref 65) s!"_divmod_pos"
noncomputable def kj:Obj:=⟨(.type S0),none,.seq #[(.str s!"a" 357),(.str s!"b" 358),(.str s!"q" 359),(.str s!"r" 360)] 0,#[]⟩
noncomputable def kl:Obj:=iz p 8 .none 0 .none .none s!"int_divmod"
noncomputable def km:Obj:=gQ (.type S1) s!"int_divmod" 354 355 356 66 2 67 68 (.ref 69) (.ref 70) (.ref 71) 361 362
noncomputable def kq:Obj:=iz p 8 (.type S2) 3 (.str s!"cpy313._pylong" 282) (.ref 72) s!"int_divmod"
noncomputable def aen:BT:=(Bn ah (Bn ah (Bn jd (Bl ah) Bz) (Bl ay)) (Bn hJ (Bn ah (Bl (kl p)) Bz) (Bl j7)))
noncomputable def aeo:BT:=(Bn (gS P) (Bn gY (Bn ah (Bl ah) Bz) (Bl j6)) (Bn ig (Bl (jZ p)) (Bl (kc p))))
noncomputable def aep:BT:=(Bn lT (Bn gW (Bn ay (Bl kg) Bz) (Bl j4)) (Bn hV (Bn jY (Bl (kq p)) Bz) (Bl (j9 p))))
noncomputable def aeq:BT:=(Bn (gT P) (Bn (gZ P) (Bn jW (Bl kj) Bz) (Bl ah)) (Bn UJ (Bl (j0 p)) (Bl ay)))
noncomputable def aer:BT:=(Bn ay (Bn gV (Bn ah (Bl (kf p)) Bz) (Bl j3)) (Bn hU (Bn ay (Bl km) Bz) (Bl j8)))
noncomputable def aes:BT:=(Bn ja (Bn (jb P) (Bn (mF p) (Bl ay) Bz) (Bl (mH p))) (Bn ah (Bl mG) (Bl ah)))
noncomputable def aet:BT:=(Bn gR (Bn gX (Bn jV (Bl (kh p)) Bz) (Bl (j5 p))) (Bn hZ (Bl ah) (Bl ka)))
noncomputable def aeu:BT:=(Bn gU (Bn g0 (Bn (jX p) (Bl ah) Bz) (Bl ay)) (Bn jc (Bl ah) (Bl kd)))
noncomputable def Zc(p:aas)(P:abA):BT:=(Bn (jQ P) (Bn (jR P) (Bn (Zb P) (aen p) (aeo p P)) (Bn jU (aep p) (aeq p P))) (Bn (jS P) (Bn jT (aer p) (aes p P)) (Bn cX (aet p) (aeu p))))
noncomputable def hdL0(p:aas):abI->ad7->Option (ahE×afP×ahO×Pos):=λw os=>ajx adW p w 28 (some (.ref 6)) 1 229 (ti (Od p) 32 282 w os) (akp (iC p 0 8) (gC p) (wc p) ⟨0,0,0,0⟩ [topFrame ⟨0,0,0,0⟩])
noncomputable def Zd(p:aas):abI->ad7->Option (ahE×afP×ahO×Pos):=λw os=>some (.next,ti (Zc p) 74 364 w os,wc p,⟨66,0,76,32⟩)
lay_quick Mine.hdL0
theorem Oe:hdL0 pw=Zd pw:=(congrFun PySem.W.Fast.te17180572435818389453 pw).trans (by kernel_rfl:PySem.W.Fast.tw17180572435818389453 pw=Zd pw)
noncomputable def Ze:Obj:=⟨(.type S3),none,.dict (aF P s!"__name__" 165 (.str s!"cpy313.stringprep" 444)::(zF P).take 21).toArray 22,#[]⟩
noncomputable def IY:Obj:=⟨.none,none,.fields #[(.int 4 0),(.int 0 0),(.ref 37),(.int 20 0),(.int 0 0),(.ref 44),(.int 30 0),(.int 0 0),(.ref 51),(.int 46 0),(.int 0 0),(.ref 58),(.int 55 0),(.int 0 0),(.ref 65),(.int 66 0),(.int 0 0),(.ref 72),(.int 78 0),(.int 0 0),(.ref 79),(.int 90 0),(.int 0 0),(.ref 96)],#[]⟩
noncomputable def oN:Obj:=⟨(.type S0),none,.seq #[(.str s!"iterator" 369),(.str s!"b" 370),(.str s!"val" 371)] 0,#[]⟩
noncomputable def mI:Obj:=iz p 10 .none 0 .none .none s!"_parse_varint"
noncomputable def mJ:Obj:=gQ (.type S1) s!"_parse_varint" 366 367 368 78 1 74 75 (.ref 76) (.ref 77) (.ref 78) 372 373
noncomputable def mK:Obj:=iz p 10 (.type S2) 3 (.str s!"cpy313.dis" 364) (.ref 79) s!"_parse_varint"
noncomputable def mM:Obj:=⟨(.type S4),none,.seq #[(.int 14 380),(.int 4 381),(.int 0 382),(.int 1 383),(.int 1 384),(.int 6 385),(.int 1 386),(.int 16 387),(.int 46 388),(.int 1 389)] 0,#[]⟩
noncomputable def ed:Obj:=⟨(.type S0),none,.seq #[.none] 0,#[]⟩
noncomputable def oO:Obj:=⟨(.type S0),none,.seq #[(.int 14 0),(.int 4 0),(.int 0 0),(.int 1 0),(.int 1 0),(.int 6 0),(.int 1 0),(.int 16 0),(.int 46 0),(.int 1 0)] 0,#[]⟩
noncomputable def mO:Obj:=⟨(.type alJ),none,.fields #[(.str ⟨#[40,63,109,41,94,92,46]⟩ 378),(.int 40 391),(.int 0 0),.none,.none,(.ref 84),(.int 0 0)],#[]⟩
noncomputable def mP:Obj:=⟨(.type S4),none,.seq #[(.int 14 396),(.int 9 397),(.int 4 398),(.int 1 399),(.int 2 400),(.int 16 401),(.int 10 402),(.int 16 403),(.int 13 404),(.int 0 405),(.int 7 406),(.int 7 407),(.int 16 408),(.int 13 409),(.int 16 410),(.int 10 411),(.int 15 412),(.int 18 413),(.int 5 414),(.int 16 415),(.int 10 416),(.int 15 417),(.int 13 418),(.int 11 419),(.int 16 420),(.int 13 421),(.int 5 422),(.int 5 423),(.int 0 424),(.int 16 425),(.int 10 426),(.int 1 427),(.int 15 428),(.int 2 429),(.int 0 430),(.int 1 431)] 0,#[]⟩
noncomputable def mQ:Obj:=⟨(.type S0),none,.seq #[(.int 14 0),(.int 9 0),(.int 4 0),(.int 1 0),(.int 2 0),(.int 16 0),(.int 10 0),(.int 16 0),(.int 13 0),(.int 0 0),(.int 7 0),(.int 7 0),(.int 16 0),(.int 13 0),(.int 16 0),(.int 10 0),(.int 15 0),(.int 18 0),(.int 5 0),(.int 16 0),(.int 10 0),(.int 15 0),(.int 13 0),(.int 11 0),(.int 16 0),(.int 13 0),(.int 5 0),(.int 5 0),(.int 0 0),(.int 16 0),(.int 10 0),(.int 1 0),(.int 15 0),(.int 2 0),(.int 0 0),(.int 1 0)] 0,#[]⟩
noncomputable def mR:Obj:=⟨(.type alJ),none,.fields #[(.str s!"(?:\\r\\n|\\n|\\r(?!\\n))" 394),(.int 32 433),(.int 0 0),.none,.none,(.ref 89),(.int 0 0)],#[]⟩
noncomputable def mS:Obj:=⟨(.type S0),none,.seq #[(.str s!"data" 440)] 0,#[]⟩
noncomputable def mU:Obj:=iz p 15 .none 0 .none .none s!"quotedata"
noncomputable def mV:Obj:=gQ (.type S1) s!"quotedata" 437 438 439 90 1 91 92 (.ref 93) (.ref 94) (.ref 95) 441 442
noncomputable def mW:Obj:=iz p 15 (.type S2) 3 (.str s!"cpy313.smtplib" 375) (.ref 96) s!"quotedata"
noncomputable def aev:BT:=(Bn ah (Bn ah (Bn jd (Bl ah) (Bl (mU p))) (Bn ay (Bl mJ) Bz)) (Bn hJ (Bn ah (Bl (kl p)) Bz) (Bn j7 (Bl cX) Bz)))
noncomputable def aew:BT:=(Bn (gS P) (Bn gY (Bn ah (Bl ah) Bz) (Bn j6 (Bl ed) Bz)) (Bn ig (Bn (jZ p) (Bl ay) Bz) (Bn (kc p) (Bl ah) Bz)))
noncomputable def Zf:BT:=(Bn lT (Bn gW (Bn ay (Bl kg) (Bl (mW p))) (Bn j4 (Bl mM) Bz)) (Bn hV (Bn jY (Bl (kq p)) Bz) (Bn (j9 p) (Bl mQ) Bz)))
noncomputable def Zg:BT:=(Bn (gT P) (Bn (gZ P) (Bn jW (Bl kj) Bz) (Bn ah (Bl mO) Bz)) (Bn IY (Bn (j0 p) (Bl ah) Bz) (Bn ay (Bl mS) Bz)))
noncomputable def Zh:BT:=(Bn ay (Bn gV (Bn ah (Bl (kf p)) (Bl mV)) (Bn j3 (Bl (mK p)) Bz)) (Bn hU (Bn ay (Bl km) Bz) (Bn j8 (Bl ed) Bz)))
noncomputable def Zi:BT:=(Bn ja (Bn (jb P) (Bn (mF p) (Bl ay) Bz) (Bn (mH p) (Bl oO) Bz)) (Bn ah (Bn mG (Bl oN) Bz) (Bn ah (Bl ay) Bz)))
noncomputable def Zj:BT:=(Bn gR (Bn gX (Bn jV (Bl (kh p)) Bz) (Bn (j5 p) (Bl cX) Bz)) (Bn hZ (Bn ah (Bl ah) Bz) (Bn ka (Bl mR) Bz)))
noncomputable def Zk:BT:=(Bn gU (Bn g0 (Bn (jX p) (Bl ah) Bz) (Bn ay (Bl mP) Bz)) (Bn jc (Bn ah (Bl (mI p)) Bz) (Bn kd (Bl ah) Bz)))
noncomputable def Zm(p:aas)(P:abA):BT:=(Bn (jQ P) (Bn (jR P) (Bn (Ze P) (aev p) (aew p P)) (Bn jU (Zf p) (Zg p P))) (Bn (jS P) (Bn jT (Zh p) (Zi p P)) (Bn cX (Zj p) (Zk p))))
noncomputable def hdL1(p:aas):abI->ad7->Option (ahE×afP×ahO×Pos):=λw os=>ajx adW p w 28 (some (.ref 6)) 1 241 (ti (Zc p) 74 364 w os) (akp (iC p 8 16) (gC p) (wc p) ⟨66,0,76,32⟩ [topFrame ⟨0,0,0,0⟩])
noncomputable def Zn(p:aas):abI->ad7->Option (ahE×afP×ahO×Pos):=λw os=>some (.next,ti (Zm p) 98 446 w os,wc p,⟨92,0,92,8⟩)
lay_quick Mine.hdL1
theorem Og:hdL1 pw=Zn pw:=(congrFun PySem.W.Fast.te7778752961418837050 pw).trans (by kernel_rfl:PySem.W.Fast.tw7778752961418837050 pw=Zn pw)
noncomputable def Zo:Obj:=⟨(.type S3),none,.dict (aF P s!"__name__" 165 (.str s!"cpy313.stringprep" 444)::(zF P).take 22).toArray 23,#[]⟩
noncomputable def oP:Obj:=⟨(.type S4),none,.seq #[(.int 173 446),(.int 847 447),(.int 6150 448),(.int 6155 449),(.int 6156 450),(.int 6157 451),(.int 8203 452),(.int 8204 453),(.int 8205 454),(.int 8288 455),(.int 65279 456)] 0,#[]⟩
noncomputable def oQ:Obj:=⟨(.type ami),none,.fields #[(.int 65024 457),(.int 65040 458),(.int 1 459)],#[]⟩
noncomputable def ny:Obj:=⟨(.type S4),none,.seq #[(.int 65024 462),(.int 65025 463),(.int 65026 464),(.int 65027 465),(.int 65028 466),(.int 65029 467),(.int 65030 468),(.int 65031 469),(.int 65032 470),(.int 65033 471),(.int 65034 472),(.int 65035 473),(.int 65036 474),(.int 65037 475),(.int 65038 476),(.int 65039 477)] 18,#[]⟩
noncomputable def ll:Obj:=⟨(.type s15992201931430999065x14),none,.fields #[(.int 65040 0),(.int 0 0),(.int 1 0)],#[]⟩
noncomputable def lm:Obj:=⟨(.type S9),none,.fields #[(.ref 102),.none,.none,.none,(.bool false),.none],#[]⟩
noncomputable def lq:Obj:=⟨(.type S4),none,.seq #[(.int 173 446),(.int 847 447),(.int 6150 448),(.int 6155 449),(.int 6156 450),(.int 6157 451),(.int 8203 452),(.int 8204 453),(.int 8205 454),(.int 8288 455),(.int 65279 456),(.int 65024 462),(.int 65025 463),(.int 65026 464),(.int 65027 465),(.int 65028 466),(.int 65029 467),(.int 65030 468),(.int 65031 469),(.int 65032 470),(.int 65033 471),(.int 65034 472),(.int 65035 473),(.int 65036 474),(.int 65037 475),(.int 65038 476),(.int 65039 477)] 0,#[]⟩
noncomputable def lr:Obj:=⟨(.type amh),none,.set #[(65024,(.int 65024 462)),(65025,(.int 65025 463)),(65026,(.int 65026 464)),(65027,(.int 65027 465)),(65028,(.int 65028 466)),(65029,(.int 65029 467)),(6150,(.int 6150 448)),(65030,(.int 65030 468)),(65031,(.int 65031 469)),(65032,(.int 65032 470)),(65033,(.int 65033 471)),(6155,(.int 6155 449)),(6156,(.int 6156 450)),(6157,(.int 6157 451)),(8203,(.int 8203 452)),(8204,(.int 8204 453)),(8205,(.int 8205 454)),(65034,(.int 65034 472)),(65035,(.int 65035 473)),(65036,(.int 65036 474)),(65037,(.int 65037 475)),(65038,(.int 65038 476)),(65039,(.int 65039 477)),(173,(.int 173 446)),(847,(.int 847 447)),(8288,(.int 8288 455)),(65279,(.int 65279 456))] 29 ⟨127,#[0,1,2,3,4,5,6,7,8,9,10,11,12,13,14,15,16,17,18,19,20,21,22,45,79,96,127],#[],0,!(P.followText "set-order"),2,true⟩,#[]⟩
noncomputable def lu:Obj:=⟨(.type s3492446563574874994x13),none,.fields #[.none,(.int 27 0)],#[]⟩
noncomputable def nB:Obj:=⟨(.type S9),none,.fields #[(.ref 107),.none,.none,.none,(.bool false),.none],#[]⟩
noncomputable def Zq:BT:=(Bn ah (Bn ah (Bn jd (Bl ah) (Bl (mU p))) (Bn ay (Bl mJ) Bz)) (Bn hJ (Bn ah (Bl (kl p)) (Bl lm)) (Bn j7 (Bl cX) Bz)))
noncomputable def Zr:BT:=(Bn (gS P) (Bn gY (Bn ah (Bl ah) (Bl oQ)) (Bn j6 (Bl ed) Bz)) (Bn ig (Bn (jZ p) (Bl ay) (Bl ah)) (Bn (kc p) (Bl ah) Bz)))
noncomputable def Zt:BT:=(Bn lT (Bn gW (Bn ay (Bl kg) (Bl (mW p))) (Bn j4 (Bl mM) Bz)) (Bn hV (Bn jY (Bl (kq p)) (Bl (lr P))) (Bn (j9 p) (Bl mQ) Bz)))
noncomputable def Zu:BT:=(Bn (gT P) (Bn (gZ P) (Bn jW (Bl kj) (Bl ll)) (Bn ah (Bl mO) Bz)) (Bn IY (Bn (j0 p) (Bl ah) Bz) (Bn ay (Bl mS) Bz)))
noncomputable def Zv:BT:=(Bn ay (Bn gV (Bn ah (Bl (kf p)) (Bl mV)) (Bn j3 (Bl (mK p)) Bz)) (Bn hU (Bn ay (Bl km) (Bl lq)) (Bn j8 (Bl ed) Bz)))
noncomputable def RK:BT:=(Bn ja (Bn (jb P) (Bn (mF p) (Bl ay) (Bl ny)) (Bn (mH p) (Bl oO) Bz)) (Bn ah (Bn mG (Bl oN) (Bl nB)) (Bn ah (Bl ay) Bz)))
noncomputable def Zw:BT:=(Bn gR (Bn gX (Bn jV (Bl (kh p)) (Bl oP)) (Bn (j5 p) (Bl cX) Bz)) (Bn hZ (Bn ah (Bl ah) (Bl lu)) (Bn ka (Bl mR) Bz)))
noncomputable def Zx:BT:=(Bn gU (Bn g0 (Bn (jX p) (Bl ah) (Bl ah)) (Bn ay (Bl mP) Bz)) (Bn jc (Bn ah (Bl (mI p)) Bz) (Bn kd (Bl ah) Bz)))
noncomputable def Zy(p:aas)(P:abA):BT:=(Bn (jQ P) (Bn (jR P) (Bn (Zo P) (Zq p) (Zr p P)) (Bn jU (Zt p P) (Zu p P))) (Bn (jS P) (Bn jT (Zv p) (RK p P)) (Bn cX (Zw p) (Zx p))))
noncomputable def zG(p:aas):abI->ad7->Option (ahE×afP×ahO×Pos):=λw os=>ajx adW p w 28 (some (.ref 6)) 1 999 (ti (Zm p) 98 446 w os) (akp (iC p 16 17) (gC p) (wc p) ⟨92,0,92,8⟩ [topFrame ⟨0,0,0,0⟩])
noncomputable def zH(p:aas):abI->ad7->Option (ahE×afP×ahO×Pos):=λw os=>some (.next,ti (Zy p) 109 506 w os,wc p,⟨93,0,93,6⟩)
noncomputable def hdL2ff(p:aas):abI->ad7->Option (ahE×afP×ahO×Pos):=λw os=>zG p ((w.withFollow "set-order" false).withFollow "special-get-raises" false) os
noncomputable def IZ(p:aas):abI->ad7->Option (ahE×afP×ahO×Pos):=λw os=>zH p ((w.withFollow "set-order" false).withFollow "special-get-raises" false) os
lay_quick Mine.hdL2ff
theorem Gx:hdL2ff pw=IZ pw:=(congrFun PySem.W.Fast.te8590688208369114280 pw).trans (by kernel_rfl:PySem.W.Fast.tw8590688208369114280 pw=IZ pw)
noncomputable def hdL2ft(p:aas):abI->ad7->Option (ahE×afP×ahO×Pos):=λw os=>zG p ((w.withFollow "set-order" false).withFollow "special-get-raises" true) os
noncomputable def I1(p:aas):abI->ad7->Option (ahE×afP×ahO×Pos):=λw os=>zH p ((w.withFollow "set-order" false).withFollow "special-get-raises" true) os
lay_quick Mine.hdL2ft
theorem Gy:hdL2ft pw=I1 pw:=(congrFun PySem.W.Fast.te10506078887560020878 pw).trans (by kernel_rfl:PySem.W.Fast.tw10506078887560020878 pw=I1 pw)
noncomputable def hdL2tf(p:aas):abI->ad7->Option (ahE×afP×ahO×Pos):=λw os=>zG p ((w.withFollow "set-order" true).withFollow "special-get-raises" false) os
noncomputable def I2(p:aas):abI->ad7->Option (ahE×afP×ahO×Pos):=λw os=>zH p ((w.withFollow "set-order" true).withFollow "special-get-raises" false) os
lay_quick Mine.hdL2tf
theorem Gz:hdL2tf pw=I2 pw:=(congrFun PySem.W.Fast.te4225536076644256321 pw).trans (by kernel_rfl:PySem.W.Fast.tw4225536076644256321 pw=I2 pw)
noncomputable def hdL2tt(p:aas):abI->ad7->Option (ahE×afP×ahO×Pos):=λw os=>zG p ((w.withFollow "set-order" true).withFollow "special-get-raises" true) os
noncomputable def I3(p:aas):abI->ad7->Option (ahE×afP×ahO×Pos):=λw os=>zH p ((w.withFollow "set-order" true).withFollow "special-get-raises" true) os
lay_quick Mine.hdL2tt
theorem GA:hdL2tt pw=I3 pw:=(congrFun PySem.W.Fast.te5924270282599226174 pw).trans (by kernel_rfl:PySem.W.Fast.tw5924270282599226174 pw=I3 pw)
noncomputable def RL:Obj:=⟨(.type S3),none,.dict (aF P s!"__name__" 165 (.str s!"cpy313.stringprep" 444)::(zF P).take 23).toArray 24,#[]⟩
noncomputable def I4:Obj:=⟨.none,none,.fields #[(.int 4 0),(.int 0 0),(.ref 37),(.int 20 0),(.int 0 0),(.ref 44),(.int 30 0),(.int 0 0),(.ref 51),(.int 46 0),(.int 0 0),(.ref 58),(.int 55 0),(.int 0 0),(.ref 65),(.int 66 0),(.int 0 0),(.ref 72),(.int 78 0),(.int 0 0),(.ref 79),(.int 90 0),(.int 0 0),(.ref 96),(.int 94 0),(.int 0 0),(.ref 114)],#[]⟩
noncomputable def nC:Obj:=⟨(.type S0),none,.seq #[(.str s!"code" 509)] 0,#[]⟩
noncomputable def nD:Obj:=iz p 18 .none 0 .none .none s!"in_table_b1"
noncomputable def nE:Obj:=gQ (.type S1) s!"in_table_b1" 506 507 508 94 1 109 110 (.ref 111) (.ref 112) (.ref 113) 510 511
noncomputable def nF:Obj:=iz p 18 (.type S2) 3 (.str s!"cpy313.stringprep" 444) (.ref 114) s!"in_table_b1"
noncomputable def Zz:BT:=(Bn ah (Bn ah (Bn jd (Bl ah) (Bl (mU p))) (Bn ay (Bl mJ) (Bl nC))) (Bn hJ (Bn ah (Bl (kl p)) (Bl lm)) (Bn j7 (Bl cX) Bz)))
noncomputable def ZA:BT:=(Bn (gS P) (Bn gY (Bn ah (Bl ah) (Bl oQ)) (Bn j6 (Bl ed) (Bl (nF p)))) (Bn ig (Bn (jZ p) (Bl ay) (Bl ah)) (Bn (kc p) (Bl ah) Bz)))
noncomputable def ZB:BT:=(Bn lT (Bn gW (Bn ay (Bl kg) (Bl (mW p))) (Bn j4 (Bl mM) (Bl (nD p)))) (Bn hV (Bn jY (Bl (kq p)) (Bl (lr P))) (Bn (j9 p) (Bl mQ) Bz)))
noncomputable def ZC:BT:=(Bn (gT P) (Bn (gZ P) (Bn jW (Bl kj) (Bl ll)) (Bn ah (Bl mO) Bz)) (Bn I4 (Bn (j0 p) (Bl ah) (Bl ah)) (Bn ay (Bl mS) Bz)))
noncomputable def ZD:BT:=(Bn ay (Bn gV (Bn ah (Bl (kf p)) (Bl mV)) (Bn j3 (Bl (mK p)) (Bl ah))) (Bn hU (Bn ay (Bl km) (Bl lq)) (Bn j8 (Bl ed) Bz)))
noncomputable def ZE:BT:=(Bn gR (Bn gX (Bn jV (Bl (kh p)) (Bl oP)) (Bn (j5 p) (Bl cX) (Bl nE))) (Bn hZ (Bn ah (Bl ah) (Bl lu)) (Bn ka (Bl mR) Bz)))
noncomputable def ZF:BT:=(Bn gU (Bn g0 (Bn (jX p) (Bl ah) (Bl ah)) (Bn ay (Bl mP) Bz)) (Bn jc (Bn ah (Bl (mI p)) (Bl ay)) (Bn kd (Bl ah) Bz)))
noncomputable def xj(p:aas)(P:abA):BT:=(Bn (jQ P) (Bn (jR P) (Bn (RL P) (Zz p) (ZA p P)) (Bn jU (ZB p P) (ZC p P))) (Bn (jS P) (Bn jT (ZD p) (RK p P)) (Bn cX (ZE p) (ZF p))))
noncomputable def hdL3(p:aas):abI->ad7->Option (ahE×afP×ahO×Pos):=λw os=>ajx adW p w 28 (some (.ref 6)) 1 30 (ti (Zy p) 109 506 w os) (akp (iC p 17 18) (gC p) (wc p) ⟨93,0,93,6⟩ [topFrame ⟨0,0,0,0⟩])
noncomputable def ZG(p:aas):abI->ad7->Option (ahE×afP×ahO×Pos):=λw os=>some (.next,ti (xj p) 116 513 w os,wc p,⟨94,0,95,30⟩)
lay_quick Mine.hdL3
theorem Oh:hdL3 pw=ZG pw:=(congrFun PySem.W.Fast.te7933938711101779069 pw).trans (by kernel_rfl:PySem.W.Fast.tw7933938711101779069 pw=ZG pw)
noncomputable def d5(p:aas):Str×Pos×List (Option ado)×List ado×Pos×Pos:=match p.main.body[19]? with|some (PySem.Stmt.Assign [.Name id p0] (PySem.Expr.Dict ks vs q) p1)=>(id,p0,ks,vs,q,p1)|_=>default
noncomputable def GB(p:aas):List (Int×Str):=kvs (d5 p).2.2.1 (d5 p).2.2.2.1
noncomputable def cr(p:aas)(j:Nat):List (Int×Str):=((GB p).drop (17*j)).take 17
noncomputable def je(p:aas):List (List (Int×Str)):=[cr p 1,cr p 2,cr p 3,cr p 4,cr p 5,cr p 6,cr p 7,cr p 8,cr p 9,cr p 10,cr p 11,cr p 12,cr p 13,cr p 14,cr p 15,cr p 16,cr p 17,cr p 18,cr p 19,cr p 20,cr p 21,cr p 22,cr p 23,cr p 24,cr p 25,cr p 26,cr p 27,cr p 28,cr p 29,cr p 30,cr p 31,cr p 32,cr p 33,cr p 34,cr p 35,cr p 36,cr p 37]
noncomputable def ef(p:aas):List (Int×Str):=(GB p).drop 646
noncomputable def jg:List afd:=cM 513 (cr pw 0::je pw)++d9 (cq 513 (cr pw 0::je pw)) (ef pw)
noncomputable def b3K(p:aas)(d:aa9):Sem ahE:=do let sw <-ahS [.Name (d5 p).1 (d5 p).2.1] (.Dict (d5 p).2.2.1 (d5 p).2.2.2.1 (d5 p).2.2.2.2.1) (gC p);assignStores (gC p) (.ref d) sw ((assignEach [.Name (d5 p).1 (d5 p).2.1] (gC p)).map (·.2))
noncomputable def rL:Obj:=aj (cM 513 (cr p 0::je p)++d9 (cq 513 (cr p 0::je p)) (ef p))
noncomputable def rM:Obj:=aj (aK 564 (cr p 1))
noncomputable def rN:Obj:=aj (aK 615 (cr p 2))
noncomputable def rO:Obj:=aj (aK 666 (cr p 3))
noncomputable def rP:Obj:=aj (aK 717 (cr p 4))
noncomputable def rQ:Obj:=aj (aK 768 (cr p 5))
noncomputable def rS:Obj:=aj (aK 819 (cr p 6))
noncomputable def rT:Obj:=aj (aK 870 (cr p 7))
noncomputable def rU:Obj:=aj (aK 921 (cr p 8))
noncomputable def rV:Obj:=aj (aK 972 (cr p 9))
noncomputable def rW:Obj:=aj (aK 1023 (cr p 10))
noncomputable def rX:Obj:=aj (aK 1074 (cr p 11))
noncomputable def rY:Obj:=aj (aK 1125 (cr p 12))
noncomputable def rZ:Obj:=aj (aK 1176 (cr p 13))
noncomputable def se:Obj:=aj (aK 1227 (cr p 14))
noncomputable def sf:Obj:=aj (aK 1278 (cr p 15))
noncomputable def sg:Obj:=aj (aK 1329 (cr p 16))
noncomputable def si:Obj:=aj (aK 1380 (cr p 17))
noncomputable def sj:Obj:=aj (aK 1431 (cr p 18))
noncomputable def sk:Obj:=aj (aK 1482 (cr p 19))
noncomputable def sn:Obj:=aj (aK 1533 (cr p 20))
noncomputable def so:Obj:=aj (aK 1584 (cr p 21))
noncomputable def sq:Obj:=aj (aK 1635 (cr p 22))
noncomputable def sr:Obj:=aj (aK 1686 (cr p 23))
noncomputable def ss:Obj:=aj (aK 1737 (cr p 24))
noncomputable def su:Obj:=aj (aK 1788 (cr p 25))
noncomputable def sv:Obj:=aj (aK 1839 (cr p 26))
noncomputable def sy:Obj:=aj (aK 1890 (cr p 27))
noncomputable def sz:Obj:=aj (aK 1941 (cr p 28))
noncomputable def sA:Obj:=aj (aK 1992 (cr p 29))
noncomputable def sB:Obj:=aj (aK 2043 (cr p 30))
noncomputable def sC:Obj:=aj (aK 2094 (cr p 31))
noncomputable def sD:Obj:=aj (aK 2145 (cr p 32))
noncomputable def sE:Obj:=aj (aK 2196 (cr p 33))
noncomputable def sF:Obj:=aj (aK 2247 (cr p 34))
noncomputable def sG:Obj:=aj (aK 2298 (cr p 35))
noncomputable def sH:Obj:=aj (aK 2349 (cr p 36))
noncomputable def sI:Obj:=aj (aK 2400 (cr p 37))
noncomputable def sJ:Obj:=aj (d9 (cq 513 (cr p 0::je p)) (ef p))
noncomputable def RM:BT:=(Bn ah (Bn ah (Bn jd (Bn ah (Bl (rX p)) Bz) (Bl (mU p))) (Bn ay (Bn mJ (Bl (sy p)) Bz) (Bl nC))) (Bn hJ (Bn ah (Bn (kl p) (Bl (sk p)) Bz) (Bl lm)) (Bn j7 (Bn cX (Bl (sG p)) Bz) (Bl (rO p)))))
noncomputable def RN:BT:=(Bn (gS P) (Bn gY (Bn ah (Bn ah (Bl (sf p)) Bz) (Bl oQ)) (Bn j6 (Bn ed (Bl (sC p)) Bz) (Bl (nF p)))) (Bn ig (Bn (jZ p) (Bn ay (Bl (sr p)) Bz) (Bl ah)) (Bn (kc p) (Bl ah) (Bl (rT p)))))
noncomputable def RO:BT:=(Bn lT (Bn gW (Bn ay (Bn kg (Bl (rZ p)) Bz) (Bl (mW p))) (Bn j4 (Bn mM (Bl (sA p)) Bz) (Bl (nD p)))) (Bn hV (Bn jY (Bn (kq p) (Bl (so p)) Bz) (Bl (lr P))) (Bn (j9 p) (Bn mQ (Bl (sI p)) Bz) (Bl (rQ p)))))
noncomputable def RP:BT:=(Bn (gT P) (Bn (gZ P) (Bn jW (Bn kj (Bl (si p)) Bz) (Bl ll)) (Bn ah (Bn mO (Bl (sE p)) Bz) (Bl (rM p)))) (Bn I4 (Bn (j0 p) (Bn ah (Bl (su p)) Bz) (Bl ah)) (Bn ay (Bl mS) (Bl (rV p)))))
noncomputable def RQ:BT:=(Bn ay (Bn gV (Bn ah (Bn (kf p) (Bl (rY p)) Bz) (Bl mV)) (Bn j3 (Bn (mK p) (Bl (sz p)) Bz) (Bl ah))) (Bn hU (Bn ay (Bn km (Bl (sn p)) Bz) (Bl lq)) (Bn j8 (Bn ed (Bl (sH p)) Bz) (Bl (rP p)))))
noncomputable def RR:BT:=(Bn ja (Bn (jb P) (Bn (mF p) (Bn ay (Bl (sg p)) Bz) (Bl ny)) (Bn (mH p) (Bn oO (Bl (sD p)) Bz) (Bl (rL p)))) (Bn ah (Bn mG (Bn oN (Bl (ss p)) Bz) (Bl nB)) (Bn ah (Bl ay) (Bl (rU p)))))
noncomputable def RU:BT:=(Bn gR (Bn gX (Bn jV (Bn (kh p) (Bl (se p)) Bz) (Bl oP)) (Bn (j5 p) (Bn cX (Bl (sB p)) Bz) (Bl nE))) (Bn hZ (Bn ah (Bn ah (Bl (sq p)) Bz) (Bl lu)) (Bn ka (Bn mR (Bl (sJ p)) Bz) (Bl (rS p)))))
noncomputable def RV:BT:=(Bn gU (Bn g0 (Bn (jX p) (Bn ah (Bl (sj p)) Bz) (Bl ah)) (Bn ay (Bn mP (Bl (sF p)) Bz) (Bl (rN p)))) (Bn jc (Bn ah (Bn (mI p) (Bl (sv p)) Bz) (Bl ay)) (Bn kd (Bl ah) (Bl (rW p)))))
noncomputable def I5(p:aas)(P:abA):BT:=(Bn (jQ P) (Bn (jR P) (Bn (RL P) (RM p) (RN p P)) (Bn jU (RO p P) (RP p P))) (Bn (jS P) (Bn jT (RQ p) (RR p P)) (Bn cX (RU p) (RV p))))
noncomputable def ZH:Obj:=⟨(.type S3),none,.dict (aF P s!"__name__" 165 (.str s!"cpy313.stringprep" 444)::(zF P).take 24).toArray 25,#[]⟩
noncomputable def UK(p:aas)(P:abA):BT:=(Bn (jQ P) (Bn (jR P) (Bn (ZH P) (RM p) (RN p P)) (Bn jU (RO p P) (RP p P))) (Bn (jS P) (Bn jT (RQ p) (RR p P)) (Bn cX (RU p) (RV p))))
noncomputable def b3L(p:aas):abI->ad7->Option (ahE×afP×ahO×Pos):=λw os=>ajx adW p w 28 (some (.ref 6)) 1 8 (ti (I5 p) 155 2463 w os) ⟨(b3K p 116).wrap (λf=>.pure (.done (id f))) deadEnd id id,wc p,⟨96,16,96,8704⟩,[topFrame ⟨0,0,0,0⟩]⟩
noncomputable def b3R(p:aas):abI->ad7->Option (ahE×afP×ahO×Pos):=λw os=>some (.next,ti (UK p) 155 2464 w os,wc p,⟨96,0,96,13⟩)
lay_quick Mine.b3L
theorem UL:b3L pw=b3R pw:=(congrFun PySem.W.Fast.te6597696587889134858 pw).trans (by kernel_rfl:PySem.W.Fast.tw6597696587889134858 pw=b3R pw)
theorem ag8:iC pw 18 19=[.Assign [.Name (d5 pw).1 (d5 pw).2.1] (.Dict (d5 pw).2.2.1 (d5 pw).2.2.2.1 (d5 pw).2.2.2.2.1) (d5 pw).2.2.2.2.2]:=∅
theorem RW:(GB pw)=cr pw 0++(je pw).flatten++(ef pw):=∅
theorem ZI:(d5 pw).2.2.2.2.1=⟨96,16,96,8704⟩:=∅
theorem I6:td (d5 pw).2.2.1 (d5 pw).2.2.2.1=true:=∅
theorem Oi:(cr pw 0).length=17:=∅
theorem Oj:((je pw).all λl=>l.length==17)=true:=∅
theorem Eu:((ef pw).length==4)=true:=∅
theorem I7:lj ((GB pw).map (·.1))=true:=∅
theorem I8:((GB pw).all λx=>decide (0<=x.1)&&decide (x.1<2^60))=true:=∅
theorem Ol:(GB pw).length=650:=∅
theorem Om:cq 513 (cr pw 0::(je pw))+3*(ef pw).length=2463:=∅
theorem I9:13*(cr pw 0).length+2+(fZ (je pw)+(13*(ef pw).length+1+(6*(ef pw).length+5)))=12515:=∅
theorem Oo(P:abA):(xj pw P).list 116++(aj (cM 513 (cr pw 0::(je pw))++d9 (cq 513 (cr pw 0::(je pw))) (ef pw))::(gB (513+3*(cr pw 0).length) (je pw)++[aj (d9 (cq 513 (cr pw 0::(je pw))) (ef pw))]))=(I5 pw P).list 155:=∅
noncomputable def ZJ:Obj:=⟨(.type S3),none,.dict (aF P s!"__name__" 165 (.str s!"law_uc0040_02" 2472)::(zF P).take 31).toArray 32,#[]⟩
noncomputable def UM:Obj:=⟨.none,none,.fields #[(.int 4 0),(.int 0 0),(.ref 37),(.int 20 0),(.int 0 0),(.ref 44),(.int 30 0),(.int 0 0),(.ref 51),(.int 46 0),(.int 0 0),(.ref 58),(.int 55 0),(.int 0 0),(.ref 65),(.int 66 0),(.int 0 0),(.ref 72),(.int 78 0),(.int 0 0),(.ref 79),(.int 90 0),(.int 0 0),(.ref 96),(.int 94 0),(.int 0 0),(.ref 114),(.int 97 0),(.int 0 0),(.ref 160),(.int 103 0),(.int 0 0),(.ref 165),(.int 106 0),(.int 0 0),(.ref 172),(.int 109 0),(.int 0 0),(.ref 179),(.int 112 0),(.int 0 0),(.ref 186),(.int 115 0),(.int 0 0),(.ref 193),(.int 124 0),(.int 0 0),(.ref 198)],#[]⟩
noncomputable def xl:Obj:=⟨(.type S0),none,.seq #[(.str s!"code" 2467),(.str s!"r" 2468)] 0,#[]⟩
noncomputable def xm:Obj:=iz p 20 .none 0 .none .none s!"map_table_b3"
noncomputable def xn:Obj:=gQ (.type S1) s!"map_table_b3" 2464 2465 2466 97 1 155 156 (.ref 157) (.ref 158) (.ref 159) 2469 2470
noncomputable def xo:Obj:=iz p 20 (.type S2) 3 (.str s!"cpy313.stringprep" 444) (.ref 160) s!"map_table_b3"
noncomputable def xq:Obj:=iz p 22 .none 0 .none .none s!"_law_heaps"
noncomputable def xr:Obj:=gQ (.type S1) s!"_law_heaps" 2474 2475 2476 103 1 162 163 .none .none (.ref 164) 2477 2478
noncomputable def xt:Obj:=iz p 22 (.type S2) 3 (.str s!"law_uc0040_02" 2472) (.ref 165) s!"_law_heaps"
noncomputable def xu:Obj:=⟨(.type S0),none,.seq #[(.str s!"draw" 2483),(.str s!"codes" 2484)] 0,#[]⟩
noncomputable def xx:Obj:=iz p 23 .none 0 .none .none s!"_law_hidden"
noncomputable def xA:Obj:=gQ (.type S1) s!"_law_hidden" 2480 2481 2482 106 1 167 168 (.ref 169) (.ref 170) (.ref 171) 2485 2486
noncomputable def xB:Obj:=iz p 23 (.type S2) 3 (.str s!"law_uc0040_02" 2472) (.ref 172) s!"_law_hidden"
noncomputable def xC:Obj:=⟨(.type S0),none,.seq #[(.str s!"draw" 2491),(.str s!"codes" 2492)] 0,#[]⟩
noncomputable def xD:Obj:=iz p 24 .none 0 .none .none s!"_law_beside"
noncomputable def xE:Obj:=gQ (.type S1) s!"_law_beside" 2488 2489 2490 109 1 174 175 (.ref 176) (.ref 177) (.ref 178) 2493 2494
noncomputable def xF:Obj:=iz p 24 (.type S2) 3 (.str s!"law_uc0040_02" 2472) (.ref 179) s!"_law_beside"
noncomputable def xG:Obj:=⟨(.type S0),none,.seq #[(.str s!"letter" 2499),(.str s!"draw" 2500),(.str s!"starts" 2501)] 0,#[]⟩
noncomputable def xH:Obj:=iz p 25 .none 0 .none .none s!"_law_form"
noncomputable def xI:Obj:=gQ (.type S1) s!"_law_form" 2496 2497 2498 112 2 181 182 (.ref 183) (.ref 184) (.ref 185) 2502 2503
noncomputable def xJ:Obj:=iz p 25 (.type S2) 3 (.str s!"law_uc0040_02" 2472) (.ref 186) s!"_law_form"
noncomputable def xK:Obj:=⟨(.type S0),none,.seq #[(.str s!"text" 2508),(.str s!"kept" 2509),(.str s!"sign" 2510),(.str s!"held" 2511)] 0,#[]⟩
noncomputable def xL:Obj:=iz p 26 .none 0 .none .none s!"_law_prepared"
noncomputable def xM:Obj:=gQ (.type S1) s!"_law_prepared" 2505 2506 2507 115 1 188 189 (.ref 190) (.ref 191) (.ref 192) 2512 2513
noncomputable def xO:Obj:=iz p 26 (.type S2) 3 (.str s!"law_uc0040_02" 2472) (.ref 193) s!"_law_prepared"
noncomputable def xP:Obj:=iz p 27 .none 0 .none .none s!"_law_numbers"
noncomputable def xQ:Obj:=gQ (.type S1) s!"_law_numbers" 2515 2516 2517 124 1 195 196 .none .none (.ref 197) 2518 2519
noncomputable def xR:Obj:=iz p 27 (.type S2) 3 (.str s!"law_uc0040_02" 2472) (.ref 198) s!"_law_numbers"
noncomputable def ZK:BT:=(Bn ah (Bn ah (Bn jd (Bn ah (Bl (rX p)) (Bl ah)) (Bn (mU p) (Bl (xm p)) Bz)) (Bn ay (Bn mJ (Bl (sy p)) Bz) (Bn nC (Bl ay) Bz))) (Bn hJ (Bn ah (Bn (kl p) (Bl (sk p)) (Bl (xR p))) (Bn lm (Bl ah) Bz)) (Bn j7 (Bn cX (Bl (sG p)) Bz) (Bn (rO p) (Bl xG) Bz))))
noncomputable def ZL:BT:=(Bn (gS P) (Bn gY (Bn ah (Bn ah (Bl (sf p)) (Bl ah)) (Bn oQ (Bl ay) Bz)) (Bn j6 (Bn ed (Bl (sC p)) Bz) (Bn (nF p) (Bl xE) Bz))) (Bn ig (Bn (jZ p) (Bn ay (Bl (sr p)) Bz) (Bn ah (Bl (xx p)) Bz)) (Bn (kc p) (Bn ah (Bl ah) Bz) (Bn (rT p) (Bl (xJ p)) Bz))))
noncomputable def ZM:BT:=(Bn lT (Bn gW (Bn ay (Bn kg (Bl (rZ p)) (Bl xM)) (Bn (mW p) (Bl (xo p)) Bz)) (Bn j4 (Bn mM (Bl (sA p)) Bz) (Bn (nD p) (Bl ah) Bz))) (Bn hV (Bn jY (Bn (kq p) (Bl (so p)) Bz) (Bn (lr P) (Bl xu) Bz)) (Bn (j9 p) (Bn mQ (Bl (sI p)) Bz) (Bn (rQ p) (Bl (xH p)) Bz))))
noncomputable def ZN:BT:=(Bn (gT P) (Bn (gZ P) (Bn jW (Bn kj (Bl (si p)) (Bl (xP p))) (Bn ll (Bl xr) Bz)) (Bn ah (Bn mO (Bl (sE p)) Bz) (Bn (rM p) (Bl ah) Bz))) (Bn UM (Bn (j0 p) (Bn ah (Bl (su p)) Bz) (Bn ah (Bl (xB p)) Bz)) (Bn ay (Bn mS (Bl xl) Bz) (Bn (rV p) (Bl ay) Bz))))
noncomputable def ZO:BT:=(Bn ay (Bn gV (Bn ah (Bn (kf p) (Bl (rY p)) (Bl (xL p))) (Bn mV (Bl xn) Bz)) (Bn j3 (Bn (mK p) (Bl (sz p)) Bz) (Bn ah (Bl xC) Bz))) (Bn hU (Bn ay (Bn km (Bl (sn p)) Bz) (Bn lq (Bl ay) Bz)) (Bn j8 (Bn ed (Bl (sH p)) Bz) (Bn (rP p) (Bl ah) Bz))))
noncomputable def ZP:BT:=(Bn ja (Bn (jb P) (Bn (mF p) (Bn ay (Bl (sg p)) (Bl ay)) (Bn ny (Bl (xq p)) Bz)) (Bn (mH p) (Bn oO (Bl (sD p)) Bz) (Bn (rL p) (Bl (xF p)) Bz))) (Bn ah (Bn mG (Bn oN (Bl (ss p)) Bz) (Bn nB (Bl xA) Bz)) (Bn ah (Bn ay (Bl ay) Bz) (Bn (rU p) (Bl ah) Bz))))
noncomputable def ZQ:BT:=(Bn gR (Bn gX (Bn jV (Bn (kh p) (Bl (se p)) (Bl (xO p))) (Bn oP (Bl ah) Bz)) (Bn (j5 p) (Bn cX (Bl (sB p)) Bz) (Bn nE (Bl (xD p)) Bz))) (Bn hZ (Bn ah (Bn ah (Bl (sq p)) Bz) (Bn lu (Bl ah) Bz)) (Bn ka (Bn mR (Bl (sJ p)) Bz) (Bn (rS p) (Bl xI) Bz))))
noncomputable def ZR:BT:=(Bn gU (Bn g0 (Bn (jX p) (Bn ah (Bl (sj p)) (Bl xQ)) (Bn ah (Bl (xt p)) Bz)) (Bn ay (Bn mP (Bl (sF p)) Bz) (Bn (rN p) (Bl ay) Bz))) (Bn jc (Bn ah (Bn (mI p) (Bl (sv p)) Bz) (Bn ay (Bl ah) Bz)) (Bn kd (Bn ah (Bl ah) Bz) (Bn (rW p) (Bl xK) Bz))))
noncomputable def ZS(p:aas)(P:abA):BT:=(Bn (jQ P) (Bn (jR P) (Bn (ZJ P) (ZK p) (ZL p P)) (Bn jU (ZM p P) (ZN p P))) (Bn (jS P) (Bn jT (ZO p) (ZP p P)) (Bn cX (ZQ p) (ZR p))))
noncomputable def hdL5(p:aas):abI->ad7->Option (ahE×afP×ahO×Pos):=λw os=>ajx adW p w 28 (some (.ref 6)) 1 215 (ti (UK p) 155 2464 w os) (akp (iC p 19 27) (gC p) (wc p) ⟨96,0,96,13⟩ [topFrame ⟨0,0,0,0⟩])
noncomputable def ZT(p:aas):abI->ad7->Option (ahE×afP×ahO×Pos):=λw os=>some (.next,ti (ZS p) 200 2521 w os,wc p,⟨124,0,132,13⟩)
lay_quick Mine.hdL5
theorem Oq:hdL5 pw=ZT pw:=(congrFun PySem.W.Fast.te669886931732587561 pw).trans (by kernel_rfl:PySem.W.Fast.tw669886931732587561 pw=ZT pw)
noncomputable def RX:Obj:=⟨(.type S3),none,.dict (aF P s!"__name__" 165 (.str s!"law_uc0040_02" 2472)::(zF P).take 36).toArray 37,#[]⟩
noncomputable def Ja:Obj:=⟨.none,none,.fields #[(.int 4 0),(.int 0 0),(.ref 37),(.int 20 0),(.int 0 0),(.ref 44),(.int 30 0),(.int 0 0),(.ref 51),(.int 46 0),(.int 0 0),(.ref 58),(.int 55 0),(.int 0 0),(.ref 65),(.int 66 0),(.int 0 0),(.ref 72),(.int 78 0),(.int 0 0),(.ref 79),(.int 90 0),(.int 0 0),(.ref 96),(.int 94 0),(.int 0 0),(.ref 114),(.int 97 0),(.int 0 0),(.ref 160),(.int 103 0),(.int 0 0),(.ref 165),(.int 106 0),(.int 0 0),(.ref 172),(.int 109 0),(.int 0 0),(.ref 179),(.int 112 0),(.int 0 0),(.ref 186),(.int 115 0),(.int 0 0),(.ref 193),(.int 124 0),(.int 0 0),(.ref 198),(.int 133 0),(.int 0 0),(.ref 205),(.int 144 0),(.int 0 0),(.ref 212),(.int 153 0),(.int 0 0),(.ref 219),(.int 163 0),(.int 0 0),(.ref 224),(.int 172 0),(.int 0 0),(.ref 229)],#[]⟩
noncomputable def Ev:Obj:=⟨(.type S0),none,.seq #[(.str s!"size" 2524),(.str s!"more" 2525),(.str s!"offset" 2526),(.str s!"steps" 2527),(.str s!"lies" 2528),(.str s!"note" 2529)] 0,#[]⟩
noncomputable def Ew:Obj:=iz p 28 .none 0 .none .none s!"_law_steps"
noncomputable def Ex:Obj:=gQ (.type S1) s!"_law_steps" 2521 2522 2523 133 3 200 201 (.ref 202) (.ref 203) (.ref 204) 2530 2531
noncomputable def Ey:Obj:=iz p 28 (.type S2) 3 (.str s!"law_uc0040_02" 2472) (.ref 205) s!"_law_steps"
noncomputable def Ez:Obj:=⟨(.type S0),none,.seq #[(.str s!"steps" 2536),(.str s!"letters" 2537),(.str s!"first" 2538),(.str s!"draw" 2539),(.str s!"ends" 2540),(.str s!"text" 2541),(.str s!"place" 2542),(.str s!"note" 2543),(.str s!"name" 2544),(.str s!"hidden" 2545)] 0,#[]⟩
noncomputable def EA:Obj:=iz p 29 .none 0 .none .none s!"_law_mail"
noncomputable def EB:Obj:=gQ (.type S1) s!"_law_mail" 2533 2534 2535 144 5 207 208 (.ref 209) (.ref 210) (.ref 211) 2546 2547
noncomputable def EC:Obj:=iz p 29 (.type S2) 3 (.str s!"law_uc0040_02" 2472) (.ref 212) s!"_law_mail"
noncomputable def ED:Obj:=⟨(.type S0),none,.seq #[(.str s!"numbers" 2552),(.str s!"rows" 2553),(.str s!"dots" 2554),(.str s!"number" 2555)] 0,#[]⟩
noncomputable def EE:Obj:=iz p 30 .none 0 .none .none s!"_law_rows"
noncomputable def EF:Obj:=gQ (.type S1) s!"_law_rows" 2549 2550 2551 153 1 214 215 (.ref 216) (.ref 217) (.ref 218) 2556 2557
noncomputable def EG:Obj:=iz p 30 (.type S2) 3 (.str s!"law_uc0040_02" 2472) (.ref 219) s!"_law_rows"
noncomputable def EH:Obj:=iz p 31 .none 0 .none .none s!"_law_shapes"
noncomputable def EI:Obj:=gQ (.type S1) s!"_law_shapes" 2559 2560 2561 163 2 221 222 .none .none (.ref 223) 2562 2563
noncomputable def EJ:Obj:=iz p 31 (.type S2) 3 (.str s!"law_uc0040_02" 2472) (.ref 224) s!"_law_shapes"
noncomputable def EK:Obj:=iz p 32 .none 0 .none .none s!"law"
noncomputable def EL:Obj:=gQ (.type S1) s!"law" 2565 2566 2567 172 1 226 227 .none .none (.ref 228) 2568 2569
noncomputable def EP:Obj:=iz p 32 (.type S2) 3 (.str s!"law_uc0040_02" 2472) (.ref 229) s!"law"
noncomputable def ZU:BT:=(Bn ah (Bn ah (Bn jd (Bn ah (Bl (rX p)) (Bl ah)) (Bn (mU p) (Bl (xm p)) (Bl (EH p)))) (Bn ay (Bn mJ (Bl (sy p)) (Bl ah)) (Bn nC (Bl ay) Bz))) (Bn hJ (Bn ah (Bn (kl p) (Bl (sk p)) (Bl (xR p))) (Bn lm (Bl ah) Bz)) (Bn j7 (Bn cX (Bl (sG p)) (Bl ay)) (Bn (rO p) (Bl xG) Bz))))
noncomputable def ZV:BT:=(Bn (gS P) (Bn gY (Bn ah (Bn ah (Bl (sf p)) (Bl ah)) (Bn oQ (Bl ay) (Bl ay))) (Bn j6 (Bn ed (Bl (sC p)) (Bl (EA p))) (Bn (nF p) (Bl xE) Bz))) (Bn ig (Bn (jZ p) (Bn ay (Bl (sr p)) (Bl ah)) (Bn ah (Bl (xx p)) Bz)) (Bn (kc p) (Bn ah (Bl ah) (Bl EF)) (Bn (rT p) (Bl (xJ p)) Bz))))
noncomputable def ZW:BT:=(Bn lT (Bn gW (Bn ay (Bn kg (Bl (rZ p)) (Bl xM)) (Bn (mW p) (Bl (xo p)) (Bl (EJ p)))) (Bn j4 (Bn mM (Bl (sA p)) (Bl Ez)) (Bn (nD p) (Bl ah) Bz))) (Bn hV (Bn jY (Bn (kq p) (Bl (so p)) (Bl ay)) (Bn (lr P) (Bl xu) Bz)) (Bn (j9 p) (Bn mQ (Bl (sI p)) (Bl ah)) (Bn (rQ p) (Bl (xH p)) Bz))))
noncomputable def ZX:BT:=(Bn (gT P) (Bn (gZ P) (Bn jW (Bn kj (Bl (si p)) (Bl (xP p))) (Bn ll (Bl xr) (Bl EL))) (Bn ah (Bn mO (Bl (sE p)) (Bl (EC p))) (Bn (rM p) (Bl ah) Bz))) (Bn Ja (Bn (j0 p) (Bn ah (Bl (su p)) (Bl Ex)) (Bn ah (Bl (xB p)) Bz)) (Bn ay (Bn mS (Bl xl) (Bl ah)) (Bn (rV p) (Bl ay) Bz))))
noncomputable def ZY:BT:=(Bn ay (Bn gV (Bn ah (Bn (kf p) (Bl (rY p)) (Bl (xL p))) (Bn mV (Bl xn) (Bl EI))) (Bn j3 (Bn (mK p) (Bl (sz p)) (Bl ay)) (Bn ah (Bl xC) Bz))) (Bn hU (Bn ay (Bn km (Bl (sn p)) (Bl ah)) (Bn lq (Bl ay) Bz)) (Bn j8 (Bn ed (Bl (sH p)) (Bl ED)) (Bn (rP p) (Bl ah) Bz))))
noncomputable def ZZ:BT:=(Bn ja (Bn (jb P) (Bn (mF p) (Bn ay (Bl (sg p)) (Bl ay)) (Bn ny (Bl (xq p)) (Bl (EK p)))) (Bn (mH p) (Bn oO (Bl (sD p)) (Bl EB)) (Bn (rL p) (Bl (xF p)) Bz))) (Bn ah (Bn mG (Bn oN (Bl (ss p)) (Bl (Ew p))) (Bn nB (Bl xA) Bz)) (Bn ah (Bn ay (Bl ay) (Bl (EG p))) (Bn (rU p) (Bl ah) Bz))))
noncomputable def Z0:BT:=(Bn gR (Bn gX (Bn jV (Bn (kh p) (Bl (se p)) (Bl (xO p))) (Bn oP (Bl ah) (Bl ah))) (Bn (j5 p) (Bn cX (Bl (sB p)) (Bl ah)) (Bn nE (Bl (xD p)) Bz))) (Bn hZ (Bn ah (Bn ah (Bl (sq p)) (Bl Ev)) (Bn lu (Bl ah) Bz)) (Bn ka (Bn mR (Bl (sJ p)) (Bl (EE p))) (Bn (rS p) (Bl xI) Bz))))
noncomputable def Z1:BT:=(Bn gU (Bn g0 (Bn (jX p) (Bn ah (Bl (sj p)) (Bl xQ)) (Bn ah (Bl (xt p)) (Bl (EP p)))) (Bn ay (Bn mP (Bl (sF p)) (Bl ah)) (Bn (rN p) (Bl ay) Bz))) (Bn jc (Bn ah (Bn (mI p) (Bl (sv p)) (Bl (Ey p))) (Bn ay (Bl ah) Bz)) (Bn kd (Bn ah (Bl ah) (Bl ay)) (Bn (rW p) (Bl xK) Bz))))
noncomputable def Z2(p:aas)(P:abA):BT:=(Bn (jQ P) (Bn (jR P) (Bn (RX P) (ZU p) (ZV p P)) (Bn jU (ZW p P) (ZX p P))) (Bn (jS P) (Bn jT (ZY p) (ZZ p P)) (Bn cX (Z0 p) (Z1 p))))
noncomputable def hdL6(p:aas):abI->ad7->Option (ahE×afP×ahO×Pos):=λw os=>ajx adW p w 28 (some (.ref 6)) 1 157 (ti (ZS p) 200 2521 w os) (akp (iC p 27 32) (gC p) (wc p) ⟨124,0,132,13⟩ [topFrame ⟨0,0,0,0⟩])
noncomputable def Z3(p:aas):abI->ad7->Option (ahE×afP×ahO×Pos):=λw os=>some (.next,ti (Z2 p) 231 2571 w os,wc p,⟨172,0,225,71⟩)
lay_quick Mine.hdL6
theorem Ot:hdL6 pw=Z3 pw:=(congrFun PySem.W.Fast.te5913526896782546904 pw).trans (by kernel_rfl:PySem.W.Fast.tw5913526896782546904 pw=Z3 pw)
noncomputable def UN(p:aas)(P:abA):List Obj:=[(jQ P),(jR P),(jS P),(RX P),jT,jU,cX,ah,ay,lT,gR,(gS P),ja,(gT P),gU,ah]
noncomputable def UO(p:aas)(P:abA):List Obj:=[gV,gW,gX,gY,(jb P),(gZ P),g0,hJ,hU,hV,hZ,ig,ah,Ja,jc,jd]
noncomputable def UP(p:aas)(P:abA):List Obj:=[ah,ay,jV,ah,(mF p),jW,(jX p),ah,ay,jY,ah,(jZ p),mG,(j0 p),ah,ay]
noncomputable def UQ(p:aas)(P:abA):List Obj:=[j3,j4,(j5 p),j6,(mH p),ah,ay,j7,j8,(j9 p),ka,(kc p),ah,ay,kd,ah]
noncomputable def UR(p:aas)(P:abA):List Obj:=[(kf p),kg,(kh p),ah,ay,kj,ah,(kl p),km,(kq p),ah,ay,oN,ah,(mI p),mJ]
noncomputable def UT(p:aas)(P:abA):List Obj:=[(mK p),mM,cX,ed,oO,mO,mP,cX,ed,mQ,mR,ah,ay,mS,ah,(mU p)]
noncomputable def UU(p:aas)(P:abA):List Obj:=[mV,(mW p),oP,oQ,ny,ll,ah,lm,lq,(lr P),lu,ah,nB,ah,ay,nC]
noncomputable def UV(p:aas)(P:abA):List Obj:=[ah,(nD p),nE,(nF p),(rL p),(rM p),(rN p),(rO p),(rP p),(rQ p),(rS p),(rT p),(rU p),(rV p),(rW p),(rX p)]
noncomputable def UW(p:aas)(P:abA):List Obj:=[(rY p),(rZ p),(se p),(sf p),(sg p),(si p),(sj p),(sk p),(sn p),(so p),(sq p),(sr p),(ss p),(su p),(sv p),(sy p)]
noncomputable def UX(p:aas)(P:abA):List Obj:=[(sz p),(sA p),(sB p),(sC p),(sD p),(sE p),(sF p),(sG p),(sH p),(sI p),(sJ p),ah,ay,xl,ah,(xm p)]
noncomputable def Ou(p:aas)(P:abA):List Obj:=[xn,(xo p),ah,ay,(xq p),xr,(xt p),ah,ay,xu,ah,(xx p),xA,(xB p),ah,ay]
noncomputable def Ov(p:aas)(P:abA):List Obj:=[xC,ah,(xD p),xE,(xF p),ah,ay,xG,ah,(xH p),xI,(xJ p),ah,ay,xK,ah]
noncomputable def Ow(p:aas)(P:abA):List Obj:=[(xL p),xM,(xO p),ah,ay,(xP p),xQ,(xR p),ah,ay,Ev,ah,(Ew p),Ex,(Ey p),ah]
noncomputable def Ox(p:aas)(P:abA):List Obj:=[ay,Ez,ah,(EA p),EB,(EC p),ah,ay,ED,ah,(EE p),EF,(EG p),ah,ay,(EH p)]
noncomputable def Oy(p:aas)(P:abA):List Obj:=[EI,(EJ p),ah,ay,(EK p),EL,(EP p)]
noncomputable def jh(p:aas)(P:abA):adF:=⟨(UN p P++(UO p P++(UP p P++(UQ p P++(UR p P++(UT p P++(UU p P++(UV p P++(UW p P++(UX p P++(Ou p P++(Ov p P++(Ow p P++(Ox p P++(Oy p P))))))))))))))).toArray,{}⟩
noncomputable def hdFiL(p:aas):abI->ad7->Option aaD:=λw os=>ahM adW p w 28 (some (.ref 6)) 2 (ti (Z2 p) 231 2571 w os).abs (restOf [] (gC p) (wc p) ⟨172,0,225,71⟩ [topFrame ⟨0,0,0,0⟩])
noncomputable def RY(p:aas):abI->ad7->Option aaD:=λw os=>some ⟨jh p w.params,#[],{},2571,os⟩
lay_quick Mine.hdFiL
theorem Jb:hdFiL pw=RY pw:=(congrFun PySem.W.Fast.te14426539614878162929 pw).trans (by kernel_rfl:PySem.W.Fast.tw14426539614878162929 pw=RY pw)
end
end Mine
end
section
open PySem PySem.W PyProof.Rows PySem.W.Fast
namespace Mine
open Internal
noncomputable def hdQ(p:aas):aas:={p with main:={p.main with body:=[p.main.body[0]?.getD (.Pass default),p.main.body[32]?.getD (.Pass default)]}}
noncomputable def sK(p:aas):List Str:=p.boundNames.filter λn=>!(n==("_sre":Str)||n==("law":Str)||n==("__name__":Str))
noncomputable def UY:aaD->Bool:=λV=>true
noncomputable def hdLkL1(p:aas):abI->ad7->Bool:=λw os=>(staticsOk (importedModules p.main.body) (xi p w.params) (jh p w.params)&&namesBound p (jh p w.params)&&gensDone ⟨jh p w.params,#[],{},2571,os⟩&&laidKept (xi p w.params) (jh p w.params))
noncomputable def hdLkL2(p:aas):=λ(w:abI) (os:ad7)=>openSeen (hdQ p) (sK p) (importedModules p.main.body) UY true ⟨jh p w.params,#[],{},2571,os⟩
noncomputable def hdLkR2(p:aas):=λ(w:abI) (os:ad7)=>openGood (hdQ p) (sK p)
noncomputable def hdSzL(p:aas):abI->Bool×Nat×Option aaq:=λw=>((xi p w.params).isNs mainGlobals&&(#[]:Array ajj).size==0,(xi p w.params).objs.size,(xi p w.params).nsMap mainGlobals "__annotations__")
lay_quick Mine.hdLkL1 Mine.hdLkL2 Mine.hdLkR2 Mine.hdSzL
theorem Z4:hdLkL1 pw=λV V=>true:=(congrFun te15258310316370999005 pw).trans (by kernel_rfl:tw15258310316370999005 pw=λV V=>true)
theorem Z5:hdLkL2 pw=hdLkR2 pw:=(congrFun te1880592743380314440 pw).trans ((by kernel_rfl:tw1880592743380314440 pw=tw6138327748618986502 pw).trans (congrFun te6138327748618986502 pw).symm)
theorem aex:hdSzL pw=λV=>(true,28,some (.ref 6)):=(congrFun te5913555218272399293 pw).trans (by kernel_rfl:tw5913555218272399293 pw=λV=>(true,28,some (.ref 6)))
theorem kr{L R:abI->ad7->Option (ahE×afP×ahO×Pos)}(e:L=R){n:Nat}{S S':abI->ad7->afP}{t:Thread}{c:ahO}{pos:Pos}{f:ahE}
(hL:L=λw os=>ajx adW pw w 28 (some (.ref 6)) 1 n (S w os) t)(hR:R=λw os=>some (f,S' w os,c,pos))(w:abI)(os:ad7):
 segRun adW pw w 28 (some (.ref 6)) 1 n (S w os).abs t=some (f,(S' w os).abs,c,pos):=by
 subst hL hR
 exact segRun_of (congrFun (congrFun e w) os)
theorem Oz(w:abI):zG pw w=zH pw w:=
 byRow2 "special-get-raises" (P:=λw=>zG pw w=zH pw w)
  (λw=>byRow2 "set-order" (P:=λw=>zG pw (w.withFollow "special-get-raises" false)=zH pw (w.withFollow "special-get-raises" false))
   (λw=>congrFun Gx w) (λw=>congrFun Gz w) w)
  (λw=>byRow2 "set-order" (P:=λw=>zG pw (w.withFollow "special-get-raises" true)=zH pw (w.withFollow "special-get-raises" true))
   (λw=>congrFun Gy w) (λw=>congrFun GA w) w) w
theorem Z6(w:abI)(os:ad7):RT pw w 28 (some (.ref 6)) (wc pw) ⟨0,0,0,0⟩ id id (1+(1+12515+8)) (exec (.Assign [.Name (d5 pw).1 (d5 pw).2.1] (.Dict (d5 pw).2.2.1 (d5 pw).2.2.2.1 (d5 pw).2.2.2.2.1) (d5 pw).2.2.2.2.2) (gC pw)) (ti (xj pw) 116 513 w os).abs ⟨94,0,95,30⟩ .next (ti (UK pw) 155 2464 w os).abs ⟨96,0,96,13⟩:=by
 erw[Gs]
 refine RT.bind RT.Ep (RT.bind (a:=.ref 116) (dx:=(ti (I5 pw) 155 2463 w os).abs) (p₁:=⟨96,16,96,8704⟩) (RT.bind RT.Ep ?_) ?_)
 .erw[IV _ _ I6,ZI]
  have e:=RW
  skip
  erw[e]
  have hc:=pT I7
  have hr:=I8
  have hz:=Ol
  rw[RW]at hc hr hz
  have cL:(((xj pw) w.params).list 116).toArray.size=116:=by simp[BT.list]
  have h:=RT.display (p:=pw) (w:=w) (ld:=28) (ann:=some (.ref 6)) (bd:=ajh pw) (env:=(gC pw)) (q:=⟨0,0,0,0⟩) (gd:=id) (lv:=id) (pv:=⟨96,16,96,8704⟩) (objs:=(((xj pw) w.params).list 116).toArray) (life:={}) (gens:=#[]) (drawn:={}) (os:=os) (t:=513) ((cr pw 0)) (je pw) (ef pw)
   (by erw[cL];rfl) (by erw[cL];decide) Oi (λl hl=>by simpa using aaG.mp Oj l hl) (by have:=Eu;simp at this;exact %[a<=15,a=4|aG this]) (by intro e;have:=Eu;rw[e]at this;cases this)
   (λx hx=>by simpa using aaG.mp hr x hx) hc (by erw[hz];decide)
  rw[cL]at h
  have hs0:(ti (xj pw) 116 513 w os).abs=⟨HP (((xj pw) w.params).list 116).toArray {} [],#[],{},513,os⟩:=
   congrArg (λa=>alW (ahw a {}) #[] {} 513 os) (Array.append_empty (xs:=(((xj pw) w.params).list 116).toArray)).symm
  have hs1:(alW (HP (((xj pw) w.params).list 116).toArray {} (aj (cM 513 ((cr pw 0)::(je pw))++d9 (cq 513 ((cr pw 0)::(je pw))) (ef pw))::(gB (513+3*((cr pw 0)).length) (je pw)++[aj (d9 (cq 513 ((cr pw 0)::(je pw))) (ef pw))]))) #[] {} (cq 513 ((cr pw 0)::(je pw))+3*(ef pw).length) os)=(ti (I5 pw) 155 2463 w os).abs:=by
   erw[Om]
   refine congrArg (λa=>alW (ahw a {}) #[] {} 2463 os) ?_
   show _=(((I5 pw) w.params).list 155).toArray
   erw[<-Oo w.params]
   exact List.append_toArray ..
  erw[hs0,<-hs1]
  exact h.cast I9 rfl
 .exact RT.Ux (res:=id) (λV h=>h) (kr UL rfl rfl w os)
theorem OA:ajh pw=iC pw 0 8++(iC pw 8 16++(iC pw 16 17++(iC pw 17 18++((.Assign [.Name (d5 pw).1 (d5 pw).2.1] (.Dict (d5 pw).2.2.1 (d5 pw).2.2.2.1 (d5 pw).2.2.2.2.1) (d5 pw).2.2.2.2.2)::(iC pw 19 27++(iC pw 27 32++[])))))):=∅
theorem UZ(w:abI)(os:ad7):ahM adW pw w 28 (some (.ref 6)) (12+(1+(229+(241+(999+(30+((1+(1+12515+8))+(215+(157+2))))))))) ⟨xi pw w.params,#[],{},276,os⟩ (topStub pw)=some ⟨jh pw w.params,#[],{},2571,os⟩:=by
 refine go_top (congrFun (congrFun Gw w) os) ?_
 refine piece_block (kr IX rfl rfl w os) ?_
 erw[OA]
 refine ajL (kr Oe rfl rfl w os) ?_
 refine ajL (kr Og rfl rfl w os) ?_
 refine ajL (kr (funext Oz) rfl rfl w os) ?_
 refine ajL (kr Oh rfl rfl w os) ?_
 refine RT.Y1 (Z6 w os) ?_
 refine ajL (kr Oq rfl rfl w os) ?_
 refine ajL (kr Ot rfl rfl w os) ?_
 exact congrFun (congrFun Jb w) os
theorem OB:LeftO pw (hdQ pw) (sK pw) UY (λs=>s.heap) (λw=>jh pw w.params) 20000:=
 LeftO.of_pieces (H₀:=xi pw) (H₁:=jh pw) (gs₀:=#[]) (gs₁:=#[]) (d₀:={}) (d₁:={}) (k₀:=276) (k₁:=2571) (m₀:=28) (ann:=some (.ref 6))
  (λw=>congrFun IW w) (λw=>congrFun aex w) UZ rfl
  (λw=>funext λos=>by
   have a:=congrFun (congrFun Z4 w) os
   have b:=congrFun (congrFun Z5 w) os
   unfold hdLkL1 at a
   unfold hdLkL2 hdLkR2 at b
   rw[a,b])
end Mine
end
section
open PySem PyProof.Rows
namespace Mine.Internal
section
set_option genCtorIdx true in
inductive AV where
 |none|bool (b:Bool)|int (i:Int)|str (s:Str)|obj (v:aaq)
 |tup (xs:List AV)|lst (xs:List AV)|bor (xs:List AV)|own (k:Nat)
structure Gh where
 z:aa9->Option Obj
 ρ:List aa9
noncomputable def Gh.le(g g':Gh):Prop:=(∀a o,g.z a=some o->g'.z a=some o)/\∀(k:Nat) (a:aa9),g.ρ[k]?=some a->g'.ρ[k]?=some a
theorem Gh.le.refl(g:Gh):g.le g:=⟨λV V h=>h,λV V h=>h⟩
theorem Gh.le.trans{g g' g'':Gh}(x:g.le g')(y:g'.le g''):g.le g'':=⟨λa o h=>y.1 a o (x.1 a o h),λk a h=>y.2 k a (x.2 k a h)⟩
mutual
inductive RelV (n:Nat) (g:Gh):AV->aaq->Prop
 |none:RelV n g .none .none
 |bool (b:Bool):RelV n g (.bool b) (.bool b)
 |int (i:Int) (t:Tok):RelV n g (.int i) (.int i t)
 |str (s:Str) (t:Tok):RelV n g (.str s) (.str s t)
 |obj (v:aaq):RelV n g (.obj v) v
 |tup {xs:List AV} {vs:List aaq} {a:aa9} {o:Obj} {e:Nat}:n<=a->g.z a=some o->o.cls=.type "tuple"->o.data=.seq vs.toArray e->ak n g xs vs->RelV n g (.tup xs) (.ref a)
 |lst {xs:List AV} {vs:List aaq} {a:aa9} {o:Obj} {e:Nat}:n<=a->g.z a=some o->o.cls=.type "list"->o.data=.seq vs.toArray e->ak n g xs vs->RelV n g (.lst xs) (.ref a)
 |bor {xs:List AV} {vs:List aaq} {a:aa9} {o:Obj} {e:Nat}:g.z a=some o->o.cls=.type "list"->o.data=.seq vs.toArray e->ak n g xs vs->RelV n g (.bor xs) (.ref a)
 |own {k:Nat} {a:aa9}:g.ρ[k]?=some a->RelV n g (.own k) (.ref a)
inductive ak (n:Nat) (g:Gh):List AV->List aaq->Prop
 |nil:ak n g [] []
 |cons {x:AV} {xs:List AV} {v:aaq} {vs:List aaq}:RelV n g x v->ak n g xs vs->ak n g (x::xs) (v::vs)
end
theorem aq{α:Type}{P:Prop}{a:α}(h:(none:Option α)=some a):P:=by cases h
theorem fT{P:Prop}(h:false=true):P:=by cases h
theorem ax{α β:Type}{G:Prop}{o:Option α}{f:α->Option β}{b:β}(h:o.bind f=some b)(k:∀a,o=some a->f a=some b->G):G:=by
 cases o with
 |none=>exact aq h
 |some a=>exact k a rfl h
theorem bC{α β:Type}{G:Prop}{o:Option α}{f:α->β}{b:β}(h:o.map f=some b)(k:∀a,o=some a->f a=b->G):G:=by
 cases o with
 |none=>exact aq h
 |some a=>exact k a rfl (aac h)
theorem dS{α:Type}{G:Prop}{c:Prop} [Decidable c]{a:Option α}{r:α}(h:(if c then a else none)=some r)(k:c->a=some r->G):G:=by
 by_cases q:c
 .rw[if_pos q]at h;exact k q h
 .rw[if_neg q]at h;exact aq h
theorem Z7{α:Type}{G:Prop}{c:Prop} [Decidable c]{a:Option α}{r:α}(h:(if c then none else a)=some r)(k:¬c->a=some r->G):G:=by
 by_cases q:c
 .rw[if_pos q]at h;exact aq h
 .rw[if_neg q]at h;exact k q h
theorem CA{α:Type}{G:Prop}{c:Prop} [Decidable c]{a b:α}{r:α}(h:(if c then a else b)=r)(k:c->a=r->G)(m:¬c->b=r->G):G:=by
 by_cases q:c
 .rw[if_pos q]at h;exact k q h
 .rw[if_neg q]at h;exact m q h
noncomputable def aez(n:Nat)(g:Gh)(G:aaq->Prop):AV->Prop
 |.none=>G .none
 |.bool b=>G (.bool b)
 |.int i=>∀t,G (.int i t)
 |.str s=>∀t,G (.str s t)
 |.obj v=>G v
 |.tup xs=>∀vs a o e,n<=a->g.z a=some o->o.cls=.type "tuple"->o.data=.seq vs.toArray e->ak n g xs vs->G (.ref a)
 |.lst xs=>∀vs a o e,n<=a->g.z a=some o->o.cls=.type "list"->o.data=.seq vs.toArray e->ak n g xs vs->G (.ref a)
 |.bor xs=>∀vs a o e,g.z a=some o->o.cls=.type "list"->o.data=.seq vs.toArray e->ak n g xs vs->G (.ref a)
 |.own k=>∀a,g.ρ[k]?=some a->G (.ref a)
section
variable{n:Nat}{g:Gh}{G:aaq->Prop}{x:AV}{v:aaq}
theorem RelV.inv(h:RelV n g x v):aez n g G x->G v:=by
 cases h with
 |none=>exact id
 |bool _=>exact id
 |int _ t=>exact λk=>k t
 |str _ t=>exact λk=>k t
 |obj _=>exact id
 |tup a b c d e=>exact λk=>k _ _ _ _ a b c d e
 |lst a b c d e=>exact λk=>k _ _ _ _ a b c d e
 |bor b c d e=>exact λk=>k _ _ _ _ b c d e
 |own a=>exact λk=>k _ a
theorem RelV.pU(h:RelV n g .none v)(k:G .none):G v:=h.inv k
theorem RelV.lU(h:RelV n g (.bool b) v)(k:G (.bool b)):G v:=h.inv k
theorem RelV.bV(h:RelV n g (.int i) v)(k:∀t,G (.int i t)):G v:=h.inv k
theorem RelV.fq(h:RelV n g (.str s) v)(k:∀t,G (.str s t)):G v:=h.inv k
theorem RelV.nG(h:RelV n g (.obj u) v)(k:G u):G v:=h.inv k
theorem RelV.aeA(h:RelV n g (.own j) v)(k:∀a,g.ρ[j]?=some a->G (.ref a)):G v:=h.inv k
noncomputable def Z8(n:Nat)(g:Gh)(G:List aaq->Prop):List AV->Prop
 |[]=>G []
 |x::xs=>∀v us,RelV n g x v->ak n g xs us->G (v::us)
theorem ak.inv{G:List aaq->Prop}{xs:List AV}{vs:List aaq}(h:ak n g xs vs):Z8 n g G xs->G vs:=by
 cases h with
 |nil=>exact id
 |cons a b=>exact λk=>k _ _ a b
theorem ak.oR{G:List aaq->Prop}{vs:List aaq}(h:ak n g [] vs)(k:G []):G vs:=h.inv k
theorem ak.gD{G:List aaq->Prop}{xs:List AV}{vs:List aaq}(h:ak n g (x::xs) vs)(k:∀v us,RelV n g x v->ak n g xs us->G (v::us)):G vs:=h.inv k
theorem ak.ind{P:List AV->List aaq->Prop}(a:P [] [])(b:∀x v xs vs,RelV n g x v->ak n g xs vs->P xs vs->P (x::xs) (v::vs)):∀{xs:List AV} {vs:List aaq},ak n g xs vs->P xs vs:=by
 intro xs
 induction xs with
 |nil=>intro vs h;exact h.oR a
 |cons x xs ih=>intro vs h;exact h.gD λv us h1 h2=>b _ _ _ _ h1 h2 (ih h2)
theorem RelV.mono(hg:g.le g')(h:RelV n g x v):RelV n g' x v:=
 RelV.rec (motive_1:=λx v V=>RelV n g' x v) (motive_2:=λx v V=>ak n g' x v) .none .bool .int .str .obj
  (λa b c d V e=>.tup a (hg.1 _ _ b) c d e) (λa b c d V e=>.lst a (hg.1 _ _ b) c d e) (λb c d V e=>.bor (hg.1 _ _ b) c d e) (λa=>.own (hg.2 _ _ a)) .nil (λV V a b=>.cons a b) h
variable{xs ys:List AV}{vs us:List aaq}
theorem ak.mono{g':Gh}(hg:g.le g')(h:ak n g xs vs):ak n g' xs vs:=
 ak.ind (P:=ak n g') .nil (λV V V V a V b=>.cons (a.mono hg) b) h
theorem ak.length(h:ak n g xs vs):xs.length=vs.length:=
 ak.ind (P:=λxs vs=>xs.length=vs.length) rfl (λV V V V V V e=>congrArg (· +1) e) h
theorem ak.get(h:ak n g xs vs){i:Nat}{x:AV}(hi:xs[i]?=some x):∃v,vs[i]?=some v/\RelV n g x v:=
 ak.ind (P:=λxs vs=>∀i x,xs[i]?=some x->∃v,vs[i]?=some v/\RelV n g x v) (λV V h=>aq h)
  (λV V V V a V k i x hi=>by
   cases i with
   |zero=>obtain rfl:=aac hi;exact ⟨_,rfl,a⟩
   |succ i=>exact k i x hi) h i x hi
theorem ak.append(h:ak n g xs vs)(q:ak n g ys us):ak n g (xs++ys) (vs++us):=
 ak.ind (P:=λxs vs=>ak n g (xs++ys) (vs++us)) q (λV V V V a V b=>.cons a b) h
theorem ak.set(hx:RelV n g x v){i:Nat}(h:ak n g xs vs):ak n g (xs.set i x) (vs.set i v):=
 ak.ind (P:=λxs vs=>∀i,ak n g (xs.set i x) (vs.set i v)) (λV=>.nil)
  (λV V V V a r k i=>by
   cases i with
   |zero=>exact .cons hx r
   |succ i=>exact .cons a (k i)) h i
theorem ak.reverse(h:ak n g xs vs):ak n g xs.reverse vs.reverse:=
 ak.ind (P:=λxs vs=>ak n g xs.reverse vs.reverse) .nil (λV V V V a V k=>by (erw[ahW,ahW]);exact k.append (.cons a .nil)) h
end
structure CB where
 P:aa9
 item:aa9->Array aaq
 qual:Str
 ne:∀c,item c≠#[]
 inj:∀c c',item c=item c'->c=c'
theorem Jc(a b:Int)(c:aa9):(#[rawInt a,rawInt b,.ref c]:Array aaq)≠#[]:=λq=>by
 injection q with q
 cases q
theorem EQ(a b:Int)(c c':aa9)(q:(#[rawInt a,rawInt b,.ref c]:Array aaq)=#[rawInt a,rawInt b,.ref c']):c=c':=by
 injection q with q
 injection q with _ q
 injection q with _ q
 injection q with q
 injection q
noncomputable def aX:List CB:=[⟨47,λc=>#[rawInt 33,rawInt 4,.ref c],"_int2digits.<locals>.inner",Jc 33 4,EQ 33 4⟩,⟨54,λc=>#[rawInt 48,rawInt 4,.ref c],"_digits2int.<locals>.inner",Jc 48 4,EQ 48 4⟩]
theorem oS:∀t∈aX,∀t'∈aX,t'.P=t.P->t'=t:=by
 intro t ht t' zI e
 simp only[aX,abk,adH,or_false]at ht zI
 rcases ht with rfl|rfl <;> rcases zI with rfl|rfl <;> first|rfl|(exact absurd e ⋯)
structure OC where
 fr:List aa9
 tb:List CB
noncomputable abbrev ji(ps:Array aaq):Obj:={cls:=.none,data:=.fields ps}
noncomputable def aeB(F:OC)(B:aa9->Prop)(h':adF)(a:aa9)(o:Obj):Prop:=o=ji #[]/\a∉F.fr/\∃t∈F.tb,t.P=a/\∃c,B c/\h'.get? a=some (ji (t.item c))/\h'.CodeRec (.ref c) t.qual
noncomputable def Ok(F:OC)(B:aa9->Prop)(h':adF)(a:aa9)(o:Obj):Prop:=(∃sl,h'.get? a=some {o with slots:=sl}/\(a∉F.fr->sl=o.slots))\/aeB F B h' a o
noncomputable def aeC(h:adF)(c:aa9):Prop:=∀b o,h.get? b=some o->b<c
noncomputable def aW(F:OC)(h h':adF):Prop:=∀a o,h.get? a=some o->Ok F (aeC h) h' a o
noncomputable def KS(h h':adF):Prop:=∀a o,h.get? a=some o->h'.get? a=some o
theorem OD(h:o=ji #[]):o.data=.fields #[]:=by subst h;rfl
section
variable{F:OC}{h h' xS:adF}{a:aa9}{o:Obj}
theorem aW.of(k:KS h h'):aW F h h':=λa o e=>.inl ⟨o.slots,k a o e,λV=>rfl⟩
theorem aW.refl(h:adF):aW F h h:=aW.of λV V e=>e
theorem aW.dat(k:aW F h h')(e:h.get? a=some o)(cW:o.data≠.fields #[]):∃sl,h'.get? a=some {o with slots:=sl}/\(a∉F.fr->sl=o.slots):=by
 rcases k a o e with x|x
 .exact x
 .exact absurd (OD x.1) cW
theorem aW.data(k:aW F h h')(e:h.get? a=some o)(cW:o.data≠.fields #[]):∃o',h'.get? a=some o'/\o'.data=o.data/\o'.cls=o.cls/\o'.dict=o.dict:=by
 refine bz (k.dat e cW) λsl h1 _=>?_
 exact ⟨_,h1,rfl,rfl,rfl⟩
theorem aW.get(k:aW F h h')(e:h.get? a=some o)(n:a∉F.fr)(nt:∀t∈F.tb,t.P≠a):h'.get? a=some o:=by
 rcases k a o e with ⟨sl,h1,h2⟩ | ⟨_,_,t,ht,hP,_⟩
 .rw[h2 n]at h1;exact h1
 .exact absurd hP (nt t ht)
theorem aW.there(k:aW F h h')(e:h.get? a=some o):∃o',h'.get? a=some o':=by
 rcases k a o e with ⟨sl,h1,h2⟩ | ⟨_,_,t,ht,hP,c,_,h1,_⟩ <;> exact ⟨_,h1⟩
theorem aW.sL(k:aW F h h')(x:h.CodeRec (.ref c) q):h'.CodeRec (.ref c) q:=by
 obtain ⟨c',oc,vs,t,e,hg,hd,hv⟩:=x
 refine Yp (k.data hg (λq=>by rw[hd]at q;injection q with q;subst q;simp at hv)) λo' h1 h2 _=>?_
 exact ⟨c',o',vs,t,e,h1,h2.trans hd,hv⟩
theorem aW.trans(x:aW F h h')(y:aW F h' xS):aW F h xS:=λa o e=>by
 rcases x a o e with ⟨s1,e1,n1⟩ | ⟨ho,hn,t,ht,hP,c,hc,hg,hr⟩
 .rcases y a _ e1 with ⟨s2,e2,n2⟩ | ⟨ho,hn,t,ht,hP,c,hc,hg,hr⟩
  .exact .inl ⟨s2,e2,λn=>(n2 n).trans (n1 n)⟩
  .rw[n1 hn]at ho
   exact .inr ⟨ho,hn,t,ht,hP,c,λb ob eb=>by obtain ⟨o',h1⟩:=x.there eb;exact hc b o' h1,hg,hr⟩
 .refine .inr ⟨ho,hn,t,ht,hP,c,hc,?_,y.sL hr⟩
  obtain ⟨sl,h1,h2⟩:=y.dat hg (λq=>by injection q with q;exact t.ne c q)
  rw[h2 hn]at h1;exact h1
theorem aW.ns(k:aW F h h')(x:h.Ns a m):h'.Ns a m:=by
 obtain ⟨o,es,ep,ho,hd,r⟩:=x
 refine Yp (k.data ho (by erw[hd];intro q;cases q)) λo' h1 h2 _=>?_
 exact ⟨o',es,ep,h1,h2.trans hd,r⟩
theorem aW.cell(k:aW F h h')(x:h.IsCell a v):h'.IsCell a v:=by
 obtain ⟨o,ho,hd⟩:=x
 refine Yp (k.data ho (by erw[hd];intro q;cases q)) λo' h1 h2 _=>?_
 exact ⟨o',h1,h2.trans hd⟩
theorem aW.plain{items:Array aaq}(k:aW F h h')(x:h.PlainList a items)(n:a∉F.fr):h'.PlainList a items:=by
 obtain ⟨m,e⟩:=x
 obtain ⟨sl,h1,h2⟩:=k.dat e (by intro q;cases q)
 rw[h2 n]at h1
 exact ⟨m,h1⟩
theorem aW.fw{wr:List aa9}(k:aW F h h')(hk:∀b o,b∉wr->h'.get? b=some o->xS.get? b=some o)(ne:∀a o,h.get? a=some o->a∉wr)(nc:∀c∈wr,∀t∈F.tb,h'.get? t.P≠some (ji (t.item c))):aW F h xS:=λa o e=>by
 rcases k a o e with ⟨sl,h1,h2⟩ | ⟨ho,hn,t,ht,hP,c,hc,hg,hr⟩
 .exact .inl ⟨sl,hk a _ (ne a o e) h1,h2⟩
 .refine .inr ⟨ho,hn,t,ht,hP,c,hc,hk a _ (ne a o e) hg,?_⟩
  have:c∉wr:=λhm=>nc c hm t ht (hP▸hg)
  obtain ⟨c',oc,vs,tt,q,Uu,hd,hv⟩:=hr
  cases q
  exact ⟨c,oc,vs,tt,rfl,hk c _ this Uu,hd,hv⟩
theorem aW.tj{C:aa9}(k:aW F h h')(hk:aem C h' xS)(ne:∀a o,h.get? a=some o->a≠C)(nc:∀t∈F.tb,h'.get? t.P≠some (ji (t.item C))):aW F h xS:=
 k.fw (wr:=[C]) (λb o hb e=>hk.extBut b o (by simpa using hb) e) (λa o e=>by simpa using ne a o e) λc hc=>by simp at hc;subst hc;exact nc
theorem cj(h:adF)(o:Obj):aW F h (h.push o):=aW.of λV V e=>abo _ e
theorem aW.live(k:aW F h h')(e:h.get? a=some o):a<h'.objs.size:=by
 (refine bU (k.there e) λo' h1=>?_);exact abZ h1
end
noncomputable def dT(l:List Env):List aa9:=l.filterMap (·.frame)
theorem FunFrames.step{h h' base:adF}{l:List Env}(k:∀b∈dT l,∀o,h.get? b=some o->(∀vs,o.data≠.fields vs)->∃o',h'.get? b=some o'/\∀vs,o'.data≠.fields vs)(hl:h.FunFrames base l):h'.FunFrames base l:=by
 induction l with
 |nil=>trivial
 |cons env rest ih=>
  obtain ⟨hk,⟨L,o,hf,hn,ho,hd⟩,hr⟩:=hl
  have hm:L∈dT (env::rest):=by simp[dT,hf]
  refine bz (k L hm o ho hd) λo' oE hd'=>?_
  refine ⟨hk,⟨L,o',hf,hn,oE,hd'⟩,ih (λb hb=>k b ?_) hr⟩
  unfold dT at hb ⊢
  (rw[ahD];erw[hf])
  exact ad8 _ hb
theorem FunFrames.keep{F:OC}{h h' base:adF}{l:List Env}(k:aW F h h')(hl:h.FunFrames base l):h'.FunFrames base l:=
 FunFrames.step (λb V o e hd=>by (refine Yp (k.data e (hd _)) λo' h1 h2 _=>?_);exact ⟨o',h1,λvs=>h2▸hd vs⟩) hl
theorem FunFrames.sub{h base RZ:adF}{l:List Env}(k:KS base RZ)(hl:h.FunFrames RZ l):h.FunFrames base l:=by
 induction l with
 |nil=>trivial
 |cons env rest ih=>
  obtain ⟨hk,⟨L,o,hf,hn,ho,hd⟩,hr⟩:=hl
  refine ⟨hk,⟨L,o,hf,?_,ho,hd⟩,ih hr⟩
  cases e:base.get? L with
  |none=>rfl
  |some o'=>have:=k _ _ e;rw[hn]at this;cases this
theorem FunFrames.live{h base:adF}{l:List Env}(hl:h.FunFrames base l){b:aa9}(hb:b∈dT l):b<h.objs.size:=by
 refine N4 (afX hl hb) λ_ o ho _=>?_
 exact abZ ho
set_option genCtorIdx true in
inductive Loc where
 |ns (a:aa9) (x:Str)
 |cell (c:aa9)
structure Lay where
 base:adF
 n:Nat
 dH:List aa9
 lay:List Loc
 hold:List (aa9×Obj)
 fr:List Env
noncomputable abbrev Lay.tb(_:Lay):List CB:=aX
noncomputable abbrev Lay.lo(Y:Lay):OC:=⟨dT Y.fr,aX⟩
noncomputable def Lay.cells(Y:Lay):List aa9:=Y.lay.filterMap λl=>match l with|.cell c=>some c|_=>none
noncomputable def Lay.bu(Y:Lay)(g:Gh):List aa9:=Y.dH++(Y.cells++(Y.hold.map (·.1)++g.ρ))
structure bj where
 vars:List (Option AV)
 own:List (List AV)
inductive fL (n:Nat) (g:Gh):Option AV->Option aaq->Prop
 |none:fL n g none none
 |some {x:AV} {v:aaq}:RelV n g x v->fL n g (some x) (some v)
theorem fL.mono(hg:g.le g'):fL n g x v->fL n g' x v
 |.none=>.none
 |.some h=>.some (h.mono hg)
noncomputable def TabAt(tb:List CB)(z:aa9->Option Obj)(h:adF)(P:aa9):Prop:=
 h.get? P=some (ji #[])\/∃t∈tb,t.P=P/\∃c oc vs tt,h.get? P=some (ji (t.item c))/\z c=some oc/\oc.data=.fields vs/\vs[1]?=some (.str t.qual tt)
theorem TabAt.of(x:TabAt tb z h P)(hz:∀a o,z a=some o->z' a=some o)(hP:∀o,h.get? P=some o->h'.get? P=some o):TabAt tb z' h' P:=by
 rcases x with x | ⟨t,ht,hp,c,oc,vs,tt,h1,h2,h3⟩
 .exact .inl (hP _ x)
 .exact .inr ⟨t,ht,hp,c,oc,vs,tt,hP _ h1,hz _ _ h2,h3⟩
theorem TabAt.there(x:TabAt tb z h P):∃ps,h.get? P=some (ji ps):=by
 rcases x with x | ⟨t,ht,hp,c,oc,vs,tt,h1,h2,h3⟩ <;> exact ⟨_,‹_›⟩
structure Rel (Y:Lay) (g:Gh) (σ:bj) (h:adF):Prop where
 eQ:∀a o,g.z a=some o->h.get? a=some o
 base:∀a o,Y.base.get? a=some o->g.z a=some o
 nodup:(Y.bu g).Nodup
 de:Y.lay.Nodup
 off:∀a∈Y.bu g,g.z a=none
 low:∀a,(a∈Y.dH\/a∈Y.cells\/a∈g.ρ)->Y.n<=a
 cZ:∀(i:Nat) (a:aa9) (x:Str),Y.lay[i]?=some (Loc.ns a x)->a∈Y.dH
 len:σ.vars.length=Y.lay.length
 eS:σ.own.length=g.ρ.length
 ns:∀a∈Y.dH,∃f,h.Ns a f/\∀(i:Nat) (x:Str),Y.lay[i]?=some (Loc.ns a x)->fL Y.n g (σ.vars[i]?.getD none) (f x)
 cell:∀(i:Nat) (c:aa9),Y.lay[i]?=some (Loc.cell c)->∃ov,h.IsCell c ov/\fL Y.n g (σ.vars[i]?.getD none) ov
 own:∀(k:Nat) (a:aa9),g.ρ[k]?=some a->∃vs:List aaq,h.PlainList a vs.toArray/\ak Y.n g (σ.own[k]?.getD []) vs
 held:∀p∈Y.hold,h.get? p.1=some p.2
 frames:h.FunFrames Y.base Y.fr
 mX:∀L∈dT Y.fr,L∉Y.hold.map (·.1)
 mY:∀L∈dT Y.fr,g.z L=none/\L∉g.ρ
 d6:∀t∈Y.tb,g.z t.P=none/\t.P∉Y.bu g/\t.P∉dT Y.fr
 tabs:∀t∈Y.tb,TabAt Y.tb g.z h t.P
variable{Y:Lay}{g:Gh}{σ:bj}{h h':adF}
theorem aw:a∈Y.bu g↔a∈Y.dH\/a∈Y.cells\/a∈Y.hold.map (·.1)\/a∈g.ρ:=by simp[Lay.bu]
theorem Rel.OG(R:Rel Y g σ h)(e:g.z a=some o):a∉dT Y.fr:=λhm=>by rw[(R.mY a hm).1]at e;cases e
theorem Rel.oU(R:Rel Y g σ h){k:Nat}{a:aa9}(e:g.ρ[k]?=some a):a∉dT Y.fr:=λhm=>(R.mY a hm).2 (ade e)
theorem Rel.sM(R:Rel Y g σ h)(e:p∈Y.hold):p.1∉dT Y.fr:=λhm=>R.mX _ hm (adB e)
theorem Rel.U0(R:Rel Y g σ h)(e:g.z a=some o):∀t∈Y.tb,t.P≠a:=λt ht q=>by have:=(R.d6 t ht).1;rw[q,e]at this;cases this
theorem Rel.tl(R:Rel Y g σ h)(e:a∈Y.bu g):∀t∈Y.tb,t.P≠a:=λt ht q=>(R.d6 t ht).2.1 (q▸e)
theorem Rel.Z9(R:Rel Y g σ h)(k:aW Y.lo h h')(hT:∀t∈Y.tb,TabAt Y.tb g.z h' t.P):Rel Y g σ h' where
 eQ a o e:=k.get (R.eQ a o e) (R.OG e) (R.U0 e)
 base:=R.base
 nodup:=R.nodup
 de:=R.de
 off:=R.off
 low:=R.low
 cZ:=R.cZ
 len:=R.len
 eS:=R.eS
 ns a ha:=(by obtain ⟨f,h1,h2⟩:=R.ns a ha;exact ⟨f,k.ns h1,h2⟩)
 cell i c hc:=(by obtain ⟨ov,h1,h2⟩:=R.cell i c hc;exact ⟨ov,k.cell h1,h2⟩)
 own j a ha:=(by obtain ⟨vs,h1,h3⟩:=R.own j a ha;exact ⟨vs,k.plain h1 (R.oU ha),h3⟩)
 held p hp:=k.get (R.held p hp) (R.sM hp) (R.tl (aw.mpr (.inr (.inr (.inl (adB hp))))))
 frames:=FunFrames.keep k R.frames
 mX:=R.mX
 mY:=R.mY
 d6:=R.d6
 tabs:=hT
theorem Rel.keep(R:Rel Y g σ h)(k:KS h h'):Rel Y g σ h':=R.Z9 (aW.of k) λt ht=>(R.tabs t ht).of (λV V e=>e) λo e=>k _ o e
theorem Rel.sO(R:Rel Y g σ h)(hz:g.z c=none):∀t∈aX,h.get? t.P≠some (ji (t.item c)):=λt ht e=>by
 rcases R.tabs t ht with x | ⟨t',zI,hp,c',oc,vs,tt,h1,h2,h3⟩
 .rw[e]at x
  injection x with x
  injection x with _ _ x
  injection x with x
  exact t.ne c x
 .have:=oS t ht t' zI hp
  subst this
  rw[e]at h1
  injection h1 with h1
  injection h1 with _ _ h1
  injection h1 with h1
  have:=t'.inj _ _ h1
  subst this
  rw[hz]at h2;cases h2
noncomputable def Gh.add(g:Gh)(p:aa9->Option Obj):Gh:=⟨λa=>(g.z a).or (p a),g.ρ⟩
theorem Gh.dj(g:Gh)(p:aa9->Option Obj):g.le (g.add p):=⟨λa o e=>by simp[Gh.add,e],λV V e=>e⟩
theorem Rel.grow(R:Rel Y g σ h)(hp:∀a o,p a=some o->h.get? a=some o)(U1:∀a∈Y.bu g,p a=none)(aeE:∀L∈dT Y.fr,p L=none)(aeF:∀t∈Y.tb,p t.P=none):Rel Y (g.add p) σ h where
 eQ a o e:=by
  simp only[Gh.add,ahY]at e
  rcases e with e | ⟨_,e⟩
  .exact R.eQ a o e
  .exact hp a o e
 base a o e:=(Gh.dj g p).1 a o (R.base a o e)
 nodup:=R.nodup
 de:=R.de
 off a ha:=by simp[Gh.add,R.off a ha,U1 a ha]
 low:=R.low
 cZ:=R.cZ
 len:=R.len
 eS:=R.eS
 ns a ha:=(by obtain ⟨f,h1,h2⟩:=R.ns a ha;exact ⟨f,h1,λi x hx=>(h2 i x hx).mono (Gh.dj g p)⟩)
 cell i c hc:=(by obtain ⟨ov,h1,h2⟩:=R.cell i c hc;exact ⟨ov,h1,h2.mono (Gh.dj g p)⟩)
 own j a ha:=(by obtain ⟨vs,h1,h3⟩:=R.own j a ha;exact ⟨vs,h1,h3.mono (Gh.dj g p)⟩)
 held:=R.held
 frames:=R.frames
 mX:=R.mX
 mY L hL:=⟨by simp[Gh.add,(R.mY L hL).1,aeE L hL],(R.mY L hL).2⟩
 d6 t ht:=⟨by simp[Gh.add,(R.d6 t ht).1,aeF t ht],(R.d6 t ht).2⟩
 tabs t ht:=(R.tabs t ht).of (Gh.dj g p).1 λV e=>e
theorem Rel.live(R:Rel Y g σ h):∀a∈Y.bu g,a<h.objs.size:=by
 intro a ha
 simp only[Lay.bu,abQ]at ha
 rcases ha with ha|ha|ha|ha
 . (refine bz (R.ns a ha) λf h1 _=>?_);exact h1.lt
 .refine bz (aiw.mp ha) λl hl hc=>?_
  cases l with
  |ns _ _=>cases hc
  |cell c=>
   cases hc
   refine bU (age hl) λi hi=>?_
   (refine bz (R.cell i a hi) λov h1 _=>?_);exact h1.lt
 . (refine bz (ac2.mp ha) λp hp cc=>?_;obtain rfl:=cc)
   exact abZ (R.held p hp)
 .refine bU (age ha) λk hk=>?_
  obtain ⟨vs,⟨_,h1⟩,_⟩:=R.own k a hk;exact abZ h1
noncomputable def vv(a:aa9)(o:Obj):aa9->Option Obj:=λb=>if b=a then some o else none
theorem Rel.alloc(R:Rel Y g σ h)(ho:o.isFreed=false):Rel Y (g.add (vv h.objs.size o)) σ (h.push o):=by
 refine (R.keep λa o' e=>abo _ e).grow (λa o' e=>?_) (λa ha=>?_) (λa ha=>?_) λt ht=>?_
 .unfold vv at e
  split at e
  .rename_i q;subst q;cases e;exact ac0 _ ho
  .cases e
 .unfold vv
  rw[if_neg (ac4 (R.live a ha))]
 .unfold vv
  rw[if_neg (ac4 (FunFrames.live R.frames ha))]
 .unfold vv
  obtain ⟨ps,hp⟩:=(R.tabs t ht).there
  rw[if_neg (ac4 (abZ hp))]
theorem ER(hn:g.z h.objs.size=none)(o:Obj):(g.add (vv h.objs.size o)).z h.objs.size=some o:=by
 simp[Gh.add,vv,hn]
theorem Rel.fresh(R:Rel Y g σ h):g.z h.objs.size=none:=by
 cases e:g.z h.objs.size with
 |none=>rfl
 |some o=>exact absurd (abZ (R.eQ _ _ e)) (adP _)
theorem bR{i:Nat}{c:aa9}(hc:Y.lay[i]?=some (Loc.cell c)):c∈Y.cells:=aiw.mpr ⟨_,ade hc,rfl⟩
theorem Rel.zJ(R:Rel Y g σ h):(Y.dH.Nodup/\Y.cells.Nodup/\(Y.hold.map (·.1)).Nodup/\g.ρ.Nodup)/\(∀a∈Y.dH,(∀b∈Y.cells,a≠b)/\(∀b∈Y.hold.map (·.1),a≠b)/\∀b∈g.ρ,a≠b)/\
 (∀a∈Y.cells,(∀b∈Y.hold.map (·.1),a≠b)/\∀b∈g.ρ,a≠b)/\∀a∈Y.hold.map (·.1),∀b∈g.ρ,a≠b:=by
 have:=R.nodup
 simp only[Lay.bu,adX,abQ]at this
 obtain ⟨h1,⟨h2,⟨h3,h4,h5⟩,h6⟩,h7⟩:=this
 exact ⟨⟨h1,h2,h3,h4⟩,λa ha=>⟨λb hb=>h7 a ha b (.inl hb),λb hb=>h7 a ha b (.inr (.inl hb)),λb hb=>h7 a ha b (.inr (.inr hb))⟩,
  λa ha=>⟨λb hb=>h6 a ha b (.inl hb),λb hb=>h6 a ha b (.inr hb)⟩,h5⟩
theorem Rel.tm(R:Rel Y g σ h)(ha:a∈Y.dH)(hc:c∈Y.cells):a≠c:=(R.zJ.2.1 a ha).1 c hc
theorem Rel.oV(R:Rel Y g σ h)(ha:a∈Y.dH)(hc:c∈g.ρ):a≠c:=(R.zJ.2.1 a ha).2.2 c hc
theorem Rel.kt(R:Rel Y g σ h)(ha:a∈Y.cells)(hc:c∈g.ρ):a≠c:=(R.zJ.2.2.1 a ha).2 c hc
theorem Rel.tq(R:Rel Y g σ h)(ha:a∈Y.dH\/a∈Y.cells\/a∈g.ρ)(hs:aem a h h'):∀p∈Y.hold,h'.get? p.1=some p.2:=λp hp=>by
 have hm:p.1∈Y.hold.map (·.1):=adB hp
 have cW:p.1≠a:=by
  rcases ha with ha|ha|ha
  .exact ((R.zJ.2.1 a ha).2.1 _ hm).symm
  .exact ((R.zJ.2.2.1 a ha).1 _ hm).symm
  .exact R.zJ.2.2.2 _ hm a ha
 exact (hs.2 _ cW).trans (R.held p hp)
theorem Rel.Jd(R:Rel Y g σ h)(ha:a∈Y.bu g)(hs:aem a h h'):∀b o,g.z b=some o->h'.get? b=some o:=λb o e=>by
 have cW:b≠a:=by rintro rfl;rw[R.off b ha]at e;cases e
 exact (hs.2 b cW).trans (R.eQ b o e)
theorem Rel.xT(R:Rel Y g σ h){a:aa9}(hs:aem a h h')(ha:∀o,h'.get? a=some o->∀vs,o.data≠.fields vs)(hl:∀o,h.get? a=some o->∃o',h'.get? a=some o'):h'.FunFrames Y.base Y.fr:=
 FunFrames.step (λb V o e hd=>by
  by_cases q:b=a
  .subst q
   obtain ⟨o',oE⟩:=hl o e
   exact ⟨o',oE,ha o' oE⟩
  .exact ⟨o,(hs.2 b q).trans e,hd⟩) R.frames
theorem lV{α:Type}{l:List (Option α)}{i:Nat}{x:Option α}(hi:i<l.length):(l.set i x)[i]?.getD none=x:=by
 erw[aiW hi];rfl
theorem fy{α:Type}{l:List (Option α)}{i j:Nat}{x:Option α}(hi:i≠j):(l.set i x)[j]?.getD none=l[j]?.getD none:=by
 erw[ajp hi,rfl]
theorem Rel.EW(R:Rel Y g σ h){i:Nat}{a:aa9}{x:Str}{av:AV}{v:aaq}(hl:Y.lay[i]?=some (Loc.ns a x))(hv:RelV Y.n g av v){f:Str->Option aaq}(hf:h.Ns a f)
(hn:h'.Ns a λy=>if y=x then some v else f y)(hs:aem a h h'):Rel Y g {σ with vars:=σ.vars.set i (some av)} h':=by
 have ha:=R.cZ _ _ _ hl
 have bA:i<σ.vars.length:=by erw[R.len];exact (abb.mp hl).1
 have Je:a∈Y.bu g:=by simp[Lay.bu,ha]
 obtain ⟨U2,aha,ahb,nH,Jf,_⟩:=id hn
 refine ⟨R.Jd Je hs,R.base,R.nodup,R.de,R.off,R.low,R.cZ,by simpa using R.len,R.eS,λb hb=>?_,λj c hc=>?_,λk b hk=>?_,R.tq (.inl ha) hs,R.xT hs (λo e vs q=>by rw[nH]at e;cases e;rw[Jf]at q;cases q) (λV V=>⟨_,nH⟩),R.mX,R.mY,R.d6,λt ht=>(R.tabs t ht).of (λV V e=>e) λo e=>(hs.2 _ (R.tl Je t ht)).trans e⟩
 .by_cases OH:b=a
  .subst OH
   refine ⟨_,hn,λj y hy=>?_⟩
   by_cases hyx:y=x
   .subst hyx
    have CC:i=j:=(aiE (abb.mp hl).1 R.de).mp (hl.trans hy.symm)
    subst CC
    erw[lV bA,if_pos rfl]
    exact .some hv
   .have CC:i≠j:=by rintro rfl;rw[hl]at hy;cases hy;exact hyx rfl
    erw[fy CC,if_neg hyx]
    refine bz (R.ns b hb) λf' h1 h2=>?_
    have:f' y=f y:=by
     obtain ⟨o,es,ep,e1,e2,e3,e4⟩:=h1
     obtain ⟨o',es',ep',U3,e2',e3',e4'⟩:=hf
     rw[e1]at U3;cases U3
     rw[e2]at e2';cases e2'
     erw[<-e4 y,<-e4' y,rfl]
    erw[<-this];exact h2 j y hy
  .refine bz (R.ns b hb) λf' h1 h2=>?_
   refine ⟨f',h1.sameBut hs OH,λj y hy=>?_⟩
   have CC:i≠j:=by rintro rfl;rw[hl]at hy;cases hy;exact OH rfl
   erw[fy CC];exact h2 j y hy
 .refine bz (R.cell j c hc) λov h1 h2=>?_
  have CC:i≠j:=by rintro rfl;rw[hl]at hc;cases hc
  exact ⟨ov,h1.sameBut hs (R.tm ha (bR hc)).symm,by erw[fy CC];exact h2⟩
 .refine bz (R.own k b hk) λvs h1 h3=>?_
  exact ⟨vs,h1.extBut hs.extBut (R.oV ha (ade hk)).symm,h3⟩
theorem Rel.setCell(R:Rel Y g σ h){i:Nat}{c:aa9}{av:AV}{v:aaq}(hl:Y.lay[i]?=some (Loc.cell c))(hv:RelV Y.n g av v)
(hn:h'.IsCell c (some v))(hs:aem c h h'):Rel Y g {σ with vars:=σ.vars.set i (some av)} h':=by
 have hc:=bR hl
 have bA:i<σ.vars.length:=by erw[R.len];exact (abb.mp hl).1
 have Je:c∈Y.bu g:=by simp[Lay.bu,hc]
 obtain ⟨U2,nH,Jf⟩:=id hn
 refine ⟨R.Jd Je hs,R.base,R.nodup,R.de,R.off,R.low,R.cZ,by simpa using R.len,R.eS,λb hb=>?_,λj c' zy=>?_,λk b hk=>?_,R.tq (.inr (.inl hc)) hs,R.xT hs (λo e vs q=>by rw[nH]at e;cases e;rw[Jf]at q;cases q) (λV V=>⟨_,nH⟩),R.mX,R.mY,R.d6,λt ht=>(R.tabs t ht).of (λV V e=>e) λo e=>(hs.2 _ (R.tl Je t ht)).trans e⟩
 .refine bz (R.ns b hb) λf' h1 h2=>?_
  refine ⟨f',h1.sameBut hs (R.tm hb hc),λj y hy=>?_⟩
  have CC:i≠j:=by rintro rfl;rw[hl]at hy;cases hy
  erw[fy CC];exact h2 j y hy
 .by_cases CC:i=j
  .subst CC
   rw[hl]at zy;cases zy
   exact ⟨_,hn,by erw[lV bA];exact .some hv⟩
  .refine bz (R.cell j c' zy) λov h1 h2=>?_
   have cW:c'≠c:=by
    rintro rfl
    exact CC ((aiE (abb.mp hl).1 R.de).mp (hl.trans zy.symm))
   exact ⟨ov,h1.sameBut hs cW,by erw[fy CC];exact h2⟩
 .refine bz (R.own k b hk) λvs h1 h3=>?_
  exact ⟨vs,h1.extBut hs.extBut (R.kt hc (ade hk)).symm,h3⟩
theorem Rel.dU(R:Rel Y g σ h){k:Nat}{a:aa9}{xs:List AV}{vs:List aaq}(hk:g.ρ[k]?=some a)(hv:ak Y.n g xs vs)
(hn:h'.PlainList a vs.toArray)(hs:aem a h h'):Rel Y g {σ with own:=σ.own.set k xs} h':=by
 have ha:a∈g.ρ:=ade hk
 have Je:a∈Y.bu g:=by simp[Lay.bu,ha]
 have bA:k<σ.own.length:=by erw[R.eS];exact (abb.mp hk).1
 obtain ⟨U4,nH⟩:=id hn
 refine ⟨R.Jd Je hs,R.base,R.nodup,R.de,R.off,R.low,R.cZ,R.len,by simpa using R.eS,λb hb=>?_,λj c hc=>?_,λj b hj=>?_,R.tq (.inr (.inr ha)) hs,R.xT hs (λo e vs q=>by rw[nH]at e;cases e;cases q) (λV V=>⟨_,nH⟩),R.mX,R.mY,R.d6,λt ht=>(R.tabs t ht).of (λV V e=>e) λo e=>(hs.2 _ (R.tl Je t ht)).trans e⟩
 .refine bz (R.ns b hb) λf' h1 h2=>?_
  exact ⟨f',h1.sameBut hs (R.oV hb ha),h2⟩
 .refine bz (R.cell j c hc) λov h1 h2=>?_
  exact ⟨ov,h1.sameBut hs (R.kt (bR hc) ha),h2⟩
 .by_cases OI:k=j
  .subst OI
   rw[hk]at hj;cases hj
   refine ⟨vs,hn,?_⟩
   erw[aiW bA];exact hv
  .refine bz (R.own j b hj) λus h1 h3=>?_
   have cW:b≠a:=by
    rintro rfl
    have pS:g.ρ.Nodup:=R.zJ.1.2.2.2
    exact OI ((aiE (abb.mp hk).1 pS).mp (hk.trans hj.symm))
   refine ⟨us,h1.extBut hs.extBut cW,?_⟩
   erw[ajp OI];exact h3
theorem Rel.Jg(R:Rel Y g σ h)(hnh:Y.n<=h.objs.size)(hv:ak Y.n g xs vs):∃g':Gh,g.le g'/\g'.ρ[σ.own.length]?=some h.objs.size/\
 Rel Y g' {σ with own:=σ.own++[xs]} (h.push {cls:=.type "list",data:=.seq vs.toArray e}):=by
 have R':=R.keep (h':=h.push {cls:=.type "list",data:=.seq vs.toArray e}) λa o' e=>abo _ e
 have jj:g.le ⟨g.z,g.ρ++[h.objs.size]⟩:=⟨λV V q=>q,λk a q=>by erw[adk (abb.mp q).1];exact q⟩
 have hm:Y.bu ⟨g.z,g.ρ++[h.objs.size]⟩=Y.bu g++[h.objs.size]:=by simp[Lay.bu]
 refine ⟨⟨g.z,g.ρ++[h.objs.size]⟩,jj,by erw[R.eS];simp,R'.eQ,R.base,?_,R.de,?_,?_,R.cZ,R.len,by simp[R.eS],?_,?_,?_,R'.held,R'.frames,R'.mX,λL hL=>⟨(R.mY L hL).1,λhm=>?_⟩,λt ht=>⟨(R.d6 t ht).1,λEX=>?_,(R.d6 t ht).2.2⟩,R'.tabs⟩
 . (erw[hm];rw[adX])
   refine ⟨R.nodup,by simp,λa ha b hb q=>?_⟩
   have:=R.live a ha
   simp at hb;subst hb q
   exact adP _ this
 .intro a ha
  rw[hm,abQ]at ha
  rcases ha with ha|ha
  .exact R.off a ha
  .simp at ha;subst ha;exact R.fresh
 .intro a ha
  rcases ha with ha|ha|ha
  .exact R.low a (.inl ha)
  .exact R.low a (.inr (.inl ha))
  .rcases abQ.mp ha with ha|ha
   .exact R.low a (.inr (.inr ha))
   .simp at ha;subst ha;exact hnh
 .intro a ha
  refine bz (R'.ns a ha) λf h1 h2=>?_
  exact ⟨f,h1,λi x hx=>(h2 i x hx).mono jj⟩
 .intro i c hc
  refine bz (R'.cell i c hc) λov h1 h2=>?_
  exact ⟨ov,h1,h2.mono jj⟩
 .intro k a hk
  by_cases hkl:k<g.ρ.length
  .have hk':g.ρ[k]?=some a:=by simpa[adk hkl] using hk
   refine bz (R'.own k a hk') λus h1 h2=>?_
   refine ⟨us,h1,?_⟩
   erw[adk (by erw[R.eS];exact hkl)]
   exact h2.mono jj
  .have h0:k=g.ρ.length:=by
    have:=(abb.mp hk).1
    simp at this;exact %[a=b,cu (a<b),a<b+1|aP hkl this]
   subst h0
   simp at hk
   subst hk
   refine ⟨vs,⟨e,ac0 _ rfl⟩,?_⟩
   erw[<-R.eS]
   simp
   exact hv.mono jj
 .rcases abQ.mp hm with hm|hm
  .exact (R.mY L hL).2 hm
  .simp at hm;subst hm
   exact adP _ (FunFrames.live R.frames hL)
 .rw[hm,abQ]at EX
  rcases EX with EX|EX
  .exact (R.d6 t ht).2.1 EX
  .refine bU ((R.tabs t ht).there) λps hp=>?_
   have:=abZ hp
   simp at EX
   rw[EX]at this;exact adP _ this
end
section
mutual
inductive IE where
 |var (i:Nat)|glob (x:Str) (av:AV)|int (i:Int)|str (s:Str)|bool (b:Bool)|none
 |bin (op:agA) (a b:IE)|neg (a:IE)|inv (a:IE)
 |cmp (op:CmpOp) (a b:IE)
 |zn (t:IT) (a b:IE)
 |lst (es:GC)|tup (es:GC)
 |idx (a i:IE)
 |U5 (a lo hi st:IE)
 |call (f:IE) (args:GC)
 |vy (o:IE) (name:Str) (args:GC)
 |comp (elt:IE) (it:II) (cond:zK)
inductive GC where
 |nil|cons (e:IE) (es:GC)
inductive IT where
 |val (e:IE)|not (t:IT)|and (ts:zK)|or (ts:zK)
inductive zK where
 |nil|cons (t:IT) (ts:zK)
inductive II where
 |ku (hi:IE)|GD (lo hi:IE)|exp (e:IE)|rev (e:IE)
end
noncomputable abbrev cQ:=aaq->List AV->Option AV
noncomputable def bj.listOf(σ:bj):AV->Option (List AV)
 |.lst xs=>some xs
 |.bor xs=>some xs
 |.own k=>σ.own[k]?
 |_=>none
noncomputable def jk(σ:bj):AV->Option (List AV)
 |.tup xs=>some xs
 |.str s=>some (s.cps.toList.map λc=>.str ⟨#[c]⟩)
 |x=>σ.listOf x
noncomputable def dk(a b:Int):List AV:=(aai (b-a).toNat).map λ(k:Nat)=>.int (a+(k:Int))
noncomputable def bj.push(σ:bj)(x:AV):bj:={σ with vars:=σ.vars++[some x]}
noncomputable def Jh(σ:bj)(f:AV->Option AV):AV->Option AV
 |.none=>some .none
 |.bool b=>some (.bool b)
 |.int i=>some (.int i)
 |.str s=>some (.str s)
 |.obj v=>some (.obj v)
 |.lst xs=>(xs.mapM f).map .bor
 |.bor xs=>(xs.mapM f).map .bor
 |.own k=>σ.own[k]?.bind λxs=>(xs.mapM f).map .bor
 |.tup _=>ala
noncomputable def lM(σ:bj):Nat->AV->Option AV
 |0=>Jh σ λV=>none
 |n+1=>Jh σ (lM σ n)
noncomputable def EY(σ:bj)(f:AV->Option AV):AV->Option AV
 |.none=>some .none
 |.bool b=>some (.bool b)
 |.int i=>some (.int i)
 |.str s=>some (.str s)
 |.lst xs=>(xs.mapM f).map .lst
 |.tup xs=>(xs.mapM f).map .tup
 |.own k=>σ.own[k]?.bind λxs=>(xs.mapM f).map .lst
 |_=>ala
noncomputable def iD(σ:bj):Nat->AV->Option AV
 |0=>EY σ λV=>none
 |n+1=>EY σ (iD σ n)
noncomputable def lw:AV->Option (List AV)
 |.tup xs=>some xs
 |.str s=>some (s.cps.toList.map λc=>.str ⟨#[c]⟩)
 |.lst xs=>some xs
 |.bor xs=>some xs
 |_=>none
noncomputable def bn(c:Bool)(x:AV):Option AV:=if c then some x else none
noncomputable def eg:AV->Option Int
 |.int i=>some i
 |_=>none
noncomputable def nI:AV->Option Str
 |.str s=>some s
 |_=>none
noncomputable def xU:AV->Option Bool
 |.bool b=>some b
 |_=>none
noncomputable def nJ(op:agA)(a b:Int):Option AV:=
 match op with
 |.Add=>some (.int (a+b))
 |.Sub=>some (.int (a-b))
 |.Mult=>bn (decide (aae a+aae b<=2^20)) (.int (a*b))
 |.FloorDiv=>bn (decide (b≠0)&&decide (b.natAbs.log2<9000)) (.int (a.fdiv b))
 |.Mod=>bn (decide (b≠0)&&decide (b.natAbs.log2<9000)) (.int (a.fmod b))
 |.Pow=>bn (decide (0<=b)&&decide ((aae a:Int)*b<=2^27)) (.int (a^b.toNat))
 |.LShift=>bn (decide (0<=b)&&decide ((aae a:Int)+b<=2^27)) (.int (a*2^b.toNat))
 |.RShift=>bn (decide (0<=b)) (.int (a.fdiv (2^b.toNat)))
 |.BitAnd=>some (.int (adM a b))
 |.BitOr=>some (.int (agP a b))
 |_=>none
noncomputable def pV(op:agA)(a b:Str):Option AV:=
 match op with
 |.Add=>bn (decide (a.length+b.length<=aa7)) (.str (a++b))
 |_=>none
noncomputable def aeH(b:Int):List AV->Option AV
 |[v]=>bn (decide (0<=b)&&decide (b<=2^20)) (.lst (aar b.toNat v))
 |_=>none
noncomputable def EZ(σ:bj)(op:agA)(x y:AV):Option AV:=
 match op with
 |.Add=>(σ.listOf x).bind λxs=>(σ.listOf y).bind λys=>bn (decide (xs.length+ys.length<=aa7)) (.lst (xs++ys))
 |.Mult=>(σ.listOf x).bind λxs=>(eg y).bind λb=>aeH b xs
 |_=>none
noncomputable def Ji(a:Str)(b:Int):Option AV:=bn (decide (1<=b/\b<=4096)&&decide (a.length=1)) (.str ⟨(aar b.toNat (a.cps.getD 0 0)).toArray⟩)
noncomputable def aad(op:agA)(a:Str)(y:AV):Option AV:=
 match op with
 |.Mult=>(eg y).bind (Ji a)
 |_=>(nI y).bind (pV op a)
noncomputable def cR(σ:bj)(op:agA)(x y:AV):Option AV:=
 match x with
 |.int a=>(eg y).bind (nJ op a)
 |.str a=>aad op a y
 |_=>EZ σ op x y
noncomputable def bp:List AV->Option (List Int)
 |[]=>some []
 |.int i::r=>(bp r).map (i::·)
 |_=>none
noncomputable def U6(x y:AV):Option Bool:=
 match x with
 |.int a=>(eg y).map (a==·)
 |.str a=>(nI y).map (a==·)
 |_=>none
noncomputable def Jj:AV->Option (List AV)
 |.tup xs=>some xs
 |_=>none
noncomputable def neI(x y:Option (List AV)):Option Bool:=(x.bind bp).bind λa=>(y.bind bp).bind λb=>if a=b then some false else none
noncomputable def Yr(σ:bj)(x y:AV):Option Bool:=
 match Jj x with
 |some xs=>neI (some xs) (Jj y)
 |none=>neI (σ.listOf x) (σ.listOf y)
noncomputable def neK(σ:bj)(x y:AV):Option Bool:=
 match U6 x y with
 |some b=>some (!b)
 |none=>Yr σ x y
noncomputable def eqL(σ:bj)(x y:AV):Option Bool:=
 match U6 x y with
 |some b=>some b
 |none=>(σ.listOf x).bind λa=>(σ.listOf y).bind λb=>if a.length=b.length then none else some false
noncomputable def aaf(op:CmpOp)(a b:Int):Option Bool:=
 match op with
 |.Lt=>some (decide (a<b))
 |.LtE=>some (decide (a<=b))
 |.Gt=>some (decide (b<a))
 |.GtE=>some (decide (b<=a))
 |_=>none
noncomputable def R1:List AV->Option (Int×List Int)
 |[x,y]=>(eg x).bind λk=>(match y with|.lst zs=>bp zs|_=>none).map λl=>(k,l)
 |_=>none
noncomputable def f0:AV->Option (Int×List Int)
 |.lst xs=>R1 xs
 |_=>none
noncomputable def ky:List AV->Option (List (Int×List Int))
 |[]=>some []
 |x::r=>(f0 x).bind λp=>(ky r).map (p::·)
noncomputable def Jk(σ:bj)(x y:AV):Option Bool:=(eg x).bind λi=>((σ.listOf y).bind bp).map λl=>l.any (· ==i)
noncomputable def sP(σ:bj)(x y:AV):Option Bool:=(f0 x).bind λp=>((σ.listOf y).bind ky).map λl=>l.any (· ==p)
noncomputable def GF:AV->Option Bool
 |.none=>some false
 |.str _=>some true
 |_=>none
noncomputable def U7(x y:AV):Option Bool:=
 match y with
 |.bool b=>(xU x).map (· !=b)
 |.none=>GF x
 |_=>none
noncomputable def rx(σ:bj)(op:CmpOp)(x y:AV):Option Bool:=
 match op with
 |.Eq=>eqL σ x y
 |.NotEq=>neK σ x y
 |.Is=>(xU x).bind λa=>(xU y).map (a==·)
 |.IsNot=>U7 x y
 |.In=>Jk σ x y
 |.NotIn=>(sP σ x y).map (!·)
 |_=>(eg x).bind λa=>(eg y).bind (aaf op a)
noncomputable def tv(σ:bj)(x:AV):Option Bool:=
 match x with
 |.bool b=>some b
 |.int i=>some (i !=0)
 |.none=>some false
 |x=>(σ.listOf x).bind λxs=>if xs.length<2^62 then some (xs.length !=0) else none
noncomputable def Jl(σ:bj):AV->Option (List AV)
 |.tup xs=>some xs
 |x=>σ.listOf x
noncomputable def nK(σ:bj)(x i:AV):Option AV:=
 (eg i).bind λk=>if 0<=k/\k<2^62 then (Jl σ x).bind (·[k.toNat]?) else none
noncomputable def kz:AV->Option (Option Int)
 |.none=>some none
 |.int i=>some (some i)
 |_=>ala
noncomputable def cB{α:Type}(xs:List α)(lo hi st:Option Int):List α:=
 (sliceRange (amK lo hi st xs.length).1 (amK lo hi st xs.length).2.1 (amK lo hi st xs.length).2.2).filterMap (xs[·]?)
noncomputable def tA(s:Str)(lo hi:Option Int):List Nat:=Builtin.Str.strSliceIndices lo hi 1 s.length
noncomputable def CD(σ:bj)(x lo hi st:AV):Option AV:=
 (kz lo).bind λl=>(kz hi).bind λu=>(kz st).bind λt=>
  match x with
  |.str s=>if t=none/\(tA s l u).length≠s.length/\(tA s l u).length<=aa7 then some (.str ⟨((tA s l u).filterMap (s.cps[·]?)).toArray⟩) else none
  |x=>(σ.listOf x).bind λxs=>if t≠some 0/\xs.length<=aa7 then some (.lst (cB xs l u t)) else none
noncomputable def tB(f:AV->Option AV):List AV->Option AV
 |[x]=>f x
 |_=>none
noncomputable def U8(f:AV->AV->Option AV):List AV->Option AV
 |[x,y]=>f x y
 |_=>none
noncomputable def Jm(x:AV):Option AV:=(eg x).bind λi=>bn (decide (0<=i)&&decide (i<=1114111)) (.str ⟨#[i.toNat]⟩)
noncomputable def Jn(x:AV):Option AV:=(nI x).bind λs=>bn (decide (s.length=1)) (.int (s.cps.getD 0 0:Nat))
noncomputable def Jo(n:Nat):Option AV:=bn (decide ((n:Int)<2^62)) (.int n)
noncomputable def E1(σ:bj):AV->Option Nat
 |.str s=>some s.length
 |x=>(σ.listOf x).map ag9
noncomputable def U9(σ:bj)(x:AV):Option AV:=(E1 σ x).bind Jo
noncomputable def Jp(σ:bj)(x:AV):Option AV:=((σ.listOf x).bind bp).map λl=>.int l.sum
noncomputable def aag(σ:bj)(x:AV):Option AV:=(((σ.listOf x).bind bp).bind λl=>l.max?).map .int
noncomputable def eh:List Int->List Int
 |[]=>[]
 |x::r=>insI x (eh r)
where insI (x:Int):List Int->List Int
 |[]=>[x]
 |y::r=>if x<=y then x::y::r else y::insI x r
noncomputable def aah:AV->Option (Int×Int)
 |.lst xs=>(match xs with|[x,y]=>(eg x).bind λa=>(eg y).map λb=>(a,b)|_=>none)
 |_=>none
noncomputable def tC:List AV->Option (List (Int×Int))
 |[]=>some []
 |x::r=>(aah x).bind λp=>(tC r).map (p::·)
noncomputable def tD{α:Type}(c:Nat->Nat->Option Bool):PySem.W.KasT α->Option α
 |.ret a=>some a
 |.ask i j k=>(c i j).bind λb=>tD c (k b)
noncomputable def kA(l:List (Int×Int))(i j:Nat):Option Bool:=(l[i]?).bind λp=>(l[j]?).bind λq=>if p.1=q.1 then none else some (decide (p.1<q.1))
noncomputable def sQ(xs:List AV):Option AV:=(tC xs).bind λl=>if 2<=l.length/\l.length<64 then (tD (kA l) (ai0 l.length)).map λp=>.lst (p.toList.map λi=>xs.getD i .none) else none
noncomputable def tE(xs:List AV):Option AV:=match bp xs with
 |some l=>bn (decide (l.length<64)) (.lst ((eh l).map .int))
 |none=>sQ xs
noncomputable def R2(σ:bj)(x:AV):Option AV:=(σ.listOf x).bind tE
noncomputable def dmK(x y:AV):Option AV:=(eg x).bind λa=>(eg y).bind λb=>bn (decide (b≠0)&&decide (b.natAbs.log2<9000)) (.tup [.int (a.fdiv b),.int (a.fmod b)])
noncomputable def zL(σ:bj)(b:String)(xs:List AV):Option AV:=
 if b="chr" then tB Jm xs else if b="ord" then tB Jn xs else if b="len" then tB (U9 σ) xs else if b="sum" then tB (Jp σ) xs else if b="divmod" then U8 dmK xs else if b="max" then tB (aag σ) xs else if b="sorted" then tB (R2 σ) xs else none
noncomputable def aeI(RF:cQ)(σ:bj)(f:aa9)(xs:List AV):Option AV:=(xs.mapM (lM σ 3)).bind (RF (.ref f))
noncomputable def aeJ(RF:cQ)(σ:bj)(v:aaq)(xs:List AV):Option AV:=
 match v with
 |.builtin b=>zL σ b xs
 |.ref f=>aeI RF σ f xs
 |_=>none
noncomputable def f5(RF:cQ)(σ:bj)(f:AV)(xs:List AV):Option AV:=
 match f with
 |.obj v=>aeJ RF σ v xs
 |_=>none
noncomputable def jl:List AV->Option (List Str)
 |[]=>some []
 |.str i::r=>(jl r).map (i::·)
 |_=>none
noncomputable def Jq(σ:bj)(sep:Str)(x:AV):Option AV:=((σ.listOf x).bind jl).bind λl=>bn (decide ((l.map (·.length)).sum+l.length*sep.length<=16777216)) (.str (ag4 sep l))
noncomputable def Jr(t:Str)(x:AV):Option AV:=(nI x).bind λy=>bn (decide (t.length+2<=aa7)&&decide (y.length≠0)) (.lst ((am2 t y).map .str))
noncomputable def nL(σ:bj)(s nm:Str):List AV->Option AV
 |[]=>if nm=adQ "lower" then bn (decide (s.length<=5592405)) (.str (afe s)) else none
 |[x]=>if nm=adQ "join" then Jq σ s x else if nm=adQ "split" then Jr s x else none
 |_=>none
noncomputable def xV(i:Int)(nm:Str):List AV->Option AV
 |[]=>if nm=adQ "bit_length" then some (.int (aae i)) else none
 |_=>none
noncomputable def nM(σ:bj)(o:AV)(nm:Str)(xs:List AV):Option AV:=
 match o with
 |.str s=>nL σ s nm xs
 |.int i=>xV i nm xs
 |_=>none
noncomputable def dI(P:AV->Option (Option AV)):List AV->Option (List AV)
 |[]=>some []
 |x::r=>(P x).bind λo=>match o with
  |some y=>(dI P r).map (y::·)
  |none=>dI P r
mutual
noncomputable def aA(RF:cQ):IE->bj->Option AV
 |.var i,σ=>σ.vars[i]?.getD none
 |.glob _ av,_=>some av
 |.int i,_=>some (.int i)
 |.str s,_=>some (.str s)
 |.bool b,_=>some (.bool b)
 |.none,_=>some .none
 |.bin op a b,σ=>(aA RF a σ).bind λx=>(aA RF b σ).bind λy=>cR σ op x y
 |.neg a,σ=>(aA RF a σ).bind λx=>match x with|.int i=>some (.int (-i))|_=>none
 |.inv a,σ=>(aA RF a σ).bind λx=>match x with|.int i=>some (.int (acg i))|_=>none
 |.cmp op a b,σ=>(aA RF a σ).bind λx=>(aA RF b σ).bind λy=>(rx σ op x y).map .bool
 |.zn t a b,σ=>(iZ RF t σ).bind λc=>if c=true then aA RF a σ else aA RF b σ
 |.lst es,σ=>(iE RF es σ).bind λxs=>bn (decide (xs.length<=aa7)) (.lst xs)
 |.tup es,σ=>(iE RF es σ).bind λxs=>bn (decide (xs.length<=aa7)) (.tup xs)
 |.idx a i,σ=>(aA RF a σ).bind λx=>(aA RF i σ).bind λy=>nK σ x y
 |.U5 a lo hi st,σ=>(aA RF a σ).bind λx=>(aA RF lo σ).bind λl=>(aA RF hi σ).bind λu=>(aA RF st σ).bind λt=>CD σ x l u t
 |.call f args,σ=>(aA RF f σ).bind λfv=>(iE RF args σ).bind λxs=>f5 RF σ fv xs
 |.vy o nm args,σ=>(aA RF o σ).bind λov=>(iE RF args σ).bind λxs=>nM σ ov nm xs
 |.comp elt it cond,σ=>(wd RF it σ).bind λitems=>
  (dI (λx=>(f6 RF cond (σ.push x)).bind λc=>if c=true then (aA RF elt (σ.push x)).map some else some none) items).bind λys=>bn (decide (ys.length<=aa7)) (.lst ys)
noncomputable def iE(RF:cQ):GC->bj->Option (List AV)
 |.nil,_=>some []
 |.cons e es,σ=>(aA RF e σ).bind λx=>(iE RF es σ).map λxs=>x::xs
noncomputable def iZ(RF:cQ):IT->bj->Option Bool
 |.val e,σ=>(aA RF e σ).bind λx=>tv σ x
 |.not t,σ=>(iZ RF t σ).map (!·)
 |.and ts,σ=>f6 RF ts σ
 |.or ts,σ=>xW RF ts σ
noncomputable def f6(RF:cQ):zK->bj->Option Bool
 |.nil,_=>some true
 |.cons t ts,σ=>(iZ RF t σ).bind λb=>if b=true then f6 RF ts σ else some false
noncomputable def xW(RF:cQ):zK->bj->Option Bool
 |.nil,_=>some false
 |.cons t ts,σ=>(iZ RF t σ).bind λb=>if b=true then some true else xW RF ts σ
noncomputable def wd(RF:cQ):II->bj->Option (List AV)
 |.ku hi,σ=>(aA RF hi σ).bind λy=>match y with|.int b=>if -(2^20)<=b/\b<=2^20 then some (dk 0 b) else none|_=>none
 |.GD lo hi,σ=>(aA RF lo σ).bind λx=>(aA RF hi σ).bind λy=>match x,y with
  |.int a,.int b=>if -(2^20)<=a/\a<=2^20/\ -(2^20)<=b/\b<=2^20 then some (dk a b) else none
  |_,_=>none
 |.exp e,σ=>(aA RF e σ).bind λx=>jk σ x
 |.rev e,σ=>(aA RF e σ).bind λx=>match x with
  |.lst xs=>some xs.reverse
  |.bor xs=>some xs.reverse
  |_=>none
end
noncomputable def vz(RF:cQ):II->bj->Option (List AV)
 |.exp e,σ=>(aA RF e σ).bind lw
 |it,σ=>wd RF it σ
structure NI where
 names:List (Str×afc)
 slots:List (Str×Nat)
 ik:Nat
 az:List (Str×AV)
noncomputable def bZ(nm:NI)(x:Str):Option IE:=
 if x==("__debug__":Str)||x==("__classdict__":Str) then none else
 match nm.slots.lookup x with
 |some i=>some (.var i)
 |none=>match nm.names.lookup x with
  |some .globalImplicit=>(nm.az.lookup x).map (.glob x ·)
  |_=>none
noncomputable def bg(nm:NI)(scope:aiC)(x:Str):NI:=
 {names:=scope.names.map λ(n,k)=>if k==.free&&nm.names.lookup n==some .cell then (n,.cell) else (n,k)
  slots:=(x,nm.ik)::nm.slots.filter λ(n,_)=>scope.names.lookup n==some .free
  ik:=nm.ik+1
  az:=nm.az}
noncomputable def nN(nm:NI)(scope:aiC)(x:Str):Bool:=
 decide (scope.kind=.function)&&scope.names.all (λy=>y.2 !=.cell&&(y.2 !=.local||scope.names.lookup y.1==some .local)&&(y.2 !=.free||((nm.slots.lookup y.1).isSome&&nm.names.lookup y.1 !=some .local)))&&
  scope.names.lookup x==some .local
noncomputable def kC(nm:NI)(scope:aiC)(x:Str):Bool:=
 decide (scope.kind=.function)&&scope.names.all (λy=>(y.2 !=.local||scope.names.lookup y.1==some .local)&&(y.2 !=.free||((nm.slots.lookup y.1).isSome&&nm.names.lookup y.1 !=some .local)))&&
  decide (scope.names.filter (λy=>y.2==.cell)=[(x,.cell)])&&scope.names.lookup x==some .cell
noncomputable def Va(nm:NI)(scope:aiC)(x:Str):Bool:=nN nm scope x||kC nm scope x
inductive EV where
 |name (x:Str) (p:Pos)|const (c:Const) (k:Nat) (p:Pos)|bin (l:ado) (op:agA) (r:ado) (p:Pos)|un (op:UnaryOp) (x:ado) (p:Pos)
 |cmp (l:ado) (ops:List CmpOp) (xs:List ado) (p:Pos)|zn (t a b:ado) (p:Pos)|bool (op:BoolOp) (vs:List ado) (p:Pos)|lst (es:List ado) (p:Pos)|tup (es:List ado) (k:Nat) (p:Pos)
 |sub (v i:ado) (p:Pos)|call (f:ado) (args:List ado) (xX:List Keyword) (p:Pos)|attr (v:ado) (x:Str) (p:Pos)|comp (e:ado) (gs:List ajY) (sc:aiC) (p:Pos)
 |slice (a b c:Option ado) (p:Pos)|star (e:ado) (p:Pos)|set (es:List ado) (k:Nat) (p:Pos)|other (e:ado)
noncomputable def EV.back:EV->ado
 |.name x p=>.Name x p
 |.const c k p=>.Constant c k p
 |.bin l op r p=>.BinOp l op r p
 |.un op x p=>.UnaryOp op x p
 |.cmp l ops xs p=>.Compare l ops xs p
 |.zn t a b p=>.IfExp t a b p
 |.bool op vs p=>.BoolOp op vs p
 |.lst es p=>.List es p
 |.tup es k p=>.Tuple es k p
 |.sub v i p=>.Subscript v i p
 |.call f args xX p=>.Call f args xX p
 |.attr v x p=>.Attribute v x p
 |.comp e gs sc p=>.ListComp e gs sc p
 |.slice a b c p=>.Slice a b c p
 |.star e p=>.Starred e p
 |.set es k p=>.Set es k p
 |.other e=>e
noncomputable def eO(e:ado):EV:=match e with
 |.Name x p=>.name x p
 |.Constant c k p=>.const c k p
 |.BinOp l op r p=>.bin l op r p
 |.UnaryOp op x p=>.un op x p
 |.Compare l ops xs p=>.cmp l ops xs p
 |.IfExp t a b p=>.zn t a b p
 |.BoolOp op vs p=>.bool op vs p
 |.List es p=>.lst es p
 |.Tuple es k p=>.tup es k p
 |.Subscript v i p=>.sub v i p
 |.Call f args xX p=>.call f args xX p
 |.Attribute v x p=>.attr v x p
 |.ListComp e gs sc p=>.comp e gs sc p
 |.Slice a b c p=>.slice a b c p
 |.Starred e p=>.star e p
 |.Set es k p=>.set es k p
 |e=>.other e
theorem dW{P:EV->ado->Prop}(k:∀v,P v v.back)(e:ado):P (eO e) e:=by
 have:(eO e).back=e:=by cases e <;> rfl
 have h:=k (eO e)
 rwa [this]at h
noncomputable def eT(e:ado):Bool:=match eO e with
 |.set ..=>false
 |_=>true
noncomputable def oW{α:Type}:List α->Option α
 |[]=>none
 |x::r=>r.rec (some x) λV V V=>none
noncomputable def Vb{α:Type}:List α->Option (α×α)
 |[]=>none
 |x::r=>(oW r).map λy=>(x,y)
theorem gE{α:Type}{l:List α}{x:α}(h:oW l=some x):l=[x]:=by
 cases l with
 |nil=>exact aq h
 |cons y r=>cases r with
  |nil=>erw[aac h,rfl]
  |cons _ _=>exact aq h
theorem E2{α:Type}{l:List α}{x y:α}(h:Vb l=some (x,y)):l=[x,y]:=by
 cases l with
 |nil=>exact aq h
 |cons a r=>
  refine bC h λb e q=>?_
  erw[gE e]
  cases q
  rfl
noncomputable def mZ(e:ado):Option Str:=match eO e with
 |.name x _=>some x
 |_=>none
noncomputable def kD(e:ado):Bool:=match eO e with
 |.star ..=>true
 |_=>false
noncomputable def Vc(e:ado):Option (Option ado×Option ado×Option ado):=match eO e with
 |.slice a b c _=>some (a,b,c)
 |_=>none
noncomputable def Js(e:ado):Option (ado×List ado):=match eO e with
 |.call f args xX _=>if xX.isEmpty then some (f,args) else none
 |_=>none
noncomputable def E3:EV->Bool
 |.call _ args _ _=>!args.isEmpty
 |.other _=>false
 |_=>true
noncomputable abbrev oX(e:ado):Bool:=E3 (eO e)
theorem fW{e:ado}{x:Str}{G:ado->Prop}(h:mZ e=some x)(k:∀p,G (.Name x p)):G e:=by
 refine dW (P:=λv e=>(match v with|.name x _=>some x|_=>none)=some x->G e) (λv h=>?_) e h
 cases v with
 |name y p=>obtain rfl:=aac h;exact k p
 |_=>exact aq h
theorem OJ{e:ado}{q:Option ado×Option ado×Option ado}{G:ado->Prop}(h:Vc e=some q)(k:∀p,G (.Slice q.1 q.2.1 q.2.2 p)):G e:=by
 refine dW (P:=λv e=>(match v with|.slice a b c _=>some (a,b,c)|_=>none)=some q->G e) (λv h=>?_) e h
 cases v with
 |slice a b c p=>obtain rfl:=aac h;exact k p
 |_=>exact aq h
theorem GH{e:ado}{q:ado×List ado}{G:ado->Prop}(h:Js e=some q)(k:∀p,G (.Call q.1 q.2 [] p)):G e:=by
 refine dW (P:=λv e=>(match v with|.call f args xX _=>if xX.isEmpty then some (f,args) else none|_=>none)=some q->G e) (λv h=>?_) e h
 cases v with
 |call f args xX p=>
  cases xX with
  |nil=>obtain rfl:=aac h;exact k p
  |cons _ _=>exact aq h
 |_=>exact aq h
theorem sS(h:kD e=false):∀x p,e≠.Starred x p:=λx p q=>by subst q;exact fT h.symm
noncomputable def E4:IE->Option String
 |.glob _ (.obj v)=>match v with
  |.type T=>some T
  |_=>none
 |_=>none
theorem CF{e:IE}{T:String}{G:IE->Prop}(h:E4 e=some T)(k:∀x,G (.glob x (.obj (.type T)))):G e:=by
 cases e with
 |glob x av=>
  cases av with
  |obj v=>
   cases v with
   |type T'=>obtain rfl:=aac h;exact k x
   |_=>exact aq h
  |_=>exact aq h
 |_=>exact aq h
structure Rec where
 e:NI->ado->Option IE
 o:NI->Option ado->Option IE
 es:NI->List ado->Option GC
 t:NI->ado->Option IT
 ts:NI->List ado->Option zK
 i:NI->ado->Option II
section
variable(r:Rec)(nm:NI)
noncomputable def Jt:Const->Option IE
 |.int i=>some (.int i)
 |.str s=>some (.str s)
 |.bool b=>some (.bool b)
 |.none=>some .none
 |_=>none
noncomputable def unE(x:ado):UnaryOp->Option IE
 |.USub=>(r.e nm x).map .neg
 |.Invert=>(r.e nm x).map .inv
 |_=>none
noncomputable def Vd(l:ado)(ops:List CmpOp)(xs:List ado):Option IE:=(oW ops).bind λop=>(oW xs).bind λx=>if ajW op x then none else (r.e nm l).bind λa=>(r.e nm x).map λb=>.cmp op a b
noncomputable def Ve(v i:ado):Option IE:=match Vc i with
 |some (lo,hi,st)=>(r.e nm v).bind λa=>(r.o nm lo).bind λb=>(r.o nm hi).bind λc=>(r.o nm st).map λd=>.U5 a b c d
 |none=>(r.e nm v).bind λa=>(r.e nm i).map λb=>.idx a b
noncomputable def R3(args:List ado)(pos:Pos):EV->Option IE
 |.attr o name apos=>if apos.endLine==pos.line&&decide (args.length<5)&&oX o then (r.e nm o).bind λa=>(r.es nm args).map λb=>.vy a name b else none
 |.name x p=>if args.isEmpty then none else (bZ nm x).bind λa=>(r.es nm args).map λb=>.call a b
 |_=>none
noncomputable abbrev R4(args:List ado)(pos:Pos)(f:ado):Option IE:=R3 r nm args pos (eO f)
noncomputable def lcE(elt:ado)(scope:aiC)(g:ajY):Option IE:=(mZ g.target).bind λx=>if g.is_async==0&&Va nm scope x&&eT g.iter then (r.e (bg nm scope x) elt).bind λa=>(r.i nm g.iter).bind λb=>(r.ts (bg nm scope x) g.ifs).map λc=>.comp a b c else none
noncomputable def Ju:EV->Option IE
 |.const c _ _=>Jt c
 |.name x _=>bZ nm x
 |.bin l op x _=>(r.e nm l).bind λa=>(r.e nm x).map λb=>.bin op a b
 |.un op x _=>unE r nm x op
 |.cmp l ops xs _=>Vd r nm l ops xs
 |.zn t a b _=>(r.t nm t).bind λt=>(r.e nm a).bind λa=>(r.e nm b).map λb=>.zn t a b
 |.lst es _=>(r.es nm es).map .lst
 |.tup es _ _=>(r.es nm es).map .tup
 |.sub v i _=>Ve r nm v i
 |.call f args xX pos=>if xX.isEmpty then R4 r nm args pos f else none
 |.comp elt gens scope _=>(oW gens).bind (lcE r nm elt scope)
 |_=>none
noncomputable abbrev R5(e:ado):Option IE:=Ju r nm (eO e)
noncomputable def R6:Option ado->Option IE
 |none=>some .none
 |some e=>r.e nm e
noncomputable def Jv:List ado->Option GC
 |[]=>some .nil
 |e::es=>if kD e then none else (r.e nm e).bind λa=>(r.es nm es).map λb=>.cons a b
noncomputable def aaj(vs:List ado):BoolOp->Option IT
 |.And=>(r.ts nm vs).map .and
 |.Or=>(r.ts nm vs).map .or
noncomputable def R7(e:ado):EV->Option IT
 |.un op x _=>match op with
  |.Not=>(r.t nm x).map .not
  |_=>(unE r nm x op).map .val
 |.bool op vs _=>aaj r nm vs op
 |.zn _ _ _ _=>none
 |.other _=>none
 |.cmp l ops xs _=>(Vd r nm l ops xs).map .val
 |_=>(r.e nm e).map .val
noncomputable abbrev R8(e:ado):Option IT:=R7 r nm e (eO e)
noncomputable def Jw:List ado->Option zK
 |[]=>some .nil
 |e::es=>(r.t nm e).bind λa=>(r.ts nm es).map λb=>.cons a b
noncomputable def Vf(args:List ado):Option II:=match oW args with
 |some hi=>if kD hi then none else (r.e nm hi).map .ku
 |none=>(Vb args).bind λp=>if kD p.1||kD p.2 then none else (r.e nm p.1).bind λa=>(r.e nm p.2).map λb=>.GD a b
noncomputable def aak(args:List ado):Option II:=(oW args).bind λx=>if kD x then none else (r.e nm x).map .rev
noncomputable def Vg(e:ado):Option II:=(Js e).bind λc=>(mZ c.1).bind λf=>(bZ nm f).bind λg=>(E4 g).bind λT=>if T="range" then Vf r nm c.2 else if T="reversed" then aak r nm c.2 else none
noncomputable def Jx(e:ado):Option II:=match Vg r nm e with
 |some i=>some i
 |none=>(r.e nm e).map .exp
end
noncomputable def jC:Nat->Rec
 |0=>⟨λV V=>none,λV V=>none,λV V=>none,λV V=>none,λV V=>none,λV V=>none⟩
 |k+1=>⟨R5 (jC k),R6 (jC k),Jv (jC k),R8 (jC k),Jw (jC k),Jx (jC k)⟩
noncomputable abbrev ei(k:Nat)(nm:NI)(e:ado):Option IE:=(jC k).e nm e
noncomputable abbrev CG(k:Nat)(nm:NI)(e:List ado):Option GC:=(jC k).es nm e
noncomputable abbrev zM(k:Nat)(nm:NI)(e:ado):Option IT:=(jC k).t nm e
noncomputable abbrev E5(k:Nat)(nm:NI)(e:ado):Option II:=(jC k).i nm e
end
end Mine.Internal
end
section
open PySem PyProof PyProof.Rows
namespace Mine.Internal
section
structure a9 (s s':aaD):Prop where
 gens:s'.gens=s.gens
 drawn:s'.drawn=s.drawn
 os:s'.os=s.os
theorem a9.refl(s:aaD):a9 s s:=⟨rfl,rfl,rfl⟩
theorem a9.trans{a b c:aaD}(x:a9 a b)(y:a9 b c):a9 a c:=⟨y.1.trans x.1,y.2.trans x.2,y.3.trans x.3⟩
noncomputable def Wv(M:ali)(A:adV)(Y:Lay)(g:Gh)(σ:bj)(t:Sem aaq)(s:aaD)(r:AV):Prop:=
 ∀(E:aaq->aaD->Prop) (Q:aaq->aaD->Prop),
  (∀v s' g',aW Y.lo s.heap s'.heap->g.le g'->Rel Y g' σ s'.heap->a9 s s'->RelV Y.n g' r v->Q v s')->abJ M A t Q E s
noncomputable def Wb(M:ali)(A:adV)(Y:Lay)(g:Gh)(σ:bj)(t:Sem Bool)(s:aaD)(r:Bool):Prop:=
 ∀(E:aaq->aaD->Prop) (Q:Bool->aaD->Prop),
  (∀s' g',aW Y.lo s.heap s'.heap->g.le g'->Rel Y g' σ s'.heap->a9 s s'->Q r s')->abJ M A t Q E s
theorem ej{α:Type}{M:ali}{A:adV}{t:Sem α}{Q:α->aaD->Prop}{E:aaq->aaD->Prop}{s:aaD}
(h:∀Q' E',(∀v s',Q v s'->Q' v s')->(∀v s',E v s'->E' v s')->abJ M A t Q' E' s):abJ M A t Q E s:=h Q E (λV V x=>x) λV V x=>x
theorem a8{M:ali}{A:adV}{env:Env}{st:ahs}{rest:List ahs}{Q:ahE->aaD->Prop}{E:aaq->aaD->Prop}{s:aaD}
(h:∀Q' E',(∀s',abJ M A (ajA rest env) Q E s'->Q' .next s')->(∀v s',Q (.ret v) s'->Q' (.ret v) s')->(∀v s',E v s'->E' v s')->abJ M A (exec st env) Q' E' s):abJ M A (ajA (st::rest) env) Q E s:=
 aft (h _ _ (λV x=>x) (λV V x=>x) λV V x=>x)
theorem sT{m n k:Nat}(hm:m=n+1-k)(h:k<n):n+1-(k+1)<m:=%[a<b,b=c,d<e,qD 0 a (e+1) (d+1),qD 0 c (e+1) d|(Cj hm h rfl rfl)]
theorem aal{P:Prop}(h:∀G:Prop,(P->G)->G):P:=h P id
structure jM (d:Nat) (l:List Env) (A:adV):Prop where
 frames:A.frames=some l
 hand:A.handled=none
 depth:A.depth+d<=900
 units:A.units+100*d<=9000
variable{prog:aas}{w:abI}{A:adV}{Y:Lay}{g:Gh}{σ:bj}{s:aaD}{d:Nat}
theorem dD{E:aaq->aaD->Prop}{Q:aaq->aaD->Prop}{r:AV}{v:aaq}{tk:Nat}(R:Rel Y g σ s.heap)
(hQ:∀v s' g',aW Y.lo s.heap s'.heap->g.le g'->Rel Y g' σ s'.heap->a9 s s'->RelV Y.n g' r v->Q v s')(hv:RelV Y.n g r v):Q v {s with toks:=tk}:=
 hQ v _ g (aW.refl _) (Gh.le.refl g) R ⟨rfl,rfl,rfl⟩ hv
theorem vB{E:aaq->aaD->Prop}{Q:aaq->aaD->Prop}{r:AV}{v:aaq}(R:Rel Y g σ s.heap)
(hQ:∀v s' g',aW Y.lo s.heap s'.heap->g.le g'->Rel Y g' σ s'.heap->a9 s s'->RelV Y.n g' r v->Q v s')(hv:RelV Y.n g r v):Q v s:=
 hQ v _ g (aW.refl _) (Gh.le.refl g) R ⟨rfl,rfl,rfl⟩ hv
theorem aH{c:Bool}{x r:AV}(h:bn c x=some r):c=true/\r=x:=by
 unfold bn at h
 split at h
 .obtain rfl:=aac h;exact ⟨by assumption,rfl⟩
 .exact aq h
theorem RelV.newList{h:adF}{xs:List AV}{vs:List aaq}{e:Nat}(R:Rel Y g σ h)(hn:Y.n<=h.objs.size)(hv:ak Y.n g xs vs):
 RelV Y.n (g.add (vv h.objs.size {cls:=.type "list",data:=.seq vs.toArray e})) (.lst xs) (.ref h.objs.size):=
 .lst hn (ER R.fresh _) rfl rfl (hv.mono (Gh.dj _ _))
theorem RelV.Vh{h:adF}{xs:List AV}{vs:List aaq}{e:Nat}(R:Rel Y g σ h)(hn:Y.n<=h.objs.size)(hv:ak Y.n g xs vs):
 RelV Y.n (g.add (vv h.objs.size {cls:=.type "tuple",data:=.seq vs.toArray e})) (.tup xs) (.ref h.objs.size):=
 .tup hn (ER R.fresh _) rfl rfl (hv.mono (Gh.dj _ _))
theorem nO{E:aaq->aaD->Prop}{Q:aaq->aaD->Prop}{xs:List AV}{vs:List aaq}{tk e:Nat}(R:Rel Y g σ s.heap)(hn:Y.n<=s.heap.objs.size)
(hQ:∀v s' g',aW Y.lo s.heap s'.heap->g.le g'->Rel Y g' σ s'.heap->a9 s s'->RelV Y.n g' (.lst xs) v->Q v s')(hv:ak Y.n g xs vs):
 Q (.ref s.heap.objs.size) {s with heap:=s.heap.push {cls:=.type "list",data:=.seq vs.toArray e},toks:=tk}:=
 hQ _ _ _ (cj _ _) (Gh.dj _ _) (R.alloc rfl) ⟨rfl,rfl,rfl⟩ (RelV.newList R hn hv)
theorem Jy{E:aaq->aaD->Prop}{Q:aaq->aaD->Prop}{xs:List AV}{vs:List aaq}{tk e:Nat}(R:Rel Y g σ s.heap)(hn:Y.n<=s.heap.objs.size)
(hQ:∀v s' g',aW Y.lo s.heap s'.heap->g.le g'->Rel Y g' σ s'.heap->a9 s s'->RelV Y.n g' (.tup xs) v->Q v s')(hv:ak Y.n g xs vs):
 Q (.ref s.heap.objs.size) {s with heap:=s.heap.push {cls:=.type "tuple",data:=.seq vs.toArray e},toks:=tk}:=
 hQ _ _ _ (cj _ _) (Gh.dj _ _) (R.alloc rfl) ⟨rfl,rfl,rfl⟩ (RelV.Vh R hn hv)
theorem aD{x:AV}{v:aaq}{xs:List AV}(R:Rel Y g σ s.heap)(hx:RelV Y.n g x v)(h:σ.listOf x=some xs):
 ∃a vs,v=.ref a/\s.heap.IsList a vs.toArray/\ak Y.n g xs vs:=by
 cases hx with
 |lst h1 h2 h3 h4 h5=>cases h;exact ⟨_,_,rfl,⟨_,R.eQ _ _ h2,h3,_,h4⟩,h5⟩
 |bor h2 h3 h4 h5=>cases h;exact ⟨_,_,rfl,⟨_,R.eQ _ _ h2,h3,_,h4⟩,h5⟩
 |own hk=>
  refine bz (R.own _ _ hk) λvs h1 h2=>?_
  rw[show σ.own[_]?.getD []=xs by erw[(show σ.own[_]?=some xs from h)];rfl]at h2
  exact ⟨_,vs,rfl,h1.isList,h2⟩
 |_=>exact aq h
theorem lx{xs:List AV}{v:aaq}(R:Rel Y g σ s.heap)(hx:RelV Y.n g (.tup xs) v):∃a vs,v=.ref a/\s.heap.IsTuple a vs.toArray/\ak Y.n g xs vs:=by
 cases hx with
 |tup h1 h2 h3 h4 h5=>exact ⟨_,_,rfl,⟨_,R.eQ _ _ h2,h3,_,h4⟩,h5⟩
set_option maxRecDepth 100000
section
open AutoSeq1 (wpAny_loadPart')
theorem Vi(a:Int)(t:Tok)(l:aa9)(items:Array aaq)(n:Nat)(dd:Option aa9)(sl:Array (Option aaq)):
 Meets (aim.«int.__rmul__» ⟨[.int a t,.ref l],[]⟩) (λV R s=>s.heap.get? l=some {cls:=.type "list",dict:=dd,data:=.seq items n,slots:=sl}/\R (.ok (.ret Value.notImplemented)) s):=
 .of_wp λprog w A R s h=>by obtain ⟨hp,g,d,tk,os⟩:=s;(have hl:=h.1;have h:=h.2);wp_walk using wpAny_loadPart' hl;exact ⟨_,rfl,h⟩
theorem aam(l:aa9)(items:Array aaq)(n:Nat)(x:Int)(u:Tok)(dd:Option aa9)(sl:Array (Option aaq))(hc0:¬(!ajE x)=true)(hc1:¬items.size*x.toNat>(2^63-1)/8)(Vj:¬ajM (items.size*x.toNat)=true):
 Meets (aim.«list.__mul__» ⟨[.ref l,.int x u],[]⟩) (λV R s=>s.heap.get? l=some {cls:=.type "list",dict:=dd,data:=.seq items n,slots:=sl}/\R (.ok (.ret (ahI s.heap.objs.size))) {s with heap:=s.heap.push {cls:=akq "list",data:=Data.seq (al8 (λx1 x2=>x1++x2) #[] (aar (if items.isEmpty=true then 0 else x.toNat) items))},toks:=s.toks}):=
 .of_wp λprog w A R s h=>by
  obtain ⟨hp,g,d,tk,os⟩:=s;(have hl:=h.1;have h:=h.2)
  have cL:=AutoListH.joined_fits Vj
  wp_walk using wpAny_loadPart' hl;refine wpAny_ite_false (decide_eq_false (ajH.mpr cL)) ?_;wp_walk using wpAny_loadPart' hl;exact ⟨_,rfl,h⟩
theorem tF{l:aa9}{items:Array aaq}{x:Int}{u:Tok}{E:aaq->aaD->Prop}{Q:aaq->aaD->Prop}(hl:s.heap.IsList l items)(h0:0<=x)(Vk:x<=2^20)(h1:items.size=1)
(h:Q (.ref s.heap.objs.size) {s with heap:=s.heap.push {cls:=.type "list",data:=.seq (al8 (λx1 x2=>x1++x2) #[] (aar x.toNat items))}}):
 abJ (abD prog w) A (aiq .Mult (.ref l) (.int x u)) Q E s:=by
 obtain ⟨⟨cls,dd,data,sl⟩,ho,hc,n,hd⟩:=id hl
 simp only at hc hd
 subst hc hd
 have he:items.isEmpty=false:=by rw[Array.isEmpty];simp[h1]
 have hx:x.toNat<=2^20:=%[a<=(qL 2 20),a>=(qL 2 20),qD 4 a a (0)|(N9 Vk rfl)]
 refine wpAny_binaryOp_repeat_ref (T:="list") (U:="int") ⋯ ⟨_,ho,rfl⟩ (λs'=>ald s' x u) noFill_list_mul F.fills_int_mul F.slot_int_rmul repeat_list F.slot_int_index.lookup ?_
 refine aiL F.slot_int_rmul (ald s x u) F.entry_int_rmul (F.args_int_rmul_2 _ _) (Vi x u l items n dd sl) ⟨ho,rfl,⟨_,ho,rfl⟩,?_⟩
 refine aiL F.slot_list_mul ⟨_,ho,rfl⟩ F.entry_list_mul (F.args_list_mul_2 _ _) (aam l items n x u dd sl (by simp[ajE];exact %[aU ((qG (9223372036854775808))>=a) (a>9223372036854775808),0>=a,a>=(qL 2 20)|fK h0 Vk]) (by erw[h1];exact %[cu (a<1*b),b<=(qL 2 20),qD 0 c (qL 2 63) (1),qD 1 a c (8)|bJ hx rfl rfl]) (by erw[h1];simp[ajM,aa7];exact %[a>=16777216,a>=(qL 2 20)|fK Vk])) ⟨ho,?_⟩
 erw[he]
 exact h
end
theorem CI{l b:aa9}{vs ws:List aaq}{E:aaq->aaD->Prop}{Q:aaq->aaD->Prop}(hl:s.heap.IsList l vs.toArray)(hb:s.heap.IsList b ws.toArray)
(cL:vs.length+ws.length<=aa7)
(h:Q (.ref s.heap.objs.size) {s with heap:=s.heap.push {cls:=.type "list",data:=.seq (vs++ws).toArray}}):
 abJ (abD prog w) A (aiq .Add (.ref l) (.ref b)) Q E s:=by
 obtain ⟨⟨cls,dd,data,sl⟩,ho,hc,n,hd⟩:=id hl
 obtain ⟨⟨aeK,R9,data2,we⟩,ho2,Vj,n2,hd2⟩:=id hb
 simp only at hc hd Vj hd2
 subst hc hd Vj hd2
 have e:vs.toArray++ws.toArray=(vs++ws).toArray:=by simp
 refine concat_meets ⟨_,ho,rfl⟩ ⟨_,ho2,rfl⟩ noFill_list_add seq_list_add PySem.F.slot_list_add PySem.F.entry_list_add (PySem.F.args_list_add_2 _ _) (list_addW l b vs.toArray ws.toArray n n2 dd R9 sl we (by simpa using cL)) ⟨ho,ho2,?_⟩
 erw[e]
 exact h
theorem ak.replicate{n:Nat}{g:Gh}{x:AV}{v:aaq}(h:RelV n g x v):∀k,ak n g (aar k x) (aar k v)
 |0=>.nil
 |k+1=>.cons h (ak.replicate h k)
theorem ly{α:Type}(v:α):∀(k:Nat) (acc:Array α),al8 (λx1 x2=>x1++x2) acc (aar k #[v])=acc++(aar k v).toArray
 |0,acc=>by simp
 |k+1,acc=>by (erw[ahC,List.foldl_cons,ly v k ..]);apply ahv.mp;simp[ahC]
theorem Sb{a b:Int}(h:aae a+aae b<=2^20):IntMulOk a b:=by
 skip
 intro hc
 simp only[aap]at hc
 have:=hc.2
 unfold Builtin.Int.intTooBig at this
 simp[bitsLine]at this
 lia
theorem pW{α:Type}{r:α}{C:Prop}(h:none=some r):C:=by exact aq h
theorem a5{y:AV}{b:Int}(h:eg y=some b):y=.int b:=by
 cases y with
 |int i=>cases h;rfl
 |_=>exact pW h
theorem eU{y:AV}{b:Str}(h:nI y=some b):y=.str b:=by
 cases y with
 |str i=>cases h;rfl
 |_=>exact pW h
theorem kE{y:AV}{b:Bool}(h:xU y=some b):y=.bool b:=by
 cases y with
 |bool i=>cases h;rfl
 |_=>exact pW h
theorem bQ{p q:Prop} [Decidable p] [Decidable q](h:(decide p&&decide q)=true):p/\q:=by
 rw[aap]at h
 exact ⟨of_decide_eq_true h.1,of_decide_eq_true h.2⟩
theorem OL(R:Rel Y g σ s.heap){op:agA}{a b:Int}{t u:Tok}{r:AV}(h:nJ op a b=some r):Wv (abD prog w) A Y g σ (aiq op (.int a t) (.int b u)) s r:=by
 intro E Q hQ
 cases op with
 |Add=>cases h;exact add_int (dD (E:=E) R hQ (.int _ _))
 |Sub=>cases h;exact sub_int (dD (E:=E) R hQ (.int _ _))
 |Mult=>(refine bY (aH h) λhc oY=>?_;obtain rfl:=oY);exact mul_int (dD (E:=E) R hQ (.int _ _)) (Sb (of_decide_eq_true hc))
 |FloorDiv=>(refine bY (aH h) λhc oY=>?_;obtain rfl:=oY);exact floordiv_int (bQ hc).1 (dD (E:=E) R hQ (.int _ _)) (.inl (noPylong_of_log2 (bQ hc).2))
 |Mod=>(refine bY (aH h) λhc oY=>?_;obtain rfl:=oY);exact mod_int' (bQ hc).1 (dD (E:=E) R hQ (.int _ _))
 |Pow=>(refine bY (aH h) λhc oY=>?_;obtain rfl:=oY);exact pow_int (bQ hc).1 (bQ hc).2 (dD (E:=E) R hQ (.int _ _))
 |LShift=>(refine bY (aH h) λhc oY=>?_;obtain rfl:=oY);exact lshift_int (bQ hc).1 (bQ hc).2 (dD (E:=E) R hQ (.int _ _))
 |RShift=>(refine bY (aH h) λhc oY=>?_;obtain rfl:=oY);exact rshift_int (of_decide_eq_true hc) (dD (E:=E) R hQ (.int _ _))
 |BitAnd=>cases h;exact and_int (dD (E:=E) R hQ (.int _ _))
 |BitOr=>cases h;exact or_int (dD (E:=E) R hQ (.int _ _))
 |_=>exact pW h
theorem OM(R:Rel Y g σ s.heap){op:agA}{a b:Str}{t u:Tok}{r:AV}(h:pV op a b=some r):Wv (abD prog w) A Y g σ (aiq op (.str a t) (.str b u)) s r:=by
 intro E Q hQ
 cases op with
 |Add=>(refine bY (aH h) λhc oY=>?_;obtain rfl:=oY);exact add_str (λt' tk=>dD (E:=E) R hQ (.str _ _)) (of_decide_eq_true hc)
 |_=>exact pW h
theorem OO(R:Rel Y g σ s.heap)(hn:Y.n<=s.heap.objs.size){op:agA}{x y r:AV}{v u:aaq}(hx:RelV Y.n g x v)(hy:RelV Y.n g y u)(h:EZ σ op x y=some r):
 Wv (abD prog w) A Y g σ (aiq op v u) s r:=by
 intro E Q hQ
 cases op with
 |Add=>
  (refine ax h ?_;clear h;intro xs e1 h)
  (refine ax h ?_;clear h;intro ys e2 h)
  obtain ⟨hc,rfl⟩:=aH h
  obtain ⟨a,vs,rfl,hl,hv⟩:=aD R hx e1
  obtain ⟨b,us,rfl,hb,hu⟩:=aD R hy e2
  exact CI hl hb (by (erw[<-hv.length,<-hu.length]);exact of_decide_eq_true hc) (nO (E:=E) (tk:=s.toks) R hn hQ (hv.append hu))
 |Mult=>
  (refine ax h ?_;clear h;intro xs e1 h)
  (refine ax h ?_;clear h;intro b e2 h)
  have:=a5 e2
  subst this
  apply RelV.bV hy;intro _
  obtain ⟨a,vs,rfl,hl,hv⟩:=aD R hx e1
  cases hv with
  |nil=>exact pW h
  |cons hv1 Sd=>
   cases Sd with
   |cons _ _=>exact pW h
   |nil=>
    obtain ⟨hc,rfl⟩:=aH h
    refine tF hl (bQ hc).1 (bQ hc).2 rfl ?_
    erw[ly ..,aiu]
    exact nO (E:=E) (tk:=s.toks) R hn hQ (ak.replicate hv1 _)
 |_=>exact pW h
theorem OQ(R:Rel Y g σ s.heap){a:Str}{b:Int}{t u:Tok}{r:AV}(h:Ji a b=some r):Wv (abD prog w) A Y g σ (aiq .Mult (.str a t) (.int b u)) s r:=by
 intro E Q hQ
 obtain ⟨hc,rfl⟩:=aH h
 obtain ⟨⟨h1,h2⟩,h3⟩:=bQ hc
 obtain ⟨⟨l⟩⟩:=a
 obtain ⟨c,rfl⟩ :∃c,l=[c]:=List.length_eq_one_iff.mp h3
 have hn1:¬b<1:=ajK.mpr h1
 have hb:(decide (b < -(2^63:Int))||decide (b ≥ 2^63))=false:=by
  rw[decide_eq_false (by omega),decide_eq_false (by omega)];rfl
 refine P.mul_str hb (λ_ _=>?_) (λ_ _=>?_) ?_
 .show ¬((1:Int)>(2^63-1)/b)
  have:(1:Int)<=(2^63-1)/b:=(Int.le_ediv_iff_mul_le (by omega)).mpr (by omega)
  omega
 .show ajo (1*b.toNat)=false
  have:b.toNat<=4096:=by omega
  have e:aa7=16777216:=rfl
  unfold ajo
  exact decide_eq_false (by omega)
 .rw[if_neg hn1]
  by_cases h4:b=1
  .subst h4
   exact dD (E:=E) R hQ (.str _ _)
  .have e0:(b==1||(1:Nat)==0)=false:=by simp[h4]
   erw[(show (if (b==1||(⟨#[c]⟩ :Str).length==0)=true then Made.val (.str ⟨#[c]⟩ t) else Made.str ⟨(aar b.toNat #[c]).foldl (· ++·) #[]⟩)=Made.str ⟨(aar b.toNat c).toArray⟩ from ?_)]
   .refine (if_neg (ne_true_of_eq_false e0)).trans ?_
    erw[ly c b.toNat #[],aiu,rfl]
   .refine ⟨?_,dD (E:=E) (tk:=s.toks+1) R hQ (.str _ _)⟩
    show (aar b.toNat c).toArray.size<=_
    have e:aa7=16777216:=rfl
    rw[af4,afa]
    omega
theorem Jz(R:Rel Y g σ s.heap){op:agA}{a:Str}{y r:AV}{t:Tok}{u:aaq}(hy:RelV Y.n g y u)(h:(nI y).bind (pV op a)=some r):Wv (abD prog w) A Y g σ (aiq op (.str a t) u) s r:=by
 refine ax h λb e h=>?_
 rw[eU e]at hy
 apply RelV.fq hy;intro _;exact OM R h
theorem JA(R:Rel Y g σ s.heap){op:agA}{a:Str}{y r:AV}{t:Tok}{u:aaq}(hy:RelV Y.n g y u)(h:aad op a y=some r):Wv (abD prog w) A Y g σ (aiq op (.str a t) u) s r:=by
 cases op with
 |Mult=>
  refine ax h λb e h=>?_
  rw[a5 e]at hy
  apply RelV.bV hy;intro _;exact OQ R h
 |_=>exact Jz R hy h
theorem OS(R:Rel Y g σ s.heap)(hn:Y.n<=s.heap.objs.size)(hA:jM d Y.fr A){op:agA}{x y r:AV}{v u:aaq}(hx:RelV Y.n g x v)(hy:RelV Y.n g y u)(h:cR σ op x y=some r):
 Wv (abD prog w) A Y g σ (aiq op v u) s r:=by
 cases x with
 |int a=>
  (refine ax h ?_;clear h;intro b e h)
  have:=a5 e
  subst this
  apply RelV.bV hx;intro _;apply RelV.bV hy;intro _;exact OL R h
 |str a=>
  apply RelV.fq hx;intro _
  exact JA R hy h
 |_=>exact OO R hn hx hy h
end
section
open SeqAt MeetsSeq
variable{prog:aas}{w:abI}{A:adV}{Y:Lay}{g:Gh}{σ:bj}{s:aaD}{d:Nat}
theorem dm:∀{zs:List Int},bp xs=some zs->xs=zs.map .int:=by
 induction xs with
 |nil=>intro zs h;obtain rfl:=aac h;rfl
 |cons x xs ih=>
  intro zs h
  cases x with
  |int i=>exact bC (show (bp xs).map (i::·)=some zs from h) λr hr q=>by (erw[<-q,ih hr]);rfl
  |_=>exact aq h
theorem E6{n:Nat}{g g':Gh}{is:List Int}{vs us:List aaq}(hv:ak n g (is.map .int) vs)(hu:ak n g' (is.map .int) us)(j:Nat)(h1:j<vs.length)(h2:j<us.length):EqAt A s vs[j] us[j] true:=by
 have hj:j<(is.map AV.int).length:=hv.length▸h1
 have hi:(is.map AV.int)[j]?=some (.int (is[j]'(by simpa using hj))):=by erw[abz hj];simp
 refine bz (hv.get hi) λv e1 r1=>?_
 refine bz (hu.get hi) λu e2 r2=>?_
 erw[(abb.mp e1).2,(abb.mp e2).2]
 apply r1.bV
 intro t
 apply r2.bV
 intro t'
 have:=(aiv (is[j]'(by simpa using hj)) (is[j]'(by simpa using hj)) t t').at A s
 rwa [beq_self_eq_true]at this
end
section
open SeqAt MeetsSeq
variable{prog:aas}{w:abI}{A:adV}{Y:Lay}{g:Gh}{σ:bj}{s:aaD}{d:Nat}
theorem zN(n:Nat):((aai n).all λV=>true)=true:=aaG.mpr λV V=>rfl
theorem JB(hx:RelV Y.n g x v)(hy:RelV Y.n g y u)(h:U6 x y=some b):
 (Q (.bool b) s->abJ (abD prog w) A (ajf .Eq v u) Q E s)/\(Q (.bool !b) s->abJ (abD prog w) A (ajf .NotEq v u) Q E s):=by
 cases x with
 |int a=>
  refine bC h λc e q=>?_
  subst q
  rw[a5 e]at hy
  apply hx.bV;intro _;apply hy.bV;intro _
  exact ⟨eq_int,ne_int⟩
 |str a=>
  refine bC h λc e q=>?_
  subst q
  rw[eU e]at hy
  apply hx.fq;intro _;apply hy.fq;intro _
  exact ⟨eq_str,ne_str⟩
 |_=>exact aq h
theorem JC{x y:Option (List AV)}{b:Bool}(h:neI x y=some b){G:Bool->Prop}(k:∀(xs ys:List AV) (is:List Int),x=some xs->y=some ys->xs=is.map .int->ys=is.map .int->G false):G b:=by
 refine ax h λis e1 h=>ax h λjs e2 h=>?_
 refine dS h λq hb=>?_
 subst q
 obtain rfl:=aac hb
 exact ax e1 λxs h1 h2=>ax e2 λys h3 h4=>k xs ys is h1 h3 (dm h2) (dm h4)
theorem E7(h:Jj x=some xs):x=.tup xs:=by
 cases x with
 |tup _=>exact congrArg AV.tup (aac h)
 |_=>exact aq h
theorem OT(R:Rel Y g σ s.heap){x y:AV}{v u:aaq}{b:Bool}(hu:A.units<ajV)(hx:RelV Y.n g x v)(hy:RelV Y.n g y u)(h:Yr σ x y=some b)
{E Q:aaq->aaD->Prop}(hQ:Q (.bool b) s):abJ (abD prog w) A (ajf .NotEq v u) Q E s:=by
 revert h hQ
 unfold Yr
 cases e:Jj x with
 |some xs=>
  intro h
  refine JC (G:=λb=>Q (.bool b) s->_) h λxs' ys is e1 e2 e3 e4 hQ=>?_
  obtain rfl:=aac e1
  rw[E7 e,e3]at hx
  rw[E7 e2,e4]at hy
  (refine Ib (lx R hx) λa vs iB h1 h2=>?_;obtain rfl:=iB)
  (refine Ib (lx R hy) λa' us iB h3 h4=>?_;obtain rfl:=iB)
  have:=RcNeAt.tuples h1 h3 hu (e:=λV=>true) (λj j1 j2=>E6 h2 h4 j j1 j2) prog w E Q
  rw[zN]at this
  refine this ?_
  erw[(show (vs.toArray.size==us.toArray.size)=true from beq_iff_eq.mpr (h2.length.symm.trans h4.length))]
  exact hQ
 |none=>
  intro h
  refine JC (G:=λb=>Q (.bool b) s->_) h λxs ys is e1 e2 e3 e4 hQ=>?_
  (refine Ib (aD R hx e1) λa vs iB h1 h2=>?_;obtain rfl:=iB)
  (refine Ib (aD R hy e2) λa' us iB h3 h4=>?_;obtain rfl:=iB)
  rw[e3]at h2
  rw[e4]at h4
  have:=RcNeAt.lists h1 h3 (h2.length.symm.trans h4.length) hu (e:=λV=>true) (λj j1 j2=>E6 h2 h4 j j1 j2) prog w E Q
  rw[zN]at this
  exact this hQ
theorem OU(R:Rel Y g σ s.heap)(hu:A.units<ajV)(hx:RelV Y.n g x v)(hy:RelV Y.n g y u)(h:((σ.listOf x).bind λa=>(σ.listOf y).bind λb=>if a.length=b.length then none else some false)=some b)
(hQ:Q (.bool b) s):abJ (abD prog w) A (ajf .Eq v u) Q E s:=by
 refine ax h λxs e1 h=>ax h λys e2 h=>Z7 h λq hb=>?_
 obtain rfl:=aac hb
 obtain ⟨a,vs,rfl,h1,h2⟩:=aD R hx e1
 obtain ⟨a',us,rfl,h3,h4⟩:=aD R hy e2
 exact alX h1 h3 (bne_iff_ne.mpr λe=>q (h2.length.trans (Eq.trans e h4.length.symm))) hu prog w E Q hQ
theorem gF(h:ak n g xs vs)(hi:bp xs=some is):IntsAre vs is:=by
 rw[dm hi]at h
 clear hi
 revert vs
 induction is with
 |nil=>intro vs h;apply h.oR;exact .nil
 |cons i is ih=>intro vs h;apply h.gD;intro v us a b;apply a.bV;intro _;exact .cons _ _ (ih b)
theorem m7{h:adF}{a:aa9}{vs us:List aaq}(h1:h.IsList a vs.toArray)(h2:h.IsList a us.toArray):vs=us:=by
 obtain ⟨o,e1,_,n,d1⟩:=h1
 obtain ⟨o',e2,_,n',d2⟩:=h2
 rw[e1]at e2
 obtain rfl:=aac e2
 rw[d1]at d2
 have q:vs.toArray=us.toArray:=by injection d2
 simpa using q
theorem zO{x y:AV}{v:aaq}{k j:Int}(h1:RelV n g (.int k) v)(h2:RelV n g (.int j) v):k=j:=by
 cases h1;cases h2;rfl
theorem oZ:∀{zs ws:List Int} {vs:List aaq},ak n g (zs.map .int) vs->ak n g (ws.map .int) vs->zs=ws
 |[],[],_,_,_=>rfl
 |[],_::_,_,h1,h2=>by cases h1;cases h2
 |_::_,[],_,h1,h2=>by cases h1;cases h2
 |_::_,_::_,_,h1,h2=>by
  cases h1 with
  |cons a b=>cases h2 with
   |cons c d=>erw[zO (x:=.none) (y:=.none) a c,oZ b d,rfl]
theorem JD{n:Nat}{g g':Gh}{vs us:List aaq}{zs ws:List Int}(hv:ak n g (zs.map .int) vs)(hu:ak n g' (ws.map .int) us)(j:Nat)(h1:j<vs.length)(h2:j<us.length):
 EqAt A s vs[j] us[j] (zs[j]?.getD 0==ws[j]?.getD 0):=by
 have l1:=hv.length
 have l2:=hu.length
 rw[aan]at l1 l2
 have h3:j<zs.length:=l1.symm▸h1
 have h4:j<ws.length:=l2.symm▸h2
 obtain ⟨v,e1,r1⟩:=hv.get (i:=j) (x:=.int zs[j]) (by simp[h3])
 obtain ⟨u,e2,r2⟩:=hu.get (i:=j) (x:=.int ws[j]) (by simp[h4])
 rw[abz h1]at e1
 rw[abz h2]at e2
 obtain rfl:=aac e1
 obtain rfl:=aac e2
 rw[abz h3,abz h4]
 generalize vs[j]=v at *
 generalize us[j]=u at *
 cases r1;cases r2
 exact (aiv _ _ _ _).at A s
theorem Vl{zs ws:List Int}(h:zs.length=ws.length):((aai zs.length).all λj=>zs[j]?.getD 0==ws[j]?.getD 0)=(zs==ws):=by
 rw[ahG,aaG,beq_iff_eq]
 constructor
 .intro q
  refine amB h λj h1 h2=>?_
  have:=q j (abd.mpr h1)
  simpa[h1,h2] using this
 .rintro rfl j _
  exact beq_self_eq_true _
theorem GI(R:Rel Y g σ s.heap){xs ys:List AV}{v u:aaq}{zs ws:List Int}(h1:RelV Y.n g (.lst xs) v)(h2:RelV Y.n g (.lst ys) u)(e1:bp xs=some zs)(e2:bp ys=some ws)(hu:A.units<ajV):
 EqAt A s v u (zs==ws):=by
 obtain ⟨a,vs,rfl,l1,r1⟩:=aD R h1 rfl
 obtain ⟨b,us,rfl,l2,r2⟩:=aD R h2 rfl
 rw[dm e1]at r1
 rw[dm e2]at r2
 have n1:=r1.length
 have n2:=r2.length
 rw[aan]at n1 n2
 by_cases q:a=b
 .subst q
  obtain rfl:=m7 l1 l2
  rw[oZ r1 r2,beq_self_eq_true]
  exact EqAt.same _
 .by_cases hl:vs.length=us.length
  .have:=RcAt.lists l1 l2 (by simpa using hl) hu (λj j1 j2=>JD (A:=A.in1) r1 r2 j (by simpa using j1) (by simpa using j2))
   rw[af4,<-n1,Vl (n1.trans (hl.trans n2.symm))]at this
   exact ak6 q this
  .have:=alX (A:=A) l1 l2 (by simpa using hl) hu
   have e:(zs==ws)=false:=by
    rw[beq_eq_false_iff_ne]
    rintro rfl
    exact hl (n1.symm.trans n2)
   rw[e]
   exact ak6 q this
theorem JE{xs:List AV}{p:Int×List Int}{G:List AV->Prop}(h:R1 xs=some p)(k:∀ys,bp ys=some p.2->G [.int p.1,.lst ys]):G xs:=by
 match xs,h with
 |[x,y],h=>
  refine ax h λi e h=>?_
  refine bC h λl e2 q=>?_
  subst q
  erw[a5 e]
  cases y with
  |lst ys=>exact k ys e2
  |_=>exact aq e2
 |[],h=>exact aq h
 |[_],h=>exact aq h
 |_::_::_::_,h=>exact aq h
theorem nP{x:AV}{p:Int×List Int}{G:AV->Prop}(h:f0 x=some p)(k:∀ys,bp ys=some p.2->G (.lst [.int p.1,.lst ys])):G x:=by
 cases x with
 |lst xs=>exact JE (G:=λxs=>G (.lst xs)) h k
 |_=>exact aq h
theorem iF{x y:AV}{vs:List aaq}(h:ak n g [x,y] vs):∃v u,vs=[v,u]/\RelV n g x v/\RelV n g y u:=by
 cases h with
 |cons a b=>
  cases b with
  |cons c d=>
   cases d
   exact ⟨_,_,rfl,a,c⟩
theorem wf(R:Rel Y g σ s.heap){x y:AV}{v:aaq}{p q:Int×List Int}(h1:RelV Y.n g x v)(h2:RelV Y.n g y v)(e1:f0 x=some p)(e2:f0 y=some q):p=q:=by
 revert h1
 refine nP (G:=λx=>RelV Y.n g x v->_) e1 λxs e3 h1=>?_
 revert h2
 refine nP (G:=λy=>RelV Y.n g y v->_) e2 λys e4 h2=>?_
 obtain ⟨a,vs,rfl,l1,r1⟩:=aD R h1 rfl
 obtain ⟨b,us,q',l2,r2⟩:=aD R h2 rfl
 obtain rfl:a=b:=by injection q'
 obtain rfl:=m7 l1 l2
 obtain ⟨v1,v2,rfl,ra,sa⟩:=iF r1
 obtain ⟨u1,u2,q2,rb,sb⟩:=iF r2
 obtain ⟨rfl,rfl⟩ :v1=u1/\v2=u2:=by simpa using q2
 refine Prod.ext (zO (x:=.none) (y:=.none) ra rb) ?_
 obtain ⟨a',zP,rfl,l3,r3⟩:=aD R sa rfl
 obtain ⟨b',us',q',l4,r4⟩:=aD R sb rfl
 obtain rfl:a'=b':=by injection q'
 obtain rfl:=m7 l3 l4
 rw[dm e3]at r3
 rw[dm e4]at r4
 exact oZ r3 r4
theorem GJ(R:Rel Y g σ s.heap){x y:AV}{v u:aaq}{p q:Int×List Int}(h1:RelV Y.n g x v)(h2:RelV Y.n g y u)(e1:f0 x=some p)(e2:f0 y=some q)(hu:A.in1.units<ajV)(hu':A.units<ajV):
 EqAt A s v u (p==q):=by
 by_cases hvu:v=u
 .subst hvu
  rw[wf R h1 h2 e1 e2,beq_self_eq_true]
  exact EqAt.same _
 revert h1
 refine nP (G:=λx=>RelV Y.n g x v->_) e1 λxs e3 h1=>?_
 revert h2
 refine nP (G:=λy=>RelV Y.n g y u->_) e2 λys e4 h2=>?_
 obtain ⟨a,vs,rfl,l1,r1⟩:=aD R h1 rfl
 obtain ⟨b,us,rfl,l2,r2⟩:=aD R h2 rfl
 obtain ⟨v1,v2,rfl,ra,sa⟩:=iF r1
 obtain ⟨u1,u2,rfl,rb,sb⟩:=iF r2
 have k2:=GI (A:=A.in1) R sa sb e3 e4 hu
 have k1:EqAt A.in1 s v1 u1 (p.1==q.1):=by
  cases ra;cases rb
  exact (aiv _ _ _ _).at _ s
 have e:(p==q)=((aai 2).all λj=>if j=0 then p.1==q.1 else p.2==q.2):=by
  show _=((p.1==q.1)&&((p.2==q.2)&&true))
  rw[agy];rfl
 rw[e]
 refine ak6 (λq=>hvu (congrArg ahI q)) (RcAt.lists l1 l2 rfl hu' λj j1 j2=>?_)
 match j,j1,j2 with
 |0,_,_=>exact k1
 |1,_,_=>exact k2
open Classical in
theorem wg{n:Nat}{g:Gh}{p:Int×List Int}{e:aaq->Bool}:∀{ys:List AV} {us:List aaq} {l:List (Int×List Int)},ak n g ys us->ky ys=some l->(∀x v q,RelV n g x v->f0 x=some q->e v=(q==p))->
 us.any e=l.any (· ==p)/\∀v∈us,∃x q,RelV n g x v/\f0 x=some q
 |[],us,l,h,h2,he=>by
  cases h
  obtain rfl:=aac h2
  exact ⟨rfl,λv hv=>by cases hv⟩
 |x::ys,us,l,h,h2,he=>by
  cases h with
  |cons a b=>
   revert he
   refine ax h2 λq e1 h3=>?_
   refine bC h3 λr hr q'=>?_
   subst q'
   intro he
   refine bY (wg b hr he) λi1 i2=>?_
   refine ⟨by (erw[akR,akR,he _ _ _ a e1,i1,rfl]),λv hv=>?_⟩
   rcases abk.mp hv with rfl|hv
   .exact ⟨_,_,a,e1⟩
   .exact i2 v hv
theorem wh(hA:jM d l A):A.units<ajV:=by have:=hA.units;have e:ajV=9900:=rfl;exact %[a<b,a+100*c<=9000,b=9900|bJ this e]
theorem OV(R:Rel Y g σ s.heap){x y:AV}{v u:aaq}{b:Bool}(hx:RelV Y.n g x v)(hy:RelV Y.n g y u)(h:Jk σ x y=some b){E Q:aaq->aaD->Prop}(hQ:Q (.bool b) s):abJ (abD prog w) A (ajf .In v u) Q E s:=by
 refine ax h λi e h=>?_
 rw[a5 e]at hx
 refine bC h λl hl q=>?_
 subst q
 refine ax hl λys hy' Ck=>?_
 obtain ⟨a,us,rfl,hl,hv⟩:=aD R hy hy'
 apply hx.bV;intro _
 exact in_list_ints hl (gF hv Ck) hQ
open Classical in
theorem zQ(R:Rel Y g σ s.heap)(hA:jM d Y.fr A){x y:AV}{v u:aaq}{b:Bool}(hx:RelV Y.n g x v)(hy:RelV Y.n g y u)(h:(sP σ x y).map (!·)=some b){E Q:aaq->aaD->Prop}(hQ:Q (.bool b) s):abJ (abD prog w) A (ajf .NotIn v u) Q E s:=by
 refine bC h λc h1 q=>?_
 subst q
 refine ax h1 λp e h2=>?_
 refine bC h2 λl hl q=>?_
 subst q
 refine ax hl λys hy' Ck=>?_
 (refine Ib (aD R hy hy') λa us iB hl hv=>?_;obtain rfl:=iB)
 have hu:=hA.units
 have ec:ajV=9900:=rfl
 have hu1:A.in1.units<ajV:=by show A.units+1<_;exact %[a+1<b,a+100*c<=9000,b=9900|bJ hu ec]
 have hu2:A.in1.in1.units<ajV:=by show A.units+1+1<_;exact %[a+1+1<b,a+100*c<=9000,b=9900|bJ hu ec]
 have he:∀x v q,RelV Y.n g x v->f0 x=some q->(decide (∃x q,RelV Y.n g x v/\f0 x=some q/\(q==p)=true))=(q==p):=λx v q r e1=>by
  cases hq:q==p with
  |true=>exact decide_eq_true ⟨x,q,r,e1,hq⟩
  |false=>
   refine decide_eq_false ?_
   rintro ⟨x',q',r',U3,Ys⟩
   rw[wf R r' r U3 e1,hq]at Ys
   cases Ys
 refine bY (wg (e:=λv=>decide (∃x q,RelV Y.n g x v/\f0 x=some q/\(q==p)=true)) hv Ck he) λk1 k2=>?_
 refine notIn_listAt (λv=>decide (∃x q,RelV Y.n g x v/\f0 x=some q/\(q==p)=true)) hl (λv JF=>?_) ?_
 .refine bU (k2 v (by simpa using JF)) λx' dQ=>bU dQ λq' di=>bY di λr' U3=>?_
  erw[he _ _ _ r' U3]
  exact GJ (A:=A.in1) R r' hx U3 e hu2 hu1
 .erw[<-Array.any_toList]
  show Q (.bool (!us.any _)) s
  erw[k1]
  exact hQ
theorem E8(R:Rel Y g σ s.heap)(hA:jM d Y.fr A)(hx:RelV Y.n g x v)(hy:RelV Y.n g y u)(h:rx σ op x y=some b):
 Wv (abD prog w) A Y g σ (ajf op v u) s (.bool b):=by
 intro E Q hQ
 have dD:Q (.bool b) s:=vB (E:=E) R hQ (.bool _)
 clear hQ
 cases op with
 |Eq=>
  revert h
  show (match U6 x y with|some b=>some b|none=>(σ.listOf x).bind λa=>(σ.listOf y).bind λb=>if a.length=b.length then none else some false)=some b->_
  cases e:U6 x y with
  |some c=>intro h;obtain rfl:=aac h;exact (JB hx hy e).1 dD
  |none=>intro h;exact OU R (wh hA) hx hy h dD
 |NotEq=>
  revert h
  show (match U6 x y with|some b=>some (!b)|none=>Yr σ x y)=some b->_
  cases e:U6 x y with
  |some c=>intro h;obtain rfl:=aac h;exact (JB hx hy e).2 dD
  |none=>intro h;exact OT R (wh hA) hx hy h dD
 |Is=>
  (refine ax h ?_;clear h;intro i e1 h)
  refine bC h λj e2 h2=>?_
  subst h2
  rw[kE e1]at hx
  rw[kE e2]at hy
  apply hx.lU;apply hy.lU
  exact wpAny_is_plain rfl (by revert dD;cases i <;> cases j <;> exact id)
 |IsNot=>
  cases y with
  |bool j=>
   refine bC h λi e1 h2=>?_
   subst h2
   rw[kE e1]at hx
   apply hx.lU;apply hy.lU
   exact wpAny_isNot_plain rfl (by revert dD;cases i <;> cases j <;> exact id)
  |none=>
   apply hy.pU
   cases x with
   |none=>obtain rfl:=aac h;apply hx.pU;exact wpAny_isNot_plain rfl dD
   |str _=>obtain rfl:=aac h;apply hx.fq;intro _;exact wpAny_isNot_plain rfl dD
   |_=>exact aq h
  |_=>exact aq h
 |Lt=>
  (refine ax h ?_;clear h;intro i e1 h)
  (refine ax h ?_;clear h;intro j e2 h)
  obtain rfl:=aac h
  rw[a5 e1]at hx
  rw[a5 e2]at hy
  apply hx.bV;intro _;apply hy.bV;intro _
  exact lt_int dD
 |LtE=>
  (refine ax h ?_;clear h;intro i e1 h)
  (refine ax h ?_;clear h;intro j e2 h)
  obtain rfl:=aac h
  rw[a5 e1]at hx
  rw[a5 e2]at hy
  apply hx.bV;intro _;apply hy.bV;intro _
  exact le_int dD
 |Gt=>
  (refine ax h ?_;clear h;intro i e1 h)
  (refine ax h ?_;clear h;intro j e2 h)
  obtain rfl:=aac h
  rw[a5 e1]at hx
  rw[a5 e2]at hy
  apply hx.bV;intro _;apply hy.bV;intro _
  exact PyProof.Rows.gt_int dD
 |GtE=>
  (refine ax h ?_;clear h;intro i e1 h)
  (refine ax h ?_;clear h;intro j e2 h)
  obtain rfl:=aac h
  rw[a5 e1]at hx
  rw[a5 e2]at hy
  apply hx.bV;intro _;apply hy.bV;intro _
  exact PyProof.Rows.ge_int dD
 |In=>exact OV R hx hy h dD
 |NotIn=>exact zQ R hA hx hy h dD
theorem m8(R:Rel Y g σ s.heap)(hx:RelV Y.n g x v)(h:((σ.listOf x).bind λxs=>if xs.length<2^62 then some (xs.length !=0) else none)=some b)
(hQ:∀tk,Q b {s with toks:=tk}):abJ (abD prog w) A (amd v) Q E s:=by
 refine ax h λxs h1 h2=>?_
 (refine dS h2 ?_;clear h2;intro q h2)
 (refine Ib (aD R hx h1) λa vs iB hl hv=>?_;obtain rfl:=iB)
 have e:=hv.length
 refine wpAny_truthy_list hl (by simp;exact %[(qC a)>9223372036854775808,b<(qL 2 62),b=a|aP q e]) ?_
 have e2:(!vs.toArray.isEmpty)=b:=by
  obtain rfl:=aac h2
  erw[e];cases vs <;> rfl
 erw[e2]
 exact hQ _
theorem wi(R:Rel Y g σ s.heap)(hx:RelV Y.n g x v)(h:tv σ x=some b):Wb (abD prog w) A Y g σ (amd v) s b:=by
 intro E Q hQ
 have dD:∀tk,Q b {s with toks:=tk}:=λtk=>hQ _ g (aW.refl _) (Gh.le.refl g) R ⟨rfl,rfl,rfl⟩
 clear hQ
 cases x with
 |bool _=>obtain rfl:=aac h;apply hx.lU;exact wpAny_truthy_bool (dD _)
 |int _=>obtain rfl:=aac h;apply hx.bV;intro _;exact truthy_int (dD _)
 |none=>obtain rfl:=aac h;apply hx.pU;exact λV V V=>dD _
 |lst _=>exact m8 R hx h dD
 |bor _=>exact m8 R hx h dD
 |own _=>exact m8 R hx h dD
 |_=>exact aq h
end
section
set_option tactic.hygienic true
variable{prog:aas}{w:abI}{A:adV}{Y:Lay}{g:Gh}{σ:bj}{s:aaD}{d:Nat}
theorem ry(slice:ado)(o i:aaq):∃ops,subscripted slice false o i=operate ops (getItem o i):=by
 cases slice with
 |Slice a b c _=>cases c <;> exact ⟨_,rfl⟩
 |_=>exact ⟨_,rfl⟩
theorem nQ{value slice:ado}{o i:aaq}{T id:String}{E Q:aaq->aaD->Prop}(hT:s.TypeIs o T)
(hl:typeLookup (.type T) "__getitem__"=pure (some (.builtin id)))(hg:abJ (abD prog w) A (getItem o i) Q E s):abJ (abD prog w) A (ajZ value slice o i) Q E s:=by
 refine bU (ry slice o i) λops h=>?_
 exact tail_any hT hl hg h
theorem OW(R:Rel Y g σ s.heap)(hx:RelV Y.n g x v)(hy:RelV Y.n g y u)(h:nK σ x y=some r):
 Wv (abD prog w) A Y g σ (ajZ value slice v u) s r:=by
 intro E Q hQ
 refine ax h λk e1 h3=>?_
 have:=a5 e1
 subst this
 split at h3
 .rename_i hk
  refine ax h3 λxs Yt GK=>?_
  apply RelV.bV hy;intro _
  rename_i tk
  have lst:σ.listOf x=some xs->abJ (abD prog w) A (ajZ value slice v (.int k tk)) Q E s:=λYt=>by
   (refine Ib (aD R hx Yt) λa vs iB hl hv=>?_;obtain rfl:=iB)
   refine bz (hv.get GK) λz hz hr=>?_
   exact nQ hl.typeIs akn.lookup (ana hl hk.1 %[a>(qL 2 63),aU (0>=a) (a>(qL 2 62))|(fK hk)] (by simpa using hz) (vB (E:=E) R hQ hr))
  cases x with
  |tup ys=>
   cases Yt
   (refine Ib (lx R hx) λa vs iB hl hv=>?_;obtain rfl:=iB)
   refine bz (hv.get GK) λz hz hr=>?_
   have bA:=(abb.mp hz).1
   exact nQ hl.typeIs slot_tuple_getitem.lookup (Rows.getItem_tuple hl %[(qG (qL 2 63))>=a,aU (0>=a) (a>(qL 2 62))|(fK hk)] %[a>(qL 2 63),aU (0>=a) (a>(qL 2 62))|(fK hk)] (seqIndex_of hk.1 (by simp;exact %[a>(qC a),b<a,qD 4 b a (0)|Gq bA rfl])) (by simpa using hz) (vB (E:=E) R hQ hr))
  |_=>exact lst Yt
 .exact aq h3
theorem ak.none:∀{xs:List AV} {vs:List aaq},ak n g xs vs->∀{i:Nat},xs[i]?=none->vs[i]?=none:=λh i hi=>by
 rw[akI]at *
 erw[<-h.length];exact hi
theorem ak.pick(h:ak n g xs vs):∀(is:List Nat),ak n g (is.filterMap (xs[·]?)) (is.filterMap (vs[·]?))
 |[]=>.nil
 |i::is=>by
  simp only[ahD]
  cases e:xs[i]? with
  |none=>rw[h.none e];exact h.pick is
  |some x=>
   refine bz (h.get e) λv e2 hv=>?_
   erw[e2];exact .cons hv (h.pick is)
theorem o0(hx:RelV Y.n g x v)(h:kz x=some p):IsPart v p/\∃q:Option (Int×Tok),v=partValue q/\q.map (·.1)=p:=by
 unfold kz at h
 split at h
 .obtain rfl:=aac h;apply RelV.pU hx;exact ⟨.none,none,rfl,rfl⟩
 .obtain rfl:=aac h;apply RelV.bV hx;intro _;rename_i i t;exact ⟨.int _ _,some (i,t),rfl,rfl⟩
 .exact aq h
theorem vC(x:Str)(t:Tok)(ql qu:Option (Int×Tok))(h1:(tA x (ql.map (·.1)) (qu.map (·.1))).length≠x.length):
 sliceMade x t ql qu none=.str ⟨((tA x (ql.map (·.1)) (qu.map (·.1))).filterMap (x.cps[·]?)).toArray⟩:=by
 unfold sliceMade
 rw[if_neg]
 .rfl
 .simp only[slicePicked,Option.map_none,Option.getD_none,beq_self_eq_true,Bool.true_and,beq_iff_eq]
  exact h1
theorem OX(R:Rel Y g σ s.heap)(hn:Y.n<=s.heap.objs.size){x lo hi st r:AV}{v vl vu vt:aaq}{value slice:ado}(hx:RelV Y.n g x v)(hlo:RelV Y.n g lo vl)(Vk:RelV Y.n g hi vu)(zo:RelV Y.n g st vt)
(h:CD σ x lo hi st=some r):
 Wv (abD prog w) A Y g σ (ajZ value slice v (.ref s.heap.objs.size)) {s with heap:=s.heap.push {cls:=.type "slice",data:=.fields #[vl,vu,vt]}} r:=by
 intro E Q hQ
 skip
 (refine ax h ?_;clear h;intro l Ck h)
 (refine ax h ?_;clear h;intro u hu1 h)
 (refine ax h ?_;clear h;intro t ht1 h)
 refine N4 (o0 hlo Ck) λpl ql el fl=>?_
 refine N4 (o0 Vk hu1) λpu qu eu fu=>?_
 refine N4 (o0 zo ht1) λpt qt et ft=>?_
 have R':Rel Y _ σ (s.heap.push {cls:=.type "slice",data:=.fields #[vl,vu,vt]}):=R.keep λV V e=>abo _ e
 split at h
 .split at h
  .rename_i hc
   obtain rfl:=aac h
   apply RelV.fq hx;intro _
   (have oY:=hc.1;have h1:=hc.2.1;have h2:=hc.2.2;clear hc;obtain rfl:=oY)
   have eqt:qt=none:=by cases qt <;> simp_all
   subst eqt
   refine nQ (aih _ _ _) F.slot_str_getitem.lookup (wpAny_getItem_str_slice (l:=ql) (u:=qu) (st:=none) ⟨_,ac0 _ rfl,rfl,by (erw[el,eu,et,rfl])⟩ rfl ?_)
   subst fl fu
   erw[vC _ _ _ _ h1]
   refine ⟨?_,?_⟩
   .show (aed _).size<=aa7
    erw[af4]
    exact abq (List.length_filterMap_le _ _) h2
   .exact hQ _ _ _ (aW.refl _) (Gh.le.refl _) R' ⟨rfl,rfl,rfl⟩ (.str _ _)
  .exact aq h
 .refine ax h λxs Yt GK=>?_
  split at GK
  .rename_i hc
   obtain rfl:=aac GK
   (refine Ib (aD R hx Yt) λa vs iB hl hv=>?_;obtain rfl:=iB)
   refine nQ (hl.push _).typeIs akn.lookup (wpAny_getItem_list_slice (hl.push _) (anu ..) pl pu pt hc.1 ?_ (by simp;have:=hv.length;lia))
   have e:slicePick vs.toArray l u t=(cB vs l u t).toArray:=by
    unfold slicePick cB
    simp
   erw[e]
   have JF:ak Y.n g (cB xs l u t) (cB vs l u t):=by
    unfold cB
    rw[hv.length]
    exact hv.pick _
   exact nO (E:=E) (s:={s with heap:=s.heap.push {cls:=.type "slice",data:=.fields #[vl,vu,vt]}}) (tk:=s.toks) R' (by simp[agE];exact %[a<=b+1,a<=b|aP hn]) hQ JF
  .exact aq GK
end
end Mine.Internal
end
section
open PySem PyProof PyProof.Rows PySem.W
open AutoSeq1 (wpAny_loadPart')
open MeetsSeq MeetsSeq2 MeetsSeq3 SeqRoads2 SeqAt
namespace Mine.Internal
section
theorem OY(l b:aa9)(items m9:Array aaq)(n n2:Nat)(dd R9:Option aa9)(sl we:Array (Option aaq))(x y:aaq)(c:Bool)(h1:items[0]?=some x)(h2:m9[0]?=some y)
(bA:∀(prog:aas) (w:abI) (A:adV) (E:aaq->aaD->Prop) (Q:aaq->aaD->Prop) (s:aaD),Q (.bool c) s->abJ (abD prog w) A (richCompare .Lt x y) Q E s):
 Meets (aim.«list.__eq__.loop» ⟨[.ref l,.ref b,rawInt 0,rawInt 0],[]⟩)
  (λA R s=>s.heap.get? l=some {cls:=.type "list",dict:=dd,data:=.seq items n,slots:=sl}/\s.heap.get? b=some {cls:=.type "list",dict:=R9,data:=.seq m9 n2,slots:=we}/\
   EqAt A.in1 s x y false/\R (.ok (.ret (.bool c))) s):=by
 intro prog w A R s h
 obtain ⟨hp,g,d,tk,os⟩:=s;refine bY h λhl dQ=>bY dQ λhb di=>bY di λhe h=>?_
 wp_walk using wpAny_loadPart' hl,wpAny_loadPart' hb
 have hi1:items[(0:Int).toNat]?=some x:=h1
 have hi2:m9[(0:Int).toNat]?=some y:=h2
 erw[hi1,hi2]
 refine aaH (he prog w _ _ ?_)
 wp_walk using wpAny_loadPart' hl,wpAny_loadPart' hb
 erw[hi1,hi2]
 refine aaH (bA prog w _ _ _ _ ?_)
 wp_walk
 exact h
theorem zR(l b:aa9)(items m9:Array aaq)(n n2:Nat)(dd R9:Option aa9)(sl we:Array (Option aaq))(x y:aaq)(c:Bool)(h1:items[0]?=some x)(h2:m9[0]?=some y)
(bA:∀(prog:aas) (w:abI) (A:adV) (E:aaq->aaD->Prop) (Q:aaq->aaD->Prop) (s:aaD),Q (.bool c) s->abJ (abD prog w) A (richCompare .Lt x y) Q E s):
 Meets (aim.«list.__lt__» ⟨[.ref l,.ref b],[]⟩)
  (λA R s=>s.heap.get? l=some {cls:=.type "list",dict:=dd,data:=.seq items n,slots:=sl}/\s.heap.get? b=some {cls:=.type "list",dict:=R9,data:=.seq m9 n2,slots:=we}/\
   EqAt A.in1 s x y false/\R (.ok (.ret (.bool c))) s):=by
 intro prog w A R s h
 obtain ⟨hp,g,d,tk,os⟩:=s;refine bY h λhl dQ=>bY dQ λhb di=>bY di λhe h=>?_
 have f3:=AutoSeq1.sub_list_list
 wp_walk using wpAny_loadPart' hl,wpAny_loadPart' hb
 exact ⟨alG plain_eq_loop _,codeAny_builtin entry_eq_loop (by
  erw[ak7 plain_eq_loop _]
  exact OY l b items m9 n n2 dd R9 sl we x y c h1 h2 bA prog w A R _ ⟨hl,hb,he,h⟩)⟩
section
variable{prog:aas}{w:abI}{A:adV}{E:aaq->aaD->Prop}{s:aaD}
theorem GL{l b:aa9}{k j:Int}{t t':Tok}{v v':aaq}{Q:Bool->aaD->Prop}(OI:k≠j)(hl:s.heap.IsList l [.int k t,v].toArray)(hb:s.heap.IsList b [.int j t',v'].toArray)(hu:A.units<ajV)(h:Q (decide (k<j)) s):
 abJ (abD prog w) A (keyLt' ajl (.ref l) (.ref b)) Q E s:=by
 obtain ⟨⟨cls,dd,data,sl⟩,ho,hc,n,hd⟩:=id hl
 obtain ⟨⟨aeK,R9,data2,we⟩,ho2,Vj,n2,hd2⟩:=id hb
 simp only at hc hd Vj hd2
 subst hc hd Vj hd2
 erw[keyLt'_oneType ..,oneLt'_eq ..]
 skip
 refine aaH (wpAny_cRoomFor hu ?_)
 refine aaH (wpAny_callSpecialIfBound?_slot ⟨_,ho,rfl⟩ F.slot_list_lt (aiL F.slot_list_lt ⟨_,ho,rfl⟩ F.entry_list_lt (F.args_list_lt_2 _ _) (zR l b [.int k t,v].toArray [.int j t',v'].toArray n n2 dd R9 sl we (.int k t) (.int j t') (decide (k<j)) rfl rfl (λprog w A E Q s h=>lt_int h)) ⟨ho,ho2,?_,?_⟩))
 .have e:=(aiv k j t t').at (Around.in1 A) s
  rwa [beq_eq_false_iff_ne.mpr OI]at e
 .exact wpAny_truthy_bool h
theorem zS{α:Type}{κ:SortKind}{vs:List aaq}{c:Nat->Nat->Option Bool}{S:aaD}(hc:∀i j b,c i j=some b->∀C:Bool->aaD->Prop,C b S->ak4 prog w A κ vs i j C S){Q:α->aaD->Prop}{r:α}:
 ∀(t:KasT α),tD c t=some r->Q r S->t.kasWp (ak4 prog w A κ vs) Q S
 |.ret a,h,q=>by obtain rfl:=aac h;exact q
 |.ask i j k,h,q=>by
  refine ax (o:=c i j) (f:=λb=>tD c (k b)) h λb e h=>?_
  exact hc i j b e _ (zS hc (k b) h q)
end
section
variable{prog:aas}{w:abI}{A:adV}{E:aaq->aaD->Prop}{s:aaD}
theorem GN{a:aa9}{vs:List aaq}{n:Nat}{T:aaq}{p:Array Nat}{P:ajO->aaD->Prop}(ho:s.heap.get? a=some (seqObj "list" vs.toArray n))(h2:2<=vs.length)(NW:vs.length<64)
(hT:∀h,(∀b o,b≠a->s.heap.get? b=some o->h.get? b=some o)->∀v∈vs,Looks (abD prog w) h (typeOf v) T)(hT1:(T !=akq "tuple")=true)(hT2:(T==T)=true)
{c:Nat->Nat->Option Bool}(hr:tD c (ai0 vs.length)=some p)
(hc:∀S:aaD,(∀b o,b≠a->s.heap.get? b=some o->S.heap.get? b=some o)->∀i j b,c i j=some b->∀C:Bool->aaD->Prop,C b S->ak4 prog w A ajl vs i j C S)
(h:P (.done (.ret .none)) {s with heap:=sortedHeap s.heap a vs (p.toList.map λi=>vs.getD i ae1).toArray}):
 abJ (abD prog w) A (aim.«list.sort» ⟨[.ref a],[]⟩) P E s:=by
 have ha:a<s.heap.objs.size:=abZ ho
 obtain ⟨e1,ho1⟩ :∃e1,(s.heap.update a (agi λ_=>(#[]:Array aaq))).get? a=some (seqObj "list" #[] e1):=⟨_,get?_update_seq ho λ_=>#[]⟩
 have keep:∀b o,b≠a->s.heap.get? b=some o->(((s.heap.update a (agi λ_=>(#[]:Array aaq))).push (seqObj "tuple" vs.toArray 0)).push (seqObj "list" #[] 0)).get? b=some o:=λb o hb e=>
  abo _ (abo _ (by rw[ajB _ _ _ _ hb];exact e))
 have hoa:(((s.heap.update a (agi λ_=>(#[]:Array aaq))).push (seqObj "tuple" vs.toArray 0)).push (seqObj "list" #[] 0)).get? a=some (seqObj "list" #[] e1):=abo _ (abo _ ho1)
 rw[list_sort_plain]
 refine aaH (listItems_at ho rfl ?_)
 refine aaH (listUpdate_at ho rfl ?_ (by rw[af4,aiV];exact %[a<=16777216,a<64|aG NW]) (ae7 _))
 refine aaH (seqEpoch_at ho1 rfl ?_)
 refine aaH (wpAny_newTuple ?_ (by show vs.length<=_;rw[aiV];exact %[a<=16777216,a<64|aG NW]))
 refine aaH (alE ?_ (ae7 _))
 refine ahn ?_
 show abJ (abD prog w) A _ P E {s with heap:=((s.heap.update a (agi λ_=>(#[]:Array aaq))).push (seqObj "tuple" vs.toArray 0)).push (seqObj "list" #[] 0)}
 dsimp only
 have JG:¬vs.toArray.size<2:=by rw[af4];exact %[cu (a<2),2<=a|aG h2]
 rw[if_neg JG,if_neg JG]
 refine aaH (kas_kind h2 (hT _ keep) hT1 hT2 ?_)
 have est:alx ajl (vs.toArray.zip vs.toArray) #[] 7 none=kas_st ajl (ak8 vs) (aed (aai vs.length)):=by
  have e:=kas_range (ak8 vs)
  rw[pairsOf_size]at e
  show alx ajl (ak8 vs) #[] 7 none=alx ajl ((aed (aai vs.length)).map (kas_item (ak8 vs))) #[] 7 none
  rw[e]
 generalize hS:({s with heap:=((s.heap.update a (agi λ_=>(#[]:Array aaq))).push (seqObj "tuple" vs.toArray 0)).push (seqObj "list" #[] 0)}:aaD)=S at *
 have ask:(ai0 vs.length).kasWp (ak4 prog w A ajl vs) (λp' s'=>p'=p/\s'=S) S:=zS (hc S (hS▸keep)) _ hr ⟨rfl,rfl⟩
 rw[kas_ask_eq]at ask
 have run:=kas_runs (E:=E) (Q:=λ_ st' s'=>arrOf st'=p.map (kas_item (ak8 vs))/\failedOf st'=none/\p.size=vs.length/\s'=S)
  h2 NW (λp' st' s' a1 a2 a3 a4=>by obtain ⟨rfl,rfl⟩:=a4;exact ⟨a2,a3,a1,rfl⟩) ask
 rw[<-est]at run
 refine aaH (wpAny_mono run ?_ λ_ _ e=>e)
 rintro ⟨⟨⟩,st'⟩ s' ⟨har,hf,hp,rfl⟩
 subst hS
 dsimp only
 have aeO:(arrOf st').map (·.2)=aed (p.toList.map λi=>vs.getD i ae1):=by
  apply ahv.mp
  rw[har,Array.map_map,Array.toList_map]
  exact abG λi _=>by show (kas_item (ak8 vs) i).2=_;rw[kas_item_eq]
 have cL:(aed (p.toList.map λi=>vs.getD i ae1)).size=vs.length:=by rw[af4,aan,ahB,hp]
 rw[aeO]
 refine aaH (seqEpoch_at hoa rfl ?_)
 refine aaH (listUpdate_at hoa rfl ?_ (ae7 _) (abq (afr cL) (by rw[aiV];exact %[a<=16777216+1,a<64|aG NW])))
 rw[hf]
 simp only[bne_self_eq_false,aeG,if_false]
 exact adG h
theorem CJ{l:aa9}{vs:List aaq}{T:aaq}{p:Array Nat}{Q:aaq->aaD->Prop}(hl:s.heap.IsList l vs.toArray)(h2:2<=vs.length)(NW:vs.length<64)
(hT:∀h,(∀b o,s.heap.get? b=some o->h.get? b=some o)->∀v∈vs,Looks (abD prog w) h (typeOf v) T)(hT1:(T !=akq "tuple")=true)(hT2:(T==T)=true)
{c:Nat->Nat->Option Bool}(hr:tD c (ai0 vs.length)=some p)
(hc:∀A':adV,A'.units<=A.units+2->∀S:aaD,(∀b o,s.heap.get? b=some o->S.heap.get? b=some o)->∀i j b,c i j=some b->∀C:Bool->aaD->Prop,C b S->ak4 prog w A' ajl vs i j C S)
(h:Q (.ref (s.heap.objs.size+1)) {s with heap:=sortedAll s.heap vs (p.toList.map λi=>vs.getD i ae1).toArray}):
 abJ (abD prog w) A (call (.builtin "sorted") [.ref l]) Q E s:=by
 refine ahX kind_sorted plain_sorted entry_sorted (args_sorted1 _) ?_
 unfold aim.«sorted»
 refine aaH (m:=checkCount "sorted" 1 1 _) (adG ?_)
 refine aaH (collect_list hl ?_ (by erw[aiV];exact %[a<=16777216,a<64|aG NW]))
 refine aaH (alE ?_ (by erw[aiV];exact %[a<=16777216,a<64|aG NW]))
 have cL:((s.heap.push (seqObj "list" #[] 0)).update s.heap.objs.size (agi (· ++vs.toArray))).objs.size=s.heap.objs.size+1:=by
  erw[Heap.size_update ..,size_push' ..,rfl]
 have hoL:(((s.heap.push (seqObj "list" #[] 0)).update s.heap.objs.size (agi (· ++vs.toArray))).push (seqObj "list" vs.toArray 0)).get? (s.heap.objs.size+1)=some (seqObj "list" vs.toArray 0):=by
  erw[<-cL];exact ac0 _ rfl
 have keep:∀b o,s.heap.get? b=some o->b≠s.heap.objs.size+1/\(((s.heap.push (seqObj "list" #[] 0)).update s.heap.objs.size (agi (· ++vs.toArray))).push (seqObj "list" vs.toArray 0)).get? b=some o:=λb o q=>by
  have bA:b<s.heap.objs.size:=abZ q
  refine ⟨ac4 (agU bA),?_⟩
  erw[amj _ _ _ (by rw[cL];exact ac4 (agU bA)),ajB _ _ _ _ (ac4 bA),amj _ _ _ (ac4 bA)]
  exact q
 show abJ _ _ _ _ _ {s with heap:=((s.heap.push (seqObj "list" #[] 0)).update s.heap.objs.size (agi (· ++vs.toArray))).push (seqObj "list" vs.toArray 0)}
 erw[cL]
 refine aaH (ahn (akB slot_list_sort ⟨_,hoL,rfl⟩ entry_list_sort (GN (T:=T) hoL h2 NW (λh k=>hT h λb o e=>k b o (keep b o e).1 (keep b o e).2) hT1 hT2 hr (λS k=>hc _ ?_ S λb o e=>k b o (keep b o e).1 (keep b o e).2) ⟨_,rfl,?_⟩) (args_list_sort _)))
 .simp
 .exact adG ⟨_,rfl,h⟩
end
end
end Mine.Internal
end
section
open PySem PyProof PyProof.Rows
namespace Mine.Internal
section
variable{prog:aas}{w:abI}{A:adV}{Y:Lay}{g:Gh}{σ:bj}{s:aaD}{d:Nat}
noncomputable def iG(l:List Env):List aa9:=dT l++aX.map (·.P)
theorem Rel.zT(R:Rel Y g σ h)(e:g.z a=some o):a∉iG Y.fr:=λhm=>by
 rcases abQ.mp hm with hm|hm
 .exact R.OG e hm
 .refine bz (ac2.mp hm) λt ht q=>?_
  exact R.U0 e t ht q
theorem Rel.JH(R:Rel Y g σ h)(e:a∈Y.bu g)(hf:a∉dT Y.fr):a∉iG Y.fr:=λhm=>by
 rcases abQ.mp hm with hm|hm
 .exact hf hm
 .refine bz (ac2.mp hm) λt ht q=>?_
  exact R.tl e t ht q
structure tG (base h:adF) (l:List Env):Prop where
 off:∀t∈aX,base.get? t.P=none
 Se:∀t∈aX,h.get? t.P=some (ji #[])\/∃t'∈aX,t'.P=t.P/\∃c oc vs tt,h.get? t.P=some (ji (t'.item c))/\c∉iG l/\h.get? c=some oc/\oc.data=.fields vs/\vs[1]?=some (.str t'.qual tt)
theorem Rel.Sf{h:adF}{base:adF}(R:Rel Y g σ h)(hb:KS base Y.base):tG base h Y.fr:=by
 refine ⟨λt ht=>?_,λt ht=>?_⟩
 .cases e:base.get? t.P with
  |none=>rfl
  |some o=>have:=R.base _ _ (hb _ _ e);rw[(R.d6 t ht).1]at this;exact aq this
 .rcases R.tabs t ht with x | ⟨t',zI,hp,c,oc,vs,tt,h1,h2,h3⟩
  .exact .inl x
  .exact .inr ⟨t',zI,hp,c,oc,vs,tt,h1,R.zT h2,R.eQ _ _ h2,h3⟩
noncomputable def f7(F:List aa9)(H:List (aa9×Obj))(h:adF):aa9->Option Obj:=λa=>if a∈H.map (·.1)\/a∈F then none else h.get? a
theorem dN:f7 F H h a=some o↔(a∉H.map (·.1)/\a∉F)/\h.get? a=some o:=by
 unfold f7
 split
 .rename_i q;exact ⟨λe=>(by exact aq e),λx=>by rcases q with q|q;exact absurd q x.1.1;exact absurd q x.1.2⟩
 .rename_i q;exact ⟨λx=>⟨⟨λy=>q (.inl y),λy=>q (.inr y)⟩,x⟩,λx=>x.2⟩
noncomputable def vD(prog:aas)(w:abI)(d:Nat)(base:adF)(f:aaq)(xs:List AV)(res:AV):Prop:=
 ∀(l:List Env) (A:adV) (s:aaD) (vs:List aaq) (E Q:aaq->aaD->Prop),jM d l A->KS base s.heap->s.heap.FunFrames base l->tG base s.heap l->ak 0 ⟨f7 (iG l) [] s.heap,[]⟩ xs vs->
  (∀v s',aW ⟨dT l,aX⟩ s.heap s'.heap->a9 s s'->RelV s.heap.objs.size ⟨s'.heap.get?,[]⟩ res v->Q v s')->abJ (abD prog w) A (call f vs []) Q E s
noncomputable def xY(f:AV->Bool):AV->Bool
 |.none=>true
 |.bool _=>true
 |.int _=>true
 |.str _=>true
 |.lst xs=>xs.all f
 |.tup xs=>xs.all f
 |_=>false
noncomputable def fresh:Nat->AV->Bool
 |0=>xY λV=>false
 |n+1=>xY (fresh n)
section
variable{n n':Nat}{g':Gh}{xs ys:List AV}{vs:List aaq}
theorem ak.tH(hp:∀x v,p x=true->RelV n g x v->RelV n' g' x v)(h:xs.all p=true)(r:ak n g xs vs):ak n' g' xs vs:=
 ak.ind (P:=λxs vs=>xs.all p=true->ak n' g' xs vs) (λV=>.nil) (λx v xs vs a V k h=>by
  rw[akS,aap]at h
  exact .cons (hp _ _ h.1 a) (k h.2)) r h
theorem pX(hn:n'<=n)(hz:∀a o,n<=a->g.z a=some o->g'.z a=some o)(ih:∀x v,f x=true->RelV n g x v->RelV n' g' x v)(x:AV)(v:aaq)(hf:xY f x=true)(h:RelV n g x v):RelV n' g' x v:=by
 cases x with
 |none=>apply h.pU;exact .none
 |bool _=>apply h.lU;exact .bool _
 |int _=>apply h.bV;intro _;exact .int _ _
 |str _=>apply h.fq;intro _;exact .str _ _
 |lst xs=>exact h.inv (G:=RelV n' g' (.lst xs)) λvs a o e h1 h2 h3 h4 h5=>.lst (abq hn h1) (hz _ _ h1 h2) h3 h4 (ak.tH ih hf h5)
 |tup xs=>exact h.inv (G:=RelV n' g' (.tup xs)) λvs a o e h1 h2 h3 h4 h5=>.tup (abq hn h1) (hz _ _ h1 h2) h3 h4 (ak.tH ih hf h5)
 |_=>exact fT hf
theorem CK(hn:n'<=n)(hz:∀a o,n<=a->g.z a=some o->g'.z a=some o)(k:Nat):∀(x:AV) (v:aaq),fresh k x=true->RelV n g x v->RelV n' g' x v:=by
 induction k with
 |zero=>exact pX hn hz λV V h=>fT h
 |succ k ih=>exact pX hn hz ih
theorem f9(hf:∀x y v,f x=some y->RelV n g x v->RelV n' g' y v)(h:xs.mapM f=some ys)(r:ak n g xs vs):ak n' g' ys vs:=
 ak.ind (P:=λxs vs=>∀ys,xs.mapM f=some ys->ak n' g' ys vs) (λys h=>by obtain rfl:=aac (show some []=some ys from h);exact .nil)
  (λx v xs vs a V k ys h=>by
   rw[ad4]at h
   refine ax h λy hy h=>ax h λr hr h=>?_
   obtain rfl:=aac h
   exact .cons (hf _ _ _ hy a) (k _ hr)) r ys h
theorem wj(R:Rel Y g σ s.heap)(ih:∀x y v,f x=some y->RelV Y.n g x v->RelV 0 ⟨f7 (iG Y.fr) [] s.heap,[]⟩ y v)(x y:AV)(v:aaq)(h:Jh σ f x=some y)(r:RelV Y.n g x v):RelV 0 ⟨f7 (iG Y.fr) [] s.heap,[]⟩ y v:=by
 cases x with
 |none=>obtain rfl:=aac h;apply r.pU;exact .none
 |bool _=>obtain rfl:=aac h;apply r.lU;exact .bool _
 |int _=>obtain rfl:=aac h;apply r.bV;intro _;exact .int _ _
 |str _=>obtain rfl:=aac h;apply r.fq;intro _;exact .str _ _
 |obj _=>obtain rfl:=aac h;apply r.nG;exact .obj _
 |lst xs=>
  refine bC h λys hy q=>?_
  subst q
  exact r.inv (G:=RelV 0 ⟨f7 (iG Y.fr) [] s.heap,[]⟩ (.bor ys)) λvs a o e h1 h2 h3 h4 h5=>.bor (dN.mpr ⟨⟨adH,R.zT h2⟩,R.eQ _ _ h2⟩) h3 h4 (f9 ih hy h5)
 |bor xs=>
  refine bC h λys hy q=>?_
  subst q
  exact r.inv (G:=RelV 0 ⟨f7 (iG Y.fr) [] s.heap,[]⟩ (.bor ys)) λvs a o e h2 h3 h4 h5=>.bor (dN.mpr ⟨⟨adH,R.zT h2⟩,R.eQ _ _ h2⟩) h3 h4 (f9 ih hy h5)
 |own i=>
  (refine ax h ?_;clear h;intro xs hx h)
  refine bC h λys hy q=>?_
  subst q
  apply r.aeA
  intro a hk
  refine bz (R.own _ _ hk) λvs h1 h2=>?_
  rw[hx]at h2
  exact .bor (dN.mpr ⟨⟨adH,R.JH (aw.mpr (.inr (.inr (.inr (ade hk))))) (R.oU hk)⟩,h1.choose_spec⟩) rfl rfl (f9 ih hy h2)
 |_=>exact aq h
theorem JI(R:Rel Y g σ s.heap)(k:Nat):∀(x y:AV) (v:aaq),lM σ k x=some y->RelV Y.n g x v->RelV 0 ⟨f7 (iG Y.fr) [] s.heap,[]⟩ y v:=by
 induction k with
 |zero=>exact wj R λV V V h=>aq h
 |succ k ih=>exact wj R ih
theorem zU(h:ak n g xs vs)(hi:jl xs=some is):ak9 vs is:=
 ak.ind (P:=λxs vs=>∀is,jl xs=some is->ak9 vs is) (λis h=>by obtain rfl:=aac h;exact .nil) (λx v xs vs a V k is h=>by
  cases x with
  |str s=>exact bC (show (jl xs).map (s::·)=some is from h) λr hr q=>by subst q;apply a.fq;intro _;exact .cons _ _ (k r hr)
  |_=>exact aq h) h is hi
end
noncomputable def above(h0 h:adF):aa9->Option Obj:=λa=>match h0.get? a with|none=>h.get? a|some _=>none
theorem o3(e:h0.get? a=some o):above h0 h a=none:=by unfold above;erw[e,rfl]
theorem lz(e:h0.get? a=none):above h0 h a=h.get? a:=by unfold above;erw[e,rfl]
theorem Rel.Sg(R:Rel Y g σ h):∀a∈Y.bu g,∃o,h.get? a=some o:=by
 intro a ha
 rcases aw.mp ha with ha|ha|ha|ha
 .obtain ⟨f,⟨o,_,_,h1,_⟩,_⟩:=R.ns a ha;exact ⟨o,h1⟩
 .obtain ⟨l,hl,hc⟩:=aiw.mp ha
  cases l with
  |ns _ _=>exact aq hc
  |cell c=>
   cases hc
   obtain ⟨i,hi⟩:=age hl
   obtain ⟨ov,⟨o,h1,_⟩,_⟩:=R.cell i a hi;exact ⟨o,h1⟩
 .obtain ⟨p,hp,rfl⟩:=ac2.mp ha
  exact ⟨_,R.held p hp⟩
 .obtain ⟨k,hk⟩:=age ha
  obtain ⟨vs,⟨_,h1⟩,_⟩:=R.own k a hk;exact ⟨_,h1⟩
theorem Rel.take(R:Rel Y g σ s.heap){s':aaD}(k:aW Y.lo s.heap s'.heap):Rel Y (g.add (above s.heap s'.heap)) σ s'.heap:=by
 have hz:∀a o,above s.heap s'.heap a=some o->s'.heap.get? a=some o/\s.heap.get? a=none:=λa o e=>by
  unfold above at e
  split at e
  .rename_i q;exact ⟨e,q⟩
  .exact aq e
 have jj:=Gh.dj g (above s.heap s'.heap)
 have tabs:∀t∈aX,TabAt aX (g.add (above s.heap s'.heap)).z s'.heap t.P:=λt ht=>by
  have jD:t.P∉dT Y.fr:=(R.d6 t ht).2.2
  rcases R.tabs t ht with x | ⟨t',zI,hp,c,oc,vs,tt,h1,h2,h3⟩
  .rcases k _ _ x with ⟨sl,e1,n1⟩ | ⟨_,_,t',zI,hp,c,hc,hg,c',oc,vs,tt,q,hgc,hd,hv⟩
   .rw[n1 jD]at e1;exact .inl e1
   .cases q
    refine .inr ⟨t',zI,hp,c,oc,vs,tt,hg,?_,hd,hv⟩
    have hcn:s.heap.get? c=none:=by
     cases q:s.heap.get? c with
     |none=>rfl
     |some o=>exact absurd (hc c o q) (adP _)
    have hzc:g.z c=none:=by
     cases q:g.z c with
     |none=>rfl
     |some o=>have:=R.eQ _ _ q;rw[hcn]at this;exact aq this
    show (g.z c).or (above s.heap s'.heap c)=some oc
    erw[hzc,ai7,lz hcn];exact hgc
  .refine bz (k.dat h1 (λq=>by injection q with q;exact t'.ne c q)) λsl e1 n1=>?_
   rw[n1 jD]at e1
   exact .inr ⟨t',zI,hp,c,oc,vs,tt,e1,jj.1 _ _ h2,h3⟩
 have aat:∀t∈aX,above s.heap s'.heap t.P=none:=λt ht=>by
  (refine bU ((R.tabs t ht).there) λps hp=>?_);exact o3 hp
 refine ⟨λa o e=>?_,λa o e=>jj.1 _ _ (R.base a o e),R.nodup,R.de,λa ha=>?_,R.low,R.cZ,R.len,R.eS,λa ha=>?_,λi c hc=>?_,λj a ha=>?_,λp hp=>?_,FunFrames.keep k R.frames,R.mX,λL hL=>⟨?_,(R.mY L hL).2⟩,λt ht=>⟨?_,(R.d6 t ht).2⟩,tabs⟩
 .rcases ahY.mp (show (g.z a).or (above s.heap s'.heap a)=some o from e) with e | ⟨_,e⟩
  .exact k.get (R.eQ a o e) (R.OG e) (R.U0 e)
  .exact (hz a o e).1
 .refine bU (R.Sg a ha) λo ho=>?_
  show (g.z a).or (above s.heap s'.heap a)=none
  erw[R.off a ha,o3 ho];rfl
 .refine bz (R.ns a ha) λf h1 h2=>?_
  exact ⟨f,k.ns h1,λi x hx=>(h2 i x hx).mono jj⟩
 .refine bz (R.cell i c hc) λov h1 h2=>?_
  exact ⟨ov,k.cell h1,h2.mono jj⟩
 .refine bz (R.own j a ha) λvs h1 h3=>?_
  exact ⟨vs,k.plain h1 (R.oU ha),h3.mono jj⟩
 .exact k.get (R.held p hp) (R.sM hp) (R.tl (aw.mpr (.inr (.inr (.inl (adB hp))))))
 .refine N4 (afX R.frames hL) λ_ o ho _=>?_
  show (g.z L).or (above s.heap s'.heap L)=none
  erw[(R.mY L hL).1,o3 ho];rfl
 .show (g.z t.P).or (above s.heap s'.heap t.P)=none
  erw[(R.d6 t ht).1,aat t ht];rfl
theorem JK(R:Rel Y g σ s.heap){s':aaD}{a:aa9}{o:Obj}(ha:s.heap.objs.size<=a)(e:s'.heap.get? a=some o):(g.add (above s.heap s'.heap)).z a=some o:=by
 have h0:s.heap.get? a=none:=aho ha
 have:g.z a=none:=by
  cases q:g.z a with
  |none=>rfl
  |some o'=>have:=R.eQ _ _ q;rw[h0]at this;exact aq this
 show (g.z a).or (above s.heap s'.heap a)=some o
 erw[this,ai7,lz h0];exact e
end
end Mine.Internal
end
section
open PySem PyProof PyProof.Rows PySem.W
namespace Mine.Internal
section
section
variable{prog:aas}{w:abI}{A:adV}{Y:Lay}{g:Gh}{σ:bj}{s:aaD}{d:Nat}
theorem JL{E:aaq->aaD->Prop}{Q:aaq->aaD->Prop}{xs:List AV}{vs:List aaq}{h':adF}{D tk e:Nat}(R:Rel Y g σ s.heap)(hn:Y.n<=s.heap.objs.size)(hk:∀b o,s.heap.get? b=some o->h'.get? b=some o)
(hD:s.heap.objs.size<=D)(ho:h'.get? D=some {cls:=.type "list",data:=.seq vs.toArray e})
(hQ:∀v s' g',aW Y.lo s.heap s'.heap->g.le g'->Rel Y g' σ s'.heap->a9 s s'->RelV Y.n g' (.lst xs) v->Q v s')(hv:ak Y.n g xs vs):Q (.ref D) {s with heap:=h',toks:=tk}:=
 hQ _ _ _ (aW.of λa o=>hk a o) (Gh.dj _ _) (R.take (s':={s with heap:=h',toks:=tk}) (aW.of λa o=>hk a o)) ⟨rfl,rfl,rfl⟩
  (.lst (abq hn hD) (JK R (s':={s with heap:=h',toks:=tk}) hD ho) rfl rfl (hv.mono (Gh.dj _ _)))
theorem o4(x:Int):∀l:List Int,(eh.insI x l).Perm (x::l)
 |[]=>.refl _
 |y::r=>by
  unfold eh.insI
  split
  .exact .refl _
  .exact ((o4 x r).cons y).trans (.swap _ _ _)
theorem kF:∀l:List Int,(eh l).Perm l
 |[]=>.refl _
 |x::r=>(o4 x _).trans ((kF r).cons x)
theorem pY(x:Int):∀l:List Int,l.Pairwise (· <=·)->(eh.insI x l).Pairwise (· <=·)
 |[],_=>akX _ _
 |y::r,h=>by
  have hy:=ahK.mp h
  unfold eh.insI
  split
  .rename_i Vm
   exact ahK.mpr ⟨λz hz=>by
    rcases abk.mp hz with rfl|hz
    .exact Vm
    .exact Int.le_trans Vm (hy.1 z hz),h⟩
  .rename_i Vm
   refine ahK.mpr ⟨λz hz=>?_,pY x r hy.2⟩
   rcases abk.mp ((o4 x r).mem_iff.mp hz) with rfl|hz
   .exact ajU (akJ.mp Vm)
   .exact hy.1 z hz
theorem ip:∀l:List Int,(eh l).Pairwise (· <=·)
 |[]=>.nil
 |x::r=>pY x _ (ip r)
theorem zV{n:Nat}{g:Gh}:∀{vs:List aaq} {is:List Int},IntsAre vs is->ak n g (is.map .int) vs
 |_,_,.nil=>.nil
 |_,_,.cons i t h=>.cons (.int i t) (zV h)
theorem kG{h:adF}{vs:List aaq}{out:Array aaq}:∀b o,h.get? b=some o->(sortedAll h vs out).get? b=some o:=λb o e=>sortedAll_old e
theorem GO(R:Rel Y g σ s.heap)(hn:Y.n<=s.heap.objs.size){xs:List AV}{a:aa9}{us:List aaq}{l:List Int}(hl:s.heap.IsList a us.toArray)(hv:ak Y.n g xs us)(hi:bp xs=some l)(NW:l.length<64)
{E Q:aaq->aaD->Prop}(hQ:∀v s' g',aW Y.lo s.heap s'.heap->g.le g'->Rel Y g' σ s'.heap->a9 s s'->RelV Y.n g' (.lst ((eh l).map .int)) v->Q v s'):abJ (abD prog w) A (call (.builtin "sorted") [.ref a]) Q E s:=by
 have hI:=gF hv hi
 refine sorted_ints hl hI (by erw[hI.length];exact NW) λout ns' a1 a2 a3=>?_
 refine bU (sortedAll_at s.heap us out) λe he=>?_
 have hq:ns'=eh l:=ksm_same (a2.trans (kF l).symm) a3 (ip l)
 subst hq
 exact JL (E:=E) (tk:=s.toks) (vs:=out.toList) R hn kG (aki _) he hQ (zV a1)
theorem OZ{x:AV}{p:Int×Int}{G:AV->Prop}(h:aah x=some p)(k:G (.lst [.int p.1,.int p.2])):G x:=by
 cases x with
 |lst xs=>
  match xs,h with
  |[x,y],h=>
   refine ax (o:=eg x) h λi e h=>?_
   refine bC h λl e2 q=>?_
   subst q
   erw[a5 e,a5 e2]
   exact k
  |[],h=>exact aq h
  |[_],h=>exact aq h
  |_::_::_::_,h=>exact aq h
 |_=>exact aq h
theorem tI:∀{xs:List AV} {l:List (Int×Int)},tC xs=some l->l.length=xs.length/\∀(i:Nat) (p:Int×Int),l[i]?=some p->xs[i]?=some (.lst [.int p.1,.int p.2])
 |[],l,h=>by obtain rfl:=aac h;exact ⟨rfl,λi p e=>by cases e⟩
 |x::xs,l,h=>by
  refine ax h λp e h=>?_
  refine bC h λr hr q=>?_
  subst q
  obtain ⟨h1,h2⟩:=tI hr
  refine ⟨congrArg Nat.succ h1,λi q e'=>?_⟩
  cases i with
  |zero=>obtain rfl:=aac e';exact OZ (G:=λx=>some x=some (AV.lst [.int p.1,.int p.2])) e rfl
  |succ i=>exact h2 i q e'
theorem zW{n:Nat}{g:Gh}{xs:List AV}{us:List aaq}(h:ak n g xs us):∀is:List Nat,ak n g (is.map λi=>xs.getD i .none) (is.map λi=>us.getD i ae1)
 |[]=>.nil
 |i::is=>by
  refine .cons ?_ (zW h is)
  cases e:xs[i]? with
  |some x=>
   refine bz (h.get e) λv e1 r=>?_
   show RelV n g (xs.getD i .none) (us.getD i ae1)
   erw[(show xs.getD i .none=x by simp[aiO,e]),(show us.getD i ae1=v by simp[aiO,e1])]
   exact r
  |none=>
   have e1:=h.none e
   show RelV n g (xs.getD i .none) (us.getD i ae1)
   erw[(show xs.getD i .none=.none by simp[aiO,e]),(show us.getD i ae1=ae1 by simp[aiO,e1])]
   exact .none
theorem jm{h h':adF}{a:aa9}{xs:Array aaq}(l:h.IsList a xs)(k:∀b o,h.get? b=some o->h'.get? b=some o):h'.IsList a xs:=l.elim λo p=>⟨o,k _ _ p.1,p.2⟩
theorem JM(R:Rel Y g σ s.heap)(hn:Y.n<=s.heap.objs.size)(hA:jM d Y.fr A){xs:List AV}{a:aa9}{us:List aaq}{r:AV}(hl:s.heap.IsList a us.toArray)(hv:ak Y.n g xs us)(h:sQ xs=some r)
{E Q:aaq->aaD->Prop}(hQ:∀v s' g',aW Y.lo s.heap s'.heap->g.le g'->Rel Y g' σ s'.heap->a9 s s'->RelV Y.n g' r v->Q v s'):abJ (abD prog w) A (call (.builtin "sorted") [.ref a]) Q E s:=by
 refine ax h λl e h=>?_
 refine dS h λbq h=>?_
 refine bC h λp hp q=>?_
 subst q
 obtain ⟨n1,hat⟩:=tI e
 have n2:=hv.length
 have vv:∀(i:Nat) (p:Int×Int),l[i]?=some p->∃(b:aa9) (t t':Tok),us[i]?=some (.ref b)/\s.heap.IsList b [.int p.1 t,.int p.2 t'].toArray:=λi p hi=>by
  obtain ⟨v,e1,r1⟩:=hv.get (hat i p hi)
  obtain ⟨b,ws,rfl,l1,r2⟩:=aD R r1 rfl
  obtain ⟨v1,v2,rfl,ra,rb⟩:=iF r2
  cases ra;cases rb
  exact ⟨b,_,_,e1,l1⟩
 have hu:=hA.units
 have ec:ajV=9900:=rfl
 refine CJ (T:=.type "list") hl (by rw[<-n2,<-n1];exact bq.1) (by rw[<-n2,<-n1];exact bq.2) (λh k v JF=>?_) rfl rfl (c:=kA l) (p:=p) (by rw[<-n2,<-n1];exact hp) (λA' E9 S k i j b hc C hC=>?_) ?_
 .obtain ⟨i,hi,rfl⟩:=List.getElem_of_mem JF
  have Fa:i<l.length:=by rw[n1,n2];exact hi
  obtain ⟨b,_,_,e1,l1⟩:=vv i l[i] (abz Fa)
  rw[abz hi]at e1
  rw[aac e1]
  exact λA Q E s k' q=>wpAny_typeOf ((jm l1 λb o e=>k' b o (k b o e)).typeIs) q
 .refine ax hc λp hpi hc=>?_
  refine ax hc λq hqi hc=>?_
  refine Z7 hc λcW hc=>?_
  obtain rfl:=aac hc
  obtain ⟨b1,t1,u1,e1,l1⟩:=vv i p hpi
  obtain ⟨b2,t2,u2,e2,l2⟩:=vv j q hqi
  unfold ak4
  rw[show us.getD i .none=.ref b1 by simp[e1],show us.getD j .none=.ref b2 by simp[e2]]
  exact GL cW (jm l1 k) (jm l2 k) %[a<b,c+100*d<=9000,b=9900,a<=c+2|(d4 hu ec E9)] hC
 .obtain ⟨e,he⟩:=sortedAll_at s.heap us (p.toList.map λi=>us.getD i ae1).toArray
  exact JL (E:=E) (tk:=s.toks) (vs:=p.toList.map λi=>us.getD i ae1) R hn kG (aki _) he hQ (zW hv _)
theorem Vn(R:Rel Y g σ s.heap)(hn:Y.n<=s.heap.objs.size)(hA:jM d Y.fr A){x r:AV}{v:aaq}(hv:RelV Y.n g x v)(h:R2 σ x=some r):Wv (abD prog w) A Y g σ (call (.builtin "sorted") [v]) s r:=λE Q hQ=>by
 refine ax h λxs hx h=>?_
 obtain ⟨a,us,rfl,hl,hv⟩:=aD R hv hx
 unfold tE at h
 cases e:bp xs with
 |some l=>
  rw[e]at h
  obtain ⟨hc,rfl⟩:=aH h
  exact GO R hn hl hv e (of_decide_eq_true hc) hQ
 |none=>
  rw[e]at h
  exact JM R hn hA hl hv h hQ
end
end
end Mine.Internal
end
section
open PySem PyProof PyProof.Rows
namespace Mine.Internal
section
variable{prog:aas}{w:abI}{A:adV}{Y:Lay}{g:Gh}{σ:bj}{s:aaD}{d:Nat}
theorem wk{n:Nat}{f:AV->Option AV}{xs:List AV}{r:AV}{vs:List aaq}{G:List aaq->Prop}(h:tB f xs=some r)(hx:ak n g xs vs)(k:∀x v,RelV n g x v->f x=some r->G [v]):G vs:=by
 cases xs with
 |nil=>exact aq h
 |cons x ys=>
  apply hx.gD
  intro v us h1 h2
  cases ys with
  |nil=>apply h2.oR;exact k x v h1 h
  |cons _ _=>exact aq h
theorem aau{n:Nat}{f:AV->AV->Option AV}{xs:List AV}{r:AV}{vs:List aaq}{G:List aaq->Prop}(h:U8 f xs=some r)(hx:ak n g xs vs)(k:∀x v y u,RelV n g x v->RelV n g y u->f x y=some r->G [v,u]):G vs:=by
 cases xs with
 |nil=>exact aq h
 |cons x ys=>
  apply hx.gD
  intro v us h1 h2
  cases ys with
  |nil=>exact aq h
  |cons y zs=>
   apply h2.gD
   intro u ws h3 h4
   cases zs with
   |nil=>apply h4.oR;exact k x v y u h1 h3 h
   |cons _ _=>exact aq h
theorem Sh{m:Nat}(h:(m:Int)<2^62):(m:Int)<2^63:=%[(qC a)>(qL 2 63),(qC a)>(qL 2 62)|(aG h)]
section
variable{x y r:AV}{v u:aaq}
theorem aav(R:Rel Y g σ s.heap)(hv:RelV Y.n g x v)(h:Jm x=some r):Wv (abD prog w) A Y g σ (call (.builtin "chr") [v]) s r:=λE Q hQ=>by
 (refine ax h ?_;clear h;intro i e1 h)
 (refine bY (aH h) λhc oY=>?_;obtain rfl:=oY)
 rw[a5 e1]at hv
 apply hv.bV;intro _
 exact P.chr_of_int (alC.mpr ⟨decide_eq_false (ajK.mpr (bQ hc).1),decide_eq_false (ajK.mpr (bQ hc).2)⟩) (dD (E:=E) R hQ (.str _ _))
theorem aaw(R:Rel Y g σ s.heap)(hv:RelV Y.n g x v)(h:Jn x=some r):Wv (abD prog w) A Y g σ (call (.builtin "ord") [v]) s r:=λE Q hQ=>by
 (refine ax h ?_;clear h;intro i e1 h)
 (refine bY (aH h) λhc oY=>?_;obtain rfl:=oY)
 rw[eU e1]at hv
 apply hv.fq;intro _
 exact ord_of_one (of_decide_eq_true hc) (dD (E:=E) R hQ (.int _ _))
theorem Vo(R:Rel Y g σ s.heap)(hv:RelV Y.n g x v)(e:(σ.listOf x).map ag9=some m)(h:Jo m=some r):Wv (abD prog w) A Y g σ (call (.builtin "len") [v]) s r:=λE Q hQ=>by
 refine bC e λys hy hm=>?_
 obtain ⟨hc,rfl⟩:=aH h
 obtain ⟨a,us,rfl,hl,hu⟩:=aD R hv hy
 have e:us.toArray.size=m:=hu.length.symm.trans hm
 refine Rows.len_list hl (by erw[e];exact Sh (of_decide_eq_true hc)) ?_
 erw[e]
 exact dD (E:=E) R hQ (.int _ _)
theorem aax(R:Rel Y g σ s.heap)(hv:RelV Y.n g x v)(h:U9 σ x=some r):Wv (abD prog w) A Y g σ (call (.builtin "len") [v]) s r:=by
 refine ax h λm e hm=>?_
 clear h
 cases x with
 |str z=>
  obtain rfl:=aac e
  intro E Q hQ
  (refine bY (aH hm) λhc oY=>?_;obtain rfl:=oY)
  apply hv.fq;intro _
  exact P.len_str (akJ.mpr (Sh (of_decide_eq_true hc))) (dD (E:=E) R hQ (.int _ _))
 |_=>exact Vo R hv e hm
theorem aay(hA:A.handled=none)(R:Rel Y g σ s.heap)(hv:RelV Y.n g x v)(h:Jp σ x=some r):Wv (abD prog w) A Y g σ (call (.builtin "sum") [v]) s r:=λE Q hQ=>by
 refine bC h λl hl q=>?_
 subst q
 refine ax hl λys hy Ck=>?_
 obtain ⟨a,us,rfl,hl,hv⟩:=aD R hv hy
 have hI:=gF hv Ck
 refine bU hI.allInts.items λxs Si=>?_
 rw[Si]at hl
 refine sum_intListG hA hl λh' tk t' hk=>?_
 have e:preSum (numAt xs) xs.size=l.sum:=by
  erw[<-hI.numsOf,(show us=us.toArray.toList from rfl),Si,nums_intItems ..,preSum_eq ..,ahV (afr (by (erw[aan ..,ahB,rfl]))),rfl]
 erw[e]
 exact hQ _ _ g (aW.of hk) (Gh.le.refl g) (R.keep hk) ⟨rfl,rfl,rfl⟩ (.int _ _)
theorem aaz(hA:A.handled=none)(R:Rel Y g σ s.heap)(hv:RelV Y.n g x v)(h:aag σ x=some r):Wv (abD prog w) A Y g σ (call (.builtin "max") [v]) s r:=λE Q hQ=>by
 refine bC h λm hm q=>?_
 subst q
 refine ax hm λl hl hm=>?_
 refine ax hl λys hy Ck=>?_
 obtain ⟨a,us,rfl,hl,hv⟩:=aD R hv hy
 have hI:=gF hv Ck
 refine bU hI.allInts.items λxs e=>?_
 have lN:l=xs.toList.map (·.1):=by
  erw[<-hI.numsOf,<-nums_intItems ..,<-e,rfl]
 have cW:l≠[]:=by rintro rfl;exact aq hm
 have cL:0<xs.size:=by
  have h3:0<l.length:=List.length_pos_iff.mpr cW
  rw[lN,aan,ahB]at h3;exact h3
 rw[show us.toArray=intItems xs from e]at hl
 refine max_intList hA hl cL λv h' tk hv hk=>?_
 (refine bU (intItems_at hv) λt oY=>?_;obtain rfl:=oY)
 refine bY (argBest_gt (numAt xs) (xs.size-1)) λh1 h2=>?_
 have hM:l.max?=some (numAt xs (argBest (λi j=>decide (numAt xs i>numAt xs j)) (xs.size-1))):=by
  refine List.max?_eq_some_iff.mpr ⟨?_,λb hb=>?_⟩
  .erw[lN,numAt_eq ..];exact getD_mem (by (erw[aan ..,ahB]);exact %[a<b,0<b,a<=c,qD 0 c b (1)|bJ cL h1 rfl])
  .rw[lN]at hb
   (refine bz (mem_getD hb) λj hj cc=>?_;obtain rfl:=cc)
   rw[aan,ahB]at hj
   erw[<-numAt_eq ..];exact h2 j %[a<=b,a<c,qD 0 b c (1)|(bJ hj rfl)]
 rw[hM]at hm
 obtain rfl:=aac hm
 exact hQ _ _ g (aW.of hk) (Gh.le.refl g) (R.keep hk) ⟨rfl,rfl,rfl⟩ (.int _ _)
theorem aeQ(R:Rel Y g σ s.heap)(hn:Y.n<=s.heap.objs.size)(hv:RelV Y.n g x v)(hu:RelV Y.n g y u)(h:dmK x y=some r):Wv (abD prog w) A Y g σ (call (.builtin "divmod") [v,u]) s r:=λE Q hQ=>by
 refine ax h λi e1 h=>ax h λj e2 h=>?_
 rw[a5 e1]at hv
 rw[a5 e2]at hu
 (refine bY (aH h) λhc oY=>?_;obtain rfl:=oY)
 apply hv.bV;intro _;apply hu.bV;intro _
 refine divmod_int (bQ hc).1 ?_ (.inl (noPylong_of_log2 (bQ hc).2))
 exact Jy (E:=E) (vs:=[.int _ _,.int _ _]) R hn hQ (.cons (.int _ _) (.cons (.int _ _) .nil))
end
theorem O0(R:Rel Y g σ s.heap)(hn:Y.n<=s.heap.objs.size)(hA:jM d Y.fr A){b:String}{r:AV}{xs:List AV}{vs:List aaq}(hx:ak Y.n g xs vs)(h:zL σ b xs=some r):Wv (abD prog w) A Y g σ (call (.builtin b) vs) s r:=by
 refine aal λG k=>?_
 refine CA h (λq h=>?_) λV h=>?_
 .subst q;exact k (wk (G:=λvs=>Wv (abD prog w) A Y g σ (call (.builtin "chr") vs) s r) h hx λx v a e=>aav R a e)
 refine CA h (λq h=>?_) λV h=>?_
 .subst q;exact k (wk (G:=λvs=>Wv (abD prog w) A Y g σ (call (.builtin "ord") vs) s r) h hx λx v a e=>aaw R a e)
 refine CA h (λq h=>?_) λV h=>?_
 .subst q;exact k (wk (G:=λvs=>Wv (abD prog w) A Y g σ (call (.builtin "len") vs) s r) h hx λx v a e=>aax R a e)
 refine CA h (λq h=>?_) λV h=>?_
 .subst q;exact k (wk (G:=λvs=>Wv (abD prog w) A Y g σ (call (.builtin "sum") vs) s r) h hx λx v a e=>aay hA.hand R a e)
 refine CA h (λq h=>?_) λV h=>?_
 .subst q;exact k (aau (G:=λvs=>Wv (abD prog w) A Y g σ (call (.builtin "divmod") vs) s r) h hx λx v y u a b e=>aeQ R hn a b e)
 refine CA h (λq h=>?_) λV h=>?_
 .subst q;exact k (wk (G:=λvs=>Wv (abD prog w) A Y g σ (call (.builtin "max") vs) s r) h hx λx v a e=>aaz hA.hand R a e)
 refine CA h (λq h=>?_) λV h=>aq h
 .subst q;exact k (wk (G:=λvs=>Wv (abD prog w) A Y g σ (call (.builtin "sorted") vs) s r) h hx λx v a e=>Vn R hn hA a e)
theorem JN(R:Rel Y g σ s.heap)(hn:Y.n<=s.heap.objs.size)(hA:jM d Y.fr A)(hb:KS base s.heap)(jD:s.heap.FunFrames base Y.fr)(hTb:tG base s.heap Y.fr)(hRC:∀f xs res,RF f xs=some res->fresh 4 res=true/\vD prog w d base f xs res)
(hf:RelV Y.n g x fv)(hx:ak Y.n g xs vs)(h:f5 RF σ x xs=some r):Wv (abD prog w) A Y g σ (call fv vs) s r:=by
 cases x with
 |obj v=>
  apply hf.nG
  cases v with
  |builtin b=>exact O0 R hn hA hx h
  |ref f=>
   intro E Q hQ
   refine ax h λys hy hr=>?_
   refine bY (hRC _ _ _ hr) λaeR Vp=>?_
   refine Vp _ A s _ E Q hA hb jD hTb (f9 (JI R 3) hy hx) λv s' hk hs hv=>?_
   refine hQ v s' _ hk (Gh.dj _ _) (R.take hk) hs ?_
   exact CK hn (λa o ha e=>JK R ha e) 4 _ _ aeR hv
  |_=>exact aq h
 |_=>exact aq h
end
section
open Builtin Builtin.Str
variable{prog:aas}{w:abI}{A:adV}{Y:Lay}{g:Gh}{σ:bj}{s:aaD}{d:Nat}
theorem pZ:∀l:List (Str×Tok),ak n g ((l.map (·.1)).map .str) (strValues l)
 |[]=>.nil
 |(x,t)::l=>.cons (.str x t) (pZ l)
theorem GP(hy:(y.length==0)=false)
(hq:∀l tk,l.map (·.1)=am2 x y->Q (.ref s.heap.objs.size) {s with heap:=s.heap.push {cls:=.type "list",data:=.seq (strValues l).toArray},toks:=tk})
(aaA:x.length+2<=aa7):
 abJ (abD prog w) A (call (.builtin "str.split") [.str x t,.str y u]) Q E s:=by
 have cL:x.length<=aa7:=%[a<=b,a+2<=b|(aP aaA)]
 have aeS:(partsBetween x (amS x y 0 x.length (x.length+1)) y.length).length<=aa7:=by
  have e1:=StrLaws.occ_length_le x y 0 x.length (x.length+1)
  erw[length_partsBetween ..];exact %[a<b,c+2<=b,a<=c+1|bJ aaA e1]
 cases h1:(decide (x.length<y.length)||decide (strKind x<strKind y))
 .cases hf:(amS x y 0 x.length (x.length+1)).isEmpty
  .refine aiL ai2 (aih _ _ _) akc (ajQ _ _) (meets_str_split_sep x y t u h1 hy hf cL aeS) ?_
   show wants Q E _ {s with toks:=_,heap:=s.heap.push {cls:=.type "list",data:=.seq (strsFrom s.toks (partsBetween x (amS x y 0 x.length (x.length+1)) y.length)).toArray}}
   erw[strsFrom_eq ..]
   exact hq (numbered s.toks _) _ ((numbered_texts _ _).trans ((if_neg (ne_true_of_eq_false h1)).trans (if_neg (ne_true_of_eq_false hf))).symm)
  .exact aiL ai2 (aih _ _ _) akc (ajQ _ _) (meets_str_split_not_found x y t u h1 hy hf)
    (hq [(x,t)] _ ((if_neg (ne_true_of_eq_false h1)).trans (if_pos hf)).symm)
 .exact aiL ai2 (aih _ _ _) akc (ajQ _ _) (meets_str_split_cannot_occur x y t u h1)
   (hq [(x,t)] _ (if_pos h1).symm)
theorem JO(h:nM σ o nm xs=some r):∃T id,PlainAttrs T/\Slot T nm id/\typeOf (.builtin id)=pure (.type "method_descriptor")/\
 (∀(g:Gh) (v:aaq) (s:aaD),RelV Y.n g o v->s.TypeIs v T/\∀a,v≠.ref a)/\
 ∀(g:Gh) (s:aaD) (v:aaq) (vs:List aaq),Rel Y g σ s.heap->Y.n<=s.heap.objs.size->RelV Y.n g o v->ak Y.n g xs vs->Wv (abD prog w) A Y g σ (call (.builtin id) (v::vs)) s r:=by
 cases o with
 |str sx=>
  cases xs with
  |nil=>
   replace h:(if nm=adQ "lower" then bn (decide (sx.length<=5592405)) (.str (afe sx)) else none)=some r:=h
   split at h
   .rename_i Sj
    subst Sj
    obtain ⟨hc,rfl⟩:=aH h
    refine ⟨"str","str.lower",aks,F.slot_str_lower,F.type_str_lower,λg v s hv=>by apply RelV.fq hv;intro _;exact ⟨aih _ _ _,λa e=>by cases e⟩,λg s v vs R hn hv nR E Q hQ=>?_⟩
    apply RelV.fq hv;intro _;apply ak.oR nR
    exact SCL.lower (of_decide_eq_true hc) λV=>dD (E:=E) R hQ (.str _ _)
   .exact aq h
  |cons x0 rest=>
   cases rest with
   |cons _ _=>exact pW h
   |nil=>
    replace h:(if nm=adQ "join" then Jq σ sx x0 else if nm=adQ "split" then Jr sx x0 else none)=some r:=h
    split at h
    .rename_i Sj
     subst Sj
     refine ⟨"str","str.join",aks,F.slot_str_join,F.type_str_join,λg v s hv=>by apply RelV.fq hv;intro _;exact ⟨aih _ _ _,λa e=>by cases e⟩,λg s v vs R hn hv nR E Q hQ=>?_⟩
     (refine ax h ?_;clear h;intro l hl h)
     obtain ⟨hc,rfl⟩:=aH h
     (refine ax hl ?_;clear hl;intro ys hy hl)
     apply RelV.fq hv;intro _
     cases nR with
     |cons h1 h2=>
      apply ak.oR h2
      obtain ⟨a,us,rfl,hL,hus⟩:=aD R h1 hy
      exact Rows.join_list hL (zU hus hl) (of_decide_eq_true hc) λt' k=>dD (E:=E) R hQ (.str _ _)
    .split at h
     .rename_i Sj
      subst Sj
      refine ⟨"str","str.split",aks,ai2,F.type_str_split,λg v s hv=>by apply RelV.fq hv;intro _;exact ⟨aih _ _ _,λa e=>by cases e⟩,λg s v vs R hn hv nR E Q hQ=>?_⟩
      refine ax h λy e1 h3=>?_
      have:=eU e1
      subst this
      obtain ⟨hc,rfl⟩:=aH h3
      have hc:=bQ hc
      apply RelV.fq hv;intro _
      cases nR with
      |cons h1 h2=>
       apply ak.oR h2;apply RelV.fq h1;intro _
       refine GP (by simpa using hc.2) (λl tk hl=>?_) hc.1
       rw[<-hl]at hQ
       exact nO (E:=E) R hn hQ (pZ l)
     .exact aq h
 |int i=>
  cases xs with
  |cons _ _=>exact pW h
  |nil=>
   replace h:(if nm=adQ "bit_length" then some (.int (aae i)) else none)=some r:=h
   split at h
   .rename_i Sj
    subst Sj
    refine ⟨"int","int.bit_length",F.plainAttrs_int,alZ,F.type_int_bit_length,λg v s hv=>by apply RelV.bV hv;intro _;exact ⟨ald _ _ _,λa e=>by cases e⟩,λg s v vs R hn hv nR E Q hQ=>?_⟩
    obtain rfl:=aac h
    apply RelV.bV hv;intro _;apply ak.oR nR
    exact call_gives alZ (ald _ _ _) F.entry_int_bit_length (F.args_int_bit_length_1 _) (AutoIntG2.int_bit_length_int_0 _ _) (dD (E:=E) R hQ (.int _ _))
   .exact aq h
 |_=>exact pW h
end
section
set_option tactic.hygienic true
structure Cx (base:adF) (nm:NI) (env:Env) (Y:Lay):Prop where
 kind:env.scope.kind=.function
 names:∀x,nm.names.lookup x=env.kindOf x
 slots:∀x i,nm.slots.lookup x=some i->∃l,Y.lay[i]?=some l/\
  ((l=.ns env.locals x/\env.kindOf x=some .local)\/∃c,l=.cell c/\env.cells.lookup x=some c/\(env.kindOf x=some .cell\/env.kindOf x=some .free))
 dH:nm.ik=Y.lay.length
 az:∀x av,nm.az.lookup x=some av->∃v,(∀n g,RelV n g av v)/\∃mg,base.Ns env.globals mg/\(mg x=some v\/mg x=none/\∃mb,base.Ns env.builtins mb/\mb x=some v)
 keep:KS base Y.base
variable{prog:aas}{w:abI}{A:adV}{Y:Lay}{g:Gh}{σ:bj}{s:aaD}{d:Nat}{base:adF}{nm:NI}{env:Env}
theorem Rel.cC(R:Rel Y g σ s.heap):KS Y.base s.heap:=λa o e=>R.eQ a o (R.base a o e)
theorem lW(hk:KS base s.heap)(hg:base.Ns env.globals mg)
(hv:mg x=some v\/mg x=none/\∃mb,base.Ns env.builtins mb/\mb x=some v)(h:Q v s):abJ (abD prog w) A (loadGlobal env x) Q E s:=by
 rcases hv with hv | ⟨h1,mb,h2,h3⟩
 .exact Calls.loadGlobal_global (hg.keeps hk) hv h
 .exact Calls.loadGlobal_builtin (hg.keeps hk) h1 (h2.keeps hk) h3 h
theorem dp(C:Cx base nm env Y)(R:Rel Y g σ s.heap)(hc:bZ nm x=some ie)(h:aA RF ie σ=some r):
 Wv (abD prog w) A Y g σ (eval (.Name x pos) env) s r:=by
 intro E Q hQ
 unfold bZ at hc
 split at hc
 .exact aq hc
 .rename_i hx
  simp only[agh,not_or,amH]at hx
  split at hc
  .rename_i i hi
   obtain rfl:=aac hc
   obtain ⟨l,hl,h1⟩:=C.slots x i hi
   have hv:σ.vars[i]?.getD none=some r:=h
   rcases h1 with ⟨rfl,hk⟩ | ⟨c,rfl,cT,hk⟩
   .obtain ⟨f,hf,hs⟩:=R.ns env.locals (R.cZ _ _ _ hl)
    have h2:=hs i x hl
    rw[hv]at h2
    cases JP:f x with
    |none=>rw[JP]at h2;cases h2
    |some v=>
     rw[JP]at h2
     cases h2 with
     |some h3=>exact aig (aio C.kind hk hf JP (vB (E:=E) R hQ h3)) hx.1
   .obtain ⟨ov,xZ,h2⟩:=R.cell i c hl
    rw[hv]at h2
    cases h2 with
    |some h3=>
     rcases hk with hk|hk
     .exact aig (ajN C.kind hk cT xZ (vB (E:=E) R hQ h3)) hx.1
     .exact aig (aiB C.kind hk cT xZ (vB (E:=E) R hQ h3) hx.2) hx.1
  .split at hc
   .rename_i hk
    refine bC hc λav hav cc=>?_
    obtain rfl:=cc
    cases h
    obtain ⟨v,hv,mg,hg,hm⟩:=C.az x _ hav
    refine akt C.kind ((C.names x).symm.trans hk) ?_ hx.1
    exact lW (λa o e=>R.cC a o (C.keep a o e)) hg hm (vB (E:=E) R hQ (hv _ _))
   .exact aq hc
noncomputable abbrev vE(prog:aas)(w:abI)(d:Nat)(base:adF)(RF:cQ):Prop:=∀f xs res,RF f xs=some res->fresh 4 res=true/\vD prog w d base f xs res
theorem KS.trans(x:KS a b)(y:KS b c):KS a c:=λp o e=>y p o (x p o e)
theorem dE(R:Rel Y g σ s.heap){s':aaD}{g':Gh}(k:aW Y.lo s.heap s'.heap)(lN:∃a,a∈Y.dH/\Y.n<=a)(R':Rel Y g' σ s'.heap):Y.n<=s'.heap.objs.size:=by
 obtain ⟨a,ha,h1⟩:=lN
 have:=R'.live a (by simp[Lay.bu,ha])
 exact abq h1 (afo this)
noncomputable def SE(prog:aas)(w:abI)(d:Nat)(base:adF)(RF:cQ)(nm:NI)(env:Env)(Y:Lay)(e:ado)(ie:IE):Prop:=
 ∀A s g σ r,jM d Y.fr A->Rel Y g σ s.heap->aA RF ie σ=some r->Wv (abD prog w) A Y g σ (eval e env) s r
noncomputable def NX(prog:aas)(w:abI)(d:Nat)(base:adF)(RF:cQ)(nm:NI)(env:Env)(Y:Lay)(es:List ado)(ies:GC):Prop:=
 ∀A s g σ xs,jM d Y.fr A->Rel Y g σ s.heap->iE RF ies σ=some xs->∀(E:aaq->aaD->Prop) (Q:List aaq->aaD->Prop),
  (∀vs s' g',aW Y.lo s.heap s'.heap->g.le g'->Rel Y g' σ s'.heap->a9 s s'->ak Y.n g' xs vs->Q vs s')->abJ (abD prog w) A (spliced (es.map λe=>(false,eval e env))) Q E s
noncomputable def ST(prog:aas)(w:abI)(d:Nat)(base:adF)(RF:cQ)(nm:NI)(env:Env)(Y:Lay)(e:ado)(it:IT):Prop:=
 ∀A s g σ r,jM d Y.fr A->Rel Y g σ s.heap->iZ RF it σ=some r->Wb (abD prog w) A Y g σ (isTrue e env (eval e env)) s r
noncomputable def GQ(prog:aas)(w:abI)(d:Nat)(base:adF)(RF:cQ)(nm:NI)(env:Env)(Y:Lay)(es:List ado)(dK:zK):Prop:=
 ∀A s g σ r,jM d Y.fr A->Rel Y g σ s.heap->f6 RF dK σ=some r->Wb (abD prog w) A Y g σ (allTrue .And es env) s r
noncomputable def Yu(prog:aas)(w:abI)(d:Nat)(base:adF)(RF:cQ)(nm:NI)(env:Env)(Y:Lay)(es:List ado)(dK:zK):Prop:=
 ∀A s g σ r,jM d Y.fr A->Rel Y g σ s.heap->xW RF dK σ=some r->Wb (abD prog w) A Y g σ (allTrue .Or es env) s r
noncomputable def SO(prog:aas)(w:abI)(d:Nat)(base:adF)(RF:cQ)(nm:NI)(env:Env)(Y:Lay)(e:Option ado)(ie:IE):Prop:=
 ∀A s g σ r,jM d Y.fr A->Rel Y g σ s.heap->aA RF ie σ=some r->Wv (abD prog w) A Y g σ (evalPart e env) s r
variable{RF:cQ}
theorem Wv.then(h:Wv M A Y g σ t s a)
(hQ:∀v s' g',aW Y.lo s.heap s'.heap->g.le g'->Rel Y g' σ s'.heap->a9 s s'->RelV Y.n g' a v->Q v s'):abJ M A t Q E s:=h E Q hQ
theorem JQ(hs:∃a,a∈Y.dH/\Y.n<=a)(h1:SE prog w d base RF nm env Y l a)(h2:SE prog w d base RF nm env Y r b):
 SE prog w d base RF nm env Y (.BinOp l op r pos) (.bin op a b):=by
 intro A s g σ z hA R h E Q hQ
 replace h:((aA RF a σ).bind λx=>(aA RF b σ).bind λy=>cR σ op x y)=some z:=h
 refine ax h λx hx h=>?_
 refine ax h λy hy h=>?_
 refine aiU ((h1 A s g σ x hA R hx).then λv dx aR mt aY aQ aV bO=>(h2 A dx aR σ y hA aQ hy).then λu qm bD bb bt aM a6 cD=>?_)
 exact (OS aM (dE R (mt.trans bb) hs aM) hA (bO.mono bt) cD h).then λz ce gw cY fM bW cU iH=>hQ z ce gw ((mt.trans bb).trans cY) ((aY.trans bt).trans fM) bW ((aV.trans a6).trans cU) iH
theorem JR(Cm:ajW op r=false)(h1:SE prog w d base RF nm env Y l a)(h2:SE prog w d base RF nm env Y r b):
 SE prog w d base RF nm env Y (.Compare l [op] [r] pos) (.cmp op a b):=by
 intro A s g σ z hA R h E Q hQ
 skip
 (refine ax h ?_;clear h;intro x hx h)
 (refine ax h ?_;clear h;intro y hy h)
 refine bC h λc hc cc=>?_
 obtain rfl:=cc
 refine wpAny_Compare1 ((h1 A s g σ x hA R hx).then λv dx aR mt aY aQ aV bO=>(h2 A dx aR σ y hA aQ hy).then λu qm bD bb bt aM a6 cD=>?_) Cm
 exact (E8 aM hA (bO.mono bt) cD hc).then λz ce gw cY fM bW cU iH=>hQ z ce gw ((mt.trans bb).trans cY) ((aY.trans bt).trans fM) bW ((aV.trans a6).trans cU) iH
theorem JS(Cm:ajW op r=false)(h1:SE prog w d base RF nm env Y l a)(h2:SE prog w d base RF nm env Y r b):
 ST prog w d base RF nm env Y (.Compare l [op] [r] pos) (.val (.cmp op a b)):=by
 intro A s g σ z hA R h E Q hQ
 skip
 (refine ax h ?_;clear h;intro c hc h)
 (refine ax hc ?_;clear hc;intro x hx hc)
 (refine ax hc ?_;clear hc;intro y hy hc)
 refine bC hc λb' zy cc=>?_
 obtain rfl:=cc
 refine ajC ((h1 A s g σ x hA R hx).then λv dx aR mt aY aQ aV bO=>(h2 A dx aR σ y hA aQ hy).then λu qm bD bb bt aM a6 cD=>?_) Cm
 refine (E8 aM hA (bO.mono bt) cD zy).then λz ce gw cY fM bW cU iH=>?_
 exact wi bW iH h E Q λd7 x7 jo lO gf eV=>hQ d7 x7 (((mt.trans bb).trans cY).trans jo) (((aY.trans bt).trans fM).trans lO) gf (((aV.trans a6).trans cU).trans eV)
theorem JT(h1:SE prog w d base RF nm env Y x a):SE prog w d base RF nm env Y (.UnaryOp .USub x pos) (.neg a):=by
 intro A s g σ z hA R h E Q hQ
 skip
 (refine ax h ?_;clear h;intro x hx h)
 split at h
 .obtain rfl:=aac h
  refine wpAny_UnaryOp ((h1 A s g σ _ hA R hx).then λv dx aR mt aY aQ aV bO=>?_)
  apply RelV.bV bO;intro _
  exact neg_int (hQ _ _ aR mt aY aQ ⟨aV.1,aV.2,aV.3⟩ (.int _ _))
 .exact aq h
theorem JU(h1:SE prog w d base RF nm env Y x a):SE prog w d base RF nm env Y (.UnaryOp .Invert x pos) (.inv a):=by
 intro A s g σ z hA R h E Q hQ
 skip
 (refine ax h ?_;clear h;intro x hx h)
 split at h
 .obtain rfl:=aac h
  refine wpAny_UnaryOp ((h1 A s g σ _ hA R hx).then λv dx aR mt aY aQ aV bO=>?_)
  apply RelV.bV bO;intro _
  exact invert_int (hQ _ _ aR mt aY aQ ⟨aV.1,aV.2,aV.3⟩ (.int _ _))
 .exact aq h
theorem JV(h0:ST prog w d base RF nm env Y t it)(h1:SE prog w d base RF nm env Y a ia)(h2:SE prog w d base RF nm env Y b ib):
 SE prog w d base RF nm env Y (.IfExp t a b pos) (.zn it ia ib):=by
 intro A s g σ z hA R h E Q hQ
 replace h:((iZ RF it σ).bind λc=>if c=true then aA RF ia σ else aA RF ib σ)=some z:=h
 refine ax h λc hc h=>?_
 refine wpAny_IfExp (h0 A s g σ c hA R hc E _ λdx aR mt aY aQ aV=>?_)
 split
 .rename_i e
  rw[if_pos e]at h
  exact (h1 A dx aR σ z hA aQ h).then λv qm bD bb bt aM a6 cD=>hQ v qm bD (mt.trans bb) (aY.trans bt) aM (aV.trans a6) cD
 .rename_i e
  rw[if_neg e]at h
  exact (h2 A dx aR σ z hA aQ h).then λv qm bD bb bt aM a6 cD=>hQ v qm bD (mt.trans bb) (aY.trans bt) aM (aV.trans a6) cD
theorem Vq:NX prog w d base RF nm env Y [] .nil:=by
 intro A s g σ xs hA R h E Q hQ
 cases h
 exact aea (hQ [] s g (aW.refl _) (Gh.le.refl g) R (a9.refl s) .nil)
theorem O1(h1:SE prog w d base RF nm env Y e ie)(h2:NX prog w d base RF nm env Y es ies):
 NX prog w d base RF nm env Y (e::es) (.cons ie ies):=by
 intro A s g σ xs hA R h E Q hQ
 skip
 (refine ax h ?_;clear h;intro x hx h)
 refine bC h λys hy cc=>?_
 obtain rfl:=cc
 refine adE ((h1 A s g σ x hA R hx).then λv dx aR mt aY aQ aV bO=>?_)
 exact h2 A dx aR σ ys hA aQ hy E _ λvs qm bD bb bt aM a6 cD=>hQ _ qm bD (mt.trans bb) (aY.trans bt) aM (aV.trans a6) (.cons (bO.mono bt) cD)
end
section
variable{prog:aas}{w:abI}{A:adV}{Y:Lay}{g:Gh}{σ:bj}{s:aaD}{d:Nat}{base:adF}{nm:NI}{env:Env}{RF:cQ}
noncomputable def cm(es:List ado):Prop:=∀e∈es,∀x p,e≠.Starred x p
theorem GR(h:∀x p,e≠.Starred x p):amJ (e::es) env=(false,eval e env)::amJ es env:=by
 cases e with
 |Starred x p=>exact absurd rfl (h x p)
 |_=>rfl
theorem tJ(env:Env)(es:List ado)(h:cm es):amJ es env=es.map λe=>(false,eval e env):=by
 induction es with
 |nil=>rfl
 |cons e es ih=>exact (GR (h e al6)).trans (congrArg (_::·) (ih λx hx=>h x (ad8 _ hx)))
theorem x8(pos:Pos)(es:List ado):backTo pos (es.map λe=>(false,eval e env))=es.map λe=>(false,eval e env):=by
 unfold backTo
 rw[abH]
 rfl
theorem aO(h:cm es)(pos:Pos):backTo pos (amJ es env)=es.map λe=>(false,eval e env):=by
 erw[tJ env es h,x8 ..,rfl]
theorem JW(hs:∃a,a∈Y.dH/\Y.n<=a)(hn:cm es)(h1:NX prog w d base RF nm env Y es ies):SE prog w d base RF nm env Y (.List es pos) (.lst ies):=by
 intro A s g σ z hA R h E Q hQ
 skip
 (refine ax h ?_;clear h;intro xs hx h)
 obtain ⟨hc,rfl⟩:=aH h
 refine wpAny_List ?_
 erw[aO hn ..]
 refine h1 A s g σ xs hA R hx E _ λvs dx aR mt aY aQ aV bO=>⟨?_,?_⟩
 .erw[<-bO.length];exact of_decide_eq_true hc
 .exact nO (E:=E) (tk:=dx.toks) aQ (dE R mt hs aQ) (λv qm bD bb bt aM a6 cD=>hQ v qm bD (mt.trans bb) (aY.trans bt) aM (aV.trans a6) cD) bO
theorem JX(hs:∃a,a∈Y.dH/\Y.n<=a)(hn:cm es)(h1:NX prog w d base RF nm env Y es ies):SE prog w d base RF nm env Y (.Tuple es k pos) (.tup ies):=by
 intro A s g σ z hA R h E Q hQ
 skip
 (refine ax h ?_;clear h;intro xs hx h)
 obtain ⟨hc,rfl⟩:=aH h
 refine wpAny_Tuple ?_
 erw[aO hn ..]
 refine h1 A s g σ xs hA R hx E _ λvs dx aR mt aY aQ aV bO=>⟨?_,?_⟩
 .erw[<-bO.length];exact of_decide_eq_true hc
 .exact Jy (E:=E) (tk:=dx.toks) aQ (dE R mt hs aQ) (λv qm bD bb bt aM a6 cD=>hQ v qm bD (mt.trans bb) (aY.trans bt) aM (aV.trans a6) cD) bO
theorem JY(h1:SE prog w d base RF nm env Y a ia)(h2:SE prog w d base RF nm env Y i ii):SE prog w d base RF nm env Y (.Subscript a i pos) (.idx ia ii):=by
 intro A s g σ z hA R h E Q hQ
 replace h:((aA RF ia σ).bind λx=>(aA RF ii σ).bind λy=>nK σ x y)=some z:=h
 refine ax h λx hx h=>?_
 refine ax h λy hy h=>?_
 refine akg ((h1 A s g σ x hA R hx).then λv dx aR mt aY aQ aV bO=>(h2 A dx aR σ y hA aQ hy).then λu qm bD bb bt aM a6 cD=>?_)
 exact (OW aM (bO.mono bt) cD h).then λz ce gw cY fM bW cU iH=>hQ z ce gw ((mt.trans bb).trans cY) ((aY.trans bt).trans fM) bW ((aV.trans a6).trans cU) iH
theorem JZ{a:ado}{lo hi st:Option ado}{p pos:Pos}{ia il ih it:IE}(hs:∃a,a∈Y.dH/\Y.n<=a)(h1:SE prog w d base RF nm env Y a ia)(h2:SO prog w d base RF nm env Y lo il)(h3:SO prog w d base RF nm env Y hi ih)
(h4:SO prog w d base RF nm env Y st it):SE prog w d base RF nm env Y (.Subscript a (.Slice lo hi st p) pos) (.U5 ia il ih it):=by
 intro A s g σ z hA R h E Q hQ
 replace h:((aA RF ia σ).bind λx=>(aA RF il σ).bind λl=>(aA RF ih σ).bind λu=>(aA RF it σ).bind λt=>CD σ x l u t)=some z:=h
 refine ax h λx hx h=>?_
 refine ax h λl hl h=>?_
 refine ax h λu hu h=>?_
 refine ax h λt ht h=>?_
 refine akg ((h1 A s g σ x hA R hx).then λv dx aR mt aY aQ aV bO=>wpAny_Slice ((h2 A dx aR σ l hA aQ hl).then λvl qm bD bb bt aM a6 cD=>(h3 A qm bD σ u hA aM hu).then λvu ce gw cY fM bW cU iH=>
  (h4 A ce gw σ t hA bW ht).then λvt d7 x7 jo lO gf eV O2=>?_))
 refine (OX gf (dE R (((mt.trans bb).trans cY).trans jo) hs gf) (((bO.mono bt).mono fM).mono lO) ((cD.mono fM).mono lO) (iH.mono lO) O2 h).then λz iq o5 tK zX dX kH Vr=>?_
 refine hQ z iq o5 ((((mt.trans bb).trans cY).trans jo).trans (aW.trans (cj _ _) tK)) ((((aY.trans bt).trans fM).trans lO).trans zX) dX ((((aV.trans a6).trans cU).trans eV).trans ⟨kH.1,kH.2,kH.3⟩) Vr
end
section
variable{prog:aas}{w:abI}{A:adV}{Y:Lay}{g:Gh}{σ:bj}{s:aaD}{d:Nat}{base:adF}{nm:NI}{env:Env}{RF:cQ}
theorem O3:GQ prog w d base RF nm env Y [] .nil:=by
 intro A s g σ r hA R h E Q hQ
 cases h
 exact wpAny_allTrue_And_nil (hQ s g (aW.refl _) (Gh.le.refl g) R (a9.refl s))
theorem Vs:Yu prog w d base RF nm env Y [] .nil:=by
 intro A s g σ r hA R h E Q hQ
 cases h
 exact wpAny_allTrue_Or_nil (hQ s g (aW.refl _) (Gh.le.refl g) R (a9.refl s))
theorem J0(h1:ST prog w d base RF nm env Y e it)(h2:GQ prog w d base RF nm env Y es dK):GQ prog w d base RF nm env Y (e::es) (.cons it dK):=by
 intro A s g σ r hA R h E Q hQ
 skip
 (refine ax h ?_;clear h;intro b hb h)
 refine wpAny_allTrue_And_cons (h1 A s g σ b hA R hb E _ λdx aR mt aY aQ aV=>?_)
 split
 .rename_i e;rw[if_pos e]at h
  exact h2 A dx aR σ r hA aQ h E _ λqm bD bb bt aM a6=>hQ qm bD (mt.trans bb) (aY.trans bt) aM (aV.trans a6)
 .rename_i e;rw[if_neg e]at h
  obtain rfl:=aac h
  exact hQ dx aR mt aY aQ aV
theorem O4(h1:ST prog w d base RF nm env Y e it)(h2:Yu prog w d base RF nm env Y es dK):Yu prog w d base RF nm env Y (e::es) (.cons it dK):=by
 intro A s g σ r hA R h E Q hQ
 skip
 (refine ax h ?_;clear h;intro b hb h)
 refine wpAny_allTrue_Or_cons (h1 A s g σ b hA R hb E _ λdx aR mt aY aQ aV=>?_)
 split
 .rename_i e;rw[if_pos e]at h
  obtain rfl:=aac h
  exact hQ dx aR mt aY aQ aV
 .rename_i e;rw[if_neg e]at h
  exact h2 A dx aR σ r hA aQ h E _ λqm bD bb bt aM a6=>hQ qm bD (mt.trans bb) (aY.trans bt) aM (aV.trans a6)
theorem not_test(h1:ST prog w d base RF nm env Y x it):ST prog w d base RF nm env Y (.UnaryOp .Not x pos) (.not it):=by
 intro A s g σ r hA R h E Q hQ
 skip
 refine bC h λb hb cc=>?_
 obtain rfl:=cc
 exact wpAny_isTrue_Not (h1 A s g σ b hA R hb E _ hQ)
theorem J1(h1:GQ prog w d base RF nm env Y es dK):ST prog w d base RF nm env Y (.BoolOp .And es pos) (.and dK):=by
 intro A s g σ r hA R h E Q hQ
 replace h:f6 RF dK σ=some r:=h
 exact am1 (h1 A s g σ r hA R h E _ hQ)
theorem or_test(h1:Yu prog w d base RF nm env Y es dK):ST prog w d base RF nm env Y (.BoolOp .Or es pos) (.or dK):=by
 intro A s g σ r hA R h E Q hQ
 replace h:xW RF dK σ=some r:=h
 exact am1 (h1 A s g σ r hA R h E _ hQ)
theorem zY(he:∀(env:Env) (whole:Sem aaq),isTrue e env whole=(do let v <-whole;aju e.pos;ah3 [v] (amd v)))(h1:SE prog w d base RF nm env Y e ie):
 ST prog w d base RF nm env Y e (.val ie):=by
 intro A s g σ r hA R h E Q hQ
 replace h:((aA RF ie σ).bind λx=>tv σ x)=some r:=h
 refine ax h λx hx h=>?_
 refine am9 ((h1 A s g σ x hA R hx).then λv dx aR mt aY aQ aV bO=>?_) (he _ _)
 exact wi aQ bO h E Q λqm bD bb bt aM a6=>hQ qm bD (mt.trans bb) (aY.trans bt) aM (aV.trans a6)
theorem GU(hs:∃a,a∈Y.dH/\Y.n<=a)(hb:KS base Y.base)(jN:vE prog w d base RF)(hn:cm es)(cW:es≠[])
(h1:SE prog w d base RF nm env Y (.Name x p) f)(h2:NX prog w d base RF nm env Y es ies)(dh:∀f xs res,RF (.ref f) xs=some res->∃o fd,base.get? f=some o/\o.data=.func fd):
 SE prog w d base RF nm env Y (.Call (.Name x p) es [] pos) (.call f ies):=by
 intro A s g σ z hA R h E Q hQ
 skip
 (refine ax h ?_;clear h;intro fx hf h)
 (refine ax h ?_;clear h;intro xs hx h)
 refine af2 (aO hn pos) ((h1 A s g σ fx hA R hf).then λfv dx aR mt aY aQ aV bO=>?_)
 have args:∀Q',(∀vs s' g',aW Y.lo dx.heap s'.heap->aR.le g'->Rel Y g' σ s'.heap->a9 dx s'->ak Y.n g' xs vs->Q' ⟨vs,[]⟩ s')->
  ∀fv',abJ (abD prog w) A (evalArgs fv' true (es.map λe=>(false,eval e env)) []) Q' E dx:=λQ' hQ' fv'=>by
  cases es with
  |nil=>exact absurd rfl cW
  |cons e es=>exact adL (h2 A dx aR σ xs hA aQ hx E _ λvs s' g' k l R' m v=>hQ' vs s' g' k l R' m v)
 have dD:∀vs qm bD,aW Y.lo dx.heap qm.heap->aR.le bD->Rel Y bD σ qm.heap->a9 dx qm->ak Y.n bD xs vs->abJ (abD prog w) A (call fv vs []) Q E qm:=λvs qm bD bb bt aM a6 cD=>
  (JN aM (dE R (mt.trans bb) hs aM) hA (hb.trans aM.cC) (FunFrames.sub hb aM.frames) (aM.Sf hb) jN (bO.mono bt) cD h).then λv ce gw cY fM bW cU iH=>hQ v ce gw ((mt.trans bb).trans cY) ((aY.trans bt).trans fM) bW ((aV.trans a6).trans cU) iH
 have tO:(es.map λe=>(false,eval e env)).any (·.1)=false:=by simp
 have bi:∀id,fv=.builtin id->abJ (abD prog w) A (callWith pos fv [] (es.map λe=>(false,eval e env)) []) Q E dx:=λid e=>by
  subst e
  exact aeN tO (args _ (λvs s' g' k l R' m v=>dD vs s' g' k l R' m v) _)
 cases fx with
 |obj v=>
  cases v with
  |builtin b=>cases bO;exact bi _ rfl
  |ref f=>
   cases bO
   refine ax h λys hy hr=>?_
   obtain ⟨o,fd,ho,hd⟩:=dh _ _ _ hr
   exact agg (o:=o) (fd:=fd) (args _ (λvs s' g' k l R' m v=>⟨⟨(hb.trans R'.cC) _ _ ho,hd⟩,dD vs s' g' k l R' m v⟩) _)
  |_=>exact pW h
 |_=>exact pW h
end
section
variable{prog:aas}{w:abI}{A:adV}{Y:Lay}{g:Gh}{σ:bj}{s:aaD}{d:Nat}{base:adF}{nm:NI}{env:Env}{RF:cQ}
theorem dY(hb:oX o=true):attributeBase o nmx env (eval o env)=eval o env:=by
 refine dW (P:=λv o=>E3 v=true->attributeBase o nmx env (eval o env)=eval o env) (λv h=>?_) o hb
 cases v with
 |call f args xX p=>
  cases args with
  |nil=>exact fT h
  |cons _ _=>cases f <;> rfl
 |other _=>exact fT h
 |_=>rfl
theorem GV(hs:∃a,a∈Y.dH/\Y.n<=a)(hn:cm es)(bq:es.length<5)(hline:(apos.endLine==pos.line)=true)
(zZ:oX o=true)(aeW:es=[]->ies=.nil)(h1:SE prog w d base RF nm env Y o io)(h2:NX prog w d base RF nm env Y es ies):
 SE prog w d base RF nm env Y (.Call (.Attribute o nmx apos) es [] pos) (.vy io nmx ies):=by
 intro A s g σ z hA R h E Q hQ
 skip
 (refine ax h ?_;clear h;intro ox ho h)
 (refine ax h ?_;clear h;intro xs hx h)
 (refine bU (JO (prog:=prog) (w:=w) (A:=A) (Y:=Y) h) λT dQ=>?_;refine bU dQ λid di=>?_;have pa:=di.1;have slot:=di.2.1;have ty:=di.2.2.1;have ht:=di.2.2.2.1;have hw:=di.2.2.2.2;clear di dQ)
 refine af1 (dY zZ) ?_ hline ((h1 A s g σ ox hA R ho).then λv dx aR mt aY aQ aV bO=>?_)
 .erw[aO hn ..]
  simp only[aiY,ai5,List.isEmpty_nil,if_true,ait,backToKw,keywordEach,ahc,List.all_nil,agy,aap,decide_eq_true_eq]
  refine ⟨?_,%[a<30,a<5|(aG bq)]⟩
  simp
 .refine bY (ht aR v dx bO) λhT hr=>?_
  refine ⟨T,id,pa,slot,ty,hT,λa e=>absurd e (hr a),?_⟩
  erw[aO hn ..]
  have dD:∀vs qm bD,aW Y.lo dx.heap qm.heap->aR.le bD->Rel Y bD σ qm.heap->a9 dx qm->ak Y.n bD xs vs->abJ (abD prog w) A (call (.builtin id) ([v]++vs) []) Q E qm:=λvs qm bD bb bt aM a6 cD=>
   (hw bD qm v vs aM (dE R (mt.trans bb) hs aM) (bO.mono bt) cD).then λv ce gw cY fM bW cU iH=>hQ v ce gw ((mt.trans bb).trans cY) ((aY.trans bt).trans fM) bW ((aV.trans a6).trans cU) iH
  refine aeN (by simp) ?_
  cases es with
  |nil=>
   rw[aeW rfl]at hx
   cases hx
   exact al0 (dD [] dx aR (aW.refl _) (Gh.le.refl _) aQ (a9.refl _) .nil)
  |cons e es=>exact adL (h2 A dx aR σ xs hA aQ hx E _ dD)
end
section
set_option tactic.hygienic true
variable{prog:aas}{w:abI}{A:adV}{Y:Lay}{g:Gh}{σ:bj}{s:aaD}{d:Nat}{base:adF}{nm:NI}{env:Env}{RF:cQ}
structure aaB (prog:aas) (w:abI) (F:List aa9) (fz:Bool) (n:Nat) (g:Gh) (items:List AV) (I:aa9) (fp:List aa9) (P:Nat->aaq->Prop) (St:Nat->adF->Prop):Prop where
 walks:∀A':adV,A'.handled=none->Walks prog w A' I fp [I] items.length P St
 rel:∀i v,i<items.length->P i v->∃x,items[i]?=some x/\RelV n g x v
 low:∀b∈fp,b<=I
 mY:fz=true->∀b∈fp,b=I\/(g.z b).isSome=true
 obj:∀i h,St i h->∃o,h.get? I=some o
 nf:∀b∈fp,b=I\/b∉F
noncomputable def ng(prog:aas)(w:abI)(fz:Bool)(Y:Lay)(g:Gh)(items:List AV)(s:aaD)(Q:aaq->aaD->Prop):Prop:=
 ∀o fp P St,o.isFreed=false->aaB prog w (iG Y.fr) fz Y.n g items s.heap.objs.size fp P St->St 0 (s.heap.push o)->Q (.ref s.heap.objs.size) {s with heap:=s.heap.push o}
theorem o6(hl:s.heap.IsList l vs.toArray)(hv:ak Y.n g items vs)(hz:fz=true->(g.z l).isSome=true)(Vt:l∉iG Y.fr)
(hQ:ng prog w fz Y g items s Q):abJ (abD prog w) A (akD (.ref l)) Q E s:=by
 have bA:l<s.heap.objs.size:=by obtain ⟨o,ho,_⟩:=hl;exact abZ ho
 refine wpAny_pyIter_list hl (hQ _ [s.heap.objs.size,l] (λi v=>vs.toArray[i]?=some v) (λi h=>h.IsListIter s.heap.objs.size l i/\h.IsList l vs.toArray) rfl ⟨λA' hA=>?_,λi v hi hp=>?_,λb hb=>?_,λhf b hb=>?_,λi h st=>(by obtain ⟨o,ho,_⟩:=st.1;exact ⟨o,ho⟩),λb hb=>by
  simp at hb
  rcases hb with hb|hb
  .exact .inl hb
  .subst hb;exact .inr Vt⟩ ⟨⟨_,ac0 _ rfl,rfl,rfl⟩,hl.push _⟩)
 .have:=Walks.list (prog:=prog) (w:=w) (A:=A') hA s.heap.objs.size l (ac4 bA) vs.toArray
  erw[hv.length];simpa using this
 .rw[af9]at hp
  have hx:items[i]?=some items[i]:=by simp[hi]
  obtain ⟨v',h1,h2⟩:=hv.get hx
  rw[hp]at h1;obtain rfl:=aac h1
  exact ⟨_,hx,h2⟩
 .simp at hb;rcases hb with hb|hb
  .subst hb;exact adJ _
  .subst hb;exact afo bA
 .simp at hb
  rcases hb with hb|hb
  .exact .inl hb
  .subst hb;exact .inr (hz hf)
theorem J2(hl:s.heap.IsTuple l vs.toArray)(hv:ak Y.n g items vs)(hz:fz=true->(g.z l).isSome=true)(Vt:l∉iG Y.fr)
(hQ:ng prog w fz Y g items s Q):abJ (abD prog w) A (akD (.ref l)) Q E s:=by
 have bA:l<s.heap.objs.size:=by obtain ⟨o,ho,_⟩:=hl;exact abZ ho
 refine wpAny_pyIter_tuple hl (hQ _ [s.heap.objs.size,l] (λi v=>vs.toArray[i]?=some v) (λi h=>h.IsTupleIter s.heap.objs.size l i/\h.IsTuple l vs.toArray) rfl ⟨λA' hA=>?_,λi v hi hp=>?_,λb hb=>?_,λhf b hb=>?_,λi h st=>(by obtain ⟨o,ho,_⟩:=st.1;exact ⟨o,ho⟩),λb hb=>by
  simp at hb
  rcases hb with hb|hb
  .exact .inl hb
  .subst hb;exact .inr Vt⟩ ⟨⟨_,ac0 _ rfl,rfl,rfl⟩,hl.push _⟩)
 .have:=Walks.tuple (prog:=prog) (w:=w) (A:=A') hA s.heap.objs.size l (ac4 bA) vs.toArray
  erw[hv.length];simpa using this
 .rw[af9]at hp
  have hx:items[i]?=some items[i]:=by simp[hi]
  obtain ⟨v',h1,h2⟩:=hv.get hx
  rw[hp]at h1;obtain rfl:=aac h1
  exact ⟨_,hx,h2⟩
 .simp at hb;rcases hb with hb|hb
  .subst hb;exact adJ _
  .subst hb;exact afo bA
 .simp at hb
  rcases hb with hb|hb
  .exact .inl hb
  .subst hb;exact .inr (hz hf)
theorem J3
(hQ:ng prog w fz Y g (x.cps.toList.map λc=>.str ⟨#[c]⟩) s Q):abJ (abD prog w) A (akD (.str x t)) Q E s:=by
 have key:∀(o:Obj) (St:Nat->adF->Prop),o.isFreed=false->(∀A':adV,A'.handled=none->Walks prog w A' s.heap.objs.size [s.heap.objs.size] [s.heap.objs.size] x.cps.size (SignAt x) St)->St 0 (s.heap.push o)->(∀i h,St i h->∃o,h.get? s.heap.objs.size=some o)->
  Q (.ref s.heap.objs.size) {s with heap:=s.heap.push o}:=λo St ho hW zo aeX=>by
  refine hQ o [s.heap.objs.size] (SignAt x) St ho ⟨λA' hA=>?_,λi v hi hp=>?_,λb hb=>?_,λhf b hb=>?_,aeX,λb hb=>.inl (by simpa using hb)⟩ zo
  .have:=hW A' hA
   simpa using this
  .obtain ⟨c,u,hc,rfl⟩:=hp
   refine ⟨.str ⟨#[c]⟩,?_,.str _ _⟩
   simp only[adR,Array.getElem?_toList,hc,aic]
  .simp at hb;subst hb;exact adJ _
  .simp at hb;exact .inl hb
 cases ha:x.cps.all (· < 128)
 .exact wpAny_pyIter_wide ha (key _ _ rfl (λA' hA=>Walks.strWide hA _ x t) ⟨_,ac0 _ rfl,rfl,rfl⟩ λi h st=>(by obtain ⟨o,ho,_⟩:=st;exact ⟨o,ho⟩))
 .exact wpAny_pyIter_ascii ha (key _ _ rfl (λA' hA=>Walks.strAscii hA _ x t) ⟨_,ac0 _ rfl,rfl,rfl⟩ λi h st=>(by obtain ⟨o,ho,_⟩:=st;exact ⟨o,ho⟩))
theorem rz(h:i<(dk a b).length):(dk a b)[i]?=some (.int (a+(i:Int))):=by
 unfold dk at h ⊢
 simp only[aan,aa0]at h
 simp[h]
theorem z0(hr:IsRange s.heap r a b 1 t u v)(ha: -(2^20)<=a)(Vu:a<=2^20)(hb: -(2^20)<=b)(Ic:b<=2^20)
(hQ:ng prog w fz Y g (dk a b) s Q):abJ (abD prog w) A (akD (.ref r)) Q E s:=by
 refine wpAny_pyIter_range hr (small_one %[(qG (qL 2 62))>=a,(qG (qL 2 20))>=a|(fK ha)] %[a>(qL 2 62),a>=(qL 2 20)|(fK Vu)] %[(qG (qL 2 62))>=a,(qG (qL 2 20))>=a|(fK hb)] %[a>(qL 2 62),a>=(qL 2 20)|(fK Ic)]) ?_
 have cL:Builtin.Range.rangeSize a b 1=((b-a).toNat:Nat):=by erw[rangeSize_one ..];split <;> omega
 erw[cL]
 refine hQ _ [s.heap.objs.size] (λi v=>∃t,v=.int (a+(i:Nat)*1) t) (λi h=>amP h s.heap.objs.size (a+(i:Nat)*1) (((b-a).toNat:Int)-(i:Nat)) 1) rfl ⟨λA' hA=>?_,λi v hi hp=>?_,λb hb=>?_,λhf b hb=>?_,λi h st=>⟨_,st⟩,λb hb=>.inl (by simpa using hb)⟩ ?_
 .have:=Walks.range (prog:=prog) (w:=w) (A:=A') hA s.heap.objs.size a 1 (b-a).toNat
  simpa[dk] using this
 .obtain ⟨t,rfl⟩:=hp
  refine ⟨_,rz hi,?_⟩
  erw[alO ..]
  exact .int _ _
 .simp at hb;subst hb;exact adJ _
 .simp at hb;exact .inl hb
 .show amP _ _ _ _ _
  unfold amP
  rw[ac0 _ rfl]
  simp
theorem GW(R:Rel Y g σ s.heap)(hv:RelV Y.n g x v)(hi:jk σ x=some items)(hz:fz=true->lw x=some items)
(hQ:ng prog w fz Y g items s Q):abJ (abD prog w) A (akD v) Q E s:=by
 cases x with
 |tup xs=>
  cases hi
  cases hv with
  |tup h1 h2 h3 h4 h5=>exact J2 ⟨_,R.eQ _ _ h2,h3,_,h4⟩ h5 (λV=>by erw[h2];rfl) (R.zT h2) hQ
 |str x=>cases hi;apply RelV.fq hv;intro _;exact J3 hQ
 |lst xs=>
  cases hi
  cases hv with
  |lst h1 h2 h3 h4 h5=>exact o6 ⟨_,R.eQ _ _ h2,h3,_,h4⟩ h5 (λV=>by erw[h2];rfl) (R.zT h2) hQ
 |bor xs=>
  cases hi
  cases hv with
  |bor h2 h3 h4 h5=>exact o6 ⟨_,R.eQ _ _ h2,h3,_,h4⟩ h5 (λV=>by erw[h2];rfl) (R.zT h2) hQ
 |own k=>
  have jD:∀a,v=.ref a->a∉iG Y.fr:=λa e=>by
   subst e
   cases hv with
   |own hk=>exact R.JH (aw.mpr (.inr (.inr (.inr (ade hk))))) (R.oU hk)
  obtain ⟨a,vs,rfl,hl,nR⟩:=aD R hv (show σ.listOf (.own k)=some items from hi)
  refine o6 hl nR (λhf=>?_) (jD a rfl) hQ
  have:=hz hf
  exact aq this
 |_=>exact aq hi
noncomputable def SI(prog:aas)(w:abI)(d:Nat)(base:adF)(RF:cQ)(nm:NI)(env:Env)(Y:Lay)(e:ado)(it:II):Prop:=
 ∀A s g σ items fz,jM d Y.fr A->Rel Y g σ s.heap->wd RF it σ=some items->(fz=true->vz RF it σ=some items)->∀(E Q:aaq->aaD->Prop),
  (∀s' g',aW Y.lo s.heap s'.heap->g.le g'->Rel Y g' σ s'.heap->a9 s s'->ng prog w fz Y g' items s' Q)->abJ (abD prog w) A (eval e env) (λxv dx=>abJ (abD prog w) A (akD xv) Q E dx) E s
theorem J4(h1:SE prog w d base RF nm env Y e ie):SI prog w d base RF nm env Y e (.exp ie):=by
 intro A s g σ items fz hA R h hz E Q hQ
 replace h:((aA RF ie σ).bind λx=>jk σ x)=some items:=h
 refine ax h λx hx h=>?_
 refine (h1 A s g σ x hA R hx).then λv dx aR mt aY aQ aV bO=>?_
 refine GW (fz:=fz) aQ bO h (λhf=>?_) (hQ dx aR mt aY aQ aV)
 have:((aA RF ie σ).bind lw)=some items:=hz hf
 rw[hx]at this
 exact this
theorem o7(h1:SE prog w d base RF nm env Y e (.glob x (.obj (.type T))))(hA:jM d Y.fr A)(R:Rel Y g σ s.heap)
(hQ:∀s' g',aW Y.lo s.heap s'.heap->g.le g'->Rel Y g' σ s'.heap->a9 s s'->Q (.type T) s'):abJ (abD prog w) A (eval e env) Q E s:=by
 refine (h1 A s g σ _ hA R rfl).then λv dx aR mt aY aQ aV bO=>?_
 apply RelV.nG bO
 exact hQ dx aR mt aY aQ aV
theorem J5(hn:cm [e])(h0:SE prog w d base RF nm env Y (.Name x p) (.glob y (.obj (.type "range"))))(h1:SE prog w d base RF nm env Y e ie):
 SI prog w d base RF nm env Y (.Call (.Name x p) [e] [] pos) (.ku ie):=by
 intro A s g σ items fz hA R h hz E Q hQ
 skip
 (refine ax h ?_;clear h;intro z hx h)
 split at h
 .rename_i b
  split at h
  .rename_i hb
   obtain rfl:=aac h
   refine af2 (aO hn pos) (o7 h0 hA R λdx aR mt aY aQ aV=>?_)
   refine ajv rfl (adL (adE ((h1 A dx aR σ _ hA aQ hx).then λv qm bD bb bt aM a6 cD=>aea ?_)))
   apply RelV.bV cD;intro _
   refine call_range_1 ?_
   refine z0 (E:=E) (fz:=fz) (ac0 _ rfl) ⋯ ⋯ hb.1 hb.2 (hQ _ bD ((mt.trans bb).trans (cj _ _)) (aY.trans bt) (aM.keep λV V e=>abo _ e) ((aV.trans a6).trans ⟨rfl,rfl,rfl⟩))
  .exact aq h
 .exact aq h
theorem GX(hn:cm [e,f])(h0:SE prog w d base RF nm env Y (.Name x p) (.glob y (.obj (.type "range"))))(h1:SE prog w d base RF nm env Y e ie)(h2:SE prog w d base RF nm env Y f jf):
 SI prog w d base RF nm env Y (.Call (.Name x p) [e,f] [] pos) (.GD ie jf):=by
 intro A s g σ items fz hA R h hz E Q hQ
 skip
 (refine ax h ?_;clear h;intro z hx h)
 (refine ax h ?_;clear h;intro z' hy h)
 split at h
 .rename_i a b
  split at h
  .rename_i hb
   obtain rfl:=aac h
   refine af2 (aO hn pos) (o7 h0 hA R λdx aR mt aY aQ aV=>?_)
   refine ajv rfl (adL (adE ((h1 A dx aR σ _ hA aQ hx).then λv qm bD bb bt aM a6 cD=>
    adE ((h2 A qm bD σ _ hA aM hy).then λv' ce gw cY fM bW cU iH=>aea ?_))))
   apply RelV.bV cD;intro _
   apply RelV.bV iH;intro _
   refine call_range_2 ?_
   refine z0 (E:=E) (fz:=fz) (ac0 _ rfl) hb.1 hb.2.1 hb.2.2.1 hb.2.2.2 (hQ _ gw (((mt.trans bb).trans cY).trans (cj _ _)) ((aY.trans bt).trans fM) (bW.keep λV V e=>abo _ e) (((aV.trans a6).trans cU).trans ⟨rfl,rfl,rfl⟩))
  .exact aq h
 .exact aq h
theorem z3(hl:s.heap.IsList l vs.toArray)(hv:ak Y.n g items vs)(hz:(g.z l).isSome=true)(Vt:l∉iG Y.fr)
(hQ:ng prog w fz Y g items.reverse s Q):abJ (abD prog w) A (call (.type "reversed") [.ref l]) (λxv dx=>abJ (abD prog w) A (akD xv) Q E dx) E s:=by
 have bA:l<s.heap.objs.size:=by obtain ⟨o,ho,_⟩:=hl;exact abZ ho
 have O5:items.length=vs.length:=hv.length
 have vw:(s.heap.push (revObj l ((vs.toArray.size:Int)-1))).IsRevIter s.heap.objs.size l ((vs.toArray.size:Int)-1):=⟨_,ac0 _ rfl,rfl,rfl⟩
 refine call_reversed_list hl (wpAny_pyIter_revIter (s:={s with heap:=s.heap.push (revObj l ((vs.toArray.size:Int)-1))}) vw ?_)
 refine hQ _ [s.heap.objs.size,l] (λi v=>vs.toArray[vs.toArray.size-1-i]?=some v) (λi h=>i<=vs.toArray.size/\h.IsRevIter s.heap.objs.size l ((vs.toArray.size:Int)-1-(i:Int))/\h.IsList l vs.toArray) rfl ⟨λA' hA=>?_,λi v hi hp=>?_,λb hb=>?_,λhf b hb=>?_,λi h st=>(by obtain ⟨o,ho,_⟩:=st.2.1;exact ⟨o,ho⟩),λb hb=>by
  simp at hb
  rcases hb with hb|hb
  .exact .inl hb
  .subst hb;exact .inr Vt⟩ ⟨ae7 _,by simpa using vw,hl.push _⟩
 .have:=Walks.listRev (prog:=prog) (w:=w) (A:=A') hA s.heap.objs.size l (ac4 bA) vs.toArray
  erw[ae3,O5];simpa using this
 .rw[ae3]at hi
  rw[af9]at hp
  have e:vs.toArray.size-1-i=items.length-1-i:=by simp[O5]
  rw[e]at hp
  have hx:items.reverse[i]?=items[items.length-1-i]?:=List.getElem?_reverse hi
  have aeY:items.length-1-i<items.length:=%[a<b,c<b,qD 0 d b (1),qD 0 a d c|(d4 hi rfl rfl)]
  have GK:items[items.length-1-i]?=some items[items.length-1-i]:=abz aeY
  obtain ⟨v',h1,h2⟩:=hv.get GK
  rw[hp]at h1;obtain rfl:=aac h1
  exact ⟨_,hx.trans GK,h2⟩
 .simp at hb;rcases hb with hb|hb
  .subst hb;exact adJ _
  .subst hb;exact afo bA
 .simp at hb
  rcases hb with hb|hb
  .exact .inl hb
  .subst hb;exact .inr hz
theorem J6(hn:cm [e])(h0:SE prog w d base RF nm env Y (.Name x p) (.glob y (.obj (.type "reversed"))))(h1:SE prog w d base RF nm env Y e ie):
 SI prog w d base RF nm env Y (.Call (.Name x p) [e] [] pos) (.rev ie):=by
 intro A s g σ items fz hA R h hz E Q hQ
 skip
 (refine ax h ?_;clear h;intro z hx h)
 refine af2 (aO hn pos) (o7 h0 hA R λdx aR mt aY aQ aV=>?_)
 refine ajv rfl (adL (adE ((h1 A dx aR σ _ hA aQ hx).then λv qm bD bb bt aM a6 cD=>aea ?_)))
 have hq:=hQ qm bD (mt.trans bb) (aY.trans bt) aM (aV.trans a6)
 split at h
 .obtain rfl:=aac h
  cases cD with
  |lst q1 q2 q3 q4 q5=>exact z3 (fz:=fz) ⟨_,aM.eQ _ _ q2,q3,_,q4⟩ q5 (by erw[q2];rfl) (aM.zT q2) hq
 .obtain rfl:=aac h
  cases cD with
  |bor q2 q3 q4 q5=>exact z3 (fz:=fz) ⟨_,aM.eQ _ _ q2,q3,_,q4⟩ q5 (by erw[q2];rfl) (aM.zT q2) hq
 .exact aq h
end
section
variable{prog:aas}{w:abI}{A:adV}{Y:Lay}{g:Gh}{σ:bj}{h h':adF}
noncomputable abbrev Lay.with(Y:Lay)(H:List (aa9×Obj)):Lay:=⟨Y.base,Y.n,Y.dH,Y.lay,H,Y.fr⟩
noncomputable abbrev Lay.bv(Y:Lay)(C:aa9)(l:Loc):Lay:=⟨Y.base,Y.n,Y.dH++[C],Y.lay++[l],Y.hold,Y.fr⟩
noncomputable abbrev Lay.more(Y:Lay)(C:aa9)(x:Str):Lay:=Y.bv C (.ns C x)
theorem Rel.x9(R:Rel (Y.with H) g σ h)(hm:H'.map (·.1)=H.map (·.1))(hk:∀b o,b∉H.map (·.1)->h.get? b=some o->h'.get? b=some o)
(hh:∀p∈H',h'.get? p.1=some p.2):Rel (Y.with H') g σ h':=by
 have nd:=R.zJ
 have e:(Y.with H').bu g=(Y.with H).bu g:=by simp only[Lay.bu,Lay.with,hm];rfl
 have off:∀a∈H.map (·.1),g.z a=none:=λa ha=>R.off a (aw.mpr (.inr (.inr (.inl ha))))
 refine ⟨λa o q=>hk a o (λhm=>by rw[off a hm]at q;exact aq q) (R.eQ a o q),R.base,by erw[e];exact R.nodup,R.de,by erw[e];exact R.off,R.low,R.cZ,R.len,R.eS,λa ha=>?_,λi c hc=>?_,λk a ha=>?_,hh,FunFrames.step (λb hb o e hd=>⟨o,hk b o (R.mX b hb) e,hd⟩) R.frames,λL hL q=>R.mX L hL (hm▸q),R.mY,λt ht=>⟨(R.d6 t ht).1,by erw[e];exact (R.d6 t ht).2.1,(R.d6 t ht).2.2⟩,λt ht=>(R.tabs t ht).of (λV V q=>q) λo q=>hk _ o (λhb=>(R.d6 t ht).2.1 (aw.mpr (.inr (.inr (.inl hb))))) q⟩
 .refine bz (R.ns a ha) λf h1 h2=>?_
  exact ⟨f,h1.at' λo q=>hk a o (λhm=>(nd.2.1 a ha).2.1 a hm rfl) q,h2⟩
 .obtain ⟨ov,⟨o,h1,h2⟩,h3⟩:=R.cell i c hc
  exact ⟨ov,⟨o,hk c o (λhm=>(nd.2.2.1 c (bR hc)).1 c hm rfl) h1,h2⟩,h3⟩
 .refine bz (R.own k a ha) λvs h1 h3=>?_
  exact ⟨vs,h1.at λo e=>hk a o (λhm=>nd.2.2.2 a hm a (ade ha) rfl) e,h3⟩
theorem Rel.ya(R:Rel (Y.with ((I,o)::H)) g σ h)(hk:∀b x,b∉[I]->h.get? b=some x->h'.get? b=some x)(e:h'.get? I=some U2):Rel (Y.with ((I,U2)::H)) g σ h':=
 R.x9 rfl (λb x hb=>hk b x λq=>hb (abF.mp q▸.head _)) λp hp=>(abk.mp hp).elim (λq=>by erw[q];exact e) λhp=>
  hk _ _ (λq=>(ad1.mp (show (I::H.map (·.1)).Nodup from R.zJ.1.2.2.1)).1 (abF.mp q▸adB hp)) (R.held p (.tail _ hp))
theorem Rel.J7(R:Rel (Y.with ((I,o)::(D,q)::H)) g σ h)(hk:∀b x,b≠D->h.get? b=some x->h'.get? b=some x)(e:h'.get? D=some aeZ):Rel (Y.with ((I,o)::(D,aeZ)::H)) g σ h':=by
 have nd:=(show (I::D::H.map (·.1)).Nodup from R.zJ.1.2.2.1)
 have n1:=(ad1.mp nd).1
 have n2:=(ad1.mp (ad1.mp nd).2).1
 exact R.x9 rfl (λb x hb=>hk b x λq=>hb (q▸.tail _ (.head _))) λp hp=>(abk.mp hp).elim (λe=>by erw[e];exact hk _ _ (λq=>n1 (q▸.head _)) (R.held _ (.head _))) λhp=>
  (abk.mp hp).elim (λq=>by erw[q];exact e) λhp=>hk _ _ (λq=>n2 (q▸adB hp)) (R.held p (.tail _ (.tail _ hp)))
theorem Rel.lA(R:Rel (Y.with (p::H)) g σ h)(hk:∀b o,b≠p.1->h.get? b=some o->h'.get? b=some o):Rel (Y.with H) g σ h':=by
 have nd:=R.zJ
 have sub:∀a,a∈(Y.with H).bu g->a∈(Y.with (p::H)).bu g:=λa ha=>by
  rw[aw]at ha ⊢
  rcases ha with ha|ha|ha|ha
  .exact .inl ha
  .exact .inr (.inl ha)
  .exact .inr (.inr (.inl (ad8 _ ha)))
  .exact .inr (.inr (.inr ha))
 have hp:p.1∈(p::H).map (·.1):=by simp
 have ae0:g.z p.1=none:=R.off p.1 (aw.mpr (.inr (.inr (.inl hp))))
 refine ⟨λa o q=>hk a o (λhm=>by subst hm;rw[ae0]at q;exact aq q) (R.eQ a o q),R.base,?_,R.de,λa ha=>R.off a (sub a ha),R.low,R.cZ,R.len,R.eS,λa ha=>?_,λi c hc=>?_,λk a ha=>?_,λq hq=>?_,FunFrames.step (λb hb o e hd=>⟨o,hk b o (λq=>R.mX b hb (by erw[q];exact hp)) e,hd⟩) R.frames,λL hL q=>R.mX L hL (ad8 _ q),R.mY,λt ht=>⟨(R.d6 t ht).1,λq=>(R.d6 t ht).2.1 (sub _ q),(R.d6 t ht).2.2⟩,λt ht=>(R.tabs t ht).of (λV V q=>q) λo q=>hk _ o (λhb=>(R.d6 t ht).2.1 (aw.mpr (.inr (.inr (.inl (hb▸hp)))))) q⟩
 .have:=R.nodup
  refine akz ?_ this
  skip
  exact (ag6 _).append ((ag6 _).append (List.Sublist.append (by simp) (ag6 _)))
 .refine bz (R.ns a ha) λf h1 h2=>?_
  exact ⟨f,h1.at' λo q=>hk a o (λhm=>(nd.2.1 a ha).2.1 _ hp hm) q,h2⟩
 .obtain ⟨ov,⟨o,h1,h2⟩,h3⟩:=R.cell i c hc
  exact ⟨ov,⟨o,hk c o (λhm=>(nd.2.2.1 c (bR hc)).1 _ hp hm) h1,h2⟩,h3⟩
 .refine bz (R.own k a ha) λvs h1 h3=>?_
  exact ⟨vs,h1.at λo e=>hk a o (λhm=>nd.2.2.2 _ hp a (ade ha) hm.symm) e,h3⟩
 .refine hk _ _ (λhm=>?_) (R.held q (ad8 _ hq))
  have:=nd.1.2.2.1
  rw[aa6,ad1]at this
  exact this.1 (hm▸adB hq)
theorem Rel.J8(R:Rel (Y.with (p::H)) g σ h):Rel (Y.with H) (g.add (vv p.1 p.2)) σ h/\(g.add (vv p.1 p.2)).z p.1=some p.2:=by
 have nd:=R.zJ
 have hp:p.1∈(p::H).map (·.1):=by simp
 refine ⟨(R.lA (h':=h) λb o V e=>e).grow (λa o e=>?_) (λa ha=>?_) (λa ha=>?_) (λt ht=>?_),?_⟩
 .unfold vv at e
  split at e
  .rename_i q;obtain rfl:=aac e;subst q;exact R.held p (.head _)
  .exact aq e
 .unfold vv
  rw[if_neg]
  rintro rfl
  rw[aw]at ha
  rcases ha with ha|ha|ha|ha
  .exact (nd.2.1 _ ha).2.1 _ hp rfl
  .exact (nd.2.2.1 _ ha).1 _ hp rfl
  .have:=nd.1.2.2.1
   rw[aa6,ad1]at this
   exact this.1 ha
  .exact nd.2.2.2 _ hp _ ha rfl
 .unfold vv
  rw[if_neg]
  rintro rfl
  exact R.mX _ ha hp
 .unfold vv
  rw[if_neg]
  intro q
  exact (R.d6 t ht).2.1 (aw.mpr (.inr (.inr (.inl (q▸hp)))))
 .have:g.z p.1=none:=R.off p.1 (aw.mpr (.inr (.inr (.inl hp))))
  simp[Gh.add,this,vv]
theorem Rel.gg(R:Rel (Y.with H) g σ h)(ho:o.isFreed=false)(hn:Y.n<=h.objs.size):Rel (Y.with ((h.objs.size,o)::H)) g σ (h.push o):=by
 have R':=R.keep (h':=h.push o) λV V e=>abo _ e
 have nl:∀a∈(Y.with H).bu g,a≠h.objs.size:=λa ha=>ac4 (R.live a ha)
 refine ⟨R'.eQ,R'.base,?_,R'.de,λa ha=>?_,R'.low,R'.cZ,R'.len,R'.eS,R'.ns,R'.cell,R'.own,λp hp=>?_,R'.frames,λL hL q=>?_,R'.mY,λt ht=>⟨(R.d6 t ht).1,λq=>?_,(R.d6 t ht).2.2⟩,R'.tabs⟩
 .have nd:=R.nodup
  skip
  have hh:h.objs.size∉(Y.with H).bu g:=λhm=>nl _ hm rfl
  have e1:Lay.cells ⟨Y.base,Y.n,Y.dH,Y.lay,(h.objs.size,o)::H,Y.fr⟩=(Y.with H).cells:=rfl
  erw[e1]
  have:(h.objs.size::(Y.with H).bu g).Nodup:=ad1.mpr ⟨hh,R.nodup⟩
  refine (afU ?_).mpr this
  skip
  refine List.Perm.trans ?_ ahx
  exact ahQ _ ahx
 .rw[aw]at ha
  rcases ha with ha|ha|ha|ha
  .exact R.off a (aw.mpr (.inl ha))
  .exact R.off a (aw.mpr (.inr (.inl ha)))
  .rw[aa6,abk]at ha
   rcases ha with ha|ha
   .subst ha;exact R.fresh
   .exact R.off a (aw.mpr (.inr (.inr (.inl ha))))
  .exact R.off a (aw.mpr (.inr (.inr (.inr ha))))
 .rcases abk.mp hp with rfl|hp
  .exact ac0 _ ho
  .exact R'.held p hp
 .rw[aa6,abk]at q
  rcases q with q|q
  .have:=FunFrames.live R.frames hL
   exact ac4 this q
  .exact R.mX L hL q
 .rcases aw.mp q with q|q|q|q
  .exact (R.d6 t ht).2.1 (aw.mpr (.inl q))
  .exact (R.d6 t ht).2.1 (aw.mpr (.inr (.inl q)))
  .rw[aa6,abk]at q
   rcases q with q|q
   .refine bU ((R.tabs t ht).there) λps hp=>?_
    exact ac4 (abZ hp) q
   .exact (R.d6 t ht).2.1 (aw.mpr (.inr (.inr (.inl q))))
  .exact (R.d6 t ht).2.1 (aw.mpr (.inr (.inr (.inr q))))
theorem jp:(Y.more C x).cells=Y.cells:=by
 simp[Lay.cells,alp]
theorem iI(a:aa9):a∈(Y.more C x).bu g↔a∈Y.bu g\/a=C:=by
 (rw[aw];rw[aw];erw[jp])
 simp only[abQ,abF]
 constructor
 .rintro ((ha|ha)|ha|ha|ha)
  .exact .inl (.inl ha)
  .exact .inr ha
  .exact .inl (.inr (.inl ha))
  .exact .inl (.inr (.inr (.inl ha)))
  .exact .inl (.inr (.inr (.inr ha)))
 .rintro ((ha|ha|ha|ha)|ha)
  .exact .inl (.inl ha)
  .exact .inr (.inl ha)
  .exact .inr (.inr (.inl ha))
  .exact .inr (.inr (.inr ha))
  .exact .inl (.inr ha)
theorem wm:ak0 ((Y.more C x).bu g) (C::Y.bu g):=by
 unfold Lay.bu
 rw[jp]
 simp only[aaI]
 exact ahx
theorem Rel.Vv(R:Rel Y g σ h)(hk:KS h h')(hC:h.get? C=none)(zp:h.objs.size<=C)(lN:h'.Ns C m)(hm:m x=none)(hn:Y.n<=h.objs.size):
 Rel (Y.more C x) g {σ with vars:=σ.vars++[none]} h':=by
 have R':=R.keep hk
 have Sl:C∉Y.bu g:=λhm=>adP _ (aaO (R.live C hm) zp)
 have hz:g.z C=none:=by
  cases e:g.z C with
  |none=>rfl
  |some o=>have:=R.eQ _ _ e;rw[hC]at this;exact aq this
 have Vw:C∉Y.dH:=λq=>Sl (aw.mpr (.inl q))
 have z4:∀(i:Nat) (l:Loc),(Y.lay++[Loc.ns C x])[i]?=some l->(Y.lay[i]?=some l/\i<Y.lay.length)\/(i=Y.lay.length/\l=.ns C x):=λi l q=>by
  by_cases hi:i<Y.lay.length
  .rw[adk hi]at q;exact .inl ⟨q,hi⟩
  .rw[agH (ajH.mp hi)]at q
   by_cases he:i-Y.lay.length=0
   .rw[he]at q;simp at q;exact .inr ⟨%[a=b,cu (a<b),c=0,qD 0 c a b|(bJ hi he rfl)],q.symm⟩
   .rw[akY,if_neg he]at q;exact aq q
 have tP:∀i,i<Y.lay.length->(σ.vars++[none])[i]?.getD none=σ.vars[i]?.getD none:=λi hi=>by erw[adk (by erw[R.len];exact hi),rfl]
 have Vx:(σ.vars++[none])[Y.lay.length]?.getD none=none:=by erw[<-R.len];simp
 refine ⟨R'.eQ,R'.base,?_,?_,λa ha=>?_,λa ha=>?_,λi a y hy=>?_,by simp[R.len],R'.eS,λa ha=>?_,λi c hc=>?_,R'.own,R'.held,R'.frames,R'.mX,R'.mY,λt ht=>⟨(R.d6 t ht).1,λq=>?_,(R.d6 t ht).2.2⟩,R'.tabs⟩
 .exact (afU wm).mpr (ad1.mpr ⟨Sl,R.nodup⟩)
 .show (Y.lay++[Loc.ns C x]).Nodup
  rw[adX]
  refine ⟨R.de,by simp,λa ha b hb q=>?_⟩
  simp at hb;subst hb q
  refine bU (age ha) λi hi=>?_
  exact Vw (R.cZ _ _ _ hi)
 .rcases (iI a).mp ha with ha|ha
  .exact R.off a ha
  .subst ha;exact hz
 .rw[jp]at ha
  rcases ha with ha|ha|ha
  .rcases abQ.mp ha with ha|ha
   .exact R.low a (.inl ha)
   .simp at ha;subst ha;exact abq hn zp
  .exact R.low a (.inr (.inl ha))
  .exact R.low a (.inr (.inr ha))
 .rcases z4 i _ hy with ⟨q,_⟩ | ⟨_,q⟩
  .exact ad3 _ (R.cZ _ _ _ q)
  .cases q;simp
 .rcases abQ.mp ha with ha|ha
  .refine bz (R'.ns a ha) λf h1 h2=>?_
   refine ⟨f,h1,λi y hy=>?_⟩
   rcases z4 i _ hy with ⟨q,hi⟩ | ⟨_,q⟩
   .erw[tP i hi];exact h2 i y q
   .cases q;exact absurd ha Vw
  .simp at ha;subst ha
   refine ⟨m,lN,λi y hy=>?_⟩
   rcases z4 i _ hy with ⟨q,hi⟩ | ⟨hi,q⟩
   .exact absurd (R.cZ _ _ _ q) Vw
   .cases q;erw[hi,Vx,hm];exact .none
 .rcases z4 i _ hc with ⟨q,hi⟩ | ⟨_,q⟩
  .refine bz (R'.cell i c q) λov h1 h2=>?_
   exact ⟨ov,h1,by erw[tP i hi];exact h2⟩
  .cases q
 .rcases (iI _).mp q with q|q
  .exact (R.d6 t ht).2.1 q
  .refine bU ((R.tabs t ht).there) λps hp=>?_
   rw[q,hC]at hp;exact aq hp
theorem Rel.aaC(R:Rel (Y.more C x) g {σ with vars:=σ.vars++[ov]} h)(J9:∀(i:Nat) (a:aa9) (x:Str),Y.lay[i]?=some (Loc.ns a x)->a∈Y.dH):Rel Y g σ h/\C∉Y.bu g/\g.z C=none/\∃m,h.Ns C m:=by
 have bq:σ.vars.length=Y.lay.length:=by have:=R.len;simpa using this
 have GY:∀(i:Nat) (l:Loc),Y.lay[i]?=some l->(Y.lay++[Loc.ns C x])[i]?=some l/\i<Y.lay.length:=λi l q=>by
  have hi:=(abb.mp q).1
  exact ⟨by erw[adk hi];exact q,hi⟩
 have tP:∀i,i<Y.lay.length->(σ.vars++[ov])[i]?.getD none=σ.vars[i]?.getD none:=λi hi=>by erw[adk (by erw[bq];exact hi),rfl]
 have nd:=ad1.mp ((afU wm).mp R.nodup)
 have hCC:C∈(Y.more C x).bu g:=(iI C).mpr (.inr rfl)
 refine ⟨⟨R.eQ,R.base,nd.2,?_,λa ha=>R.off a ((iI a).mpr (.inl ha)),λa ha=>R.low a (by erw[jp];rcases ha with ha|ha;exact .inl (ad3 _ ha);exact .inr ha),J9,bq,R.eS,λa ha=>?_,λi c hc=>?_,R.own,R.held,R.frames,R.mX,R.mY,λt ht=>⟨(R.d6 t ht).1,λq=>(R.d6 t ht).2.1 ((iI _).mpr (.inl q)),(R.d6 t ht).2.2⟩,R.tabs⟩,nd.1,R.off C hCC,?_⟩
 .have:=R.de
  exact (adX.mp this).1
 .refine bz (R.ns a (ad3 _ ha)) λf h1 h2=>?_
  refine ⟨f,h1,λi y hy=>?_⟩
  refine bY (GY _ _ hy) λq hi=>?_
  have:=h2 i y q
  rwa [tP i hi]at this
 .refine bY (GY _ _ hc) λq hi=>?_
  refine bz (R.cell i c q) λov h1 h2=>?_
  exact ⟨ov,h1,by rwa [tP i hi]at h2⟩
 .refine bz (R.ns C (by simp)) λf h1 _=>?_
  exact ⟨f,h1⟩
end
section
variable{prog:aas}{w:abI}{A:adV}{Y:Lay}{g:Gh}{σ:bj}{s:aaD}{d:Nat}{base:adF}{nm:NI}{env:Env}{RF:cQ}
theorem cn{α:Type}{x:Str}{v:α}{l:List (Str×α)}:l.lookup x=some v->(x,v)∈l:=by
 induction l with
 |nil=>
  intro h
  simp at h
 |cons a_ r ih=>
  intro h
  obtain ⟨n,k⟩:=a_
  rw[ad5]at h
  split at h
  .rename_i e;obtain rfl:=aac h;erw[eq_of_beq e];simp
  .exact ad8 _ (ih h)
theorem lX{α:Type}{x:Str}{p:Str->Bool}{l:List (Str×α)}:(l.filter λ(n,_)=>p n).lookup x=if p x then l.lookup x else none:=by
 induction l with
 |nil=>
  simp
 |cons a_ r ih=>
  obtain ⟨n,k⟩:=a_
  have ih:=ih
  by_cases hp:p n=true
  .erw[aiP (by simpa using hp),ad5,ad5]
   split
   .rename_i e;have:=eq_of_beq e;subst this;simp[hp]
   .exact ih
  .erw[aiQ (by simpa using hp),ih,ad5]
   split
   .rename_i e
    split
    .rename_i q;have:=eq_of_beq q;subst this;exact absurd e hp
    .rfl
   .rfl
theorem z5(names:List (Str×afc)):∀(cs:List (Str×aa9)),(∀y∈names,y.2=adD->∃a,env.cells.lookup y.1=some a)->
 ∃cl:List (Str×aa9),(forIn names cs (λ(x:Str×afc) (r:List (Str×aa9))=>do
  if (x.2==adD)=true then do let a <-cellOf env x.1;pure (ahy ((x.1,a)::r)) else pure (ahy r):_->_->Sem (ForInStep (List (Str×aa9)))))=(pure cl:Sem _)/\
  (∀p∈cs,p∈cl)/\(∀y,(y,adD)∈names->∃a,(y,a)∈cl)/\(∀p∈cl,p∈cs\/env.cells.lookup p.1=some p.2):=by
 induction names with
 |nil=>
  intro cs _
  exact ⟨cs,rfl,λp hp=>hp,λy hy=>by simp at hy,λp hp=>.inl hp⟩
 |cons a_ names ih=>
  intro cs h
  obtain ⟨n,k⟩:=a_
  have h':=λy hy=>h y (ad8 _ hy)
  by_cases hk:k=.free
  .subst hk
   obtain ⟨a,ha⟩:=h (n,.free) (.head _) rfl
   obtain ⟨cl,e,h1,h2,h3⟩:=ih ((n,a)::cs) h'
   refine ⟨cl,?_,λp hp=>h1 p (ad8 _ hp),λy hy=>?_,λp hp=>?_⟩
   .erw[afK ..,<-e]
    simp only[beq_self_eq_true,if_true,cellOf,ha]
    rfl
   .rcases abk.mp hy with hy|hy
    .cases hy;exact ⟨a,h1 _ (.head _)⟩
    .exact h2 y hy
   .rcases h3 p hp with q|q
    .rcases abk.mp q with q|q
     .subst q;exact .inr ha
     .exact .inl q
    .exact .inr q
  .obtain ⟨cl,e,h1,h2,h3⟩:=ih cs h'
   refine ⟨cl,?_,h1,λy hy=>?_,h3⟩
   .erw[afK ..,<-e]
    have:(k==adD)=false:=by simpa using hk
    simp only[this,aeG,if_false]
    rfl
   .rcases abk.mp hy with hy|hy
    .cases hy;exact absurd rfl hk
    .exact h2 y hy
theorem tQ{scope:aiC}(h:∀y∈scope.names,y.2=adD->∃a,env.cells.lookup y.1=some a):
 ∃cl,aj9 scope env=pure cl/\∀y c,(y,adD)∈scope.names->env.cells.lookup y=some c->cl.lookup y=some c:=by
 obtain ⟨cl,e,_,h2,h3⟩:=z5 (env:=env) scope.names [] h
 refine ⟨cl,?_,λy c hy hc=>?_⟩
 .skip
  exact (congrArg (· >>=pure) e)
 .obtain ⟨a,ha⟩:=h2 y hy
  have:cl.lookup y≠none:=λq=>by
   have:=List.lookup_eq_none_iff.mp q _ ha
   simp at this
  cases q:cl.lookup y with
  |none=>exact absurd q this
  |some b=>
   rcases h3 _ (cn q) with q'|q'
   .simp at q'
   .exact q'.symm.trans hc
theorem fN{f:Str->afc->afc}{x:Str}{l:List (Str×afc)}:(l.map λ(n,k)=>(n,f n k)).lookup x=(l.lookup x).map (f x):=by
 induction l with
 |nil=>
  exact rfl
 |cons a_ r ih=>
  obtain ⟨n,k⟩:=a_
  have ih:=ih
  erw[aa6,ad5,ad5]
  split
  .rename_i e;have:=eq_of_beq e;subst this;rfl
  .exact ih
theorem O6{scope:aiC}{x:Str}{cl:List (Str×aa9)}{Ca:aa9}{H:List (aa9×Obj)}(C:Cx base nm env Y)(vx:nN nm scope x=true)(sU:∀y c,(y,adD)∈scope.names->env.cells.lookup y=some c->cl.lookup y=some c):
 Cx base (bg nm scope x) (adO scope cl Ca env) ((Y.more Ca x).with H):=by
 unfold nN at vx
 simp only[aap,decide_eq_true_eq,aaG,beq_iff_eq]at vx
 obtain ⟨⟨gh,vF⟩,hx⟩:=vx
 have hk0:(env.scope.kind==.function)=true:=by erw[C.kind];rfl
 have names:∀y,(bg nm scope x).names.lookup y=(adO scope cl Ca env).kindOf y:=λy=>by
  show ahp y (scope.names.map λ(n,k)=>if (k==.free&&nm.names.lookup n==some .cell)=true then (n,.cell) else (n,k))=ahp y (scope.names.map λ(n,k)=>if (k==.free&&env.scope.kind==.function&&env.kindOf n==some .cell)=true then (n,.cell) else (n,k))
  congr 1
  refine abG λp hp=>?_
  obtain ⟨n,k⟩:=p
  show (if (k==.free&&nm.names.lookup n==some .cell)=true then (n,adI) else (n,k))=if (k==.free&&env.scope.kind==.function&&env.kindOf n==some .cell)=true then (n,.cell) else (n,k)
  erw[C.names n,hk0,agy ..,rfl]
 refine ⟨gh,names,λy i hi=>?_,?_,C.az,C.keep⟩
 .have z6:ahp y ((x,nm.ik)::nm.slots.filter λ(n,_)=>scope.names.lookup n==some .free)=some i:=hi
  rw[ad5]at z6
  split at z6
  .rename_i e
   have:=eq_of_beq e;subst this
   obtain rfl:=aac z6
   refine ⟨.ns Ca y,?_,.inl ⟨rfl,amL hx⟩⟩
   show (Y.lay++[Loc.ns Ca y])[nm.ik]?=_
   erw[C.dH];simp
  .have hf:=lX (x:=y) (p:=λn=>scope.names.lookup n==some adD) (l:=nm.slots)
   rw[hf]at z6
   split at z6
   .rename_i ek
    have ek:=eq_of_beq ek
    obtain ⟨l,hl,h1⟩:=C.slots y i z6
    have hm:=cn ek
    have Ka:=vF _ hm
    simp at Ka
    rcases h1 with ⟨rfl,fU⟩ | ⟨c,rfl,hc,GZ⟩
    .exact absurd ((C.names y).trans fU) Ka.2
    .refine ⟨.cell c,?_,.inr ⟨c,rfl,sU y c hm hc,?_⟩⟩
     .show (Y.lay++[Loc.ns Ca x])[i]?=_
      erw[adk (abb.mp hl).1];exact hl
     .erw[<-names y]
      have e:=fN (f:=λ(n:Str) (k:afc)=>if (k==adD&&nm.names.lookup n==some adI)=true then adI else k) (x:=y) (l:=scope.names)
      rw[ek]at e
      have e2:(bg nm scope x).names=scope.names.map λ(n,k)=>(n,if (k==adD&&nm.names.lookup n==some adI)=true then adI else k):=by
       show (scope.names.map λ(n,k)=>if (k==adD&&nm.names.lookup n==some adI)=true then (n,adI) else (n,k))=_
       refine abG λp hp=>?_
       obtain ⟨n,k⟩:=p
       dsimp only
       split <;> rfl
      erw[e2,e]
      simp only[aic]
      split
      .exact .inl rfl
      .exact .inr rfl
   .exact aq z6
 .show nm.ik+1=(Y.lay++[Loc.ns Ca x]).length
  erw[C.dH];simp
noncomputable def nS(es:List ado)(env:Env)(b:Bool):Sem Bool:=forIn es b λc r=>if r=true then do let ok <-isTrue c env (eval c env);pure (ahy ok) else pure (ahy r)
theorem rc(env:Env):∀es:List ado,nS es env false=pure false
 |[]=>rfl
 |e::es=>by
  have ih:=rc env es
  unfold nS at ih ⊢
  rw[afK]
  skip
  exact ih
noncomputable def G1(prog:aas)(w:abI)(d:Nat)(base:adF)(RF:cQ)(nm:NI)(env:Env)(Y:Lay)(es:List ado)(dK:zK):Prop:=
 ∀A s g σ r,jM d Y.fr A->Rel Y g σ s.heap->f6 RF dK σ=some r->Wb (abD prog w) A Y g σ (nS es env true) s r
theorem G2:G1 prog w d base RF nm env Y [] .nil:=by
 intro A s g σ r hA R h E Q hQ
 cases h
 exact adG (hQ s g (aW.refl _) (Gh.le.refl g) R (a9.refl s))
theorem CL(h1:ST prog w d base RF nm env Y e it)(h2:G1 prog w d base RF nm env Y es dK):G1 prog w d base RF nm env Y (e::es) (.cons it dK):=by
 intro A s g σ r hA R h E Q hQ
 skip
 (refine ax h ?_;clear h;intro b hb h)
 unfold nS
 rw[afK]
 skip
 refine aaH (aaH (h1 A s g σ b hA R hb E _ λdx aR mt aY aQ aV=>adG ?_))
 show abJ (abD prog w) A (nS es env b) Q E dx
 split at h
 .rename_i e;subst e
  exact h2 A dx aR σ r hA aQ h E _ λqm bD bb bt aM a6=>hQ qm bD (mt.trans bb) (aY.trans bt) aM (aV.trans a6)
 .rename_i e
  obtain rfl:=aac h
  have:b=false:=by simpa using e
  subst this
  erw[rc ..]
  exact adG (hQ dx aR mt aY aQ aV)
end
section
variable{prog:aas}{w:abI}{A:adV}{Y:Lay}{g:Gh}{σ:bj}{s:aaD}{d:Nat}{base:adF}{nm:NI}{env:Env}{RF:cQ}{h h':adF}{M:ali}{E:aaq->aaD->Prop}
noncomputable abbrev Lay.z7(Y:Lay)(c:aa9):Lay:=⟨Y.base,Y.n,Y.dH,Y.lay++[.cell c],Y.hold,Y.fr⟩
theorem gG:(Y.z7 c).cells=Y.cells++[c]:=by
 simp[Lay.cells,alp]
theorem gi(a:aa9):a∈(Y.z7 c).bu g↔a∈Y.bu g\/a=c:=by
 (rw[aw];rw[aw];erw[gG])
 simp only[abQ,abF]
 constructor
 .rintro (ha|(ha|ha)|ha|ha)
  .exact .inl (.inl ha)
  .exact .inl (.inr (.inl ha))
  .exact .inr ha
  .exact .inl (.inr (.inr (.inl ha)))
  .exact .inl (.inr (.inr (.inr ha)))
 .rintro ((ha|ha|ha|ha)|ha)
  .exact .inl ha
  .exact .inr (.inl (.inl ha))
  .exact .inr (.inr (.inl ha))
  .exact .inr (.inr (.inr ha))
  .exact .inr (.inl (.inr ha))
theorem tT:ak0 ((Y.z7 c).bu g) (c::Y.bu g):=by
 unfold Lay.bu
 rw[gG]
 simp only[aaI,aja]
 exact (ahQ _ ahx).trans ahx
theorem Rel.Kc(R:Rel Y g σ h)(hk:KS h h')(hC:h.get? c=none)(zp:h.objs.size<=c)(cT:h'.IsCell c none)(hn:Y.n<=h.objs.size):
 Rel (Y.z7 c) g {σ with vars:=σ.vars++[none]} h':=by
 have R':=R.keep hk
 have Sl:c∉Y.bu g:=λhm=>adP _ (aaO (R.live c hm) zp)
 have hz:g.z c=none:=by
  cases e:g.z c with
  |none=>rfl
  |some o=>have:=R.eQ _ _ e;rw[hC]at this;exact aq this
 have hCc:c∉Y.cells:=λq=>Sl (aw.mpr (.inr (.inl q)))
 have z4:∀(i:Nat) (l:Loc),(Y.lay++[Loc.cell c])[i]?=some l->(Y.lay[i]?=some l/\i<Y.lay.length)\/(i=Y.lay.length/\l=.cell c):=λi l q=>by
  by_cases hi:i<Y.lay.length
  .rw[adk hi]at q;exact .inl ⟨q,hi⟩
  .rw[agH (ajH.mp hi)]at q
   by_cases he:i-Y.lay.length=0
   .rw[he]at q;simp at q;exact .inr ⟨%[a=b,cu (a<b),c=0,qD 0 c a b|(bJ hi he rfl)],q.symm⟩
   .rw[akY,if_neg he]at q;exact aq q
 have tP:∀i,i<Y.lay.length->(σ.vars++[none])[i]?.getD none=σ.vars[i]?.getD none:=λi hi=>by erw[adk (by erw[R.len];exact hi),rfl]
 have Vx:(σ.vars++[none])[Y.lay.length]?.getD none=none:=by erw[<-R.len];simp
 refine ⟨R'.eQ,R'.base,?_,?_,λa ha=>?_,λa ha=>?_,λi a y hy=>?_,by simp[R.len],R'.eS,λa ha=>?_,λi c' hc=>?_,R'.own,R'.held,R'.frames,R'.mX,R'.mY,λt ht=>⟨(R.d6 t ht).1,λq=>?_,(R.d6 t ht).2.2⟩,R'.tabs⟩
 .exact (afU tT).mpr (ad1.mpr ⟨Sl,R.nodup⟩)
 .show (Y.lay++[Loc.cell c]).Nodup
  rw[adX]
  refine ⟨R.de,by simp,λa ha b hb q=>?_⟩
  simp at hb;subst hb q
  refine bU (age ha) λi hi=>?_
  exact hCc (bR hi)
 .rcases (gi a).mp ha with ha|ha
  .exact R.off a ha
  .subst ha;exact hz
 .rw[gG]at ha
  rcases ha with ha|ha|ha
  .exact R.low a (.inl ha)
  .rcases abQ.mp ha with ha|ha
   .exact R.low a (.inr (.inl ha))
   .simp at ha;subst ha;exact abq hn zp
  .exact R.low a (.inr (.inr ha))
 .rcases z4 i _ hy with ⟨q,_⟩ | ⟨_,q⟩
  .exact R.cZ _ _ _ q
  .cases q
 .refine bz (R'.ns a ha) λf h1 h2=>?_
  refine ⟨f,h1,λi y hy=>?_⟩
  rcases z4 i _ hy with ⟨q,hi⟩ | ⟨_,q⟩
  .erw[tP i hi];exact h2 i y q
  .cases q
 .rcases z4 i _ hc with ⟨q,hi⟩ | ⟨hi,q⟩
  .refine bz (R'.cell i c' q) λov h1 h2=>?_
   exact ⟨ov,h1,by erw[tP i hi];exact h2⟩
  .cases q
   exact ⟨none,cT,by (erw[hi,Vx]);exact .none⟩
 .rcases (gi _).mp q with q|q
  .exact (R.d6 t ht).2.1 q
  .refine bU ((R.tabs t ht).there) λps hp=>?_
   rw[q,hC]at hp;exact aq hp
theorem Rel.O7(R:Rel (Y.z7 c) g {σ with vars:=σ.vars++[ov]} h):Rel Y g σ h/\c∉Y.bu g/\g.z c=none:=by
 have bq:σ.vars.length=Y.lay.length:=by have:=R.len;simpa using this
 have GY:∀(i:Nat) (l:Loc),Y.lay[i]?=some l->(Y.lay++[Loc.cell c])[i]?=some l/\i<Y.lay.length:=λi l q=>by
  have hi:=(abb.mp q).1
  exact ⟨by erw[adk hi];exact q,hi⟩
 have tP:∀i,i<Y.lay.length->(σ.vars++[ov])[i]?.getD none=σ.vars[i]?.getD none:=λi hi=>by erw[adk (by erw[bq];exact hi),rfl]
 have nd:=ad1.mp ((afU tT).mp R.nodup)
 refine ⟨⟨R.eQ,R.base,nd.2,?_,λa ha=>R.off a ((gi a).mpr (.inl ha)),λa ha=>R.low a (by erw[gG];rcases ha with ha|ha|ha;exact .inl ha;exact .inr (.inl (ad3 _ ha));exact .inr (.inr ha)),λi a y hy=>R.cZ i a y (GY _ _ hy).1,bq,R.eS,λa ha=>?_,λi c hc=>?_,R.own,R.held,R.frames,R.mX,R.mY,λt ht=>⟨(R.d6 t ht).1,λq=>(R.d6 t ht).2.1 ((gi _).mpr (.inl q)),(R.d6 t ht).2.2⟩,R.tabs⟩,nd.1,R.off c ((gi c).mpr (.inr rfl))⟩
 .have:=R.de
  exact (adX.mp this).1
 .refine bz (R.ns a ha) λf h1 h2=>?_
  refine ⟨f,h1,λi y hy=>?_⟩
  refine bY (GY _ _ hy) λq hi=>?_
  have:=h2 i y q
  rwa [tP i hi]at this
 .refine bY (GY _ _ hc) λq hi=>?_
  refine bz (R.cell i c q) λov h1 h2=>?_
  exact ⟨ov,h1,by rwa [tP i hi]at h2⟩
noncomputable abbrev Lay.wn(Y:Lay)(C:aa9):Lay:=⟨Y.base,Y.n,Y.dH++[C],Y.lay,Y.hold,Y.fr⟩
theorem gj(a:aa9):a∈(Y.wn C).bu g↔a∈Y.bu g\/a=C:=by
 rw[aw,aw]
 simp only[abQ,abF]
 constructor
 .rintro ((ha|ha)|ha|ha|ha)
  .exact .inl (.inl ha)
  .exact .inr ha
  .exact .inl (.inr (.inl ha))
  .exact .inl (.inr (.inr (.inl ha)))
  .exact .inl (.inr (.inr (.inr ha)))
 .rintro ((ha|ha|ha|ha)|ha)
  .exact .inl (.inl ha)
  .exact .inr (.inl ha)
  .exact .inr (.inr (.inl ha))
  .exact .inr (.inr (.inr ha))
  .exact .inl (.inr ha)
theorem tU:ak0 ((Y.wn C).bu g) (C::Y.bu g):=by
 skip
 show ak0 ((Y.dH++[C])++(Y.cells++_)) _
 simp only[aaI]
 exact ahx
theorem Rel.aaE(R:Rel Y g σ h)(hk:KS h h')(hC:h.get? C=none)(zp:h.objs.size<=C)(lN:h'.Ns C m)(hn:Y.n<=h.objs.size):Rel (Y.wn C) g σ h':=by
 have R':=R.keep hk
 have Sl:C∉Y.bu g:=λhm=>adP _ (aaO (R.live C hm) zp)
 have hz:g.z C=none:=by
  cases e:g.z C with
  |none=>rfl
  |some o=>have:=R.eQ _ _ e;rw[hC]at this;exact aq this
 have Vw:C∉Y.dH:=λq=>Sl (aw.mpr (.inl q))
 refine ⟨R'.eQ,R'.base,(afU tU).mpr (ad1.mpr ⟨Sl,R.nodup⟩),R.de,λa ha=>?_,λa ha=>?_,λi a y hy=>ad3 _ (R.cZ i a y hy),R.len,R'.eS,λa ha=>?_,R'.cell,R'.own,R'.held,R'.frames,R'.mX,R'.mY,λt ht=>⟨(R.d6 t ht).1,λq=>?_,(R.d6 t ht).2.2⟩,R'.tabs⟩
 .rcases (gj a).mp ha with ha|ha
  .exact R.off a ha
  .subst ha;exact hz
 .rcases ha with ha|ha|ha
  .rcases abQ.mp ha with ha|ha
   .exact R.low a (.inl ha)
   .simp at ha;subst ha;exact abq hn zp
  .exact R.low a (.inr (.inl ha))
  .exact R.low a (.inr (.inr ha))
 .rcases abQ.mp ha with ha|ha
  .exact R'.ns a ha
  .simp at ha;subst ha
   exact ⟨m,lN,λi y hy=>absurd (R.cZ _ _ _ hy) Vw⟩
 .rcases (gj _).mp q with q|q
  .exact (R.d6 t ht).2.1 q
  .refine bU ((R.tabs t ht).there) λps hp=>?_
   rw[q,hC]at hp;exact aq hp
theorem Rel.ae2(R:Rel (Y.wn C) g σ h)(J9:∀(i:Nat) (a:aa9) (x:Str),Y.lay[i]?=some (Loc.ns a x)->a∈Y.dH):Rel Y g σ h/\C∉Y.bu g/\g.z C=none/\∃m,h.Ns C m:=by
 have nd:=ad1.mp ((afU tU).mp R.nodup)
 have hCC:C∈(Y.wn C).bu g:=(gj C).mpr (.inr rfl)
 refine ⟨⟨R.eQ,R.base,nd.2,R.de,λa ha=>R.off a ((gj a).mpr (.inl ha)),λa ha=>R.low a (by rcases ha with ha|ha;exact .inl (ad3 _ ha);exact .inr ha),J9,R.len,R.eS,λa ha=>R.ns a (ad3 _ ha),R.cell,R.own,R.held,R.frames,R.mX,R.mY,λt ht=>⟨(R.d6 t ht).1,λq=>(R.d6 t ht).2.1 ((gj _).mpr (.inl q)),(R.d6 t ht).2.2⟩,R.tabs⟩,nd.1,R.off C hCC,?_⟩
 refine bz (R.ns C (by simp)) λf h1 _=>?_
 exact ⟨f,h1⟩
theorem tV:∀(names:List (Str×afc)) (n:Nat) (acc:List (Str×aa9)) (h:adF),names.filter (λy=>y.2==.cell)=[]->aiG n names acc=acc/\alT h names=h
 |[],n,acc,h,e=>⟨rfl,rfl⟩
 |(y,k)::r,n,acc,h,e=>by
  unfold aiG alT
  by_cases hk:(k==.cell)=true
  .rw[aiP (p:=λy:Str×afc=>y.2==.cell) hk]at e;cases e
  .rw[aiQ (p:=λy:Str×afc=>y.2==.cell) hk]at e
   (rw[if_neg hk];erw[if_neg hk])
   exact tV r n acc h e
theorem o8{x:Str}:∀(names:List (Str×afc)) (n:Nat) (acc:List (Str×aa9)) (h:adF),names.filter (λy=>y.2==.cell)=[(x,.cell)]->aiG n names acc=(x,n)::acc/\alT h names=h.push {cls:=.type "cell",data:=.cell none}
 |[],n,acc,h,e=>by cases e
 |(y,k)::r,n,acc,h,e=>by
  unfold aiG alT
  by_cases hk:(k==.cell)=true
  .rw[aiP (p:=λy:Str×afc=>y.2==.cell) hk]at e
   obtain ⟨e1,e2⟩:=ajd e
   obtain ⟨rfl,rfl⟩ :y=x/\k=.cell:=by simpa using e1
   (rw[if_pos hk];erw[if_pos hk])
   exact tV r _ _ _ e2
  .rw[aiQ (p:=λy:Str×afc=>y.2==.cell) hk]at e
   erw[if_neg hk,if_neg hk]
   exact o8 r n acc h e
theorem O8{cl:List (Str×aa9)}{Q:Env->aaD->Prop}(tW:scope.names.filter (λy=>y.2==.cell)=[(x,.cell)])
(hQ:Q (newEnv scope s.heap.objs.size globals ((x,s.heap.objs.size+1)::cl) qual none .none (some env) builtinsNs) {s with heap:=(s.heap.push {cls:=.type "dict",data:=.dict #[]}).push {cls:=.type "cell",data:=.cell none}}):
 abJ M A (newFunctionEnv scope globals cl [] qual none .none (some env)) Q E s:=by
 simp only[newFunctionEnv,aly,if_true]
 refine aaH (wpAny_alloc ?_)
 refine aaH (wpAny_layCells _ (λname kind cells=>by cases G3:kind==adI <;> simp) _ _ _ _ ?_)
 erw[(show ({s with heap:=s.heap.push {cls:=.type "dict",data:=.dict #[]}}:aaD).heap.objs.size=s.heap.objs.size+1 from agE ..),(o8 scope.names _ _ s.heap tW).1,(o8 scope.names 0 [] _ tW).2]
 refine aaH (ahf (a:=air) rfl (adG ?_))
 exact hQ
theorem fP{env:Env}{names:List (Str×afc)}{x:Str}(h:names.lookup x=some adI):
 (names.map λ(n,k)=>if (k==adD&&env.scope.kind==aie&&env.kindOf n==some adI) then (n,adI) else (n,k)).lookup x=some adI:=by
 have e:=fN (f:=λ(n:Str) (k:afc)=>if (k==adD&&env.scope.kind==aie&&env.kindOf n==some adI)=true then adI else k) (x:=x) (l:=names)
 have e2:(names.map λ(n,k)=>if (k==adD&&env.scope.kind==aie&&env.kindOf n==some adI) then (n,adI) else (n,k))=names.map λ(n,k)=>(n,if (k==adD&&env.scope.kind==aie&&env.kindOf n==some adI)=true then adI else k):=
  abG λp hp=>by obtain ⟨n,k⟩:=p;dsimp only;split <;> rfl
 erw[e2,e,h];rfl
theorem Kd{scope:aiC}{x:Str}{cl:List (Str×aa9)}{Ca c:aa9}{H:List (aa9×Obj)}(C:Cx base nm env Y)(vx:kC nm scope x=true)(sU:∀y c,(y,adD)∈scope.names->env.cells.lookup y=some c->cl.lookup y=some c):
 Cx base (bg nm scope x) (adO scope ((x,c)::cl) Ca env) ((Y.bv Ca (.cell c)).with H):=by
 unfold kC at vx
 simp only[aap,decide_eq_true_eq,aaG,beq_iff_eq]at vx
 obtain ⟨⟨⟨gh,vF⟩,tW⟩,hx⟩:=vx
 have hk0:(env.scope.kind==.function)=true:=by erw[C.kind];rfl
 have names:∀y,(bg nm scope x).names.lookup y=(adO scope ((x,c)::cl) Ca env).kindOf y:=λy=>by
  show ahp y (scope.names.map λ(n,k)=>if (k==.free&&nm.names.lookup n==some .cell)=true then (n,.cell) else (n,k))=ahp y (scope.names.map λ(n,k)=>if (k==.free&&env.scope.kind==.function&&env.kindOf n==some .cell)=true then (n,.cell) else (n,k))
  congr 1
  refine abG λp hp=>?_
  obtain ⟨n,k⟩:=p
  show (if (k==.free&&nm.names.lookup n==some .cell)=true then (n,adI) else (n,k))=if (k==.free&&env.scope.kind==.function&&env.kindOf n==some .cell)=true then (n,.cell) else (n,k)
  erw[C.names n,hk0,agy ..,rfl]
 refine ⟨gh,names,λy i hi=>?_,?_,C.az,C.keep⟩
 .have z6:ahp y ((x,nm.ik)::nm.slots.filter λ(n,_)=>scope.names.lookup n==some .free)=some i:=hi
  rw[ad5]at z6
  split at z6
  .rename_i e
   have:=eq_of_beq e;subst this
   obtain rfl:=aac z6
   refine ⟨.cell c,?_,.inr ⟨c,rfl,(by show ahp y ((y,c)::cl)=some c;simp),.inl (fP hx)⟩⟩
   show (Y.lay++[Loc.cell c])[nm.ik]?=_
   erw[C.dH];simp
  .rename_i cW
   have hf:=lX (x:=y) (p:=λn=>scope.names.lookup n==some adD) (l:=nm.slots)
   rw[hf]at z6
   split at z6
   .rename_i ek
    have ek:=eq_of_beq ek
    refine bz (C.slots y i z6) λl hl h1=>?_
    have hm:=cn ek
    have Ka:=vF _ hm
    simp at Ka
    rcases h1 with ⟨rfl,fU⟩ | ⟨c',rfl,hc,GZ⟩
    .exact absurd ((C.names y).trans fU) Ka.2
    .refine ⟨.cell c',?_,.inr ⟨c',rfl,?_,?_⟩⟩
     .show (Y.lay++[Loc.cell c])[i]?=_
      erw[adk (abb.mp hl).1];exact hl
     .show ahp y ((x,c)::cl)=some c'
      erw[ad5,cW]
      exact sU y c' hm hc
     .erw[<-names y]
      have e:=fN (f:=λ(n:Str) (k:afc)=>if (k==adD&&nm.names.lookup n==some adI)=true then adI else k) (x:=y) (l:=scope.names)
      rw[ek]at e
      have e2:(bg nm scope x).names=scope.names.map λ(n,k)=>(n,if (k==adD&&nm.names.lookup n==some adI)=true then adI else k):=by
       show (scope.names.map λ(n,k)=>if (k==adD&&nm.names.lookup n==some adI)=true then (n,adI) else (n,k))=_
       refine abG λp hp=>?_
       obtain ⟨n,k⟩:=p
       dsimp only
       split <;> rfl
      erw[e2,e]
      simp only[aic]
      split
      .exact .inl rfl
      .exact .inr rfl
   .exact aq z6
 .show nm.ik+1=(Y.lay++[Loc.cell c]).length
  erw[C.dH];simp
end
section
variable{prog:aas}{w:abI}{A:adV}{Y:Lay}{g:Gh}{σ:bj}{s:aaD}{d:Nat}{base:adF}{nm:NI}{env:Env}{RF:cQ}
noncomputable def wo(RF:cQ)(ie:IE)(dK:zK)(σ:bj)(x:AV):Option (Option AV):=
 (f6 RF dK (σ.push x)).bind λc=>if c=true then (aA RF ie (σ.push x)).map some else some none
theorem Ke(h:a<J)(e:J=I):a≠I+1+1:=%[cu (a=b+1+1),a<c,c=b|(bJ h e)]
theorem z8(h:σ.vars.length=Y.lay.length):({({σ with vars:=σ.vars++[ov]}:bj) with vars:=(σ.vars++[ov]).set Y.lay.length (some x)}:bj)=σ.push x:=by
 unfold bj.push
 congr 1
 rw[<-h]
 simp
theorem Rel.wp(R:Rel (Y.with (p::q::H)) g σ h):Rel (Y.with (q::p::H)) g σ h:=by
 have mm:∀a,a∈(Y.with (q::p::H)).bu g->a∈(Y.with (p::q::H)).bu g:=λa ha=>by
  rw[aw]at ha ⊢
  rcases ha with ha|ha|ha|ha
  .exact .inl ha
  .exact .inr (.inl ha)
  .refine .inr (.inr (.inl ?_))
   simp only[aa6,abk]at ha ⊢
   rcases ha with ha|ha|ha
   .exact .inr (.inl ha)
   .exact .inl ha
   .exact .inr (.inr ha)
  .exact .inr (.inr (.inr ha))
 refine ⟨R.eQ,R.base,?_,R.de,λa ha=>R.off a (mm a ha),R.low,R.cZ,R.len,R.eS,R.ns,R.cell,R.own,λr hr=>R.held r ?_,R.frames,λL hL q=>R.mX L hL ?_,R.mY,λt ht=>⟨(R.d6 t ht).1,λq=>(R.d6 t ht).2.1 (mm _ q),(R.d6 t ht).2.2⟩,R.tabs⟩
 .refine (afU ?_).mpr R.nodup
  skip
  refine ahQ _ (ahQ _ (List.Perm.append_right _ ?_))
  exact List.Perm.swap _ _ _
 .rcases abk.mp hr with hr|hr
  .exact hr▸(.tail _ (.head _))
  .rcases abk.mp hr with hr|hr
   .exact hr▸(.head _)
   .exact ad8 _ (ad8 _ hr)
 .simp only[aa6,abk]at q ⊢
  rcases q with q|q|q
  .exact .inr (.inl q)
  .exact .inl q
  .exact .inr (.inr q)
theorem lB(h:eT iter=true)(v:aaq):foldedSetIterable iter env v=pure v:=by
 cases iter <;> first|rfl|cases h
noncomputable def O9(Y:Lay)(RF:cQ)(ie:IE)(dK:zK)(σ:bj)(items ys:List AV)(dx:aaD)(aR:Gh)(St:Nat->adF->Prop)(I D C:aa9)(lc:Loc)(n:Nat)(s':aaD):Prop:=∀G:Prop,(∀k g' ov oI acc vs e rest,n=items.length+1-k->k<=items.length->St k s'.heap->aW Y.lo dx.heap s'.heap->aR.le g'->
 Rel ((Y.bv C lc).with ((I,oI)::(D,{cls:=.type "list",data:=.seq (aed vs) e})::Y.hold)) g' {σ with vars:=σ.vars++[ov]} s'.heap->a9 dx s'->ak Y.n g' acc vs->dI (wo RF ie dK σ) (items.drop k)=some rest->acc++rest=ys->G)->G
theorem CM{P:AV->Option (Option AV)}{items rest:List AV}{k:Nat}{x:AV}{G:Prop}(hx:items[k]?=some x)(h:dI P (items.drop k)=some rest)
(k1:∀o,P x=some o->(match o with|some y=>(dI P (items.drop (k+1))).map (y::·)|none=>dI P (items.drop (k+1)))=some rest->G):G:=by
 (refine bU (abb.mp hx) λbA oY=>?_;obtain rfl:=oY)
 rw[ael bA]at h
 exact ax h k1
theorem Rel.o9(R:Rel (Y.with H) g σ h)(hp:p∈H):∀t∈aX,h.get? t.P≠some (ji (t.item p.1)):=R.sO (R.off _ (aw.mpr (.inr (.inr (.inl (adB hp))))))
theorem z9(k:aW F h h')(hk:∀b o,b∉[C]->h'.get? b=some o->xS.get? b=some o)(ne:∀a o,h.get? a=some o->a<C)(nc:∀t∈F.tb,h'.get? t.P≠some (ji (t.item C))):aW F h xS:=
 k.fw hk (λa o e=>by rw[abF];exact ac4 (ne a o e)) λc hc=>by erw[abF.mp hc];exact nc
theorem wq{elt iter:ado}{x:Str}{px:Pos}{ifs:List ado}{scope:aiC}{pos:Pos}{ie:IE}{dK:zK}{dx:aaD}{aR:Gh}{I D C aaF:Nat}{o:Obj}{fp:List aa9}{P:Nat->aaq->Prop}{St:Nat->adF->Prop}{nm':NI}{bk:Env}{R':Result->aaD->Prop}{lc:Loc}{K:aa9}
(ae4:∀(s':aaD) (g':Gh) (ov:Option AV) (H:List (aa9×Obj)) (xk:AV) (v:aaq),Rel ((Y.bv C lc).with H) g' {σ with vars:=σ.vars++[ov]} s'.heap->RelV Y.n g' xk v->∀(E:aaq->aaD->Prop) (Q:Unit->aaD->Prop),
  (∀jq tk,aem K s'.heap jq->Rel ((Y.bv C lc).with H) g' (σ.push xk) jq->Q () {s' with heap:=jq,toks:=tk})->abJ (abD prog w) A (akG (.Name x px) bk v) Q E s')
(ae5:∀(g':Gh) (ov:Option AV) (H:List (aa9×Obj)) (h:adF),Rel ((Y.bv C lc).with H) g' {σ with vars:=σ.vars++[ov]} h->Rel (Y.with H) g' σ h/\C∉(Y.with H).bu g'/\g'.z C=none/\∃m,h.Ns C m)
(hK:∀(g':Gh) (H:List (aa9×Obj)),K∈((Y.bv C lc).with H).bu g')(hDK:D<K)
(hT:∀H,G1 prog w d base RF nm' bk ((Y.bv C lc).with H) ifs dK)(hE:∀H,SE prog w d base RF nm' bk ((Y.bv C lc).with H) elt ie)
(hA:jM d Y.fr A)(O5:σ.vars.length=Y.lay.length){items ys:List AV}(It:aaB prog w (iG Y.fr) false Y.n aR items I fp P St)(hy:dI (wo RF ie dK σ) items=some ys)(bq:ys.length<=aa7)
(cW:∀a o,dx.heap.get? a=some o->a<I)(hID:I<D)(hDC:D<C)(hn:Y.n<=I)(Aa:∀b∈fp,b∉iG Y.fr)(Cm:∀(i:Nat) (a:aa9) (x:Str),Y.lay[i]?=some (Loc.ns a x)->a∈Y.dH)
(nh:St 0 s.heap)(Ab:aW Y.lo dx.heap s.heap)(gf:Rel ((Y.bv C lc).with ((I,o)::(D,{cls:=.type "list",data:=.seq (aed []) aaF})::Y.hold)) aR {σ with vars:=σ.vars++[none]} s.heap)(aV:a9 dx s)
(hQ:∀s' g' vs e,aW Y.lo dx.heap s'.heap->aR.le g'->Rel (Y.with ((D,{cls:=.type "list",data:=.seq (aed vs) e})::Y.hold)) g' σ s'.heap->a9 dx s'->ak Y.n g' ys vs->(∃m,s'.heap.Ns C m)->g'.z C=none->C∉(Y.with ((D,{cls:=.type "list",data:=.seq (aed vs) e})::Y.hold)).bu g'->R' (.ok .next) s'):
 ako (abD prog w) A (.compLoop (.ListComp elt [⟨.Name x px,iter,ifs,0⟩] scope pos) 0 (.ref I) (.ref D) bk) R' s:=by
 have W:=It.walks A hA.hand
 refine codeAny_compLoop_tests (O9 Y RF ie dK σ items ys dx aR St I D C lc) ?_ (items.length+1) λG f=>f 0 aR none o [] [] aaF ys rfl (ae7 _) nh Ab (Gh.le.refl _) gf aV .nil hy rfl
 refine λn s' H=>ej λQa Ea na V=>H _ λk g' ov oI acc vs eD rest hnk hk CN kp' l' R' m' tX iJ hys=>?_
 have nd3:=R'.zJ.1.2.2.1
 skip
 by_cases bA:k<items.length
 .refine W.item k s' _ _ bA CN λv jJ tk hPv kI gH=>na _ _ ?_
  refine bz (It.rel k v bA hPv) λxk hxk Pa=>?_
  refine CM hxk iJ λoy Yv iJ=>ax Yv λc hc Yv=>?_
  refine bU (It.obj _ _ kI) λAc CO=>?_
  have dX:=R'.ya (h':=jJ) gH CO
  have Ad:aW Y.lo dx.heap jJ:=z9 kp' gH cW (R'.o9 (.head _))
  refine ae4 {s' with heap:=jJ,toks:=tk} g' ov _ xk v dX (Pa.mono l') _ _ λjq Yw nT db=>?_
  have aaJ:∀b∈fp,b≠D/\b≠K:=λb hb=>⟨ac4 (adZ (It.low b hb) hID),ac4 (adZ (It.low b hb) (aeT hID hDK))⟩
  have Sn:aW Y.lo dx.heap jq:=Ad.tj nT (λa o' e=>ac4 (aeT (cW a o' e) (aeT hID hDK))) (dX.sO (c:=K) (dX.off K (hK _ _)))
  have yb:St (k+1) jq:=W.frame _ _ _ kI λb hb o' e=>nT.extBut b o' (aaJ b hb).2 e
  have Kf:∀{h h':adF} {j:Nat},aW Y.lo h h'->St j h->St j h':=λk hs=>W.frame _ _ _ hs λb hb o' e=>k.get e (λhm=>Aa b hb (ad3 _ hm)) (λt ht q=>Aa b hb (afJ _ (q▸adB ht)))
  refine hT _ A {s' with heap:=jq,toks:=Yw} g' (σ.push xk) c hA db hc _ _ λd7 x7 jo lO iK eV=>?_
  have nU:a9 dx d7:=m'.trans (⟨eV.1,eV.2,eV.3⟩ :a9 s' d7)
  cases c with
  |true=>
   rw[if_pos rfl]at Yv ⊢
   refine bC Yv λy hy' ho=>?_
   subst ho
   refine bC iJ λwt hr' ho=>?_
   subst ho
   refine (hE _ A d7 x7 (σ.push xk) y hA iK hy').then λu iq o5 tK zX d8 kH Vr=>?_
   have cL:vs.toArray.size<=aa7:=by
    have e1:=tX.length
    have e2:ys.length=acc.length+(y::wt).length:=by (erw[<-hys,aao,rfl])
    rw[adY]at e2
    erw[af4];exact %[a<=b,c<=b,d=a,c=d+(e+1)|Cj bq e1 e2]
   refine aje (items:=vs.toArray) (x:=u) ⟨eD,d8.held _ (.tail _ (.head _))⟩ (λae8 Kg Ae=>?_) cL
   obtain ⟨ae9,Sp⟩:=Kg
   rw[amn]at Sp
   have Pb:=d8.J7 (h':=ae8) (λb x hb=>Ae.extBut b x hb) Sp
   refine ⟨_,sT hnk bA,λG f=>f (k+1) o5 (some xk) Ac (acc++[y]) (vs++[u]) ae9 wt rfl bA ?_ ?_ ((l'.trans lO).trans zX) Pb ((nU.trans kH).trans ⟨rfl,rfl,rfl⟩) ((tX.mono (lO.trans zX)).append (.cons Vr .nil)) hr' (by (erw[<-hys,aaI ..]);rfl)⟩
   .exact W.frame _ _ _ (Kf jo yb) λb hb o' e=>Ae.extBut b o' (aaJ b hb).1 (tK.get e (λhm=>Aa b hb (ad3 _ hm)) (λt ht q=>Aa b hb (afJ _ (q▸adB ht))))
   .exact ((Sn.trans jo).trans tK).tj Ae (λa o' e=>ac4 (aeT (cW a o' e) hID)) (d8.o9 (.tail _ (.head _)))
  |false=>
   rw[if_neg agI]at Yv ⊢
   obtain rfl:=aac Yv
   exact ⟨_,sT hnk bA,λG f=>f (k+1) x7 (some xk) Ac acc vs eD rest rfl bA (Kf jo yb) (Sn.trans jo) (l'.trans lO) iK nU (tX.mono lO) iJ hys⟩
 .have hke:k=items.length:=%[a=b,a<=b,cu (a<b)|(aP hk bA)]
  subst hke
  rw[aiR]at iJ
  obtain rfl:=aac iJ
  rw[abW]at hys
  subst hys
  refine W.done s' _ _ CN λjJ tk gH=>na _ _ ?_
  have dX:=R'.lA (h':=jJ) λb o' hb e=>gH b o' (by simpa using hb) e
  refine bY (ae5 _ _ _ _ dX) λiK dQ=>bY dQ λaaK di=>bY di λaaL aaM=>?_
  exact hQ {s' with heap:=jJ,toks:=tk} _ vs eD (z9 kp' gH cW (R'.o9 (.head _))) l' iK (m'.trans ⟨rfl,rfl,rfl⟩) tX aaM aaL aaK
theorem G4{C:aa9}{x:Str}{bk:Env}(Vy:bk.kindOf x=some .local)(hpx:(bk.scope.kind==.class||(bk.scope.kind==.module&&bk.locals !=bk.globals))=false)(fU:bk.locals=C)(O5:σ.vars.length=Y.lay.length)
(s':aaD)(g':Gh)(ov:Option AV)(H:List (aa9×Obj))(xk:AV)(v:aaq)(dX:Rel ((Y.bv C (.ns C x)).with H) g' {σ with vars:=σ.vars++[ov]} s'.heap)(Pa:RelV Y.n g' xk v)(E:aaq->aaD->Prop)(Q:Unit->aaD->Prop)
(hQ:∀jq tk,aem C s'.heap jq->Rel ((Y.bv C (.ns C x)).with H) g' (σ.push xk) jq->Q () {s' with heap:=jq,toks:=tk}):abJ (abD prog w) A (akG (.Name x px) bk v) Q E s':=by
 refine bz (dX.ns C (by simp)) λf hf _=>?_
 refine ag3 (ahq Vy (fU.symm▸hf) (λjq Fb nT=>?_) hpx)
 rw[fU]at Fb nT
 have db:=dX.EW (x:=x) (show (Y.lay++[_])[Y.lay.length]?=some (.ns C x) by simp) Pa hf Fb nT
 rw[z8 (Y:=Y) O5]at db
 exact hQ jq _ nT db
theorem Kh{C c:aa9}{x:Str}{bk:Env}(Vy:bk.kindOf x=some .cell)(GZ:bk.scope.kind=.function)(hlk:bk.cells.lookup x=some c)(O5:σ.vars.length=Y.lay.length)
(s':aaD)(g':Gh)(ov:Option AV)(H:List (aa9×Obj))(xk:AV)(v:aaq)(dX:Rel ((Y.bv C (.cell c)).with H) g' {σ with vars:=σ.vars++[ov]} s'.heap)(Pa:RelV Y.n g' xk v)(E:aaq->aaD->Prop)(Q:Unit->aaD->Prop)
(hQ:∀jq tk,aem c s'.heap jq->Rel ((Y.bv C (.cell c)).with H) g' (σ.push xk) jq->Q () {s' with heap:=jq,toks:=tk}):abJ (abD prog w) A (akG (.Name x px) bk v) Q E s':=by
 have hly:((Y.bv C (.cell c)).with H).lay[Y.lay.length]?=some (.cell c):=by
  show (Y.lay++[_])[_]?=_;simp
 refine bz (dX.cell _ _ hly) λovc Vz _=>?_
 refine ag3 (ain GZ Vy hlk Vz λjq Fb nT=>?_)
 have db:=dX.setCell hly Pa Fb nT
 rw[z8 (Y:=Y) O5]at db
 exact hQ jq s'.toks nT db
theorem G5(hs:∃a,a∈Y.dH/\Y.n<=a)
(C:Cx base nm env Y)(vx:nN nm scope x=true)(i9:eT iter=true)(hI:SI prog w d base RF nm env Y iter ii)
(hT:∀cl Ca l H,Y.n<=Ca->Cx base (bg nm scope x) (adO scope cl Ca env) ((Y.bv Ca l).with H)->G1 prog w d base RF (bg nm scope x) (adO scope cl Ca env) ((Y.bv Ca l).with H) ifs dK)
(hE:∀cl Ca l H,Y.n<=Ca->Cx base (bg nm scope x) (adO scope cl Ca env) ((Y.bv Ca l).with H)->SE prog w d base RF (bg nm scope x) (adO scope cl Ca env) ((Y.bv Ca l).with H) elt ie)
(hA:jM d Y.fr A)(R:Rel Y g σ s.heap)(hi:wd RF ii σ=some items)(hy:dI (wo RF ie dK σ) items=some ys)(bq:ys.length<=aa7)
(hQ:∀s' g' D Ca vs e,aW Y.lo s.heap s'.heap->g.le g'->Rel (Y.with ((D,{cls:=.type "list",data:=.seq (aed vs) e})::Y.hold)) g' σ s'.heap->a9 s s'->ak Y.n g' ys vs->Y.n<=D->(∃m,s'.heap.Ns Ca m)->s.heap.get? Ca=none->g'.z Ca=none->Ca∉(Y.with ((D,{cls:=.type "list",data:=.seq (aed vs) e})::Y.hold)).bu g'->
  alf (abD prog w) A E use Q (.ref D) Ca (.ok .next) s'):
 abJ (abD prog w) A (aiZ (.ListComp elt [⟨.Name x px,iter,ifs,0⟩] scope pos) scope env p2 (ame []) false (eval iter env) use) Q E s:=by
 have CP:=vx
 unfold nN at CP
 simp only[aap,decide_eq_true_eq,aaG,beq_iff_eq]at CP
 obtain ⟨⟨gh,vF⟩,hx⟩:=CP
 have ek:∀y∈scope.names,y.2=adD->∃a,env.cells.lookup y.1=some a:=λy hy hf=>by
  have this:=(vF y hy).2
  rw[hf]at this
  simp only[bne_self_eq_false,anm,aap,bne_iff_ne,ne_eq]at this
  obtain ⟨i,hi⟩:=afG.mp this.1
  obtain ⟨l,hl,h1⟩:=C.slots _ _ hi
  rcases h1 with ⟨rfl,fU⟩ | ⟨c,rfl,hc,GZ⟩
  .exact absurd ((C.names _).trans fU) this.2
  .exact ⟨c,hc⟩
 obtain ⟨cl,Ki,sU⟩:=tQ ek
 have CQ:∀y∈scope.names,y.2=.local->scope.names.lookup y.1=some .local:=λy hy hl=>by
  have:=vF y hy
  simpa[hl] using this
 have cT:∀y∈scope.names,y.2≠.cell:=λy hy=>by
  have:=vF y hy
  simp at this
  exact this.1.1
 refine alF (use:=use) rfl (lB i9) Ki gh CQ ?_
 refine hI A s g σ items false hA R hi (λe=>by cases e) E _ λdx aR mt aY aQ aV=>?_
 intro o fp P St ho It zo
 have fA:Y.n<=dx.heap.objs.size:=dE R mt hs aQ
 have Cm:∀(i:Nat) (a:aa9) (x:Str),Y.lay[i]?=some (Loc.ns a x)->a∈Y.dH:=R.cZ
 have aM:Rel (Y.with ((dx.heap.objs.size,o)::Y.hold)) aR σ (dx.heap.push o):=Rel.gg (Y:=Y) (H:=Y.hold) aQ ho fA
 refine ah5 (wpAny_newFunctionEnv cT (by intro y hy;simp at hy) (λjr Kj Kk=>?_) gh)
 skip
 generalize Pg:dx.heap.objs.size=I at *
 have yc:(dx.heap.push o).objs.size=I+1:=by (erw[agE ..,Pg,rfl])
 have rA:((dx.heap.push o).push {cls:=.type "list",dict:=none,data:=.seq ([]:List aaq).toArray}).objs.size=I+1+1:=by (erw[agE ..,yc,rfl])
 rw[rA]at Kj Kk ⊢
 erw[yc]
 have bW:=Rel.gg (Y:=Y) (H:=(I,o)::Y.hold) aM (o:={cls:=.type "list",dict:=none,data:=.seq ([]:List aaq).toArray}) rfl (by erw[yc];exact %[a<=b+1,a<=b|aP fA])
 rw[yc]at bW
 have hkC:KS ((dx.heap.push o).push {cls:=.type "list",dict:=none,data:=.seq ([]:List aaq).toArray}) jr:=λa o' e=>
  Kk.extBut a o' (by have:=abZ e;rw[rA]at this;exact ac4 this) (abo _ e)
 have Vw:((dx.heap.push o).push {cls:=.type "list",dict:=none,data:=.seq ([]:List aaq).toArray}).get? (I+1+1)=none:=by
  cases e:((dx.heap.push o).push {cls:=.type "list",dict:=none,data:=.seq ([]:List aaq).toArray}).get? (I+1+1) with
  |none=>rfl
  |some o'=>have:=abZ e;rw[rA]at this;exact absurd this (adP _)
 have gf:=bW.Vv hkC (C:=I+1+1) (x:=x) Vw (by erw[rA];exact adJ _) Kj rfl (by erw[rA];show Y.n<=_;exact %[a<=b+1+1,a<=b|aP fA])
 have Ab:aW Y.lo dx.heap jr:=((cj _ _).trans (cj _ _)).trans (aW.of hkC)
 have W:=It.walks A hA.hand
 have nh:St 0 jr:=W.frame _ _ _ zo λb V o' e=>hkC b o' (abo _ e)
 have Aa:∀b∈fp,b∉iG Y.fr:=λb hb=>by
  rcases It.nf b hb with q|q
  .subst q;exact aM.JH (aw.mpr (.inr (.inr (.inl (.head _))))) (λhm=>aM.mX _ hm (.head _))
  .exact q
 have cx:∀H,Cx base (bg nm scope x) (adO scope cl (I+1+1) env) ((Y.more (I+1+1) x).with H):=λH=>O6 C vx sU
 have Vy:(adO scope cl (I+1+1) env).kindOf x=some .local:=amL hx
 have hpx:((adO scope cl (I+1+1) env).scope.kind==.class||((adO scope cl (I+1+1) env).scope.kind==.module&&(adO scope cl (I+1+1) env).locals !=(adO scope cl (I+1+1) env).globals))=false:=by simp[adO,relabel,gh]
 have cW:∀a o,dx.heap.get? a=some o->a<I:=λa o e=>Pg▸abZ e
 refine amg ?_ (W.self 0 _ _ _ nh ?_) <;> exact wq (dx:=dx) (C:=I+1+1) (lc:=.ns (I+1+1) x) (K:=I+1+1) (G4 Vy hpx rfl R.len) (λg' ov H h R=>Rel.aaC (Y:=Y.with H) (C:=I+1+1) (x:=x) R Cm) (λg' H=>aw.mpr (.inl (afJ _ (abF.mpr rfl)))) (afm _) (λH=>hT cl (I+1+1) _ _ %[a<=b+1+1,a<=b|(aP fA)] (cx _)) (λH=>hE cl (I+1+1) _ _ %[a<=b+1+1,a<=b|(aP fA)] (cx _)) hA R.len It hy bq cW (afm _) (afm _) fA Aa Cm nh Ab
  (Rel.wp (Y:=Y.more (I+1+1) x) gf) ⟨rfl,rfl,rfl⟩ λs' g' vs e kp l' R' m tX lN hz hm=>hQ s' g' (I+1) (I+1+1) vs e (mt.trans kp) (aY.trans l') R' (aV.trans m) tX %[a<=b+1,a<=b|(aP fA)] lN (by
   cases e:s.heap.get? (I+1+1) with
   |none=>rfl
   |some o'=>exact absurd rfl (Ke (mt.live e) Pg)) hz hm
theorem CT(hs:∃a,a∈Y.dH/\Y.n<=a)
(C:Cx base nm env Y)(vx:kC nm scope x=true)(i9:eT iter=true)(hI:SI prog w d base RF nm env Y iter ii)
(hT:∀cl Ca l H,Y.n<=Ca->Cx base (bg nm scope x) (adO scope cl Ca env) ((Y.bv Ca l).with H)->G1 prog w d base RF (bg nm scope x) (adO scope cl Ca env) ((Y.bv Ca l).with H) ifs dK)
(hE:∀cl Ca l H,Y.n<=Ca->Cx base (bg nm scope x) (adO scope cl Ca env) ((Y.bv Ca l).with H)->SE prog w d base RF (bg nm scope x) (adO scope cl Ca env) ((Y.bv Ca l).with H) elt ie)
(hA:jM d Y.fr A)(R:Rel Y g σ s.heap)(hi:wd RF ii σ=some items)(hy:dI (wo RF ie dK σ) items=some ys)(bq:ys.length<=aa7)
(hQ:∀s' g' D Ca vs e,aW Y.lo s.heap s'.heap->g.le g'->Rel (Y.with ((D,{cls:=.type "list",data:=.seq (aed vs) e})::Y.hold)) g' σ s'.heap->a9 s s'->ak Y.n g' ys vs->Y.n<=D->(∃m,s'.heap.Ns Ca m)->s.heap.get? Ca=none->g'.z Ca=none->Ca∉(Y.with ((D,{cls:=.type "list",data:=.seq (aed vs) e})::Y.hold)).bu g'->
  alf (abD prog w) A E use Q (.ref D) Ca (.ok .next) s'):
 abJ (abD prog w) A (aiZ (.ListComp elt [⟨.Name x px,iter,ifs,0⟩] scope pos) scope env p2 (ame []) false (eval iter env) use) Q E s:=by
 have CP:=vx
 unfold kC at CP
 simp only[aap,decide_eq_true_eq,aaG,beq_iff_eq]at CP
 obtain ⟨⟨⟨gh,vF⟩,tW⟩,hx⟩:=CP
 have ek:∀y∈scope.names,y.2=adD->∃a,env.cells.lookup y.1=some a:=λy hy hf=>by
  have this:=(vF y hy).2
  rw[hf]at this
  simp only[bne_self_eq_false,anm,aap,bne_iff_ne,ne_eq]at this
  obtain ⟨i,hi⟩:=afG.mp this.1
  refine bz (C.slots _ _ hi) λl hl h1=>?_
  rcases h1 with ⟨rfl,fU⟩ | ⟨c,rfl,hc,GZ⟩
  .exact absurd ((C.names _).trans fU) this.2
  .exact ⟨c,hc⟩
 refine bz (tQ ek) λcl Ki sU=>?_
 have CQ:∀y∈scope.names,y.2=.local->scope.names.lookup y.1=some .local:=λy hy hl=>by
  have:=vF y hy
  simpa[hl] using this
 refine alF (use:=use) rfl (lB i9) Ki gh CQ ?_
 refine hI A s g σ items false hA R hi (λe=>by cases e) E _ λdx aR mt aY aQ aV=>?_
 intro o fp P St ho It zo
 have fA:Y.n<=dx.heap.objs.size:=dE R mt hs aQ
 have Cm:∀(i:Nat) (a:aa9) (x:Str),Y.lay[i]?=some (Loc.ns a x)->a∈Y.dH:=R.cZ
 have aM:Rel (Y.with ((dx.heap.objs.size,o)::Y.hold)) aR σ (dx.heap.push o):=Rel.gg (Y:=Y) (H:=Y.hold) aQ ho fA
 refine ah5 (O8 tW ?_)
 generalize Pg:dx.heap.objs.size=I at *
 have yc:(dx.heap.push o).objs.size=I+1:=by (erw[agE ..,Pg,rfl])
 generalize hh2:(dx.heap.push o).push {cls:=.type "list",dict:=none,data:=.seq ([]:List aaq).toArray}=h2
 have rA:h2.objs.size=I+1+1:=by (erw[<-hh2,agE ..,yc,rfl])
 generalize hh3:h2.push {cls:=.type "dict",data:=.dict #[]}=h3
 have Ph:h3.objs.size=I+1+1+1:=by (erw[<-hh3,agE ..,rA,rfl])
 generalize hh4:h3.push {cls:=.type "cell",data:=.cell none}=h4
 erw[yc,rA]
 have bW:=Rel.gg (Y:=Y) (H:=(I,o)::Y.hold) aM (o:={cls:=.type "list",dict:=none,data:=.seq ([]:List aaq).toArray}) rfl (by erw[yc];exact ahl fA)
 rw[yc,hh2]at bW
 have VA:KS h2 h3:=λa o' e=>hh3▸abo _ e
 have VB:KS h3 h4:=λa o' e=>hh4▸abo _ e
 have Kl:∀(hp:adF) (a:aa9),hp.objs.size<=a->hp.get? a=none:=λhp a ha=>aho ha
 have JG:Y.n<=I+1+1:=ahl (ahl fA)
 have gf:=bW.aaE VA (C:=I+1+1) (m:=λV=>none) (Kl _ _ (afr rA)) (afr rA) (by (erw[<-hh3,<-rA]);exact Heap.Ns.new h2 (.type "dict")) (by erw[rA];exact JG)
 have dX:=gf.Kc VB (c:=I+1+1+1) (Kl _ _ (afr Ph)) (afr Ph) (by (erw[<-hh4,<-Ph]);exact ⟨_,ac0 _ rfl,rfl⟩) (by erw[Ph];exact ahl JG)
 have Ab:aW Y.lo dx.heap h4:=(((cj _ o).trans (hh2▸cj _ _)).trans (aW.of VA)).trans (aW.of VB)
 have W:=It.walks A hA.hand
 have nh:St 0 h4:=W.frame _ _ _ zo λb V o' e=>VB b o' (VA b o' (hh2▸abo _ e))
 have Aa:∀b∈fp,b∉iG Y.fr:=λb hb=>by
  rcases It.nf b hb with q|q
  .subst q;exact aM.JH (aw.mpr (.inr (.inr (.inl (.head _))))) (λhm=>aM.mX _ hm (.head _))
  .exact q
 have cx:∀H,Cx base (bg nm scope x) (adO scope ((x,I+1+1+1)::cl) (I+1+1) env) ((Y.bv (I+1+1) (.cell (I+1+1+1))).with H):=λH=>Kd C vx sU
 have Vy:(adO scope ((x,I+1+1+1)::cl) (I+1+1) env).kindOf x=some .cell:=fP hx
 have cW:∀a o,dx.heap.get? a=some o->a<I:=λa o e=>Pg▸abZ e
 have loop:ako (abD prog w) A (.compLoop (.ListComp elt [⟨.Name x px,iter,ifs,0⟩] scope pos) 0 (.ref I) (.ref (I+1)) (adO scope ((x,I+1+1+1)::cl) (I+1+1) env)) (alf (abD prog w) A E use Q (.ref (I+1)) (I+1+1)) {dx with heap:=h4}:=
  wq (dx:=dx) (C:=I+1+1) (lc:=.cell (I+1+1+1)) (K:=I+1+1+1) (Kh Vy gh (show ahp x ((x,I+1+1+1)::cl)=some (I+1+1+1) by simp) R.len)
   (λg' ov H h R=>by
    refine exF (Rel.O7 (Y:=(Y.wn (I+1+1)).with H) (c:=I+1+1+1) R) λdb _ _=>?_
    exact Rel.ae2 (Y:=Y.with H) db Cm)
   (λg' H=>aw.mpr (.inr (.inl (bR (i:=Y.lay.length) (by show (Y.lay++[_])[_]?=_;simp))))) (agU (afm _))
   (λH=>hT _ (I+1+1) _ _ JG (cx _)) (λH=>hE _ (I+1+1) _ _ JG (cx _)) hA R.len It hy bq cW (afm _) (afm _) fA Aa Cm nh Ab
   (Rel.wp (Y:=Y.bv (I+1+1) (.cell (I+1+1+1))) dX) ⟨rfl,rfl,rfl⟩ λs' g' vs e kp l' R' m tX lN hz hm=>hQ s' g' (I+1) (I+1+1) vs e (mt.trans kp) (aY.trans l') R' (aV.trans m) tX (ahl fA) lN (by
    cases e:s.heap.get? (I+1+1) with
    |none=>rfl
    |some o'=>exact absurd rfl (Ke (mt.live e) Pg)) hz hm
 exact amg loop (W.self 0 _ _ _ nh loop)
theorem G6(hs:∃a,a∈Y.dH/\Y.n<=a)
(C:Cx base nm env Y)(vx:Va nm scope x=true)(i9:eT iter=true)(hI:SI prog w d base RF nm env Y iter ii)
(hT:∀cl Ca l H,Y.n<=Ca->Cx base (bg nm scope x) (adO scope cl Ca env) ((Y.bv Ca l).with H)->G1 prog w d base RF (bg nm scope x) (adO scope cl Ca env) ((Y.bv Ca l).with H) ifs dK)
(hE:∀cl Ca l H,Y.n<=Ca->Cx base (bg nm scope x) (adO scope cl Ca env) ((Y.bv Ca l).with H)->SE prog w d base RF (bg nm scope x) (adO scope cl Ca env) ((Y.bv Ca l).with H) elt ie)
(hA:jM d Y.fr A)(R:Rel Y g σ s.heap)(hi:wd RF ii σ=some items)(hy:dI (wo RF ie dK σ) items=some ys)(bq:ys.length<=aa7)
(hQ:∀s' g' D Ca vs e,aW Y.lo s.heap s'.heap->g.le g'->Rel (Y.with ((D,{cls:=.type "list",data:=.seq (aed vs) e})::Y.hold)) g' σ s'.heap->a9 s s'->ak Y.n g' ys vs->Y.n<=D->(∃m,s'.heap.Ns Ca m)->s.heap.get? Ca=none->g'.z Ca=none->Ca∉(Y.with ((D,{cls:=.type "list",data:=.seq (aed vs) e})::Y.hold)).bu g'->
  alf (abD prog w) A E use Q (.ref D) Ca (.ok .next) s'):
 abJ (abD prog w) A (aiZ (.ListComp elt [⟨.Name x px,iter,ifs,0⟩] scope pos) scope env p2 (ame []) false (eval iter env) use) Q E s:=by
 unfold Va at vx
 rcases Bool.or_eq_true_iff.mp vx with h|h
 .exact G5 hs C h i9 hI hT hE hA R hi hy bq hQ
 .exact CT hs C h i9 hI hT hE hA R hi hy bq hQ
theorem Af(hs:∃a,a∈Y.dH/\Y.n<=a)
(C:Cx base nm env Y)(vx:Va nm scope x=true)(i9:eT iter=true)(hI:SI prog w d base RF nm env Y iter ii)
(hT:∀cl Ca l H,Y.n<=Ca->Cx base (bg nm scope x) (adO scope cl Ca env) ((Y.bv Ca l).with H)->G1 prog w d base RF (bg nm scope x) (adO scope cl Ca env) ((Y.bv Ca l).with H) ifs dK)
(hE:∀cl Ca l H,Y.n<=Ca->Cx base (bg nm scope x) (adO scope cl Ca env) ((Y.bv Ca l).with H)->SE prog w d base RF (bg nm scope x) (adO scope cl Ca env) ((Y.bv Ca l).with H) elt ie)
(hA:jM d Y.fr A)(R:Rel Y g σ s.heap)(hi:wd RF ii σ=some items)(hy:dI (wo RF ie dK σ) items=some ys)(bq:ys.length<=aa7)
(hQ:∀s' g' D Ca,aW Y.lo s.heap s'.heap->g.le g'->Rel Y g' σ s'.heap->a9 s s'->RelV Y.n g' (.lst ys) (.ref D)->(∃m,s'.heap.Ns Ca m)->s.heap.get? Ca=none->g'.z Ca=none->Ca∉Y.bu g'->
  alf (abD prog w) A E use Q (.ref D) Ca (.ok .next) s'):
 abJ (abD prog w) A (aiZ (.ListComp elt [⟨.Name x px,iter,ifs,0⟩] scope pos) scope env p2 (ame []) false (eval iter env) use) Q E s:=by
 refine G6 hs C vx i9 hI hT hE hA R hi hy bq λs' g' D Ca vs e k l R' m hv hD hn G7 hz hm=>?_
 refine bY (Rel.J8 (Y:=Y) (p:=(D,{cls:=.type "list",data:=.seq (aed vs) e})) R') λdb aaN=>?_
 have cW:Ca≠D:=λq=>hm (aw.mpr (.inr (.inr (.inl (by simp[q])))))
 have hmm:Ca∉Y.bu (g'.add (vv D {cls:=.type "list",data:=.seq (aed vs) e})):=λq=>hm (by
  rw[aw]at q ⊢
  rcases q with q|q|q|q
  .exact .inl q
  .exact .inr (.inl q)
  .exact .inr (.inr (.inl (by simp[q])))
  .exact .inr (.inr (.inr q)))
 refine hQ s' _ D Ca k (l.trans (Gh.dj _ _)) db m (.lst hD aaN rfl rfl (hv.mono (Gh.dj _ _))) hn G7 ?_ hmm
 simp[Gh.add,hz,vv,cW]
end
section
variable{prog:aas}{w:abI}{A:adV}{Y:Lay}{g:Gh}{σ:bj}{s:aaD}{d:Nat}{base:adF}{nm:NI}{env:Env}{RF:cQ}
theorem Rel.Km(R:Rel Y g σ h)(hC:C∉Y.bu g)(hz:g.z C=none)(hs:aem C h h')(jD:C∉dT Y.fr)(htb:∀t∈aX,t.P≠C):Rel Y g σ h':=by
 have ne:∀a∈Y.bu g,a≠C:=λa ha q=>hC (q▸ha)
 refine ⟨λa o e=>hs.extBut a o (λq=>by subst q;rw[hz]at e;exact aq e) (R.eQ a o e),R.base,R.nodup,R.de,R.off,R.low,R.cZ,R.len,R.eS,λa ha=>?_,λi c hc=>?_,λk a ha=>?_,λp hp=>?_,?_,R.mX,R.mY,R.d6,λt ht=>(R.tabs t ht).of (λV V q=>q) λo q=>hs.extBut _ _ (λe=>htb t ht e) q⟩
 .refine bz (R.ns a ha) λf h1 h2=>?_
  exact ⟨f,h1.sameBut hs (ne a (aw.mpr (.inl ha))),h2⟩
 .refine bz (R.cell i c hc) λov h1 h2=>?_
  exact ⟨ov,h1.sameBut hs (ne c (aw.mpr (.inr (.inl (bR hc))))),h2⟩
 .refine bz (R.own k a ha) λvs h1 h2=>?_
  exact ⟨vs,h1.extBut hs.extBut (ne a (aw.mpr (.inr (.inr (.inr (ade ha)))))),h2⟩
 .exact hs.extBut _ _ (ne _ (aw.mpr (.inr (.inr (.inl (adB hp)))))) (R.held p hp)
 .exact FunFrames.step (λb hb o e hd=>⟨o,hs.extBut b o (λq=>jD (q▸hb)) e,hd⟩) R.frames
theorem Rel.aaP(R:Rel Y g σ s.heap)(hC:s.heap.get? C=none):C∉dT Y.fr:=λhm=>by
 refine N4 (afX R.frames hm) λ_ o ho _=>?_
 rw[hC]at ho;exact aq ho
theorem Rel.aaQ(R:Rel Y g σ s.heap)(hC:s.heap.get? C=none):∀t∈aX,t.P≠C:=λt ht q=>by
 refine bU ((R.tabs t ht).there) λps hp=>?_
 rw[q,hC]at hp;exact aq hp
theorem G8(hs:∃a,a∈Y.dH/\Y.n<=a)
(C:Cx base nm env Y)(vx:Va nm scope x=true)(i9:eT iter=true)(hI:SI prog w d base RF nm env Y iter ii)
(hT:∀cl Ca l H,Y.n<=Ca->Cx base (bg nm scope x) (adO scope cl Ca env) ((Y.bv Ca l).with H)->G1 prog w d base RF (bg nm scope x) (adO scope cl Ca env) ((Y.bv Ca l).with H) ifs dK)
(hE:∀cl Ca l H,Y.n<=Ca->Cx base (bg nm scope x) (adO scope cl Ca env) ((Y.bv Ca l).with H)->SE prog w d base RF (bg nm scope x) (adO scope cl Ca env) ((Y.bv Ca l).with H) elt ie):
 SE prog w d base RF nm env Y (.ListComp elt [⟨.Name x px,iter,ifs,0⟩] scope pos) (.comp ie ii dK):=by
 intro A s g σ z hA R h E Q hQ
 skip
 refine bz (aec.mp h) λitems hi h=>?_
 refine bz (aec.mp h) λys hy h=>?_
 (refine bY (aH h) λhc cc=>?_;obtain rfl:=cc)
 erw[eval_ListComp ..]
 refine Af (use:=none) hs C vx i9 hI hT hE hA R hi hy (of_decide_eq_true hc) λs' g' D Ca k l R' m v hn G7 hz hm=>?_
 refine bU hn λmm hn=>?_
 refine ⟨mm,hn,λh' lY=>?_⟩
 refine hQ (.ref D) {s' with heap:=h'} g' (k.tj lY (λa o e q=>by subst q;rw[G7]at e;exact aq e) (R'.sO hz)) l (R'.Km hm hz lY (R.aaP G7) (R.aaQ G7)) ⟨m.1,m.2,m.3⟩ v
theorem Kn:SE prog w d base RF nm env Y (.Constant (.int i) k pos) (.int i):=by
 intro A s g σ z hA R h E Q hQ
 cases h
 exact wpAny_Constant_int (dD (E:=E) R hQ (.int _ _))
theorem Ko:SE prog w d base RF nm env Y (.Constant (.str i) k pos) (.str i):=by
 intro A s g σ z hA R h E Q hQ
 cases h
 exact anb (dD (E:=E) R hQ (.str _ _))
theorem G9:SE prog w d base RF nm env Y (.Constant (.bool i) k pos) (.bool i):=by
 intro A s g σ z hA R h E Q hQ
 cases h
 exact wpAny_Constant_bool (vB (E:=E) R hQ (.bool _))
theorem Ha:SE prog w d base RF nm env Y (.Constant .none k pos) .none:=by
 intro A s g σ z hA R h E Q hQ
 cases h
 exact wpAny_Constant_none (vB (E:=E) R hQ .none)
theorem VC:SO prog w d base RF nm env Y none .none:=by
 intro A s g σ z hA R h E Q hQ
 cases h
 exact adG (vB (E:=E) R hQ .none)
theorem VD(h1:SE prog w d base RF nm env Y e ie):SO prog w d base RF nm env Y (some e) ie:=h1
theorem zr{α β:Type}{o:Option α}{f:α->Option β}{b:β}(h:(o.bind f)=some b):∃a,o=some a/\f a=some b:=aec.mp h
theorem nV{α β:Type}{o:Option α}{f:α->β}{b:β}(h:o.map f=some b):∃a,o=some a/\f a=b:=aiM.mp h
theorem Hb{α:Type}{c:Bool}{o:Option α}{b:α}(h:(if c then o else none)=some b):c=true/\o=some b:=by
 cases c with
 |true=>exact ⟨rfl,h⟩
 |false=>exact aq h
theorem CU{α:Type}{c:Bool}{o:Option α}{b:α}(h:(if c then none else o)=some b):c=false/\o=some b:=by
 cases c with
 |true=>exact aq h
 |false=>exact ⟨rfl,h⟩
structure NY (base:adF) (nm:NI) (env:Env) (Y:Lay):Prop where
 C:Cx base nm env Y
 hs:∃a,a∈Y.dH/\Y.n<=a
structure aaR (prog:aas) (w:abI) (d:Nat) (base:adF) (RF:cQ) (r:Rec):Prop where
 e:∀{nm env Y},NY base nm env Y->∀{e ie},r.e nm e=some ie->SE prog w d base RF nm env Y e ie
 o:∀{nm env Y},NY base nm env Y->∀{e ie},r.o nm e=some ie->SO prog w d base RF nm env Y e ie
 es:∀{nm env Y},NY base nm env Y->∀{es ies},r.es nm es=some ies->NX prog w d base RF nm env Y es ies/\cm es/\(es=[]->ies=.nil)
 t:∀{nm env Y},NY base nm env Y->∀{e it},r.t nm e=some it->ST prog w d base RF nm env Y e it
 ts:∀{nm env Y},NY base nm env Y->∀{es dK},r.ts nm es=some dK->GQ prog w d base RF nm env Y es dK/\Yu prog w d base RF nm env Y es dK/\G1 prog w d base RF nm env Y es dK
 i:∀{nm env Y},NY base nm env Y->∀{e ii},r.i nm e=some ii->SI prog w d base RF nm env Y e ii
theorem NY.more(hn:Y.n<=Ca)(C:Cx base (bg nm scope x) (adO scope cl Ca env) ((Y.bv Ca l).with H)):
 NY base (bg nm scope x) (adO scope cl Ca env) ((Y.bv Ca l).with H):=⟨C,Ca,by simp,hn⟩
theorem Pj(h:Jt c=some ie):SE prog w d base RF nm env Y (.Constant c k pos) ie:=by
 cases c with
 |int i=>cases h;exact Kn
 |str s=>cases h;exact Ko
 |bool b=>cases h;exact G9
 |none=>cases h;exact Ha
 |_=>exact aq h
theorem tY(h:kD x=false):cm [x]:=λe he=>by
 erw[abF.mp he];exact sS h
section
variable{r:Rec}(I:aaR prog w d base RF r)(O:NY base nm env Y)
include I O
theorem aaS{x:ado}{op:UnaryOp}{pos:Pos}{ie:IE}(h:unE r nm x op=some ie):SE prog w d base RF nm env Y (.UnaryOp op x pos) ie:=by
 cases op with
 |USub=>(refine bz (nV h) λa ha cc=>?_;obtain rfl:=cc);exact JT (I.e O ha)
 |Invert=>(refine bz (nV h) λa ha cc=>?_;obtain rfl:=cc);exact JU (I.e O ha)
 |_=>exact aq h
theorem Fc{l:ado}{ops:List CmpOp}{xs:List ado}{ie:IE}(h:Vd r nm l ops xs=some ie):∃op x a b,ops=[op]/\xs=[x]/\ajW op x=false/\SE prog w d base RF nm env Y l a/\SE prog w d base RF nm env Y x b/\ie=.cmp op a b:=by
 refine bz (zr h) λop h1 h=>?_
 refine bz (zr h) λx h2 h=>?_
 refine bY (CU h) λh3 h=>?_
 refine bz (zr h) λa ha h=>?_
 (refine bz (nV h) λb hb cc=>?_;obtain rfl:=cc)
 exact ⟨op,x,a,b,gE h1,gE h2,h3,I.e O ha,I.e O hb,rfl⟩
theorem aaT{v i:ado}{pos:Pos}{ie:IE}(h:Ve r nm v i=some ie):SE prog w d base RF nm env Y (.Subscript v i pos) ie:=by
 unfold Ve at h
 cases hs:Vc i with
 |none=>
  rw[hs]at h
  refine bz (zr h) λa ha h=>?_
  (refine bz (nV h) λb hb cc=>?_;obtain rfl:=cc)
  exact JY (I.e O ha) (I.e O hb)
 |some p=>
  rw[hs]at h
  refine OJ (G:=λi=>SE prog w d base RF nm env Y (.Subscript v i pos) ie) hs λq=>?_
  refine bz (zr h) λa ha h=>?_
  refine bz (zr h) λb hb h=>?_
  refine bz (zr h) λc hc h=>?_
  (refine bz (nV h) λe he cc=>?_;obtain rfl:=cc)
  exact JZ O.hs (I.e O ha) (I.o O hb) (I.o O hc) (I.o O he)
theorem VE(jN:vE prog w d base RF)(dh:∀f xs res,RF (.ref f) xs=some res->∃o fd,base.get? f=some o/\o.data=.func fd){f:ado}{args:List ado}{pos:Pos}{ie:IE}(h:R4 r nm args pos f=some ie):
 SE prog w d base RF nm env Y (.Call f args [] pos) ie:=by
 refine dW (P:=λv f=>R3 r nm args pos v=some ie->SE prog w d base RF nm env Y (.Call f args [] pos) ie) (λv h=>?_) f h
 cases v with
 |attr o name apos=>
  refine bY (Hb h) λhc h=>?_
  rw[aap,aap,decide_eq_true_eq]at hc
  refine bz (zr h) λa ha h=>?_
  (refine bz (nV h) λb hb cc=>?_;obtain rfl:=cc)
  exact GV O.hs (I.es O hb).2.1 hc.1.2 hc.1.1 hc.2 (I.es O hb).2.2 (I.e O ha) (I.es O hb).1
 |name x p=>
  refine bY (CU h) λhc h=>?_
  refine bz (zr h) λa ha h=>?_
  (refine bz (nV h) λb hb cc=>?_;obtain rfl:=cc)
  exact GU O.hs O.C.keep jN (I.es O hb).2.1 (λe=>by subst e;exact fT hc.symm) (λA s g σ r hA R h'=>dp O.C R ha h') (I.es O hb).1 dh
 |_=>exact aq h
theorem lcK{elt:ado}{gens:List ajY}{scope:aiC}{ie:IE}(h:(oW gens).bind (lcE r nm elt scope)=some ie){G:List ajY->IE->Prop}
(k:∀x px iter ifs ii dK ie',Va nm scope x=true->eT iter=true->SI prog w d base RF nm env Y iter ii->
  (∀cl Ca l H,Y.n<=Ca->Cx base (bg nm scope x) (adO scope cl Ca env) ((Y.bv Ca l).with H)->G1 prog w d base RF (bg nm scope x) (adO scope cl Ca env) ((Y.bv Ca l).with H) ifs dK)->
  (∀cl Ca l H,Y.n<=Ca->Cx base (bg nm scope x) (adO scope cl Ca env) ((Y.bv Ca l).with H)->SE prog w d base RF (bg nm scope x) (adO scope cl Ca env) ((Y.bv Ca l).with H) elt ie')->G [⟨.Name x px,iter,ifs,0⟩] (.comp ie' ii dK)):G gens ie:=by
 (refine ax h ?_;clear h;intro gn h1 h)
 erw[gE h1]
 obtain ⟨tg,iter,ifs,as⟩:=gn
 (refine ax h ?_;clear h;intro x h2 h)
 refine fW (G:=λtg=>G [⟨tg,iter,ifs,as⟩] ie) h2 λpx=>?_
 refine bY (Hb h) λhc h=>?_
 rw[aap,aap]at hc
 refine ax h λa ha h=>ax h λb hb h=>bC h λc zy q=>?_
 obtain rfl:=q
 erw[(show as=0 from eq_of_beq hc.1.1)]
 exact k _ _ _ _ _ _ _ hc.1.2 hc.2 (I.i O hb) (λcl Ca l H hn C'=>(I.ts (.more hn C') zy).2.2) λcl Ca l H hn C'=>I.e (.more hn C') ha
theorem Pk(jN:vE prog w d base RF)(dh:∀f xs res,RF (.ref f) xs=some res->∃o fd,base.get? f=some o/\o.data=.func fd){e:ado}{ie:IE}(h:R5 r nm e=some ie):SE prog w d base RF nm env Y e ie:=by
 refine dW (P:=λv e=>Ju r nm v=some ie->SE prog w d base RF nm env Y e ie) (λv h=>?_) e h
 cases v with
 |const c k p=>exact Pj h
 |name x p=>exact λA s g σ r hA R h'=>dp O.C R h h'
 |bin l op x p=>exact ax h λa ha h=>bC h λb hb q=>q▸JQ O.hs (I.e O ha) (I.e O hb)
 |un op x p=>exact aaS I O h
 |cmp l ops xs p=>
  (refine bU (Fc I O h) λop dQ=>?_;refine bU dQ λx di=>?_;refine bU di λa jP=>?_;refine bU jP λb oF=>?_;have q_5:=oF.1;have q_6:=oF.2.1;have h1:=oF.2.2.1;have h2:=oF.2.2.2.1;have h3:=oF.2.2.2.2.1;have q_7:=oF.2.2.2.2.2;clear oF jP di dQ;obtain rfl:=q_5;obtain rfl:=q_6;obtain rfl:=q_7)
  exact JR h1 h2 h3
 |zn t a b p=>exact ax h λt' ht h=>ax h λa' ha h=>bC h λb' hb q=>q▸JV (I.t O ht) (I.e O ha) (I.e O hb)
 |lst es p=>exact bC h λa ha q=>q▸JW O.hs (I.es O ha).2.1 (I.es O ha).1
 |tup es k p=>exact bC h λa ha q=>q▸JX O.hs (I.es O ha).2.1 (I.es O ha).1
 |sub v i p=>exact aaT I O h
 |call f args xX p=>
  cases xX with
  |nil=>exact VE I O jN dh h
  |cons _ _=>exact aq h
 |comp elt gens scope p=>exact lcK I O h (G:=λgens ie=>SE prog w d base RF nm env Y (.ListComp elt gens scope p) ie) λV V V V V V V h1 h2 h3 h4 h5=>G8 O.hs O.C h1 h2 h3 h4 h5
 |_=>exact aq h
theorem Pl(h:R6 r nm e=some ie):SO prog w d base RF nm env Y e ie:=by
 cases e with
 |none=>cases h;exact VC
 |some e=>exact VD (I.e O h)
theorem Kp{es:List ado}{ies:GC}(h:Jv r nm es=some ies):NX prog w d base RF nm env Y es ies/\cm es/\(es=[]->ies=.nil):=by
 cases es with
 |nil=>cases h;exact ⟨Vq,λe he=>absurd he adH,λV=>rfl⟩
 |cons e es=>
  refine bY (CU h) λh1 h=>?_
  refine bz (zr h) λa ha h=>?_
  (refine bz (nV h) λb hb cc=>?_;obtain rfl:=cc)
  exact ⟨O1 (I.e O ha) (I.es O hb).1,λy hy=>(abk.mp hy).elim (λq=>q▸sS h1) ((I.es O hb).2.1 y),λe=>nomatch e⟩
theorem aaU(he:∀(env:Env) (whole:Sem aaq),isTrue e env whole=(do let v <-whole;aju e.pos;ah3 [v] (amd v)))(h:(r.e nm e).map IT.val=some it):ST prog w d base RF nm env Y e it:=
 bC h λa ha q=>q▸zY he (I.e O ha)
theorem Sq(he:∀(env:Env) (whole:Sem aaq),isTrue (.UnaryOp op x p) env whole=(do let v <-whole;aju (Expr.UnaryOp op x p).pos;ah3 [v] (amd v)))(h:(unE r nm x op).map IT.val=some it):ST prog w d base RF nm env Y (.UnaryOp op x p) it:=
 bC h λa ha q=>q▸zY he (aaS I O ha)
theorem Pm{it:IT}(h:R8 r nm e=some it):ST prog w d base RF nm env Y e it:=by
 refine dW (P:=λv e=>R7 r nm e v=some it->ST prog w d base RF nm env Y e it) (λv h=>?_) e h
 cases v with
 |un op x p=>
  cases op with
  |Not=>exact bC h λa ha q=>q▸not_test (I.t O ha)
  |UAdd=>exact aq h
  |USub=>exact Sq I O (λenv whole=>rfl) h
  |Invert=>exact Sq I O (λenv whole=>rfl) h
 |bool op vs p=>
  cases op with
  |And=>exact bC h λa ha q=>q▸J1 (I.ts O ha).1
  |Or=>exact bC h λa ha q=>q▸or_test (I.ts O ha).2.1
 |zn t a b p=>exact aq h
 |other e=>exact aq h
 |cmp l ops xs p=>
  refine bC h λc hc q=>?_
  (refine bU (Fc I O hc) λop dQ=>?_;refine bU dQ λx di=>?_;refine bU di λa jP=>?_;refine bU jP λb oF=>?_;have q_5:=oF.1;have q_6:=oF.2.1;have h1:=oF.2.2.1;have h2:=oF.2.2.2.1;have h3:=oF.2.2.2.2.1;have q_7:=oF.2.2.2.2.2;clear oF jP di dQ;obtain rfl:=q_5;obtain rfl:=q_6;obtain rfl:=q_7)
  exact q▸JS h1 h2 h3
 |_=>exact aaU I O (λenv whole=>rfl) h
theorem Kq{es:List ado}{dK:zK}(h:Jw r nm es=some dK):GQ prog w d base RF nm env Y es dK/\Yu prog w d base RF nm env Y es dK/\G1 prog w d base RF nm env Y es dK:=by
 cases es with
 |nil=>cases h;exact ⟨O3,Vs,G2⟩
 |cons e es=>
  refine bz (zr h) λa ha h=>?_
  (refine bz (nV h) λb hb cc=>?_;obtain rfl:=cc)
  exact ⟨J0 (I.t O ha) (I.ts O hb).1,O4 (I.t O ha) (I.ts O hb).2.1,CL (I.t O ha) (I.ts O hb).2.2⟩
theorem VF{e:ado}{ii:II}(h:Vg r nm e=some ii):SI prog w d base RF nm env Y e ii:=by
 obtain ⟨⟨f,args⟩,h1,h⟩:=zr h
 refine bz (zr h) λx h2 h=>?_
 refine bz (zr h) λg h3 h=>?_
 refine bz (zr h) λT h4 h=>?_
 refine GH (G:=λe=>SI prog w d base RF nm env Y e ii) h1 λpos=>?_
 refine fW (G:=λf=>SI prog w d base RF nm env Y (.Call f args [] pos) ii) h2 λp=>?_
 revert h3
 refine CF (G:=λg=>bZ nm x=some g->SI prog w d base RF nm env Y (.Call (.Name x p) args [] pos) ii) h4 λy h3=>?_
 have h0:SE prog w d base RF nm env Y (.Name x p) (.glob y (.obj (.type T))):=λA s g σ r hA R h'=>dp O.C R h3 h'
 have h:(if T="range" then Vf r nm args else if T="reversed" then aak r nm args else none)=some ii:=h
 by_cases q:T="range"
 .subst q
  rw[if_pos rfl]at h
  unfold Vf at h
  cases h5:oW args with
  |some hi=>
   rw[h5]at h
   refine bY (CU h) λh6 h=>?_
   (refine bz (nV h) λa ha cc=>?_;obtain rfl:=cc)
   erw[gE h5]
   exact J5 (tY h6) h0 (I.e O ha)
  |none=>
   rw[h5]at h
   obtain ⟨⟨lo,hi⟩,h6,h⟩:=zr h
   refine bY (CU h) λh7 h=>?_
   refine bz (zr h) λa ha h=>?_
   (refine bz (nV h) λb hb cc=>?_;obtain rfl:=cc)
   erw[E2 h6]
   rw[alC]at h7
   exact GX (λe he=>(abk.mp he).elim (λq=>q▸sS h7.1) λhe=>by erw[abF.mp he];exact sS h7.2) h0 (I.e O ha) (I.e O hb)
 .rw[if_neg q]at h
  by_cases q2:T="reversed"
  .subst q2
   rw[if_pos rfl]at h
   refine bz (zr h) λx' h5 h=>?_
   refine bY (CU h) λh6 h=>?_
   (refine bz (nV h) λa ha cc=>?_;obtain rfl:=cc)
   have h5:oW args=some x':=h5
   erw[gE h5]
   exact J6 (tY h6) h0 (I.e O ha)
  .rw[if_neg q2]at h;exact aq h
theorem Pn{e:ado}{ii:II}(h:Jx r nm e=some ii):SI prog w d base RF nm env Y e ii:=by
 unfold Jx at h
 cases h1:Vg r nm e with
 |some i=>rw[h1]at h;obtain rfl:=aac h;exact VF I O h1
 |none=>rw[h1]at h;(refine bz (nV h) λa ha cc=>?_;obtain rfl:=cc);exact J4 (I.e O ha)
end
theorem dc(jN:vE prog w d base RF)(dh:∀f xs res,RF (.ref f) xs=some res->∃o fd,base.get? f=some o/\o.data=.func fd)(k:Nat):aaR prog w d base RF (jC k):=by
 induction k with
 |zero=>exact ⟨λV V V h=>aq h,λV V V h=>aq h,λV V V h=>aq h,λV V V h=>aq h,λV V V h=>aq h,λV V V h=>aq h⟩
 |succ k I=>exact ⟨λO V V h=>Pk I O jN dh h,λO V V h=>Pl I O h,λO V V h=>Kp I O h,λO V V h=>Pm I O h,λO V V h=>Kq I O h,λO V V h=>Pn I O h⟩
structure Sr (prog:aas) (w:abI) (d:Nat) (base:adF) (RF:cQ) (k:Nat) (nm:NI) (env:Env) (Y:Lay):Prop where
 e:∀e ie,ei k nm e=some ie->SE prog w d base RF nm env Y e ie
 es:∀es ies,CG k nm es=some ies->NX prog w d base RF nm env Y es ies/\cm es/\(es=[]->ies=.nil)
 t:∀e it,zM k nm e=some it->ST prog w d base RF nm env Y e it
 i:∀e ii,E5 k nm e=some ii->SI prog w d base RF nm env Y e ii
theorem aaV(jN:vE prog w d base RF)(dh:∀f xs res,RF (.ref f) xs=some res->∃o fd,base.get? f=some o/\o.data=.func fd)(k:Nat)(nm:NI)(env:Env)(Y:Lay)(C:Cx base nm env Y)(hs:∃a,a∈Y.dH/\Y.n<=a):Sr prog w d base RF k nm env Y:=
 ⟨λV V h=>(dc jN dh k).e ⟨C,hs⟩ h,λV V h=>(dc jN dh k).es ⟨C,hs⟩ h,λV V h=>(dc jN dh k).t ⟨C,hs⟩ h,λV V h=>(dc jN dh k).i ⟨C,hs⟩ h⟩
end
section
mutual
inductive IS where
 |asg (i:Nat) (e:IE)|own (i:Nat)|ni (i j:Nat) (e:IE)|set (o k e:IE)|aug (i:Nat) (op:agA) (e:IE)
 |app (o e:IE)|rev (o:IE)|ret (e:IE)|ifs (t:IT) (a b:eW)|lP (i:Nat) (it:II) (body:eW)|whl (t:IT) (body:eW)|bad
inductive eW where
 |nil|cons (s:IS) (r:eW)
end
noncomputable def bj.put(σ:bj)(i:Nat)(x:AV):bj:={σ with vars:=σ.vars.set i (some x)}
noncomputable def bj.dU(σ:bj)(k:Nat)(xs:List AV):bj:={σ with own:=σ.own.set k xs}
noncomputable def Kr(op:agA)(a b:Int):Option AV:=
 match op with
 |.Add=>some (.int (a+b))
 |.Sub=>some (.int (a-b))
 |.FloorDiv=>bn (decide (b≠0)&&decide (b.natAbs.log2<9000)) (.int (a.fdiv b))
 |.LShift=>bn (decide (0<=b)&&decide ((aae a:Int)+b<=2^27)) (.int (a*2^b.toNat))
 |.RShift=>bn (decide (0<=b)) (.int (a.fdiv (2^b.toNat)))
 |.BitOr=>some (.int (agP a b))
 |_=>none
noncomputable def yd(op:agA)(x y:AV):Option AV:=
 match x with
 |.int a=>(eg y).bind (Kr op a)
 |.str a=>(nI y).bind (pV op a)
 |_=>none
noncomputable abbrev Cp:=Option (bj×Option AV)
noncomputable def em(o:Cp)(f:bj->Cp):Cp:=o.bind λp=>match p.2 with|some v=>some (p.1,some v)|none=>f p.1
noncomputable def jK(f:AV->bj->Cp):List AV->bj->Cp
 |[],σ=>some (σ,none)
 |x::r,σ=>em (f x σ) (jK f r)
noncomputable def Hc(t:bj->Option Bool)(f:bj->Cp):Nat->bj->Cp
 |0,_=>none
 |n+1,σ=>(t σ).bind λc=>if c=true then em (f σ) (Hc t f n) else some (σ,none)
mutual
noncomputable def CV(RF:cQ)(n:Nat):IS->bj->Cp
 |.asg i e,σ=>(aA RF e σ).map λx=>(σ.put i x,none)
 |.own i,σ=>some (⟨σ.vars.set i (some (.own σ.own.length)),σ.own++[[]]⟩,none)
 |.ni i j e,σ=>(aA RF e σ).bind λx=>match x with|.tup [a,b]=>some ((σ.put i a).put j b,none)|_=>none
 |.set o k e,σ=>(aA RF e σ).bind λx=>(aA RF o σ).bind λov=>(aA RF k σ).bind λkv=>match ov,kv with
  |.own m,.int z=>σ.own[m]?.bind λxs=>if 0<=z/\z<xs.length/\z<2^62 then some (σ.dU m (xs.set z.toNat x),none) else none
  |_,_=>none
 |.aug i op e,σ=>(σ.vars[i]?.getD none).bind λold=>(aA RF e σ).bind λx=>(yd op old x).map λy=>(σ.put i y,none)
 |.app o e,σ=>(aA RF o σ).bind λov=>(aA RF e σ).bind λx=>match ov with
  |.own m=>σ.own[m]?.bind λxs=>if xs.length<=aa7 then some (σ.dU m (xs++[x]),none) else none
  |_=>none
 |.rev o,σ=>(aA RF o σ).bind λov=>match ov with
  |.own m=>σ.own[m]?.bind λxs=>if xs.length<=aa7 then some (σ.dU m xs.reverse,none) else none
  |_=>none
 |.ret e,σ=>(aA RF e σ).map λx=>(σ,some x)
 |.ifs t a b,σ=>(iZ RF t σ).bind λc=>if c=true then cg RF n a σ else cg RF n b σ
 |.lP i it body,σ=>(vz RF it σ).bind λitems=>jK (λx σ=>cg RF n body (σ.put i x)) items σ
 |.whl t body,σ=>Hc (iZ RF t) (cg RF n body) n σ
 |.bad,_=>none
noncomputable def cg(RF:cQ)(n:Nat):eW->bj->Cp
 |.nil,σ=>some (σ,none)
 |.cons s r,σ=>em (CV RF n s σ) (cg RF n r)
end
noncomputable def bK(nm:NI)(x:Str):Option Nat:=if nm.names.lookup x==some .local||nm.names.lookup x==some .cell then nm.slots.lookup x else none
noncomputable def fc(nm:NI)(x:Str):Option Nat:=if nm.names.lookup x==some .local then nm.slots.lookup x else none
noncomputable def Ss:ado->Bool
 |.Starred ..=>true
 |_=>false
noncomputable def tZ(px py:Pos)(vs:List ado):Bool:=
 decide (vs.length=2)&&!(vs.any Ss)&&px.line==py.line&&!(vs.all (foldedForSure 8))&&!(vs.all (constantsAlone 8))
noncomputable def sV:EV->Bool
 |.comp ..=>true
 |.other _=>true
 |_=>false
noncomputable abbrev kJ(e:ado):Bool:=sV (eO e)
noncomputable def Ks:EV->Bool
 |.lst es _=>es.isEmpty
 |_=>false
noncomputable abbrev CW(e:ado):Bool:=Ks (eO e)
noncomputable def VG:EV->Option (List ado)
 |.tup vs _ _=>some vs
 |_=>none
noncomputable abbrev Fd(e:ado):Option (List ado):=VG (eO e)
section
variable(ke:Nat)(nm:NI)
noncomputable def aaW(v:ado)(x:Str):Option IS:=(bK nm x).bind λi=>if CW v then some (.own i) else (ei ke nm v).map λe=>.asg i e
noncomputable def Pp(v:ado)(x y:Str)(i j:Nat)(e:IE)(pa pb:Pos):Option IS:=
 match Fd v with
 |some vs=>if i !=j&&(x !=y&&tZ pa pb vs) then some (.ni i j e) else none
 |none=>if i !=j&&!kJ v then some (.ni i j e) else none
noncomputable def aaX(v:ado)(es:List ado):Option IS:=(Vb es).bind λp=>(mZ p.1).bind λx=>(mZ p.2).bind λy=>(fc nm x).bind λi=>(fc nm y).bind λj=>(ei ke nm v).bind λe=>Pp v x y i j e p.1.pos p.2.pos
noncomputable def afh(v o i:ado):Option IS:=if kJ v then none else (ei ke nm o).bind λa=>(ei ke nm i).bind λb=>(ei ke nm v).map λc=>.set a b c
noncomputable def aaY(v:ado):EV->Option IS
 |.name x _=>aaW ke nm v x
 |.tup es _ _=>aaX ke nm v es
 |.sub o i _=>afh ke nm v o i
 |_=>none
noncomputable abbrev afi(v:ado)(e:ado):Option IS:=aaY ke nm v (eO e)
noncomputable def Sv(args:List ado)(pos:Pos):EV->Option IS
 |.attr o name apos=>if apos.endLine==pos.line&&oX o then (ei ke nm o).bind λa=>match oW args with
   |some e=>if name==adQ "append"&&!kD e then (ei ke nm e).map λb=>.app a b else none
   |none=>if args.isEmpty&&name==adQ "reverse" then some (.rev a) else none
  else none
 |_=>none
noncomputable abbrev Sw(args:List ado)(pos:Pos)(e:ado):Option IS:=Sv ke nm args pos (eO e)
noncomputable def Sx:EV->Option IS
 |.call f args xX pos=>if xX.isEmpty then Sw ke nm args pos f else none
 |_=>none
noncomputable abbrev aaZ(e:ado):Option IS:=Sx ke nm (eO e)
noncomputable def afj:Option ado->Option IS
 |some e=>(ei ke nm e).map .ret
 |none=>some (.ret .none)
noncomputable def Sy(rb:List ahs->eW):ahs->Option IS
 |.Assign ts v _=>(oW ts).bind (afi ke nm v)
 |.AugAssign t op v _=>(mZ t).bind λx=>(bK nm x).bind λi=>(ei ke nm v).map λe=>.aug i op e
 |.Expr e _=>aaZ ke nm e
 |.Return o _=>afj ke nm o
 |.If t a b _=>(zM ke nm t).map λt'=>.ifs t' (rb a) (rb b)
 |.For t it body orelse _=>if orelse.isEmpty&&eT it then (mZ t).bind λx=>(bK nm x).bind λi=>(E5 ke nm it).map λit'=>.lP i it' (rb body) else none
 |.While t body orelse _=>if orelse.isEmpty then (zM ke nm t).map λt'=>.whl t' (rb body) else none
 |_=>none
end
noncomputable def cw:Nat->Nat->NI->List ahs->eW
 |0,_,_,_=>.cons .bad .nil
 |_+1,_,_,[]=>.nil
 |k+1,ke,nm,st::r=>.cons ((Sy ke nm (cw k ke nm) st).getD .bad) (cw k ke nm r)
variable{prog:aas}{w:abI}{A:adV}{Y:Lay}{g:Gh}{σ:bj}{s:aaD}{d:Nat}{base:adF}{nm:NI}{env:Env}{RF:cQ}
theorem Pq(R:Rel Y g σ s.heap)(hx:RelV Y.n g x v)(hy:RelV Y.n g y u)(h:yd op x y=some r):
 Wv (abD prog w) A Y g σ (inplaceOp op v u) s r:=by
 intro E Q hQ
 cases x with
 |int a=>
  (refine ax h ?_;clear h;intro b e h)
  have:=a5 e
  subst this
  apply RelV.bV hx;intro _;apply RelV.bV hy;intro _
  cases op with
  |Add=>cases h;exact iadd_int (dD (E:=E) R hQ (.int _ _))
  |Sub=>cases h;exact isub_int (dD (E:=E) R hQ (.int _ _))
  |FloorDiv=>obtain ⟨hc,rfl⟩:=aH h;exact ifloordiv_int (bQ hc).1 (dD (E:=E) R hQ (.int _ _)) (.inl (noPylong_of_log2 (bQ hc).2))
  |LShift=>obtain ⟨hc,rfl⟩:=aH h;exact ilshift_int (bQ hc).1 (bQ hc).2 (dD (E:=E) R hQ (.int _ _))
  |RShift=>obtain ⟨hc,rfl⟩:=aH h;exact irshift_int (of_decide_eq_true hc) (dD (E:=E) R hQ (.int _ _))
  |BitOr=>cases h;exact ior_int (dD (E:=E) R hQ (.int _ _))
  |_=>exact pW h
 |str a=>
  (refine ax h ?_;clear h;intro b e h)
  have:=eU e
  subst this
  apply RelV.fq hx;intro _;apply RelV.fq hy;intro _
  cases op with
  |Add=>obtain ⟨hc,rfl⟩:=aH h;exact iadd_str (λt' tk=>dD (E:=E) R hQ (.str _ _)) (of_decide_eq_true hc)
  |_=>exact pW h
 |_=>exact pW h
noncomputable def Kb(F:OC)(n:Nat)(h h':adF):Prop:=∀a o,a<n->h.get? a=some o->Ok F (λc=>n<=c) h' a o
theorem Kb.ks(k:KS h h'):Kb F n h h':=λa o V e=>.inl ⟨o.slots,k a o e,λV=>rfl⟩
theorem Kb.refl(n:Nat)(h:adF):Kb F n h h:=Kb.ks λV V e=>e
theorem Rel.kb(R:Rel Y g σ h)(hs:∃a,a∈Y.dH/\Y.n<=a)(k:aW Y.lo h h'):Kb Y.lo Y.n h h':=λa o l e=>by
 rcases k a o e with x | ⟨ho,hn,t,ht,hP,c,hc,hg,hr⟩
 .exact .inl x
 .refine bz hs λL hL hnL=>?_
  refine bU (R.Sg L (aw.mpr (.inl hL))) λo' h1=>?_
  exact .inr ⟨ho,hn,t,ht,hP,c,abq hnL (afo (hc L o' h1)),hg,hr⟩
theorem Kb.trans(x:Kb F n h h')(y:Kb F n h' xS)(R':Rel Y' g' σ' xS)(hF:F.tb=aX:=by rfl):Kb F n h xS:=λa o l e=>by
 rcases x a o l e with ⟨s1,e1,n1⟩ | ⟨ho,hn,t,zI,hP,c,hc,hg,hr⟩
 .rcases y a _ l e1 with ⟨s2,e2,n2⟩ | ⟨ho,hn,t,ht,hP,c,hc,hg,hr⟩
  .exact .inl ⟨s2,e2,λn=>(n2 n).trans (n1 n)⟩
  .rw[n1 hn]at ho
   exact .inr ⟨ho,hn,t,ht,hP,c,hc,hg,hr⟩
 .rcases y a _ l hg with ⟨s2,e2,n2⟩ | ⟨oE,_⟩
  .rw[n2 hn]at e2
   refine .inr ⟨ho,hn,t,zI,hP,c,hc,e2,?_⟩
   have ht:t∈aX:=hF▸zI
   rcases R'.tabs t ht with q | ⟨t',afl,hp,c',oc,vs,tt,h1,h2,h3,h4⟩
   .rw[hP,e2]at q
    injection q with q;injection q with _ _ q;injection q with q
    exact absurd q (t.ne c)
   .have:=oS t ht t' afl hp
    subst this
    rw[hP,e2]at h1
    injection h1 with h1;injection h1 with _ _ h1;injection h1 with h1
    have:=t'.inj _ _ h1
    subst this
    exact ⟨c,oc,vs,tt,rfl,R'.eQ _ _ h2,h3,h4⟩
  .injection oE with _ _ q;injection q with q
   exact absurd q (t.ne c)
theorem Kb.fw{wr:List aa9}{h h':adF}(hk:∀b o,b∉wr->h.get? b=some o->h'.get? b=some o){F:OC}{n:Nat}(ne:∀a,a<n->a∉wr):Kb F n h h':=λa o l e=>.inl ⟨o.slots,hk a _ (ne a l) e,λV=>rfl⟩
theorem Kb.but{F:OC}{n:Nat}{C:aa9}{h h':adF}(hs:aem C h h')(hC:n<=C):Kb F n h h':=
 Kb.fw (wr:=[C]) (λb o hb e=>hs.extBut b o (by simpa using hb) e) λa l=>by rw[abF];exact ac4 (aaO l hC)
theorem ck(C:Cx base nm env Y)(R:Rel Y g σ s.heap)(hi:bK nm x=some i)(hv:RelV Y.n g av v)
(hQ:∀s',Kb Y.lo Y.n s.heap s'.heap->Rel Y g (σ.put i av) s'.heap->a9 s s'->Q () s'):abJ (abD prog w) A (akC env x v) Q E s:=by
 unfold bK at hi
 split at hi
 .rename_i hk
  simp only[agh,beq_iff_eq]at hk
  obtain ⟨l,hl,h1⟩:=C.slots x i hi
  have hp:(env.scope.kind==.class||(env.scope.kind==.module&&env.locals !=env.globals))=false:=by simp[C.kind]
  rcases h1 with ⟨rfl,fU⟩ | ⟨c,rfl,sU,GZ⟩
  .obtain ⟨f,hf,_⟩:=R.ns env.locals (R.cZ _ _ _ hl)
   refine ahq fU hf (λh' hn hs=>?_) hp
   exact hQ _ (Kb.but hs (R.low _ (.inl (R.cZ _ _ _ hl)))) (R.EW hl hv hf hn hs) ⟨rfl,rfl,rfl⟩
  .obtain ⟨ov,xZ,_⟩:=R.cell i c hl
   have G3:env.kindOf x=some .cell:=by
    rw[C.names x]at hk
    rcases hk with hk|hk
    .rcases GZ with q|q <;> rw[hk]at q <;> cases q
    .exact hk
   refine ain C.kind G3 sU xZ (λh' hn hs=>?_)
   exact hQ _ (Kb.but hs (R.low _ (.inr (.inl (bR hl))))) (R.setCell hl hv hn hs) ⟨rfl,rfl,rfl⟩
 .cases hi
end
section
variable{prog:aas}{w:abI}{A:adV}{Y:Lay}{g:Gh}{σ:bj}{s:aaD}{d:Nat}{base:adF}{nm:NI}{env:Env}{RF:cQ}
noncomputable def FlR(n:Nat)(g:Gh):Option AV->ahE->Prop
 |none,f=>f=.next
 |some x,f=>∃v,f=.ret v/\RelV n g x v
noncomputable def SS(prog:aas)(w:abI)(d:Nat)(base:adF)(RF:cQ)(env:Env)(Y:Lay)(t:Sem ahE)(ev:Nat->bj->Cp):Prop:=
 ∀n A s g σ σ' fl,jM d Y.fr A->Rel Y g σ s.heap->ev n σ=some (σ',fl)->∀(E:aaq->aaD->Prop) (Q:ahE->aaD->Prop),
  (∀f s' g',Kb Y.lo Y.n s.heap s'.heap->g.le g'->Rel Y g' σ' s'.heap->a9 s s'->FlR Y.n g' fl f->Q f s')->abJ (abD prog w) A t Q E s
noncomputable abbrev lC(prog:aas)(w:abI)(d:Nat)(base:adF)(RF:cQ)(env:Env)(Y:Lay)(st:ahs)(is:IS):Prop:=SS prog w d base RF env Y (exec st env) (λn σ=>CV RF n is σ)
noncomputable abbrev NZ(prog:aas)(w:abI)(d:Nat)(base:adF)(RF:cQ)(env:Env)(Y:Lay)(Ag:List ahs)(Sz:eW):Prop:=SS prog w d base RF env Y (ajA Ag env) (λn σ=>cg RF n Sz σ)
theorem dR(C:Cx base nm env Y):akN env=false:=by unfold akN;erw[C.kind];rfl
theorem VH{st:ahs}:lC prog w d base RF env Y st .bad:=by
 intro n A s g σ σ' fl hA R h
 exact aq h
theorem ci(h:kJ v=false):aiF v t l env=pure false:=by
 refine dW (P:=λv e=>sV v=false->aiF e t l env=pure false) (λv h=>?_) v h
 cases v with
 |comp _ _ _ _=>exact fT h.symm
 |other _=>exact fT h.symm
 |_=>rfl
theorem wu(hx:∃a,a∈Y.dH/\Y.n<=a)(C:Cx base nm env Y)(hi:bK nm x=some i)(hv:SE prog w d base RF nm env Y v e)(hs:aiF v (some (.Name x px)) pos.line env=pure false):
 lC prog w d base RF env Y (.Assign [.Name x px] v pos) (.asg i e):=by
 intro n A s g σ σ' fl hA R h E Q hQ
 skip
 (refine bC h ?_;clear h;intro a ha h)
 cases h
 refine agw ((hv A s g σ a hA R ha).then λu dx aR mt aY aQ aV bO=>?_) hs
 exact ck C aQ hi bO λqm bb aM a6=>hQ .next qm aR ((R.kb hx mt).trans bb aM) aY aM (aV.trans a6) rfl
theorem CX(C:Cx base nm env Y)(R:Rel Y g σ s.heap)(hi:bK nm x=some i)(hv:RelV Y.n g av v)
(hQ:∀s' a,a∈Y.bu g->aem a s.heap s'.heap->Kb Y.lo Y.n s.heap s'.heap->Rel Y g (σ.put i av) s'.heap->a9 s s'->Q () s'):abJ (abD prog w) A (akC env x v) Q E s:=by
 unfold bK at hi
 split at hi
 .rename_i hk
  simp only[agh,beq_iff_eq]at hk
  obtain ⟨l,hl,h1⟩:=C.slots x i hi
  have hp:(env.scope.kind==.class||(env.scope.kind==.module&&env.locals !=env.globals))=false:=by simp[C.kind]
  rcases h1 with ⟨rfl,fU⟩ | ⟨c,rfl,sU,GZ⟩
  .obtain ⟨f,hf,_⟩:=R.ns env.locals (R.cZ _ _ _ hl)
   have hm:env.locals∈Y.bu g:=aw.mpr (.inl (R.cZ _ _ _ hl))
   refine ahq fU hf (λh' hn hs=>?_) hp
   exact hQ _ _ hm hs (Kb.but hs (R.low _ (.inl (R.cZ _ _ _ hl)))) (R.EW hl hv hf hn hs) ⟨rfl,rfl,rfl⟩
  .obtain ⟨ov,xZ,_⟩:=R.cell i c hl
   have hm:c∈Y.bu g:=aw.mpr (.inr (.inl (bR hl)))
   have G3:env.kindOf x=some .cell:=by
    rw[C.names x]at hk
    rcases hk with hk|hk
    .rcases GZ with q|q <;> rw[hk]at q <;> cases q
    .exact hk
   refine ain C.kind G3 sU xZ (λh' hn hs=>?_)
   exact hQ _ _ hm hs (Kb.but hs (R.low _ (.inr (.inl (bR hl))))) (R.setCell hl hv hn hs) ⟨rfl,rfl,rfl⟩
 .cases hi
theorem Kt(hs:∃a,a∈Y.dH/\Y.n<=a)
(C:Cx base nm env Y)(hi:bK nm x=some i)(vx:Va nm scope y=true)(i9:eT iter=true)(hI:SI prog w d base RF nm env Y iter ii)
(hT:∀cl Ca l H,Y.n<=Ca->Cx base (bg nm scope y) (adO scope cl Ca env) ((Y.bv Ca l).with H)->G1 prog w d base RF (bg nm scope y) (adO scope cl Ca env) ((Y.bv Ca l).with H) ifs dK)
(hE:∀cl Ca l H,Y.n<=Ca->Cx base (bg nm scope y) (adO scope cl Ca env) ((Y.bv Ca l).with H)->SE prog w d base RF (bg nm scope y) (adO scope cl Ca env) ((Y.bv Ca l).with H) elt ie)
(hsw:aiF (.ListComp elt [⟨.Name y py,iter,ifs,0⟩] scope Hd) (some (.Name x px)) pos.line env=pure true):
 lC prog w d base RF env Y (.Assign [.Name x px] (.ListComp elt [⟨.Name y py,iter,ifs,0⟩] scope Hd) pos) (.asg i (.comp ie ii dK)):=by
 intro n A s g σ σ' fl hA R h E Q hQ
 skip
 (refine bC h ?_;clear h;intro a ha h)
 cases h
 (refine ax ha ?_;clear ha;intro items z6 ha)
 (refine ax ha ?_;clear ha;intro ys hy ha)
 obtain ⟨hc,rfl⟩:=aH ha
 erw[exec_Assign_Name_used _ _ _ _ hsw]
 refine aaH (wpAny_standAt (aaH ?_))
 show abJ _ A (do let _ <-aiZ (.ListComp elt [⟨.Name y py,iter,ifs,0⟩] scope Hd) scope env _ (ame []) false (eval iter env) (some (akG (.Name x px) env))) _ _ s
 refine aaH (wpAny_mono (Af (use:=some (akG (.Name x px) env)) (Q:=λV s'=>Q .next s') (E:=E) hs C vx i9 hI hT hE hA R z6 hy (of_decide_eq_true hc)
  λs' g' D Ca k l R' m v hn G7 hz hm=>?_) (λV s' hq=>adG (adG hq)) λV V e=>e)
 obtain ⟨mm,hn⟩:=hn
 show abJ _ A (akG (.Name x px) env (.ref D)) _ _ _
 refine ag3 (CX C R' hi v λqm b hb hsb bb aM a6=>?_)
 refine ⟨mm,hn.sameBut hsb (λq=>hm (q▸hb)),λh' lY=>?_⟩
 refine hQ .next {qm with heap:=h'} g' (λa o bA e=>by
  have cW:a≠Ca:=λq=>by subst q;rw[G7]at e;cases e
  rcases ((R.kb hs k).trans bb aM) a o bA e with ⟨sl,e1,n1⟩ | ⟨ho,CY,t,ht,hP,c,hc,hg,c',oc,vs,tt,q,hgc,hd,hv⟩
  .exact .inl ⟨sl,lY.extBut a _ cW e1,n1⟩
  .cases q
   refine .inr ⟨ho,CY,t,ht,hP,c,hc,lY.extBut a _ cW hg,c,oc,vs,tt,rfl,lY.extBut c _ (λq=>?_) hgc,hd,hv⟩
   subst q
   exact aM.sO hz t ht (hP▸hg)) l (aM.Km hm hz lY (R.aaP G7) (R.aaQ G7)) ((m.trans a6).trans ⟨rfl,rfl,rfl⟩) rfl
theorem Ku(C:Cx base nm env Y)(hs:∃a,a∈Y.dH/\Y.n<=a)(hi:bK nm x=some i):lC prog w d base RF env Y (.Assign [.Name x px] (.List [] p) pos) (.own i):=by
 intro n A s g σ σ' fl hA R h E Q hQ
 cases h
 have hn:Y.n<=s.heap.objs.size:=dE R (aW.refl _) hs R
 refine agw (wpAny_List ?_) (ci rfl)
 show abJ _ _ (spliced []) _ _ _
 refine aea ⟨ae7 _,?_⟩
 refine Yp (R.Jg (xs:=[]) (vs:=[]) hn .nil (e:=0)) λg' l' wv R'=>?_
 refine ck C (s:={s with heap:=_}) R' hi (.own wv) λqm bb aM a6=>?_
 exact hQ .next qm g' (Kb.trans (Kb.ks λV V e=>abo _ e) bb aM) l' aM ⟨a6.1,a6.2,a6.3⟩ rfl
theorem Fe(R:Rel Y g σ s.heap)(hv:RelV Y.n g (.tup [a,b]) v):∃t He ye,v=.ref t/\s.heap.IsTuple t #[He,ye]/\RelV Y.n g a He/\RelV Y.n g b ye:=by
 obtain ⟨t,vs,rfl,ht,nR⟩:=lx R hv
 cases nR with
 |cons h1 h2=>
  cases h2 with
  |cons h3 h4=>cases h4;exact ⟨t,_,_,rfl,ht,h1,h3⟩
theorem fe(h:fc nm x=some i):bK nm x=some i:=by
 unfold fc at h
 unfold bK
 split at h
 .rename_i e;simp only[e,Bool.true_or,if_true];exact h
 .cases h
theorem CZ(hx:∃a,a∈Y.dH/\Y.n<=a)(C:Cx base nm env Y)(hi:fc nm x=some i)(hj:fc nm y=some j)(hv:SE prog w d base RF nm env Y v e)
(hs:aiF v (some (.Tuple [.Name x px,.Name y py] k tp)) pos.line env=pure false)(hw:ahS [.Tuple [.Name x px,.Name y py] k tp] v env=pure none):
 lC prog w d base RF env Y (.Assign [.Tuple [.Name x px,.Name y py] k tp] v pos) (.ni i j e):=by
 intro n A s g σ σ' fl hA R h E Q hQ
 skip
 (refine ax h ?_;clear h;intro a ha h)
 split at h
 .cases h
  refine Assign_Tuple ((hv A s g σ _ hA R ha).then λu dx aR mt aY aQ aV bO=>?_) hs hw
  obtain ⟨t,He,ye,rfl,ht,h1,h2⟩:=Fe aQ bO
  refine wpAny_assign_Tuple hA.hand ht rfl rfl λh' he=>?_
  have kp:KS dx.heap h':=λb o q=>he b o (ac4 (abZ q)) q
  show abJ _ A (alH [akG (.Name x px) env,akG (.Name y py) env] [He,ye]) _ E _
  refine aaH (ahn (ag3 (ck C (s:={dx with heap:=h'}) (aQ.keep kp) (fe hi) h1 λqm bb aM a6=>?_)))
  refine aaH (ahn (ag3 (ck C aM (fe hj) h2 λce cY bW cU=>?_)))
  exact adG (hQ .next ce aR ((((R.kb hx mt).trans (Kb.ks kp) (aQ.keep kp)).trans bb aM).trans cY bW) aY bW ((aV.trans ⟨a6.1,a6.2,a6.3⟩).trans cU) rfl)
 .cases h
theorem Kv(h:i≠j):(σ.put j b).put i a=(σ.put i a).put j b:=by
 unfold bj.put
 simp only[List.set_comm _ _ h.symm]
theorem yf(hx:∃a,a∈Y.dH/\Y.n<=a)(C:Cx base nm env Y)(CC:i≠j)(hi:fc nm x=some i)(hj:fc nm y=some j)(hv:SE prog w d base RF nm env Y v e)
(hs:aiF v (some (.Tuple [.Name x px,.Name y py] k tp)) pos.line env=pure false)(hw:ahS [.Tuple [.Name x px,.Name y py] k tp] v env=pure (some [x,y])):
 lC prog w d base RF env Y (.Assign [.Tuple [.Name x px,.Name y py] k tp] v pos) (.ni i j e):=by
 intro n A s g σ σ' fl hA R h E Q hQ
 skip
 (refine ax h ?_;clear h;intro a ha h)
 split at h
 .cases h
  refine Assign_Tuple_swapped (names:=[x,y]) ((hv A s g σ _ hA R ha).then λu dx aR mt aY aQ aV bO=>?_) hs hw
  obtain ⟨t,He,ye,rfl,ht,h1,h2⟩:=Fe aQ bO
  have hun:=wpAny_unpackItems_tuple (prog:=prog) (w:=w) (A:=A) (E:=E) (Q:=λitems qm=>abJ (abD prog w) A (alH [λu=>amN env y u,λu=>amN env x u] items.reverse) (λV=>Q .next) E qm) hA.hand ht
  refine hun λh' he=>?_
  have kp:KS dx.heap h':=λb o q=>he b o (ac4 (abZ q)) q
  show abJ _ A (alH [λu=>amN env y u,λu=>amN env x u] [ye,He]) _ E _
  refine aaH (ahn (wpAny_bindName (ck C (s:={dx with heap:=h'}) (aQ.keep kp) (fe hj) h2 λqm bb aM a6=>?_)))
  refine aaH (ahn (wpAny_bindName (ck C aM (fe hi) h1 λce cY bW cU=>?_)))
  rw[Kv CC]at bW
  exact adG (hQ .next ce aR ((((R.kb hx mt).trans (Kb.ks kp) (aQ.keep kp)).trans bb aM).trans cY bW) aY bW ((aV.trans ⟨a6.1,a6.2,a6.3⟩).trans cU) rfl)
 .cases h
theorem pe(R:Rel Y g σ s.heap)(hv:RelV Y.n g (.own m) v)(h:σ.own[m]?=some xs):∃a vs,v=.ref a/\g.ρ[m]?=some a/\s.heap.PlainList a (aed vs)/\ak Y.n g xs vs:=by
 cases hv with
 |own hk=>
  obtain ⟨vs,h1,h2⟩:=R.own _ _ hk
  rw[h]at h2
  exact ⟨_,vs,rfl,hk,h1,h2⟩
theorem Kw(hx:∃a,a∈Y.dH/\Y.n<=a)(hv:SE prog w d base RF nm env Y v e):lC prog w d base RF env Y (.Return (some v) pos) (.ret e):=by
 intro n A s g σ σ' fl hA R h E Q hQ
 skip
 (refine bC h ?_;clear h;intro a ha h)
 cases h
 refine af7 ((hv A s g σ a hA R ha).then λu dx aR mt aY aQ aV bO=>?_)
 exact hQ _ dx aR (R.kb hx mt) aY aQ aV ⟨u,rfl,bO⟩
theorem Kx:lC prog w d base RF env Y (.Return none pos) (.ret .none):=by
 intro n A s g σ σ' fl hA R h E Q hQ
 cases h
 exact wpAny_Return_none (hQ _ s g (Kb.refl _ _) (Gh.le.refl _) R (a9.refl _) ⟨_,rfl,.none⟩)
theorem aa1(hx:∃a,a∈Y.dH/\Y.n<=a)(ht:ST prog w d base RF nm env Y t it)(ha:NZ prog w d base RF env Y a ia)(hb:NZ prog w d base RF env Y b ib):
 lC prog w d base RF env Y (.If t a b pos) (.ifs it ia ib):=by
 intro n A s g σ σ' fl hA R h E Q hQ
 replace h:((iZ RF it σ).bind λc=>if c=true then cg RF n ia σ else cg RF n ib σ)=some (σ',fl):=h
 refine ax h λc hc h=>?_
 refine amI (ht A s g σ c hA R hc E _ λdx aR mt aY aQ aV=>?_)
 split
 .rename_i e
  rw[if_pos e]at h
  exact ha n A dx aR σ σ' fl hA aQ h E Q λf qm bD bb bt aM a6 vG=>hQ f qm bD ((R.kb hx mt).trans bb aM) (aY.trans bt) aM (aV.trans a6) vG
 .rename_i e
  rw[if_neg e]at h
  exact hb n A dx aR σ σ' fl hA aQ h E Q λf qm bD bb bt aM a6 vG=>hQ f qm bD ((R.kb hx mt).trans bb aM) (aY.trans bt) aM (aV.trans a6) vG
theorem Pt:NZ prog w d base RF env Y [] .nil:=by
 intro n A s g σ σ' fl hA R h E Q hQ
 cases h
 exact afb (hQ _ s g (Kb.refl _ _) (Gh.le.refl _) R (a9.refl _) rfl)
theorem Ky{st:ahs}{r:List ahs}{is:IS}{ir:eW}(h1:lC prog w d base RF env Y st is)(h2:NZ prog w d base RF env Y r ir):NZ prog w d base RF env Y (st::r) (.cons is ir):=by
 intro n A s g σ σ' fl hA R h E Q hQ
 skip
 obtain ⟨⟨Ah,Ai⟩,h0,h⟩:=aec.mp h
 refine aft (h1 n A s g σ Ah Ai hA R h0 E _ λf dx aR mt aY aQ aV Kz=>?_)
 cases Ai with
 |none=>
  cases Kz
  exact h2 n A dx aR Ah σ' fl hA aQ h E Q λf qm bD bb bt aM a6 vG=>hQ f qm bD (mt.trans bb aM) (aY.trans bt) aM (aV.trans a6) vG
 |some x=>
  obtain ⟨v,rfl,hv⟩:=Kz
  cases h
  exact hQ _ dx aR mt aY aQ aV ⟨v,rfl,hv⟩
end
section
set_option tactic.hygienic true
variable{prog:aas}{w:abI}{A:adV}{Y:Lay}{g:Gh}{σ:bj}{s:aaD}{d:Nat}{base:adF}{nm:NI}{env:Env}{RF:cQ}
theorem lZ{l:aa9}{items:Array aaq}{k:Int}{t:Tok}{v:aaq}{Q:Unit->aaD->Prop}{E:aaq->aaD->Prop}(hl:s.heap.PlainList l items)
(h0:0<=k)(aa2:k<2^63)(hn:k<items.size)
(hQ:∀h',h'.PlainList l (items.setIfInBounds k.toNat v)->aem l s.heap h'->Q () {s with heap:=h'}):
 abJ (abD prog w) A (setItem (.ref l) (.int k t) v) Q E s:=by
 obtain ⟨ne,ho⟩:=id hl
 have hT:=hl.isList.typeIs
 unfold setItem
 try with_reducible refine ahn ?_
 first|refine aaH (adG ?_)|skip
 refine aaH (wpAny_sequenceKey hT ⋯ ?_)
 refine aaH (alQ (name:=adQ "__setitem__") hT slot_list_setitem
  (akB slot_list_setitem hT entry_list_setitem ?_ (args_list_setitem _ _ _)))
 show abJ _ _ (Builtin.List.listSubscript? (.int k t) >>=_) _ _ s
 refine aaH (wpAny_listSubscript_int (fitsIndex_of h0 aa2) ?_)
 clear aa2
 obtain ⟨j,rfl⟩:=ag7 h0
 have hj:j<items.size:=%[a<b,(qC a)>(qC b)|(aP hn)]
 have hx':items[j]?=some items[j]:=Array.getElem?_eq_getElem hj
 show abJ _ _ ((seqItemAt l j >>=λr=>pure (r.map (j,·))) >>=_) _ _ s
 refine aaH (aaH (wpAny_seqItemAt ho rfl (adG ?_)))
 erw[hx']
 show abJ _ _ (setSeqItemAt l j v >>=_) _ _ s
 have aa3:(s.heap.update l (agi (·.setIfInBounds j v))).PlainList l (items.setIfInBounds j v):=
  ⟨_,agL _ ho rfl⟩
 refine aaH (wpAny_setSeqItemAt ho rfl ?_)
 first
  |exact aaH (adG (adG ⟨.none,rfl,adG (hQ _ aa3 (agN ..))⟩))
  |exact adG ⟨.none,rfl,adG (hQ _ aa3 (agN ..))⟩
theorem t0(R:Rel Y g σ s.heap){m:Nat}{a:aa9}(wv:g.ρ[m]?=some a):Y.n<=a:=R.low a (.inr (.inr (ade wv)))
theorem VI{o i v:ado}{p pos:Pos}{io ii ie:IE}(lN:∃a,a∈Y.dH/\Y.n<=a)(ho:SE prog w d base RF nm env Y o io)(hi:SE prog w d base RF nm env Y i ii)(hv:SE prog w d base RF nm env Y v ie)(hc:kJ v=false):
 lC prog w d base RF env Y (.Assign [.Subscript o i p] v pos) (.set io ii ie):=by
 intro n A s g σ σ' fl hA R h E Q hQ
 skip
 (refine ax h ?_;clear h;intro x hx h)
 (refine ax h ?_;clear h;intro ov xZ h)
 (refine ax h ?_;clear h;intro kv hkv h)
 cases ov with
 |own m=>
  cases kv with
  |int z=>
   (refine ax h ?_;clear h;intro xs Si h)
   split at h
   .rename_i hz
    cases h
    refine amb ((hv A s g σ x hA R hx).then λu dx aR mt aY aQ aV bO=>(ho A dx aR σ _ hA aQ xZ).then λye qm bD bb bt aM a6 cD=>
     (hi A qm bD σ _ hA aM hkv).then λajg ce gw cY fM bW cU iH=>?_) (ci hc)
    (refine zu (pe bW (cD.mono fM) Si) λa vs iB wv hl nR=>?_;obtain rfl:=iB)
    apply RelV.bV iH;intro _
    have e:=nR.length
    refine lZ hl hz.1 %[a>(qL 2 63),aU (0>=a) (aU (a>(qC a)) (a>(qL 2 62)))|(N9 hz)] (by simp;exact %[a>(qC a),aU (0>=a) (aU (a>(qC b)) (a>(qL 2 62))),b=a|Gq hz e]) λh' VJ lY=>?_
    have Fa:h'.PlainList a (vs.set z.toNat u).toArray:=by simpa using VJ
    exact hQ .next {ce with heap:=h'} gw (Kb.trans (R.kb lN ((mt.trans bb).trans cY)) (Kb.but lY (t0 bW wv)) (bW.dU wv (ak.set ((bO.mono bt).mono fM) nR) Fa lY)) ((aY.trans bt).trans fM) (bW.dU wv (ak.set ((bO.mono bt).mono fM) nR) Fa lY) (((aV.trans a6).trans cU).trans ⟨rfl,rfl,rfl⟩) rfl
   .cases h
  |_=>cases h
 |_=>cases h
theorem t7(C:Cx base nm env Y)(R:Rel Y g σ s.heap)(hi:bK nm x=some i)(h:σ.vars[i]?.getD none=some av)
(hQ:∀v,RelV Y.n g av v->Q v s):abJ (abD prog w) A (loadName env x) Q E s:=by
 unfold bK at hi
 split at hi
 .rename_i hk
  simp only[agh,beq_iff_eq]at hk
  obtain ⟨l,hl,h1⟩:=C.slots x i hi
  rcases h1 with ⟨rfl,hk⟩ | ⟨c,rfl,cT,GZ⟩
  .obtain ⟨f,hf,hs⟩:=R.ns env.locals (R.cZ _ _ _ hl)
   have h2:=hs i x hl
   rw[h]at h2
   cases JP:f x with
   |none=>rw[JP]at h2;cases h2
   |some v=>
    rw[JP]at h2
    cases h2 with
    |some h3=>exact aio C.kind hk hf JP (hQ v h3)
  .obtain ⟨ov,xZ,h2⟩:=R.cell i c hl
   have G3:env.kindOf x=some .cell:=by
    rw[C.names x]at hk
    rcases hk with hk|hk
    .rcases GZ with q|q <;> rw[hk]at q <;> cases q
    .exact hk
   rw[h]at h2
   cases h2 with
   |some h3=>exact ajN C.kind G3 cT xZ (hQ _ h3)
 .cases hi
theorem VK(lN:∃a,a∈Y.dH/\Y.n<=a)(C:Cx base nm env Y)(hi:bK nm x=some i)(hv:SE prog w d base RF nm env Y v e):
 lC prog w d base RF env Y (.AugAssign (.Name x px) op v pos) (.aug i op e):=by
 intro n A s g σ σ' fl hA R h E Q hQ
 skip
 (refine ax h ?_;clear h;intro old hold h)
 (refine ax h ?_;clear h;intro a ha h)
 (refine bC h ?_;clear h;intro y hy h)
 cases h
 refine ajG (t7 C R hi hold λaa4 Aj=>(hv A s g σ a hA R ha).then λu dx aR mt aY aQ aV bO=>(Pq aQ (Aj.mono aY) bO hy).then λz qm bD bb bt aM a6 cD=>?_)
 exact ck C aM hi cD λce cY bW cU=>hQ .next ce bD ((R.kb lN (mt.trans bb)).trans cY bW) (aY.trans bt) bW ((aV.trans a6).trans cU) rfl
theorem VL{o e:ado}{apos pos C0:Pos}{io ie:IE}(lN:∃a,a∈Y.dH/\Y.n<=a)(C:Cx base nm env Y)(hline:(apos.endLine==pos.line)=true)(zZ:oX o=true)(hn:cm [e])
(ho:SE prog w d base RF nm env Y o io)(he:SE prog w d base RF nm env Y e ie):lC prog w d base RF env Y (.Expr (.Call (.Attribute o (adQ "append") apos) [e] [] pos) C0) (.app io ie):=by
 intro n A s g σ σ' fl hA R h E Q hQ
 skip
 (refine ax h ?_;clear h;intro ov xZ h)
 (refine ax h ?_;clear h;intro x hx h)
 split at h
 .rename_i m
  (refine ax h ?_;clear h;intro xs Si h)
  split at h
  .rename_i cL
   cases h
   refine ah6 (af1 (dY zZ) (by erw[aO hn ..];rfl) hline ((ho A s g σ _ hA R xZ).then λu dx aR mt aY aQ aV bO=>?_)) (dR C) rfl
   (refine zu (pe aQ bO Si) λa vs iB wv hl nR=>?_;obtain rfl:=iB)
   refine ⟨"list","list.append",akb,slot_list_append,amc,hl.isList.typeIs,λb e=>by cases e;obtain ⟨z,q⟩:=hl;exact ⟨_,q,rfl⟩,?_⟩
   erw[aO hn ..]
   refine aeN rfl (adL (adE ((he A dx aR σ _ hA aQ hx).then λye qm bD bb bt aM a6 cD=>aea ?_)))
   have e1:=nR.length
   refine aje (bb.plain hl (aQ.oU wv)) (λh' VJ lY=>?_) (by simp;exact %[a<=b,c<=b,c=a|bJ cL e1])
   have Fa:h'.PlainList a (vs++[ye]).toArray:=by simpa using VJ
   have RS:=aM.dU (bt.2 _ _ wv) ((nR.mono bt).append (.cons cD .nil)) Fa lY
   exact hQ .next {qm with heap:=h'} bD (Kb.trans (R.kb lN (mt.trans bb)) (Kb.but lY (t0 aQ wv)) RS) (aY.trans bt) RS ((aV.trans a6).trans ⟨rfl,rfl,rfl⟩) rfl
  .cases h
 .cases h
theorem VM{o:ado}{apos pos C0:Pos}{io:IE}(lN:∃a,a∈Y.dH/\Y.n<=a)(C:Cx base nm env Y)(hline:(apos.endLine==pos.line)=true)(zZ:oX o=true)
(ho:SE prog w d base RF nm env Y o io):lC prog w d base RF env Y (.Expr (.Call (.Attribute o (adQ "reverse") apos) [] [] pos) C0) (.rev io):=by
 intro n A s g σ σ' fl hA R h E Q hQ
 skip
 (refine ax h ?_;clear h;intro ov xZ h)
 split at h
 .rename_i m
  (refine ax h ?_;clear h;intro xs Si h)
  split at h
  .rename_i cL
   cases h
   refine ah6 (af1 (dY zZ) rfl hline ((ho A s g σ _ hA R xZ).then λu dx aR mt aY aQ aV bO=>?_)) (dR C) rfl
   (refine zu (pe aQ bO Si) λa vs iB wv hl nR=>?_;obtain rfl:=iB)
   refine ⟨"list","list.reverse",akb,amw,F.type_list_reverse,hl.isList.typeIs,λb e=>by cases e;obtain ⟨z,q⟩:=hl;exact ⟨_,q,rfl⟩,?_⟩
   refine aeN rfl (al0 ?_)
   have e1:=nR.length
   obtain ⟨z,hg⟩:=id hl
   refine aiL amw hl.isList.typeIs F.entry_list_reverse (F.args_list_reverse_1 _) (AutoListH.list_reverse_list_0 a vs.toArray z (by simp;exact %[a<=b,c<=b,c=a|bJ cL e1])) ⟨hg,?_⟩
   have lY:aem a dx.heap (dx.heap.update a (agi λx=>x.reverse)):=agN ..
   have Fa:(dx.heap.update a (agi λx=>x.reverse)).PlainList a vs.reverse.toArray:=by
    have e2:=agL (agi λx=>x.reverse) hg rfl
    unfold agi at e2
    simp only[List.reverse_toArray]at e2
    exact ⟨_,e2⟩
   have RS:=aQ.dU wv nR.reverse Fa lY
   exact hQ .next _ aR (Kb.trans (R.kb lN mt) (Kb.but lY (t0 aQ wv)) RS) aY RS (aV.trans ⟨rfl,rfl,rfl⟩) rfl
  .cases h
 .cases h
end
section
variable{prog:aas}{w:abI}{A:adV}{Y:Lay}{g:Gh}{σ:bj}{s:aaD}{d:Nat}{base:adF}{nm:NI}{env:Env}{RF:cQ}
theorem Cx.hold(C:Cx base nm env Y)(H:List (aa9×Obj)):Cx base nm env (Y.with H):=⟨C.kind,C.names,C.slots,C.dH,C.az,C.keep⟩
theorem Ak(h:vz RF ii σ=some items):wd RF ii σ=some items:=by
 cases ii with
 |exp e=>
  replace h:((aA RF e σ).bind lw)=some items:=h
  show ((aA RF e σ).bind λx=>jk σ x)=some items
  refine ax h λx hx h=>?_
  rw[hx]
  show jk σ x=some items
  cases x <;> first|exact h|exact aq h
 |_=>exact h
noncomputable def VN(RF:cQ)(Y:Lay)(n i:Nat)(ib:eW)(items:List AV)(r:bj×Option AV)(dx:aaD)(aR:Gh)(St:Nat->adF->Prop)(I:aa9)(m:Nat)(s':aaD):Prop:=∀G:Prop,(∀k g' oI Hf,m=items.length+1-k->k<=items.length->St k s'.heap->Kb Y.lo Y.n dx.heap s'.heap->aR.le g'->Rel (Y.with ((I,oI)::Y.hold)) g' Hf s'.heap->a9 dx s'->
 jK (λx σ=>cg RF n ib (σ.put i x)) (items.drop k) Hf=some r->G)->G
theorem VO(hs:∃a,a∈Y.dH/\Y.n<=a)(C:Cx base nm env Y)(hi:bK nm x=some i)(i9:eT it=true)
(hI:SI prog w d base RF nm env Y it ii)(hB:∀H,NZ prog w d base RF env (Y.with H) body ib):lC prog w d base RF env Y (.For (.Name x px) it body [] pos) (.lP i ii ib):=by
 intro n A s g σ σ' fl hA R h E Q hQ
 refine ax (show (vz RF ii σ).bind _=_ from h) λitems vw h=>?_
 refine wpAny_For (hI A s g σ items true hA R (Ak vw) (λV=>vw) E _ λdx aR mt aY aQ aV=>?_) (lB i9)
 intro o fp P St ho It zo
 have fA:Y.n<=dx.heap.objs.size:=dE R mt hs aQ
 have aM:Rel (Y.with ((dx.heap.objs.size,o)::Y.hold)) aR σ (dx.heap.push o):=Rel.gg (Y:=Y) (H:=Y.hold) aQ ho fA
 have kpu:Kb Y.lo Y.n dx.heap (dx.heap.push o):=Kb.ks λV V e=>abo _ e
 generalize dx.heap.push o=hp at *
 generalize dx.heap.objs.size=I at *
 have W:=It.walks A hA.hand
 have t8:∀{h h':adF} {ga gb:Gh} {σa σb:bj} {oI:Obj},Rel (Y.with ((I,oI)::Y.hold)) ga σa h->Rel (Y.with ((I,oI)::Y.hold)) gb σb h'->aR.le ga->ga.le gb->∀b∈fp,∀o,h.get? b=some o->h'.get? b=some o:=by
  intro h h' ga gb σa σb oI Ra Rb la lb b hb o e
  rcases It.mY rfl b hb with rfl|hz
  .exact (aac ((Ra.held (b,oI) (.head _)).symm.trans e))▸Rb.held (b,oI) (.head _)
  .obtain ⟨o',oE⟩:=afG.mp hz
   exact (aac ((Ra.eQ _ _ (la.1 _ _ oE)).symm.trans e))▸Rb.eQ _ _ (lb.1 _ _ (la.1 _ _ oE))
 refine codeAny_forLoop (VN RF Y n i ib items (σ',fl) dx aR St I) ?_ (items.length+1)
  λG f=>f 0 aR o σ rfl (ae7 _) zo kpu (Gh.le.refl _) aM ⟨rfl,rfl,rfl⟩ h
 refine λm s' H=>ej λQa Ea na ea=>H _ λk g' oI Hf hmk hk CN kp' l' R' m' hf=>?_
 by_cases bA:k<items.length
 .refine W.item k s' _ _ bA CN λv jJ tk hPv kI gH=>na _ _ (ej λQb Eb nb V=>?_)
  obtain ⟨xk,hxk,Pa⟩:=It.rel k v bA hPv
  rw[ael bA,aac ((abz bA).symm.trans hxk)]at hf
  obtain ⟨Ac,CO⟩:=It.obj _ _ kI
  have dX:=R'.ya (h':=jJ) gH CO
  have Ad:Kb Y.lo Y.n s'.heap jJ:=Kb.fw gH λa ha=>by
   rw[abF];exact ac4 (aaO ha fA)
  refine ag3 (ck (C.hold _) (s:={s' with heap:=jJ,toks:=tk}) dX hi (Pa.mono l') λce cY db cU=>nb _ _ ?_)
  have yb:St (k+1) ce.heap:=W.frame _ _ _ kI (t8 dX db l' (Gh.le.refl _))
  refine ax (show (cg RF n ib (Hf.put i xk)).bind _=_ from hf) λp h2 hf=>?_
  obtain ⟨Am,An⟩:=p
  refine hB ((I,Ac)::Y.hold) n A ce g' (Hf.put i xk) Am An hA db h2 _ _ λf d7 x7 jo lO iK eV aa8=>?_
  have Ao:Kb Y.lo Y.n dx.heap d7.heap:=((kp'.trans Ad dX).trans cY db).trans jo iK
  have nU:a9 dx d7:=(m'.trans (⟨cU.1,cU.2,cU.3⟩ :a9 s' ce)).trans eV
  cases An with
  |none=>
   cases aa8
   exact ⟨_,sT hmk bA,λG f=>f (k+1) x7 Ac Am rfl bA (W.frame _ _ _ yb (t8 db iK l' lO)) Ao (l'.trans lO) iK nU hf⟩
  |some y=>
   obtain ⟨v',rfl,JF⟩:=aa8
   cases hf
   exact hQ _ d7 x7 ((R.kb hs mt).trans Ao iK) ((aY.trans l').trans lO) (iK.lA λV V V e=>e) (aV.trans nU) ⟨v',rfl,JF⟩
 .obtain rfl:k=items.length:=aik hk (amU bA)
  rw[aiR]at hf
  cases hf
  refine W.done s' _ _ CN λjJ tk gH=>na _ _ (afb ?_)
  have Ad:Kb Y.lo Y.n s'.heap jJ:=Kb.fw gH λa ha=>by
   rw[abF];exact ac4 (aaO ha fA)
  have Rd:=R'.lA (h':=jJ) λb o' hb e=>gH b o' (λq=>hb (abF.mp q)) e
  exact hQ .next {s' with heap:=jJ,toks:=tk} g' (((R.kb hs mt).trans kp' R').trans Ad Rd) (aY.trans l') Rd (aV.trans (m'.trans ⟨rfl,rfl,rfl⟩)) rfl
noncomputable def VP(RF:cQ)(Y:Lay)(n:Nat)(it:IT)(ib:eW)(r:bj×Option AV)(s:aaD)(g:Gh)(m:Nat)(s':aaD):Prop:=∀G:Prop,(∀g' Hf,Kb Y.lo Y.n s.heap s'.heap->g.le g'->Rel Y g' Hf s'.heap->a9 s s'->Hc (iZ RF it) (cg RF n ib) m Hf=some r->G)->G
theorem VQ(hx:∃a,a∈Y.dH/\Y.n<=a)(hT:ST prog w d base RF nm env Y t it)(hB:NZ prog w d base RF env Y body ib):lC prog w d base RF env Y (.While t body [] pos) (.whl it ib):=by
 intro n A s g σ σ' fl hA R h E Q hQ
 refine wpAny_While (codeAny_whileLoop (VP RF Y n it ib (σ',fl) s g) ?_ n λG f=>f g σ (Kb.refl _ _) (Gh.le.refl _) R (a9.refl _) h)
 refine λm s' H=>ej λQa Ea na ea=>H _ λg' Hf kp l' R' m' hf=>?_
 cases m with
 |zero=>exact aq hf
 |succ m=>
  refine ax (show (iZ RF it Hf).bind _=_ from hf) λc hc hf=>?_
  refine hT A s' g' Hf c hA R' hc _ _ λdx aR mt aY aQ aV=>na _ _ ?_
  cases c with
  |true=>
   erw[if_pos rfl]
   refine ax (show (cg RF n ib Hf).bind _=_ from hf) λp h2 hf=>?_
   obtain ⟨Am,An⟩:=p
   refine hB n A dx aR Hf Am An hA aQ h2 _ _ λf qm bD bb bt aM a6 vG=>?_
   cases An with
   |none=>cases vG;exact ⟨m,afm _,λG f=>f bD Am ((kp.trans (R'.kb hx mt) aQ).trans bb aM) ((l'.trans aY).trans bt) aM ((m'.trans aV).trans a6) hf⟩
   |some y=>
    obtain ⟨v',rfl,JF⟩:=vG
    cases hf
    exact hQ _ qm bD ((kp.trans (R'.kb hx mt) aQ).trans bb aM) ((l'.trans aY).trans bt) aM ((m'.trans aV).trans a6) ⟨v',rfl,JF⟩
  |false=>
   erw[if_neg agI]
   cases hf
   exact afb (hQ .next dx aR (kp.trans (R'.kb hx mt) aQ) (l'.trans aY) aQ (m'.trans aV) rfl)
end
section
variable{prog:aas}{w:abI}{A:adV}{Y:Lay}{g:Gh}{σ:bj}{s:aaD}{d:Nat}{base:adF}{nm:NI}{env:Env}{RF:cQ}
theorem rg(C:Cx base nm env Y)(h:fc nm x=some i):env.kindOf x=some .local:=by
 unfold fc at h
 split at h
 .rename_i e;erw[<-C.names x];exact eq_of_beq e
 .exact aq h
theorem Ap(hb:env.blockKind=.function)(e1:env.kindOf x=some .local)(e2:env.kindOf y=some .local)(Vm:(x !=y)=true)(hsw:tZ px py vs=true):
 ahS [.Tuple [.Name x px,.Name y py] k tp] (.Tuple vs r q) env=pure (some [x,y]):=by
 unfold tZ at hsw
 rw[aap,aap,aap,aap,decide_eq_true_eq,ahj,ahj,ahj]at hsw
 obtain ⟨⟨⟨⟨h1,h2⟩,h3⟩,h4⟩,h5⟩:=hsw
 have key:∀names:List Str,names=[x,y]->(if (names.length !=2||names.eraseDups.length !=names.length)=true then pure none else if vs.all (foldedForSure 8)=true then pure none else if vs.all (constantsAlone 8)=true then (do let _ <-(unsupported "assign.tuple-of-constant-expressions:order-of-the-stores":Sem Unit);pure (some names)) else pure (some names):Sem (Option (List Str)))=pure (some [x,y]):=by
  intro names hn
  subst hn
  have hd:([x,y]:List Str).eraseDups=[x,y]:=by
   have hyx:(y==x)=false:=by
    cases e:(y==x) with
    |false=>rfl
    |true=>have:=eq_of_beq e;subst this;rw[bne_self_eq_false]at Vm;exact fT Vm
   erw[List.eraseDups_cons,aga,hyx]
   rfl
  erw[hd]
  exact (if_neg agI).trans ((if_neg (ne_true_of_eq_false h4)).trans (if_neg (ne_true_of_eq_false h5)))
 refine (if_neg (?_:¬((!(2==2||2==3)||vs.length !=2||env.blockKind !=.function)=true))).trans ((if_neg (?_:¬(vs.any Ss=true))).trans (key _ ?_))
 .erw[h1,hb];decide
 .exact ne_true_of_eq_false h2
 .refine (akQ (b:=x) ?_).trans (congrArg (x::·) ((akQ (b:=y) ?_).trans rfl))
  .show (if (env.kindOf x==some .local&&px.line==px.line)=true then some x else none)=some x
   exact if_pos (aid.mpr ⟨beq_iff_eq.mpr e1,beq_self_eq_true _⟩)
  .show (if (env.kindOf y==some .local&&py.line==px.line)=true then some y else none)=some y
   exact if_pos (aid.mpr ⟨beq_iff_eq.mpr e2,beq_iff_eq.mpr (eq_of_beq h3).symm⟩)
theorem yg(hc:kJ v=false)(hv:Fd v=none):ahS [.Tuple [.Name x px,.Name y py] k tp] v env=pure none:=by
 refine dW (P:=λv e=>sV v=false->VG v=none->ahS [.Tuple [.Name x px,.Name y py] k tp] e env=pure none) (λv hc hv=>?_) v hc hv
 cases v with
 |tup _ _ _=>exact aq hv.symm
 |other _=>exact fT hc.symm
 |_=>rfl
structure VR (prog:aas) (w:abI) (d:Nat) (base:adF) (RF:cQ) (k ke:Nat) (nm:NI) (env:Env) (Y:Lay):Prop where
 b:∀Ag,NZ prog w d base RF env Y Ag (cw k ke nm Ag)
theorem Pu{st:ahs}{o:Option IS}(h:∀is,o=some is->lC prog w d base RF env Y st is):lC prog w d base RF env Y st (o.getD .bad):=by
 cases o with
 |none=>exact VH
 |some is=>exact h is rfl
theorem KA{e:ado}{vs:List ado}{G:ado->Prop}(h:Fd e=some vs)(k:∀q p,G (.Tuple vs q p)):G e:=by
 refine dW (P:=λv e=>VG v=some vs->G e) (λv h=>?_) e h
 cases v with
 |tup _ q p=>obtain rfl:=aac h;exact k q p
 |_=>exact aq h
theorem Hg{e:ado}{G:ado->Prop}(h:CW e=true)(k:∀p,G (.List [] p)):G e:=by
 refine dW (P:=λv e=>Ks v=true->G e) (λv h=>?_) e h
 cases v with
 |lst es p=>
  cases es with
  |nil=>exact k p
  |cons _ _=>exact fT h
 |_=>exact fT h
section
variable(jN:vE prog w d base RF)(dh:∀f xs res,RF (.ref f) xs=some res->∃o fd,base.get? f=some o/\o.data=.func fd){ke:Nat}(O:NY base nm env Y)
include jN dh O
theorem Pw(hi:bK nm x=some i)(he:ei ke nm v=some e):lC prog w d base RF env Y (.Assign [.Name x px] v pos) (.asg i e):=by
 cases hc:kJ v with
 |false=>exact wu O.hs O.C hi ((dc jN dh ke).e O he) (ci hc)
 |true=>
  have hE:=(dc jN dh ke).e O he
  cases ke with
  |zero=>exact aq he
  |succ k=>
   refine dW (P:=λv' q=>Ju (jC k) nm v'=some e->sV v'=true->SE prog w d base RF nm env Y q e->lC prog w d base RF env Y (.Assign [.Name x px] q pos) (.asg i e)) (λv he hc hE=>?_) v he hc hE
   cases v with
   |comp elt gens scope Hd=>
    have hb:∃b,aiF (.ListComp elt gens scope Hd) (some (.Name x px)) pos.line env=pure b:=⟨_,rfl⟩
    refine bU hb λb hb=>?_
    cases b with
    |false=>exact wu O.hs O.C hi hE hb
    |true=>
     revert hb
     exact lcK (dc jN dh k) O he (G:=λgens e=>aiF (.ListComp elt gens scope Hd) (some (.Name x px)) pos.line env=pure true->lC prog w d base RF env Y (.Assign [.Name x px] (.ListComp elt gens scope Hd) pos) (.asg i e))
      λy py iter ifs ii dK ie' h1 h2 h3 h4 h5 hb=>Kt O.hs O.C hi h1 h2 h3 h4 h5 hb
   |other _=>exact aq he
   |_=>exact fT hc
theorem VS{x:Str}{px pos:Pos}{v:ado}{is:IS}(h:aaW ke nm v x=some is):lC prog w d base RF env Y (.Assign [.Name x px] v pos) is:=by
 (refine ax h ?_;clear h;intro i hi h)
 cases he:CW v with
 |true=>
  rw[he]at h
  obtain rfl:=aac h
  exact Hg (G:=λv=>lC prog w d base RF env Y (.Assign [.Name x px] v pos) (.own i)) he λp=>Ku O.C O.hs hi
 |false=>
  rw[he]at h
  (refine bz (nV (show (ei ke nm v).map (λe=>IS.asg i e)=some is from h)) λe he cc=>?_;obtain rfl:=cc)
  exact Pw jN dh O hi he
theorem VU{es:List ado}{k:Nat}{tp pos:Pos}{v:ado}{is:IS}(h:aaX ke nm v es=some is):lC prog w d base RF env Y (.Assign [.Tuple es k tp] v pos) is:=by
 refine aal λG kk=>?_
 refine ax h λp h1 h=>ax h λx h2 h=>ax h λy h3 h=>ax h λi hi h=>ax h λj hj h=>ax h λe he hh=>?_
 clear h
 obtain rfl:=E2 h1
 have Z:=(dc jN dh ke).e O he
 refine kk (fW (G:=λa=>Pp v x y i j e a.pos p.2.pos=some is->lC prog w d base RF env Y (.Assign [.Tuple [a,p.2] k tp] v pos) is) h2 (λpx=>fW (G:=λb=>Pp v x y i j e px b.pos=some is->lC prog w d base RF env Y (.Assign [.Tuple [.Name x px,b] k tp] v pos) is) h3 (λpy=>?_)) hh)
 have hb:env.blockKind=.function:=by unfold Env.blockKind;erw[O.C.kind];rfl
 unfold Pp
 cases ht:Fd v with
 |some vs=>
  intro h
  refine dS h λhc h=>?_
  obtain rfl:=aac h
  rw[aap,aap]at hc
  clear h
  revert Z
  refine KA (G:=λv=>SE prog w d base RF nm env Y v e->lC prog w d base RF env Y (.Assign [.Tuple [.Name x px,.Name y py] k tp] v pos) (.ni i j e)) ht λq r Z=>?_
  exact yf O.hs O.C (bne_iff_ne.mp hc.1) hi hj Z rfl (Ap hb (rg O.C hi) (rg O.C hj) hc.2.1 hc.2.2)
 |none=>
  intro h
  (refine dS h ?_;clear h;intro hc h)
  obtain rfl:=aac h
  rw[aap,ahj]at hc
  exact CZ O.hs O.C hi hj Z (ci hc.2) (yg hc.2 ht)
theorem Px(h:Sw ke nm args pos f=some is):lC prog w d base RF env Y (.Expr (.Call f args [] pos) C0) is:=by
 refine dW (P:=λv f=>Sv ke nm args pos v=some is->lC prog w d base RF env Y (.Expr (.Call f args [] pos) C0) is) (λv h=>?_) f h
 cases v with
 |attr o name apos=>
  obtain ⟨hc,h⟩:=Hb h
  rw[aap]at hc
  (refine ax h ?_;clear h;intro a ha h)
  have Z:=(dc jN dh ke).e O ha
  cases h1:oW args with
  |some e=>
   rw[h1]at h
   obtain ⟨hn,h⟩:=Hb h
   rw[aap,ahj]at hn
   refine bC h λb hb cc=>?_
   obtain rfl:=cc
   erw[gE h1,eq_of_beq hn.1]
   exact VL O.hs O.C hc.1 hc.2 (tY hn.2) Z ((dc jN dh ke).e O hb)
  |none=>
   rw[h1]at h
   obtain ⟨hn,h⟩:=Hb h
   rw[aap]at hn
   obtain rfl:=aac h
   cases args with
   |nil=>erw[eq_of_beq hn.2];exact VM O.hs O.C hc.1 hc.2 Z
   |cons _ _=>cases hn.1
 |_=>exact aq h
theorem Py{rb:List ahs->eW}(I:∀H Ag,NZ prog w d base RF env (Y.with H) Ag (rb Ag))(I0:∀Ag,NZ prog w d base RF env Y Ag (rb Ag)){st:ahs}{is:IS}(h:Sy ke nm rb st=some is):lC prog w d base RF env Y st is:=by
 cases st with
 |Assign ts v p=>
  (refine ax h ?_;clear h;intro t h1 h)
  erw[gE h1]
  refine dW (P:=λu t=>aaY ke nm v u=some is->lC prog w d base RF env Y (.Assign [t] v p) is) (λu h=>?_) t h
  cases u with
  |name x px=>exact VS jN dh O h
  |tup es k tp=>exact VU jN dh O h
  |sub o i sp=>
   obtain ⟨hc,h⟩:=CU h
   (refine ax h ?_;clear h;intro a ha h)
   (refine ax h ?_;clear h;intro b hb h)
   refine bC h λc zy cc=>?_
   obtain rfl:=cc
   exact VI O.hs ((dc jN dh ke).e O ha) ((dc jN dh ke).e O hb) ((dc jN dh ke).e O zy) hc
  |_=>exact aq h
 |AugAssign t op v p=>
  refine ax h λx h1 h=>ax h λi hi h=>bC h λe he q=>?_
  obtain rfl:=q
  refine fW (G:=λt=>lC prog w d base RF env Y (.AugAssign t op v p) (.aug i op e)) h1 λpx=>?_
  exact VK O.hs O.C hi ((dc jN dh ke).e O he)
 |Expr e p=>
  refine dW (P:=λv e=>Sx ke nm v=some is->lC prog w d base RF env Y (.Expr e p) is) (λv h=>?_) e h
  cases v with
  |call f args xX pos=>
   cases xX with
   |nil=>exact Px jN dh O h
   |cons _ _=>exact aq h
  |_=>exact aq h
 |Return o p=>
  cases o with
  |none=>cases h;exact Kx
  |some e=>refine bC h λa ha cc=>?_
           obtain rfl:=cc;exact Kw O.hs ((dc jN dh ke).e O ha)
 |If t a b p=>
  refine bC h λt' ht cc=>?_
  obtain rfl:=cc
  exact aa1 O.hs ((dc jN dh ke).t O ht) (I0 _) (I0 _)
 |For t it body orelse p=>
  obtain ⟨hc,h⟩:=Hb h
  rw[aap]at hc
  refine ax h λx h1 h=>ax h λi hi h=>bC h λit' vw q=>?_
  obtain rfl:=q
  refine fW (G:=λt=>lC prog w d base RF env Y (.For t it body orelse p) (.lP i it' (rb body))) h1 λpx=>?_
  cases orelse with
  |nil=>exact VO O.hs O.C hi hc.2 ((dc jN dh ke).i O vw) λH=>I H _
  |cons _ _=>cases hc.1
 |While t body orelse p=>
  cases orelse with
  |nil=>refine bC h λt' ht cc=>?_
        obtain rfl:=cc;exact VQ O.hs ((dc jN dh ke).t O ht) (I0 _)
  |cons _ _=>exact aq h
 |_=>exact aq h
end
theorem KC(jN:vE prog w d base RF)(dh:∀f xs res,RF (.ref f) xs=some res->∃o fd,base.get? f=some o/\o.data=.func fd)(ke k:Nat)(nm:NI)(env:Env)(Y:Lay)(C:Cx base nm env Y)(hs:∃a,a∈Y.dH/\Y.n<=a):VR prog w d base RF k ke nm env Y:=by
 induction k generalizing Y with
 |zero=>
  refine ⟨λAg n A s g σ σ' fl hA R h=>?_⟩
  exact aq (show (none:Cp)=some (σ',fl) from h)
 |succ k ih=>
  refine ⟨λAg=>?_⟩
  cases Ag with
  |nil=>exact Pt
  |cons st r=>exact Ky (Pu λis h=>Py jN dh ⟨C,hs⟩ (λH Ag=>(ih (Y.with H) (C.hold H) hs).b Ag) (λAg=>(ih Y C hs).b Ag) h) ((ih Y C hs).b r)
end
section
variable{prog:aas}{w:abI}{A:adV}{Y:Lay}{g:Gh}{σ:bj}{s:aaD}{d:Nat}{base:adF}{nm:NI}{env:Env}{RF:cQ}
noncomputable def C1(f:AV->Bool):AV->Bool
 |.none=>true
 |.bool _=>true
 |.int _=>true
 |.str _=>true
 |.obj _=>true
 |.bor xs=>xs.all f
 |_=>false
noncomputable def cf:Nat->AV->Bool
 |0=>C1 λV=>false
 |n+1=>C1 (cf n)
section
variable{n n':Nat}{g':Gh}
theorem rh(hz:∀a o,g.z a=some o->g'.z a=some o)(ih:∀x v,f x=true->RelV n g x v->RelV n' g' x v)(x:AV)(v:aaq)(hf:C1 f x=true)(h:RelV n g x v):RelV n' g' x v:=by
 cases x with
 |none=>apply h.pU;exact .none
 |bool _=>apply h.lU;exact .bool _
 |int _=>apply h.bV;intro _;exact .int _ _
 |str _=>apply h.fq;intro _;exact .str _ _
 |obj _=>apply h.nG;exact .obj _
 |bor xs=>exact h.inv (G:=RelV n' g' (.bor xs)) λvs a o e h2 h3 h4 h5=>.bor (hz _ _ h2) h3 h4 (ak.tH ih hf h5)
 |_=>exact fT hf
theorem t9(hz:∀a o,g.z a=some o->g'.z a=some o)(k:Nat):∀(x:AV) (v:aaq),cf k x=true->RelV n g x v->RelV n' g' x v:=by
 induction k with
 |zero=>exact rh hz λV V h=>fT h
 |succ k ih=>exact rh hz ih
theorem ua{f:AV->Option AV}{p:AV->Bool}(hp:∀x y,f x=some y->p y=true){xs:List AV}:∀{ys:List AV},xs.mapM f=some ys->ys.all p=true:=by
 induction xs with
 |nil=>intro ys h;obtain rfl:=aac (show some []=some ys from h);rfl
 |cons x xs ih=>
  intro ys h
  rw[ad4]at h
  refine ax h λy hy h=>ax h λr hr h=>?_
  obtain rfl:=aac h
  erw[akS,hp x y hy,ih hr]
  rfl
theorem ri{f:AV->Option AV}{p:AV->Bool}(ih:∀x y,f x=some y->p y=true)(x y:AV)(h:EY σ f x=some y):xY p y=true:=by
 cases x with
 |none=>obtain rfl:=aac h;rfl
 |bool _=>obtain rfl:=aac h;rfl
 |int _=>obtain rfl:=aac h;rfl
 |str _=>obtain rfl:=aac h;rfl
 |lst xs=>exact bC h λys hy q=>by subst q;exact ua ih hy
 |tup xs=>exact bC h λys hy q=>by subst q;exact ua ih hy
 |own i=>exact ax h λxs hx h=>bC h λys hy q=>by subst q;exact ua ih hy
 |_=>exact aq h
theorem C2(k:Nat):∀(x y:AV),iD σ k x=some y->fresh k y=true:=by
 induction k with
 |zero=>exact ri λV V h=>aq h
 |succ k ih=>exact ri ih
theorem ww(R:Rel Y g σ s.heap)(ih:∀x y v,f x=some y->RelV Y.n g x v->RelV Y.n ⟨s.heap.get?,[]⟩ y v)(x y:AV)(v:aaq)(h:EY σ f x=some y)(r:RelV Y.n g x v):RelV Y.n ⟨s.heap.get?,[]⟩ y v:=by
 cases x with
 |none=>obtain rfl:=aac h;apply r.pU;exact .none
 |bool _=>obtain rfl:=aac h;apply r.lU;exact .bool _
 |int _=>obtain rfl:=aac h;apply r.bV;intro _;exact .int _ _
 |str _=>obtain rfl:=aac h;apply r.fq;intro _;exact .str _ _
 |lst xs=>
  refine bC h λys hy q=>?_
  subst q
  exact r.inv (G:=RelV Y.n ⟨s.heap.get?,[]⟩ (.lst ys)) λvs a o e h1 h2 h3 h4 h5=>.lst h1 (R.eQ _ _ h2) h3 h4 (f9 ih hy h5)
 |tup xs=>
  refine bC h λys hy q=>?_
  subst q
  exact r.inv (G:=RelV Y.n ⟨s.heap.get?,[]⟩ (.tup ys)) λvs a o e h1 h2 h3 h4 h5=>.tup h1 (R.eQ _ _ h2) h3 h4 (f9 ih hy h5)
 |own i=>
  (refine ax h ?_;clear h;intro xs hx h)
  refine bC h λys hy q=>?_
  subst q
  obtain ⟨a,vs,rfl,wv,⟨e,hg⟩,nR⟩:=pe R r hx
  exact .lst (t0 R wv) hg rfl rfl (f9 ih hy nR)
 |_=>exact aq h
theorem ub(R:Rel Y g σ s.heap)(k:Nat):∀(x y:AV) (v:aaq),iD σ k x=some y->RelV Y.n g x v->RelV Y.n ⟨s.heap.get?,[]⟩ y v:=by
 induction k with
 |zero=>exact ww R λV V V h=>aq h
 |succ k ih=>exact ww R ih
end
noncomputable def evG(np nl:Nat)(ev:bj->Cp)(args:List AV):Option AV:=
 if args.length=np/\np<=nl/\args.all (cf 4)=true then (ev ⟨args.map some++aar (nl-np) none,[]⟩).bind λp=>match p.2 with|some x=>iD p.1 4 x|none=>some .none
 else none
noncomputable abbrev Yx(np nl:Nat)(Sz:eW)(RF:cQ)(n:Nat)(args:List AV):Option AV:=evG np nl (cg RF n Sz) args
structure bP (base:adF) (f:aa9) (fd:aeV) (ps ns:List Str) (body:List ahs) (az:List (Str×AV)):Prop where
 obj:∃o,base.get? f=some o/\o.data=.func fd
 code:base.CodeRec fd.code fd.qualname
 body:fd.body=.stmts body
 clo:fd.closure=[]
 bind:∀vals:List aaq,vals.length=ps.length->bindArgs fd ⟨vals,[]⟩=pure (ps.zip vals)
 co:fd.scope.isCoroutine=false
 gen:fd.scope.isGenerator=false
 kind:fd.scope.kind=.function
 nd:ns.Nodup
 pre:ns.take ps.length=ps
 kinds:∀x∈ns,fd.scope.names.lookup x=some .local\/(fd.scope.names.lookup x=some .cell)
 az:∀x av,az.lookup x=some av->∃v,(∀n g,RelV n g av v)/\∃mg,base.Ns fd.globals mg/\(mg x=some v\/mg x=none/\∃mb,base.Ns fd.builtins mb/\mb x=some v)
noncomputable def Pz(ns:List Str):List (Str×Nat):=ns.zipIdx
noncomputable def bc(scope:aiC)(ns:List Str)(az:List (Str×AV)):NI:=⟨scope.names,Pz ns,ns.length,az⟩
theorem VV{x y:Str}(h:x≠y):(x==y)=false:=beq_eq_false_iff_ne.mpr h
theorem lD{β:Type}{x:Str}{v:β}{r:List (Str×β)}:((x,v)::r).lookup x=some v:=by (erw[ad5,beq_self_eq_true ..,rfl])
theorem nW{β:Type}{x y:Str}{v:β}{r:List (Str×β)}(h:x≠y):((y,v)::r).lookup x=r.lookup x:=by (erw[ad5,VV h,rfl])
theorem vH{x:Str}{i:Nat}{ns:List Str}:∀{k:Nat},(ns.zipIdx k).lookup x=some i->k<=i/\ns[i-k]?=some x:=by
 induction ns with
 |nil=>intro k h;exact aq h
 |cons n ns ih=>
  intro k h
  rw[List.zipIdx_cons]at h
  by_cases e:x=n
  .subst e;rw[lD]at h;obtain rfl:=aac h;erw[alk ..];exact ⟨adJ _,rfl⟩
  .rw[nW e]at h
   obtain ⟨h1,h2⟩:=ih h
   refine ⟨Nat.le_of_succ_le h1,?_⟩
   erw[(show i-k=(i-(k+1))+1 by exact %[a=b+1,c<d,qD 0 a d c,qD 0 b d (c+1)|d4 h1 rfl rfl])]
   exact h2
theorem yh{x:Str}(names:List (Str×afc)):∀(n:Nat) (acc:List (Str×aa9)),(∃c,acc.lookup x=some c)\/(x,adI)∈names->∃c,(aiG n names acc).lookup x=some c:=by
 induction names with
 |nil=>intro n acc h;exact h.elim id λh=>absurd h adH
 |cons a r ih=>
  intro n acc h
  unfold aiG
  split
  .refine ih _ _ ?_
   rcases h with ⟨c,h⟩ | h
   .by_cases e:x=a.1
    .subst e;exact .inl ⟨_,lD⟩
    .exact .inl ⟨c,(nW e).trans h⟩
   .rcases abk.mp h with h|h
    .subst h;exact .inl ⟨_,lD⟩
    .exact .inr h
  .rename_i hk
   refine ih _ _ (h.imp_right λh=>?_)
   rcases abk.mp h with h|h
   .subst h;exact absurd rfl hk
   .exact h
theorem Aq{p:Str}{ps:List Str}{vs:List aaq}(h1:p∉ps):(ps.zip vs).lookup p=none:=by
 cases q:(ps.zip vs).lookup p with
 |none=>rfl
 |some u=>exact absurd (amX (cn q)).1 h1
theorem Hh{kindOf:Str->Option afc}{x:Str}(hx:kindOf x=some .local)(ps:List Str):∀(vs:List aaq) (m:Str->Option aaq),ps.Nodup->
 bindL kindOf (ps.zip vs) m x=(((ps.zip vs).lookup x).or (m x)):=by
 induction ps with
 |nil=>intro vs m _;rfl
 |cons p ps ih=>
  intro vs m nd
  obtain ⟨h1,h2⟩:=ad1.mp nd
  cases vs with
  |nil=>rfl
  |cons v vs=>
   erw[ajF]
   skip
   erw[ih vs _ h2]
   by_cases e:x=p
   .subst e
    (erw[Aq h1,lD];rw[if_pos hx];rw[if_pos rfl]);rfl
   .erw[nW e]
    split
    .exact congrArg _ (if_neg e)
    .rfl
theorem Hi{kindOf:Str->Option afc}{x:Str}(hx:kindOf x=some .cell)(ps:List Str):∀(vs:List aaq) (m:Str->Option aaq),ps.Nodup->
 bindC kindOf (ps.zip vs) m x=(((ps.zip vs).lookup x).or (m x)):=by
 induction ps with
 |nil=>intro vs m _;rfl
 |cons p ps ih=>
  intro vs m nd
  obtain ⟨h1,h2⟩:=ad1.mp nd
  cases vs with
  |nil=>rfl
  |cons v vs=>
   erw[ajF]
   skip
   erw[ih vs _ h2]
   by_cases e:x=p
   .subst e
    (erw[Aq h1,lD];rw[if_neg (by rw[hx];decide)];rw[if_pos rfl]);rfl
   .erw[nW e]
    split
    .rfl
    .exact congrArg _ (if_neg e)
theorem C3{n:Nat}{g:Gh}{x:Str}{rest:List Str}{m:Nat}{ps:List Str}:∀{args:List AV} {vs:List aaq} {i:Nat},args.length=ps.length->ak n g args vs->
 (ps++rest).Nodup->(ps++rest)[i]?=some x->fL n g ((args.map some++aar m none)[i]?.getD none) ((ps.zip vs).lookup x):=by
 induction ps with
 |nil=>
  intro args vs i h hv _ hi
  obtain rfl:=ahP.mp h
  show fL n g ((aar m none)[i]?.getD none) none
  erw[List.getElem?_replicate]
  split <;> exact .none
 |cons p ps ih=>
  intro args vs i h hv nd hi
  cases args with
  |nil=>cases h
  |cons a args=>
   apply hv.gD
   intro v us h1 h2
   erw[ajF]
   cases i with
   |zero=>obtain rfl:=aac hi;erw[lD];exact .some h1
   |succ i=>
    rw[adS]at nd
    obtain ⟨n1,n2⟩:=ad1.mp nd
    have hi:(ps++rest)[i]?=some x:=hi
    erw[nW λ(e:x=p)=>n1 (e▸ade hi)]
    exact ih (args:=args) (i:=i) (amA h) h2 n2 hi
theorem Hj{α β:Type}{f:α->β}{l:List α}(nd:l.Nodup)(h:∀x∈l,∀y∈l,f x=f y->x=y):(l.map f).Nodup:=
 amo.mpr (ajJ (λha hb ne e=>ne (h _ ha _ hb e)) nd)
theorem Ar{l:List Loc}(nd:l.Nodup):(l.filterMap λl=>match l with|.cell c=>some c|_=>none).Nodup:=by
 refine List.pairwise_filterMap.mpr (ajJ (λ{a b} ha hb ne c hc c' zy e=>ne ?_) nd)
 cases a with
 |ns _ _=>exact aq hc
 |cell _=>cases b with
  |ns _ _=>exact aq zy
  |cell _=>erw[aac hc,aac zy,e,rfl]
noncomputable def eo(kn:Str->Option afc)(cl:Str->Option aa9)(L:aa9)(x:Str):Loc:=if kn x=some .local then .ns L x else .cell ((cl x).getD 0)
structure yi (kn:Str->Option afc) (cl:Str->Option aa9) (L:aa9) (ns:List Str):Prop where
 nd:ns.Nodup
 kinds:∀x∈ns,kn x=some .local\/kn x=some .cell
 cell:∀x,kn x=some .cell->∃c,cl x=some c
 above:∀x c,cl x=some c->L<c
 apart:∀x y c,cl x=some c->cl y=some c->x=y
section
variable{kn:Str->Option afc}{cl:Str->Option aa9}{L:aa9}{ns:List Str}(H:yi kn cl L ns)
include H
theorem uc{x:Str}(hx:x∈ns){G:Loc->Prop}(a:kn x=some .local->G (.ns L x))(b:∀c,kn x=some .cell->cl x=some c->L<c->G (.cell c)):G (eo kn cl L x):=by
 unfold eo
 rcases H.kinds x hx with q|q
 .rw[if_pos q];exact a q
 .refine bU (H.cell x q) λc hc=>?_
  erw[if_neg (by rw[q];decide),hc]
  exact b c q hc (H.above x c hc)
theorem Hk{x y:Str}(hx:x∈ns)(hy:y∈ns):eo kn cl L x=eo kn cl L y->x=y:=
 uc H (G:=λl=>l=eo kn cl L y->x=y) hx (λV=>uc H (G:=λl=>.ns L x=l->x=y) hy (λV e=>by injection e) λV V V V e=>nomatch e)
  λc V h1 V=>uc H (G:=λl=>.cell c=l->x=y) hy (λV e=>nomatch e) λc' V h2 V e=>H.apart x y c h1 (by injection e with e;erw[e];exact h2)
theorem yj{i:Nat}{l:Loc}(q:(ns.map (eo kn cl L))[i]?=some l){G:Loc->Prop}(a:∀x,ns[i]?=some x->kn x=some .local->G (.ns L x))(b:∀x c,ns[i]?=some x->kn x=some .cell->cl x=some c->L<c->G (.cell c)):G l:=by
 rw[adR]at q
 refine bC q λx hx e=>?_
 erw[<-e]
 exact uc H (ade hx) (a x hx) (b x · hx)
theorem KD:(ns.map (eo kn cl L)).Nodup:=Hj H.nd λV hx V hy=>Hk H hx hy
theorem fB{Y:Lay}(hY:Y.lay=ns.map (eo kn cl L)){c:aa9}(hc:c∈Y.cells):L<c:=by
 refine bz (aiw.mp hc) λl hl e=>?_
 rw[hY]at hl
 refine bU (age hl) λi hi=>?_
 revert e
 exact yj H hi (G:=λl=>(match l with|.cell c=>some c|_=>none)=some c->L<c) (λV V V e=>aq e) λV c' V V V bA e=>by erw[<-aac e];exact bA
end
theorem Hl{fr:List Env}{H:List (aa9×Obj)}{args:List AV}{vs:List aaq}{kn:Str->Option afc}{cl:Str->Option aa9}{L:aa9}{ps ns:List Str}{dx:aaD}{mL:Str->Option aaq}
(PK:yi kn cl L ns)(hL:s.heap.objs.size=L)(hb:KS base s.heap)(jD:s.heap.FunFrames base fr)(hT:tG base s.heap fr)
(hHn:(H.map (·.1)).Nodup)(hH:∀p∈H,s.heap.get? p.1=some p.2/\base.get? p.1=none/\p.1∉iG fr)(hHc:∀p∈H,∀(vs:Array aaq) q tt,p.2.data=.fields vs->vs[1]?≠some (.str q tt))
(bq:args.length=ps.length)(jj:ps.length<=ns.length)(ud:ak L ⟨f7 (iG fr) H s.heap,[]⟩ args vs)(vJ:ns.take ps.length=ps)(fQ:KS s.heap dx.heap)
(lN:dx.heap.Ns L mL)(hml:∀x,kn x=some .local->mL x=(ps.zip vs).lookup x)(cT:∀x c,kn x=some .cell->cl x=some c->dx.heap.IsCell c ((ps.zip vs).lookup x))
(hf2:env.frame=some L)(SA:dx.heap.FunFrames base (env::fr)):
 Rel ⟨base,L,[L],ns.map (eo kn cl L),H,env::fr⟩ ⟨f7 (iG fr) H s.heap,[]⟩ ⟨args.map some++aar (ns.length-ps.length) none,[]⟩ dx.heap:=by
 have hsplit:ns=ps++ns.drop ps.length:=by conv=>lhs;rw[<-alo ps.length ns,vJ]
 have zp:∀{a o},s.heap.get? a=some o->a<L:=λe=>hL▸abZ e
 have VW:∀a,L<=a->f7 (iG fr) H s.heap a=none:=λa ha=>by
  cases e:f7 (iG fr) H s.heap a with
  |none=>rfl
  |some o'=>exact absurd (zp (dN.mp e).2) (ajH.mpr ha)
 have VX:∀a∈H.map (·.1),a<L:=λa ha=>by
  (refine bz (ac2.mp ha) λp hp cc=>?_;obtain rfl:=cc)
  exact zp (hH p hp).1
 have KE:∀t∈aX,∃ps,s.heap.get? t.P=some (ji ps):=λt ht=>by
  rcases hT.Se t ht with x | ⟨t',_,_,c,oc,vs,tt,h1,_⟩ <;> exact ⟨_,‹_›⟩
 have abe:∀t∈aX,t.P<L:=λt ht=>(KE t ht).elim λV hp=>zp hp
 have VY:∀{L'},L'∈dT (env::fr)->L'=L\/L'∈dT fr:=λ{L'} VZ=>by
  unfold dT at VZ ⊢
  rw[ahD,hf2]at VZ
  exact abk.mp VZ
 have hz0:∀{a},a∈iG fr->f7 (iG fr) H s.heap a=none:=λ{a} hm=>by
  cases e:f7 (iG fr) H s.heap a with
  |none=>rfl
  |some o'=>exact absurd hm (dN.mp e).1.2
 have SD:∀{i x},ns[i]?=some x->fL L ⟨f7 (iG fr) H s.heap,[]⟩ ((args.map some++aar (ns.length-ps.length) none)[i]?.getD none) ((ps.zip vs).lookup x):=λhi=>C3 (rest:=ns.drop ps.length) bq ud (hsplit▸PK.nd) (hsplit▸hi)
 refine ⟨λa o e=>fQ a o (dN.mp e).2,λa o e=>dN.mpr ⟨⟨λhm=>?_,λhm=>?_⟩,hb a o e⟩,?_,KD PK,λa ha=>?_,λa ha=>?_,λi a x q=>?_,?_,rfl,λa ha=>?_,λi c q=>?_,λk a q=>aq q,λp hp=>fQ _ _ (hH p hp).1,SA,λL' VZ q=>?_,λL' VZ=>⟨?_,adH⟩,λt ht=>⟨hz0 (afJ _ (adB ht)),λq=>?_,λq=>?_⟩,λt ht=>?_⟩
 . (refine bz (ac2.mp hm) λp hp cc=>?_;obtain rfl:=cc)
   rw[(hH p hp).2.1]at e;exact aq e
 .rcases abQ.mp hm with hm|hm
  .have:=(afX jD hm).1
   rw[e]at this;exact aq this.symm
  .refine bz (ac2.mp hm) λt ht q=>?_
   have:=hT.off t ht
   rw[q,e]at this;exact aq this.symm
 .show ([L]++(_++(List.map (λ(p:aa9×Obj)=>p.1) H++[]))).Nodup
  (erw[abW ..,aja];rw[ad1];rw[adX])
  refine ⟨λhm=>?_,Ar (KD PK),hHn,λa ha b Ic q=>?_⟩
  .rcases abQ.mp hm with hm|hm
   .exact adP _ (fB PK rfl hm)
   .exact adP _ (VX _ hm)
  .exact ai4 (fB PK rfl ha) (q▸VX _ Ic)
 .rcases aw.mp ha with ha|ha|ha|ha
  .exact VW _ (afr (abF.mp ha).symm)
  .exact VW _ (afo (fB PK rfl ha))
  .cases e:f7 (iG fr) H s.heap a with
   |none=>exact e
   |some o'=>exact absurd ha (dN.mp e).1.1
  .exact absurd ha adH
 .rcases ha with ha|ha|ha
  .exact afr (abF.mp ha).symm
  .exact afo (fB PK rfl ha)
  .exact absurd ha adH
 .exact yj PK q (G:=λl=>l=.ns a x->a∈[L]) (λV V V e=>by injection e with e;exact e▸.head _) (λV V V V V V e=>nomatch e) rfl
 .show (args.map some++aar (ns.length-ps.length) none).length=(ns.map _).length
  erw[aao,aan ..,aan ..,afa,bq]
  exact ajD jj
 .erw[abF.mp ha]
  refine ⟨mL,lN,λi x q=>?_⟩
  exact yj PK q (G:=λl=>l=.ns L x->fL L _ _ (mL x)) (λy hy hk e=>by injection e with _ e;subst e;erw[hml _ hk];exact SD hy) (λV V V V V V e=>nomatch e) rfl
 .exact yj PK q (G:=λl=>l=.cell c->∃ov,dx.heap.IsCell c ov/\fL L _ _ ov) (λV V V e=>nomatch e) (λy c' hy hk hc V e=>by injection e with e;subst e;exact ⟨_,cT y _ hk hc,SD hy⟩) rfl
 .rcases VY VZ with q2|q2
  .exact adP _ (q2▸VX _ q)
  .refine bz (ac2.mp q) λp hp e=>?_
   exact (hH p hp).2.2 (ad3 _ (e▸q2))
 .rcases VY VZ with q2|q2
  .exact VW _ (afr q2.symm)
  .exact hz0 (ad3 _ q2)
 .have bA:=abe t ht
  rcases aw.mp q with q|q|q|q
  .rw[abF.mp q]at bA;exact adP _ bA
  .exact ai4 bA (fB PK rfl q)
  .refine bz (ac2.mp q) λp hp e=>?_
   exact (hH p hp).2.2 (afJ _ (e▸adB ht))
  .exact absurd q adH
 .rcases VY q with q2|q2
  .have bA:=abe t ht
   rw[q2]at bA;exact adP _ bA
  .refine N4 (afX jD q2) λ_ o' oE C4=>?_
   refine bU (KE t ht) λps hp=>?_
   rw[hp]at oE
   exact C4 ps (aac oE▸rfl)
 .rcases hT.Se t ht with x | ⟨t',zI,hp,c,oc,zP,tt,h1,h2,h3,h4,h5⟩
  .exact .inl (fQ _ _ x)
  .refine .inr ⟨t',zI,hp,c,oc,zP,tt,fQ _ _ h1,dN.mpr ⟨⟨λhm=>?_,h2⟩,h3⟩,h4,h5⟩
   refine bz (ac2.mp hm) λp hp' e=>?_
   have e2:=(hH p hp').1
   rw[e,h3]at e2
   exact hHc p hp' zP _ tt (aac e2▸h4) h5
theorem KG{f:aa9}{fd:aeV}{ps ns:List Str}{body:List ahs}{az:List (Str×AV)}(D:bP base f fd ps ns body az)(eL:base.NoLimit)
{fr:List Env}{H:List (aa9×Obj)}{args:List AV}{vs:List aaq}{R:Result->aaD->Prop}(hA:jM (d+1) fr A)(hb:KS base s.heap)(jD:s.heap.FunFrames base fr)(hT:tG base s.heap fr)
(hHn:(H.map (·.1)).Nodup)(hH:∀p∈H,s.heap.get? p.1=some p.2/\base.get? p.1=none/\p.1∉iG fr)(hHc:∀p∈H,∀(vs:Array aaq) q tt,p.2.data=.fields vs->vs[1]?≠some (.str q tt))
(bq:args.length=ps.length)(jj:ps.length<=ns.length)(ud:ak s.heap.objs.size ⟨f7 (iG fr) H s.heap,[]⟩ args vs)
(h:∀bk Y dx,(bk.code=fd.code/\bk.qual=fd.qualname++".<locals>."/\bk.globals=fd.globals)->Cx base (bc fd.scope ns az) bk Y->(∃a,a∈Y.dH/\Y.n<=a)->Y.n=s.heap.objs.size->Y.hold=H->Y.fr=bk::fr->Y.base=base->bk.frame=some s.heap.objs.size->jM d Y.fr (A.deeper bk)->
  Rel Y ⟨f7 (iG fr) H s.heap,[]⟩ ⟨args.map some++aar (ns.length-ps.length) none,[]⟩ dx.heap->KS s.heap dx.heap->a9 s dx->
  abJ (abD prog w) (A.deeper bk) (ajA body bk) (λf s'=>R (.ok (.ret (match f with|.ret v=>v|_=>.none))) s')
   (λe s'=>abJ (abD prog w) (A.deeper bk) (leaving bk e) (λV vK=>R (.error e) vK) (λe' vK=>R (.error e') vK) s') dx):
 ako (abD prog w) A (.call (.ref f) ⟨vs,[]⟩) R s:=by
 refine bz D.obj λo ho hd=>?_
 have O5:vs.length=ps.length:=ud.length.symm.trans bq
 have SF:ps.Nodup:=by erw[<-D.pre];exact D.nd.sublist (List.take_sublist _ _)
 have sU:∀x,fd.scope.names.lookup x=some .cell->∃c,(aiG (s.heap.objs.size+1) fd.scope.names []).lookup x=some c:=λx q=>yh _ _ [] (.inr (cn q))
 refine codeAny_call_cells (adZ (abq (ag5 _ _) hA.depth) ⋯) (hb _ _ ho) hd (eL.keeps hb) (D.code.keeps hb) D.body (D.bind vs O5) D.clo (λx hx=>?_) (λdx X=>?_) D.co D.gen D.kind
 .exact (D.kinds x.1 (by have hx:=(amX hx).1;rw[<-D.pre]at hx;exact alA hx)).imp_right λq=>⟨q,by (refine bU (sU _ q) λc hc=>?_);erw[hc];rfl⟩
 generalize hL:s.heap.objs.size=L at X ud h sU ⊢
 generalize yk:callEnvC fd L f=bk at X ⊢
 have KH:bk.scope=fd.scope:=by erw[<-yk];rfl
 have fU:bk.locals=L:=by erw[<-yk];rfl
 have V0:bk.cells=aiG (L+1) fd.scope.names []:=by erw[<-yk];rfl
 have gh:∀x,bk.kindOf x=fd.scope.names.lookup x:=λx=>by erw[<-yk];rfl
 have As:bk.globals=fd.globals:=by erw[<-yk];rfl
 have afn:bk.builtins=fd.builtins:=by erw[<-yk];rfl
 have hf2:bk.frame=some L:=by erw[<-yk];rfl
 refine zv X.toInCall.same λjr tk uf=>?_
 have fQ:=X.toInCall.keep
 have lN:=X.toInCall.ns
 rw[fU]at lN
 have PK:yi (fd.scope.names.lookup ·) (bk.cells.lookup ·) L ns:=⟨D.nd,D.kinds,λx q=>V0▸sU x q,λx c hc=>by have:=X.above x c (cn hc);rwa [fU]at this,λx y c h1 h2=>name_of_addr X.apart (cn h1) (cn h2)⟩
 have ug:=Hl (ps:=ps) (dx:=dx) PK hL hb jD hT hHn hH hHc bq jj ud D.pre fQ lN (λx hk=>by (erw[Hh ((gh x).trans hk) ps vs _ SF,amz,rfl])) (λx c hk hc=>by have:=X.cell x c hc;rwa [Hi ((gh x).trans hk) ps vs _ SF,amz]at this) hf2
  (anv (by (erw[KH,D.kind]);decide) (L:=L) hf2 lN (by
   cases e:base.get? L with
   |none=>rfl
   |some o'=>exact absurd (hL▸abZ (hb _ _ e)) (adP _)) (FunFrames.keep (F:=⟨[],[]⟩) (aW.of fQ) jD))
 refine h bk ⟨base,L,[L],ns.map (eo (fd.scope.names.lookup ·) (bk.cells.lookup ·) L),H,bk::fr⟩ dx ⟨by erw[<-yk];rfl,by erw[<-yk];rfl,As⟩ ⟨by erw[KH];exact D.kind,λx=>(gh x).symm,λx i q=>?_,(aan (as:=ns) _).symm,λx av q=>?_,λV V e=>e⟩ ⟨L,.head _,adJ _⟩ rfl rfl rfl rfl hf2
  ⟨Around.frames_deeper hA.frames,hA.hand,by have:=hA.depth;show A.depth+1+d<=900;exact %[a+1+b<=900,a+(b+1)<=900|aP this],by have:=hA.units;show A.units+3+100*d<=9000;exact %[a+3+100*b<=9000,a+100*(b+1)<=9000|aP this]⟩ ug fQ (by erw[uf];exact ⟨rfl,rfl,rfl⟩)
 .have hi:ns[i]?=some x:=(vH (show (ns.zipIdx).lookup x=some i from q)).2
  refine ⟨eo _ _ L x,(adR ..).trans (congrArg (Option.map _) hi),?_⟩
  erw[fU,gh x]
  exact uc PK (ade hi) (G:=λl=>l=.ns L x/\fd.scope.names.lookup x=some .local\/∃c,l=.cell c/\bk.cells.lookup x=some c/\(fd.scope.names.lookup x=some .cell\/fd.scope.names.lookup x=some .free)) (λhk=>.inl ⟨rfl,hk⟩) λc hk hc V=>.inr ⟨c,rfl,hc,.inl hk⟩
 . (refine bU (D.az x av q) λv dQ=>?_;have hv:=dQ.1;refine bU dQ.2 λmg di=>?_;have hg:=di.1;have hm:=di.2;clear di dQ)
   exact ⟨v,hv,mg,As▸hg,by erw[afn];exact hm⟩
theorem KI(D:bP base f fd ps ns body az)(eL:base.NoLimit)
(hA:jM (d+1) fr A)(hb:KS base s.heap)(jD:s.heap.FunFrames base fr)(hT:tG base s.heap fr)
(hHn:(H.map (·.1)).Nodup)(hH:∀p∈H,s.heap.get? p.1=some p.2/\base.get? p.1=none/\p.1∉iG fr)(hHc:∀p∈H,∀(vs:Array aaq) q tt,p.2.data=.fields vs->vs[1]?≠some (.str q tt))
(bq:args.length=ps.length)(jj:ps.length<=ns.length)(ud:ak s.heap.objs.size ⟨f7 (iG fr) H s.heap,[]⟩ args vs)
(h:∀bk Y dx,Cx base (bc fd.scope ns az) bk Y->(∃a,a∈Y.dH/\Y.n<=a)->Y.n=s.heap.objs.size->Y.hold=H->Y.fr=bk::fr->Y.base=base->bk.frame=some s.heap.objs.size->jM d Y.fr (A.deeper bk)->
  Rel Y ⟨f7 (iG fr) H s.heap,[]⟩ ⟨args.map some++aar (ns.length-ps.length) none,[]⟩ dx.heap->KS s.heap dx.heap->a9 s dx->
  abJ (abD prog w) (A.deeper bk) (ajA body bk) (λf s'=>R (.ok (.ret (match f with|.ret v=>v|_=>.none))) s')
   (λe s'=>abJ (abD prog w) (A.deeper bk) (leaving bk e) (λV vK=>R (.error e) vK) (λe' vK=>R (.error e') vK) s') dx):
 ako (abD prog w) A (.call (.ref f) ⟨vs,[]⟩) R s:=
 KG D eL hA hb jD hT hHn hH hHc bq jj ud λbk Y dx V=>h bk Y dx
theorem uh(D:bP base f fd ps ns body az)(eL:base.NoLimit)
(hB:∀env Y,Cx base (bc fd.scope ns az) env Y->(∃a,a∈Y.dH/\Y.n<=a)->SS prog w d base (λV V=>none) env Y (ajA body env) ev)
(h:evG ps.length ns.length (ev n) args=some res):fresh 4 res=true/\vD prog w (d+1) base (.ref f) args res:=by
 unfold evG at h
 split at h
 .rename_i hc
  (have bq:=hc.1;have jj:=hc.2.1;have tO:=hc.2.2;clear hc)
  obtain ⟨⟨σ',fl⟩,hev,h⟩:=aec.mp h
  refine ⟨?_,?_⟩
  .cases fl with
   |none=>obtain rfl:=aac h;rfl
   |some x=>exact C2 4 x res h
  intro fr A s vs E Q hA hb jD hT nR hQ
  have ud:ak s.heap.objs.size ⟨f7 (iG fr) [] s.heap,[]⟩ args vs:=ak.tH (λx v=>t9 (λa o e=>e) 4 x v) tO nR
  refine ajq (KI D eL (H:=[]) hA hb jD hT ⋯ (λp hp=>by simp at hp) (λp hp=>by simp at hp) bq jj ud λbk Y dx V1 hs Hm KJ wx C5 rB E9 ug fQ ui=>?_)
  refine hB bk Y V1 hs n (A.deeper bk) dx _ _ σ' fl E9 ug hev _ _ λf' s' g' kb l' R' m' hf=>?_
  have afp:∀a o,s.heap.get? a=some o->a∉dT fr->a∉dT Y.fr:=λa o e hn hm=>by
   rw[wx]at hm
   unfold dT at hm hn
   rw[ahD,rB]at hm
   rcases abk.mp hm with q|q
   .exact ac4 (abZ e) q
   .exact hn q
  have kp:aW ⟨dT fr,aX⟩ s.heap s'.heap:=λa o e=>by
   rcases kb a o (by erw[Hm];exact abZ e) (fQ a o e) with ⟨sl,e1,n1⟩ | ⟨ho,CY,t,ht,hP,c,hc,hg,hr⟩
   .exact .inl ⟨sl,e1,λhn=>n1 (afp a o e hn)⟩
   .refine .inr ⟨ho,λhn=>?_,t,ht,hP,c,λb ob eb=>aaO (abZ eb) (by erw[<-Hm];exact hc),hg,hr⟩
    refine N4 (afX jD hn) λ_ o' oE C4=>?_
    rw[e,ho]at oE;obtain rfl:=aac oE
    exact C4 _ rfl
  have sm:a9 s s':=ui.trans m'
  cases fl with
  |none=>
   cases hf
   obtain rfl:=aac h
   exact hQ .none s' kp sm .none
  |some x=>
   obtain ⟨v,rfl,hv⟩:=hf
   have hr:=ub R' 4 x res v h hv
   rw[Hm]at hr
   exact hQ v s' kp sm hr
 .exact aq h
theorem PA(D:bP base f fd ps ns body az)(eL:base.NoLimit)
(jN:vE prog w d base RF)(dh:∀f xs res,RF (.ref f) xs=some res->∃o fd,base.get? f=some o/\o.data=.func fd)
(h:Yx ps.length ns.length (cw k ke (bc fd.scope ns az) body) RF n args=some res):fresh 4 res=true/\vD prog w (d+1) base (.ref f) args res:=
 uh (ev:=λn σ=>cg RF n (cw k ke (bc fd.scope ns az) body) σ) D eL (λenv Y C hs=>(KC jN dh ke k _ env Y C hs).b body) h
end
section
set_option tactic.hygienic true
variable{prog:aas}{w:abI}{A:adV}{Y:Lay}{g:Gh}{σ:bj}{s:aaD}{d:Nat}{base:adF}{nm:NI}{env:Env}{RF:cQ}
theorem C6(k:KS h h')(x:h.SetOf (ahT prog w) a S m):h'.SetOf (ahT prog w) a S m:=
 (by obtain ⟨o,es,ep,t,ho,r⟩:=x;exact ⟨o,es,ep,t,k _ _ ho,r⟩)
theorem uj(k:KS h h')(x:h.MapOf (ahT prog w) a f):h'.MapOf (ahT prog w) a f:=
 (by obtain ⟨o,es,ep,ho,r⟩:=x;exact ⟨o,es,ep,k _ _ ho,r⟩)
theorem iL(C:Cx base nm env Y)(R:Rel Y g σ s.heap)(h:bZ nm x=some (.glob x (.obj (.ref a))))
(hQ:∀s' g',aW Y.lo s.heap s'.heap->g.le g'->Rel Y g' σ s'.heap->a9 s s'->Q (.ref a) s'):abJ (abD prog w) A (eval (.Name x pos) env) Q E s:=by
 refine (dp (RF:=λV V=>none) C R h rfl).then λv dx aR mt aY aQ aV bO=>?_
 apply RelV.nG bO
 exact hQ dx aR mt aY aQ aV
theorem Hn(lN:∃a,a∈Y.dH/\Y.n<=a)(C:Cx base nm env Y)(he:SE prog w d base RF nm env Y e ie)(hy:bZ nm y=some (.glob y (.obj (.ref a))))(hS:base.SetOf (ahT prog w) a S m):
 SS prog w d base RF env Y (ajA [.Return (some (.Compare e [.In] [.Name y p4] p5)) p6] env) (λV σ=>(aA RF ie σ).bind λx=>match x with|.int i=>some (σ,some (.bool (S i)))|_=>none):=by
 intro n A s g σ σ' fl hA R h E Q hQ
 (refine ax h ?_;clear h;intro x hx h)
 split at h
 .rename_i i
  cases h
  refine aft (af7 (wpAny_Compare1 ((he A s g σ _ hA R hx).then λv dx aR mt aY aQ aV bO=>iL C aQ hy λqm bD bb bt aM a6=>?_) rfl))
  apply RelV.bV bO;intro _
  refine wpAny_inSet_of (knd:=ahT prog w) (k:=i) (by simp[ahT,ahJ]) rfl (C6 (C.keep.trans aM.cC) hS) ?_
  exact hQ _ {qm with toks:=qm.toks+1} bD (R.kb lN (mt.trans bb)) (aY.trans bt) aM ((aV.trans a6).trans ⟨rfl,rfl,rfl⟩) ⟨_,rfl,.bool _⟩
 .cases h
theorem PB{e:ado}{ie:IE}{r y:Str}{a:aa9}{f:Int->Option aaq}{G:Int->Option AV}{j:Nat}{pr pd apos pos C0:Pos}(lN:∃a,a∈Y.dH/\Y.n<=a)(C:Cx base nm env Y)(he:SE prog w d base RF nm env Y e ie)(hn:cm [e])
(hr:bK nm r=some j)(hy:bZ nm y=some (.glob y (.obj (.ref a))))(hM:base.MapOf (ahT prog w) a f)(hG:∀i x,G i=some x->∀n g,RelV n g x ((f i).getD .none))(ha:(a==ajt)=false)(hline:(apos.endLine==pos.line)=true):
 SS prog w d base RF env Y (exec (.Assign [.Name r pr] (.Call (.Attribute (.Name y pd) (adQ "get") apos) [e] [] pos) C0) env)
  (λV σ=>(aA RF ie σ).bind λx=>match x with|.int i=>(G i).map λz=>(σ.put j z,none)|_=>none):=by
 intro n A s g σ σ' fl hA R h E Q hQ
 (refine ax h ?_;clear h;intro x hx h)
 split at h
 .rename_i i
  (refine bC h ?_;clear h;intro z hz h)
  cases h
  refine agw (af1 (dY rfl) (by erw[aO hn ..];rfl) hline (iL C R hy λdx aR mt aY aQ aV=>?_)) rfl
  have SG:=uj (C.keep.trans aQ.cC) hM
  refine ⟨"dict","dict.get",F.plainAttrs_dict,F.slot_dict_get,F.type_dict_get,SG.typeIs,λb q=>by cases q;obtain ⟨o,es,ep,ho,hc,_⟩:=SG;exact ⟨o,ho,hc.2.1⟩,?_⟩
  erw[aO hn ..]
  refine wpAny_dict_get1 (knd:=ahT prog w) ha ((he A dx aR σ _ hA aQ hx).then λv qm bD bb bt aM a6 cD=>?_)
  apply RelV.bV cD;intro _
  refine ⟨i,f,by simp[ahT,ahJ],uj (C.keep.trans aM.cC) hM,?_⟩
  exact ck C (s:={qm with toks:=qm.toks+1}) aM hr (hG i z hz _ _) λce cY bW cU=>hQ .next ce bD ((R.kb lN (mt.trans bb)).trans cY bW) (aY.trans bt) bW ((aV.trans a6).trans (⟨cU.1,cU.2,cU.3⟩ :a9 qm ce)) rfl
 .cases h
theorem PC{st:ahs}{r:List ahs}{e1 e2:Nat->bj->Cp}(h1:SS prog w d base RF env Y (exec st env) e1)(h2:SS prog w d base RF env Y (ajA r env) e2):
 SS prog w d base RF env Y (ajA (st::r) env) (λn σ=>em (e1 n σ) (e2 n)):=by
 intro n A s g σ σ' fl hA R h E Q hQ
 simp only[em]at h
 obtain ⟨⟨Ah,Ai⟩,h0,h⟩:=aec.mp h
 refine aft (h1 n A s g σ Ah Ai hA R h0 E _ λf dx aR mt aY aQ aV Kz=>?_)
 cases Ai with
 |none=>
  cases Kz
  exact h2 n A dx aR Ah σ' fl hA aQ h E Q λf qm bD bb bt aM a6 vG=>hQ f qm bD (mt.trans bb aM) (aY.trans bt) aM (aV.trans a6) vG
 |some x=>
  obtain ⟨v,rfl,hv⟩:=Kz
  cases h
  exact hQ _ dx aR mt aY aQ aV ⟨v,rfl,hv⟩
theorem dZ(C:Cx base nm env Y)(R:Rel Y g σ s.heap)(hc:bZ nm x=some ie)(h:aA RF ie σ=some r)
(hQ:∀v,RelV Y.n g r v->Q v s):abJ (abD prog w) A (eval (.Name x pos) env) Q E s:=by
 unfold bZ at hc
 split at hc
 .cases hc
 .rename_i hx
  simp only[agh,not_or,amH]at hx
  split at hc
  .rename_i i hi
   cases hc
   obtain ⟨l,hl,h1⟩:=C.slots x i hi
   have hv:σ.vars[i]?.getD none=some r:=h
   rcases h1 with ⟨rfl,hk⟩ | ⟨c,rfl,cT,hk⟩
   .obtain ⟨f,hf,hs⟩:=R.ns env.locals (R.cZ _ _ _ hl)
    have h2:=hs i x hl
    rw[hv]at h2
    cases JP:f x with
    |none=>rw[JP]at h2;cases h2
    |some v=>
     rw[JP]at h2
     cases h2 with
     |some h3=>exact aig (aio C.kind hk hf JP (hQ v h3)) hx.1
   .obtain ⟨ov,xZ,h2⟩:=R.cell i c hl
    rw[hv]at h2
    cases h2 with
    |some h3=>
     rcases hk with hk|hk
     .exact aig (ajN C.kind hk cT xZ (hQ _ h3)) hx.1
     .exact aig (aiB C.kind hk cT xZ (hQ _ h3) hx.2) hx.1
  .split at hc
   .rename_i hk
    refine bC hc λav hav cc=>?_
    obtain rfl:=cc
    cases h
    obtain ⟨v,hv,mg,hg,hm⟩:=C.az x _ hav
    refine akt C.kind ((C.names x).symm.trans hk) ?_ hx.1
    exact lW (λa o e=>R.cC a o (C.keep a o e)) hg hm (hQ v (hv _ _))
   .cases hc
theorem gI(C:Cx base nm env Y)(R:Rel Y g σ s.heap)(hi:bK nm x=some i)(hv:RelV Y.n g av v)
(hQ:∀s' a,Y.n<=a->a∈Y.bu g->aem a s.heap s'.heap->Rel Y g (σ.put i av) s'.heap->a9 s s'->Q () s'):abJ (abD prog w) A (akC env x v) Q E s:=by
 unfold bK at hi
 split at hi
 .rename_i hk
  simp only[agh,beq_iff_eq]at hk
  obtain ⟨l,hl,h1⟩:=C.slots x i hi
  have hp:(env.scope.kind==.class||(env.scope.kind==.module&&env.locals !=env.globals))=false:=by simp[C.kind]
  rcases h1 with ⟨rfl,fU⟩ | ⟨c,rfl,sU,GZ⟩
  .obtain ⟨f,hf,_⟩:=R.ns env.locals (R.cZ _ _ _ hl)
   refine ahq fU hf (λh' hn hs=>?_) hp
   exact hQ _ _ (R.low _ (.inl (R.cZ _ _ _ hl))) (aw.mpr (.inl (R.cZ _ _ _ hl))) hs (R.EW hl hv hf hn hs) ⟨rfl,rfl,rfl⟩
  .obtain ⟨ov,xZ,_⟩:=R.cell i c hl
   have G3:env.kindOf x=some .cell:=by
    rw[C.names x]at hk
    rcases hk with hk|hk
    .rcases GZ with q|q <;> rw[hk]at q <;> cases q
    .exact hk
   refine ain C.kind G3 sU xZ (λh' hn hs=>?_)
   exact hQ _ _ (R.low _ (.inr (.inl (bR hl)))) (aw.mpr (.inr (.inl (bR hl)))) hs (R.setCell hl hv hn hs) ⟨rfl,rfl,rfl⟩
 .cases hi
end
section
variable{prog:aas}{w:abI}{A:adV}{Y:Lay}{g:Gh}{σ:bj}{s:aaD}{d:Nat}{base:adF}{nm:NI}{env:Env}{RF:cQ}
structure Xc (F wr:List aa9) (s0 h:adF) (e:aa9) (fl:Option aaq):Prop where
 lQ:∀a o,a∉wr->s0.get? a=some o->∃sl,h.get? a=some {o with slots:=sl}/\(a∉F->sl=o.slots)
 new:s0.get? e=none
 wl:∀a∈wr,a<e
 there:∃oe vs,h.get? e=some oe/\oe.cls=.type "StopIteration"/\oe.data=.fields vs/\
  ((fl=none/\vs[1]?=some .none)\/∃x T oT ts,fl=some x/\vs[1]?=some (.ref T)/\T≠e/\s0.get? T=none/\h.get? T=some oT/\oT.data=.fields ts/\ts[3]?=some x)
section
variable{M:ali}{E:aaq->aaD->Prop}{F wr:List aa9}{s0:adF}{e L:aa9}
theorem Xc.typeIs(X:Xc F wr s0 s.heap e fl):s.TypeIs (.ref e) "StopIteration":=(by obtain ⟨oe,_,h1,h2,_⟩:=X.there;exact ⟨oe,h1,h2⟩)
theorem Ho(hf:env.frame=some L)(X:Xc F wr s0 s.heap e (some (rawInt L)))(h:Q () s):abJ M A (noteFrame (.ref e) env) Q E s:=by
 refine zu X.there λoe vs h1 h2 h3 h4=>?_
 rcases h4 with ⟨q,_⟩ | ⟨x,T,oT,ts,hx,hv,cW,SH,hT,KL,h5⟩
 .exact aq q.symm
 .obtain rfl:=aac hx
  exact wpAny_noteFrame_inFlight hf h1 h3 hv hT KL h5 h
theorem nX(X:Xc F wr s0 s.heap e (some x))(h:∀h',Xc F wr s0 h' e (some (fr.elim .none λf=>rawInt f))->(∀b o,s.heap.get? b=some o->(∀vs,o.data≠.fields vs)->h'.get? b=some o)->Q () {s with heap:=h'}):
 abJ M A (setFlight (.ref e) fr) Q E s:=by
 refine zu X.there λoe vs h1 h2 h3 h4=>?_
 rcases h4 with ⟨q,_⟩ | ⟨x,T,oT,ts,hx,hv,cW,SH,hT,KL,h5⟩
 .exact aq q.symm
 .skip
  refine aaH (aip h1 h3 hv ?_)
  erw[if_pos (show (ahI T !=ae1)=true from by simp)]
  have cL:3<ts.size:=(ahm.mp h5).1
  refine aiK hT KL cL (h _ ⟨λa o ha hs=>?_,X.new,X.wl,oe,vs,?_,h2,h3,.inr ⟨_,T,_,_,rfl,hv,cW,SH,agL _ hT (aji (ahN KL _)),ahN KL _,?_⟩⟩ λb o hb CY=>?_)
  .refine bz (X.lQ a o ha hs) λsl e1 e2=>?_
   have V2:T≠a:=λq=>by subst q;rw[SH]at hs;exact aq hs
   exact ⟨sl,by erw[agx _ _ V2];exact e1,e2⟩
  .erw[agx _ _ cW];exact h1
  .simp[cL]
  .have V2:T≠b:=λq=>by subst q;rw[hT]at hb;obtain rfl:=aac hb;exact CY _ KL
   erw[agx _ _ V2];exact hb
theorem uk{jr:adF}{tb o:Obj}{f:Obj->Obj}{b:aa9}(hbe:b≠e)(hb:jr.get? b=some o):((jr.push tb).update e f).get? b=some o:=
 (agx _ _ (Ne.symm hbe)).trans (abo _ hb)
noncomputable def SJ(F wr:List aa9)(s0 h:adF):Prop:=∀a o,a∉wr->s0.get? a=some o->∃sl,h.get? a=some {o with slots:=sl}/\(a∉F->sl=o.slots)
theorem PD{jr:adF}{tb oe:Obj}{vs ts:Array aaq}{x:aaq}(lQ:SJ F wr s0 jr)(hn:s0.get? e=none)(wl:∀a∈wr,a<e)(he:jr.get? e=some oe)(hc:oe.cls=.type "StopIteration")(hd:oe.data=.fields vs)(cL:1<vs.size)
(hf:tb.isFreed=false)(htd:tb.data=.fields ts)(h3:ts[3]?=some x):Xc F wr s0 ((jr.push tb).update e (aib (·.setIfInBounds 1 (.ref jr.objs.size)))) e (some x):=by
 have bA:=abZ he
 have SH:s0.get? jr.objs.size=none:=by
  cases q:s0.get? jr.objs.size with
  |none=>rfl
  |some o=>
   refine bz (lQ _ o (λhm=>ai4 (wl _ hm) bA) q) λsl e1 _=>?_
   exact absurd (abZ e1) (adP _)
 have hd3:=ahN hd (·.setIfInBounds 1 (.ref jr.objs.size))
 have cW:jr.objs.size≠e:=ai3 bA
 refine ⟨λa o ha hs=>?_,hn,wl,_,_,agL _ (abo _ he) (aji hd3),(amv _ _).trans hc,hd3,.inr ⟨x,jr.objs.size,tb,ts,rfl,by simp[cL],cW,SH,(agx _ _ cW.symm).trans (ac0 _ hf),htd,h3⟩⟩
 refine bz (lQ a o ha hs) λsl e1 e2=>?_
 exact ⟨sl,uk (λq=>by subst q;rw[hn]at hs;exact aq hs) e1,e2⟩
variable{outer:List Env}{fl:Option aaq}{Q:Unit->aaD->Prop}
theorem wy(jD:A.frames=some (env::outer))(hf:env.frame=some L)(hF:∀b∈dT (env::outer),b∈F\/s0.get? b=none)
(hX:s0.get? e=none)(wl:∀a∈wr,a<e)(h1:s.heap.get? e=some oe)(h2:oe.cls=.type "StopIteration")(h3:oe.data=.fields vs)(cL:1<vs.size)
(Ck:hh.FunFrames base (env::outer))(hp1:SJ F wr s0 hh)(he1:hh.get? e=some oe)(abf:∀b o,s.heap.get? b=some o->(∀vs,o.data≠.fields vs)->hh.get? b=some o)
(h:∀h',Xc F wr s0 h' e (some (rawInt L))->(∀b o,s.heap.get? b=some o->(∀vs,o.data≠.fields vs)->∃sl,h'.get? b=some {o with slots:=sl}/\(b∉dT (env::outer)->sl=o.slots))->Q () {s with heap:=h'}):
 abJ M A (do let a <-frameOf env;let pl <-entryPlaceOf L hn;let b <-EntryCells.newEntry head a .none (rawInt L) .none pl;setField (.ref e) 1 b) Q E {s with heap:=hh}:=by
 have afq:e∉dT (env::outer):=λhm=>by
  refine N4 (Ck.mem hm) λ_ o ho CY=>?_
  rw[he1]at ho;obtain rfl:=aac ho;exact CY vs h3
 refine aaH (wpAny_frameOf_fun jD Ck hf λjr uf=>?_)
 refine aaH (wpAny_entryPlaceOf λpl pf=>?_)
 refine aaH (ah5 ?_ (pf.sizeOk5 _ _ _ _ _))
 have SK:jr.get? e=some oe:=(uf.2.1 e afq).trans he1
 refine aiK (abo _ SK) h3 cL (h _ (PD (λa o ha hs=>?_) hX wl SK h2 h3 cL rfl rfl ?_) λb o hb CY=>?_)
 .refine bz (hp1 a o ha hs) λsl e1 e2=>?_
  by_cases hm:a∈dT (env::outer)
  .refine bU (uf.2.2 a _ e1) λwe e3=>?_
   refine ⟨we,e3,λhnF=>?_⟩
   rcases hF a hm with q|q
   .exact absurd q hnF
   .rw[hs]at q;exact aq q.symm
  .exact ⟨sl,(uf.2.1 a hm).trans e1,e2⟩
 .rcases pf with rfl | ⟨_,_,_,_,_,_,_,rfl⟩ <;> rfl
 .have Ie:=abf b o hb CY
  have hbe:b≠e:=λq=>by subst q;rw[h1]at hb;obtain rfl:=aac hb;exact CY vs h3
  by_cases hm:b∈dT (env::outer)
  .refine bU (uf.2.2 b _ Ie) λwe e3=>?_
   exact ⟨we,uk hbe e3,λq=>absurd hm q⟩
  .exact ⟨o.slots,uk hbe ((uf.2.1 b hm).trans Ie),λV=>rfl⟩
theorem V3(jD:A.frames=some (env::outer))(hl:s.heap.FunFrames base (env::outer))(hf:env.frame=some L)
(hF:∀b∈dT (env::outer),b∈F\/s0.get? b=none)(X:Xc F wr s0 s.heap e fl)(hx:fl≠some (rawInt L))
(h:∀h',Xc F wr s0 h' e (some (rawInt L))->(∀b o,s.heap.get? b=some o->(∀vs,o.data≠.fields vs)->∃sl,h'.get? b=some {o with slots:=sl}/\(b∉dT (env::outer)->sl=o.slots))->Q () {s with heap:=h'}):abJ M A (noteFrame (.ref e) env) Q E s:=by
 refine zu X.there λoe vs h1 h2 h3 h4=>?_
 unfold noteFrame
 rw[hf]
 rcases h4 with ⟨q,hv⟩ | ⟨x,T,oT,ts,hx',hv,cW,SH,hT,KL,h5⟩
 .refine aaH (aip h1 h3 hv ?_)
  erw[if_neg ⋯]
  exact wy (hh:=s.heap) jD hf hF X.new X.wl h1 h2 h3 (ahm.mp hv).1 hl X.lQ h1 (λb o hb V=>hb) h
 .subst hx'
  refine aaH (aip h1 h3 hv ?_)
  erw[if_pos (show (ahI T !=ae1)=true from by simp)]
  refine aaH (aip hT KL h5 ?_)
  erw[if_neg (show ¬((x==rawInt L)=true) from λq=>hx (by erw[eq_of_beq q,rfl]))]
  refine aaH (aiK hT KL (ahm.mp h5).1 ?_)
  have other:∀b,b≠T->(s.heap.update T (aib (·.setIfInBounds 3 ae1))).get? b=s.heap.get? b:=λb hb=>agx _ _ (Ne.symm hb)
  generalize s.heap.update T (aib (·.setIfInBounds 3 ae1))=hh at other ⊢
  have Au:∀b o,s.heap.get? b=some o->(∀vs,o.data≠.fields vs)->hh.get? b=some o:=λb o hb CY=>(other b λq=>by
   rw[q,hT]at hb;obtain rfl:=aac hb;exact CY ts KL).trans hb
  refine wy jD hf hF X.new X.wl h1 h2 h3 (ahm.mp hv).1 (hl.of_keeps λb o hb CY=>⟨o,Au b o hb CY,rfl⟩) (λa o ha hs=>?_) ((other e (Ne.symm cW)).trans h1) Au h
  refine bz (X.lQ a o ha hs) λsl e1 e2=>?_
  exact ⟨sl,(other a (λq=>by subst q;rw[SH]at hs;exact aq hs)).trans e1,e2⟩
end
end
end Mine.Internal
end
section
open PySem PyProof PyProof.Rows PySem.W
namespace Mine.Internal
section
variable{prog:aas}{w:abI}{A:adV}{Y:Lay}{g:Gh}{σ:bj}{s:aaD}{d:Nat}{base:adF}{nm:NI}{env:Env}{RF:cQ}
theorem Hp(hl:s.heap.IsList l items)
(hQ:Q (.ref s.heap.objs.size) {s with heap:=s.heap.push {cls:=.type "list_iterator",data:=.fields #[.ref l,.int 0 0]}}):
 abJ (abD prog w) A (call (.builtin "iter") [.ref l]) Q E s:=by
 refine ahX (by decide+kernel) (by decide+kernel) kdk_entry_iter (kdk_args_iter _) ?_
 unfold aim.«iter»
 refine aaH (m:=someArgs "iter" 1 2 _) (ahf (a:=[ahI l]) (by first|rfl|kernel_rfl!) ?_)
 show abJ _ _ (akD (.ref l) >>=_) _ _ _
 exact aaH (wpAny_pyIter_list hl (adG ⟨_,rfl,hQ⟩))
theorem Hq(hh:A.handled=none)(vw:s.heap.IsListIter it l i)(hl:s.heap.IsList l items)
(hQ:∀x,items[i]?=some x->∀h',h'.IsListIter it l (i+1)->aem it s.heap h'->Q x {s with heap:=h'})
(hE:items[i]?=none->∀h' e,Xc F [it] s.heap h' e none->Heap.ExtBut it s.heap h'->E (.ref e) {s with heap:=h'}):
 abJ (abD prog w) A (call (.builtin "next") [.ref it]) Q E s:=by
 obtain ⟨o,ho,hc,hd⟩:=id vw
 obtain ⟨ol,hol,_,nl,Ig⟩:=hl
 refine ahX (by decide+kernel) (by decide+kernel) kdk_entry_next (kdk_args_next _) ?_
 unfold aim.«next»
 refine aaH (m:=someArgs "next" 1 2 _) (ahf (a:=[ahI it]) (by first|rfl|kernel_rfl!) ?_)
 skip
 refine aaH (wpAny_specialOf (name:=adQ "__next__") vw.typeIs aj8.lookup ?_)
 refine wpAny_ite_split (λvL=>absurd vL ⋯) (λV=>?_)
 refine aaH (alQ (name:=adQ "__next__") vw.typeIs aj8
  (akB aj8 vw.typeIs entry_listiter_next ?_ (args_listiter_next _)))
 show abJ _ _ (field (.ref it) 0 >>=_) _ _ s
 refine aaH (aip ho hd (x:=.ref l) rfl ?_)
 show abJ _ _ (if (ahI l==ae1)=true then _ else _) _ _ s
 erw[if_neg (show ¬((ahI l==ae1)=true) from agI)]
 show abJ _ _ (field (.ref it) 1 >>=_) _ _ s
 refine aaH (aip ho hd (x:=.int i 0) rfl ?_)
 show abJ _ _ (seqItems? (.ref l) >>=_) _ _ s
 refine aaH (alc hol Ig ?_)
 cases hx:items[i]? with
 |some x=>
  simp only[abE,hx]
  refine aaH (aiK ho hd (by simp) (adG ⟨x,rfl,adG ⟨_,rfl,hQ x hx _ ?_ (agN ..)⟩⟩))
  exact ⟨_,agL _ ho (aji (ahN hd _)),(amv ..).trans hc,by
   erw[ahN hd ..];simp[rawInt]⟩
 |none=>
  simp only[abE,hx]
  refine aaH (wpAny_rule (aaH (aiK ho hd (by simp) ?_)))
  show abJ _ _ (newExc (.type "StopIteration") [] >>=_) _ _ _
  refine aaH ?_
  skip
  refine aaH (ah5 ?_ (by size_fits))
  refine aaH (m:=firstArgMember _ _) (ahf (a:=ae1) (by first|rfl|(simp only[firstArgMember];rfl)) ?_)
  refine ah5 ?_ (by size_fits)
  skip
  refine aaH (wpAny_handled ?_)
  erw[(show A.in1.in1.handled=none from hh)]
  refine aaH (adG (wpAny_throw ?_))
  have KN:Heap.ExtBut it s.heap ((((s.heap.update it (aib (·.setIfInBounds 0 .none))).push {cls:=.type "tuple",data:=.seq ([]:List aaq).toArray}).push {cls:=.type "StopIteration",data:=.fields #[.ref (s.heap.update it (aib (·.setIfInBounds 0 .none))).objs.size,.none,.none,.none,.bool false,.none]})):=
   (((agN ..).extBut.push _).push _)
  have cL:=Heap.size_after_update s.heap it (aib (·.setIfInBounds 0 .none))
  have:=abZ ho
  refine hE hx _ _ ⟨λa o' ha hs=>⟨o'.slots,KN a o' (by simpa using ha) hs,λV=>rfl⟩,?_,λa ha=>?_,_,_,ac0 _ rfl,rfl,rfl,.inl ⟨rfl,rfl⟩⟩ KN
  .refine aho ?_
   erw[agE ..,cL];exact aki _
  .have ha:a=it:=by simpa using ha
   subst ha
   erw[agE ..,cL];exact agU this
end
section
variable{prog:aas}{w:abI}{A:adV}{Y:Lay}{g:Gh}{σ:bj}{s:aaD}{d:Nat}{base:adF}{nm:NI}{env:Env}{RF:cQ}
noncomputable def gk:Int->Int->List Int->Option (Option (Int×List Int))
 |val,b,[]=>if adM b 64=0 then some (some (val,[])) else if (aae val:Int)+6<=2^27 then some none else none
 |val,b,b'::r=>if adM b 64=0 then some (some (val,b'::r)) else
  if (aae val:Int)+6<=2^27 then gk (agP (val*2^(6:Int).toNat) (adM b' 63)) b' r else none
noncomputable def pv:List Int->Option (Option (Int×List Int))
 |[]=>some none
 |b::r=>gk (adM b 63) b r
section
variable{E:aaq->aaD->Prop}{F wr:List aa9}{s0:adF}{e L:aa9}
theorem Hr(jD:A.frames=some (env::fr))(hf:env.frame=some L)(hl:s.heap.FunFrames base (env::fr))(hF:∀b∈dT (env::fr),b∈F\/s0.get? b=none)
(X:Xc F wr s0 s.heap e fl)(hE:∀h',Xc F wr s0 h' e (some .none)->(∀b o,s.heap.get? b=some o->(∀vs,o.data≠.fields vs)->∃sl,h'.get? b=some {o with slots:=sl})->Q () {s with heap:=h'}):abJ (abD prog w) A (leaving env (.ref e)) Q E s:=by
 skip
 by_cases hx:fl=some (rawInt L)
 .subst hx
  refine aaH (Ho hf X (nX (fr:=none) X λh' X' k=>hE h' X' λb o hb hn=>⟨o.slots,k b o hb hn⟩))
 .refine aaH (V3 jD hl hf hF X hx λh' X' k=>nX (s:={s with heap:=h'}) (fr:=none) X' λxS SM k'=>hE xS SM λb o hb hn=>?_)
  refine bz (k b o hb hn) λsl e1 _=>?_
  exact ⟨sl,k' b _ e1 hn⟩
theorem Hs(hf:env.frame=some L)(X:Xc F wr s0 s.heap e (some x))(hE:∀h',Xc F wr s0 h' e (some (rawInt L))->(∀b o,s.heap.get? b=some o->(∀vs,o.data≠.fields vs)->h'.get? b=some o)->E (.ref e) {s with heap:=h'}):
 cameBackBy (abD prog w) A env E (.ref e) s:=by
 refine zu X.there λoe vs h1 h2 h3 h4=>?_
 rcases h4 with ⟨q,_⟩ | ⟨x,T,oT,ts,hx,hv,cW,SH,hT,KL,h5⟩
 .exact aq q.symm
 .skip
  refine aaH (aip h1 h3 hv ?_)
  erw[if_neg (show ¬((ahI T==ae1)=true) from by simp)]
  show abJ _ _ (setFlight (.ref e) env.frame) _ _ _
  erw[hf]
  exact nX (fr:=some L) X λh' X' k=>hE h' X' k
end
noncomputable abbrev dq(zs:List Int)(vs:List aaq):Prop:=ak 0 ⟨λV=>none,[]⟩ (zs.map AV.int) vs
theorem dq.get{zs:List Int}{vs:List aaq}(h:dq zs vs){i:Nat}{v:aaq}(hv:vs[i]?=some v):∃z t,zs[i]?=some z/\v=.int z t:=by
 have hl:=h.length
 have bA:i<(zs.map AV.int).length:=by erw[hl];exact (abb.mp hv).1
 have abg:i<zs.length:=by simpa using bA
 have hx:(zs.map AV.int)[i]?=some (.int zs[i]):=by simp[abg]
 refine bz (ak.get h hx) λv' h1 h2=>?_
 rw[hv]at h1;obtain rfl:=aac h1
 apply RelV.bV h2;intro _
 exact ⟨_,_,by simp[abg],rfl⟩
theorem dq.none(h:dq zs vs)(hv:vs[i]?=none):zs.drop i=[]:=by
 have hl:=h.length
 simp at hl
 rw[List.drop_eq_nil_iff]
 have:=akI.mp hv
 exact %[a<=b,a=c,c<=b|bJ hl this]
structure jt (s0:aaD) (I l:aa9) (Y:Lay) (p:Nat) (σ:bj) (s:aaD) (g:Gh) (oI:Obj):Prop where
 rel:Rel (Y.with [(I,oI)]) g σ s.heap
 it:oI.cls=.type "list_iterator"/\oI.data=.fields #[.ref l,.int p 0]
 kx:∀a o,a≠I->s0.heap.get? a=some o->s.heap.get? a=some o
 same:a9 s0 s
theorem jt.tok(T:jt s0 I l Y p σ s g oI)(tk:Nat):jt s0 I l Y p σ {s with toks:=tk} g oI:=⟨T.rel,T.it,T.kx,T.same.trans ⟨rfl,rfl,rfl⟩⟩
theorem jt.put(T:jt s0 I l Y p σ s g oI)(hn:Y.n=s0.heap.objs.size)(ha:Y.n<=a)(hs:aem a s.heap s'.heap)(R:Rel (Y.with [(I,oI)]) g σ' s'.heap)(m:a9 s s'):
 jt s0 I l Y p σ' s' g oI:=⟨R,T.it,λb o hb e=>hs.extBut b o (ac4 (aaO (abZ e) (hn▸ha))) (T.kx b o hb e),T.same.trans m⟩
theorem jt.isList(T:jt s0 I l Y p σ s g oI)(hl:s0.heap.IsList l items)(N0:l≠I):s.heap.IsList l items:=by
 obtain ⟨o,ho,hc,n,hd⟩:=hl
 exact ⟨_,T.kx l o N0 ho,hc,n,hd⟩
theorem jt.V4(T:jt s0 I l Y p σ s g oI):s.heap.IsListIter I l p:=⟨oI,T.rel.held (I,oI) (.head _),T.it⟩
theorem Av{s0:aaD}{I l:aa9}{vs:List aaq}{p:Nat}{oI:Obj}{b it:Str}{j k:Nat}{pb pn pi pc ps:Pos}{zs:List Int}{E:aaq->aaD->Prop}{Q:ahE->aaD->Prop}
(C:Cx base nm env Y)(hA:jM d Y.fr A)(T:jt s0 I l Y p σ s g oI)(KO:dq zs vs)(hl:s0.heap.IsList l vs.toArray)(N0:l≠I)(hn:Y.n=s0.heap.objs.size)(hbs:bK nm b=some j)(abh:bZ nm "next"=some (.glob "next" (.obj (.builtin "next"))))(vw:bZ nm it=some (.var k))
(hk:σ.vars[k]?.getD none=some (.obj (.ref I)))
(hQ:∀z r,zs.drop p=z::r->∀s' g' lE,jt s0 I l Y (p+1) (σ.put j (.int z)) s' g' lE->Q .next s')
(hE:zs.drop p=[]->∀s' e,Xc (dT Y.fr) [I] s0.heap s'.heap e none->s'.heap.FunFrames Y.base Y.fr->a9 s0 s'->E (.ref e) s'):
 abJ (abD prog w) A (exec (.Assign [.Name b pb] (.Call (.Name "next" pn) [.Name it pi] [] pc) ps) env) Q E s:=by
 refine agw (af2 (aO (by intro e he x q;simp at he;subst he;exact λh=>by cases h) pc) ?_) (ci rfl)
 refine dZ (RF:=λV V=>none) (C.hold _) T.rel abh rfl λv bO=>?_
 apply RelV.nG bO
 refine aeN rfl (adL (adE (dZ (RF:=λV V=>none) (C.hold _) T.rel vw hk λv cD=>aea ?_)))
 apply RelV.nG cD
 refine Hq (F:=dT Y.fr) hA.hand T.V4 (T.isList hl N0) (λx hx h' afs lY=>?_) λhx h' e X KN=>?_
 . (refine bU (KO.get (by simpa using hx)) λz dQ=>?_;refine bU dQ λt di=>?_;have hz:=di.1;have iB:=di.2;clear di dQ;obtain rfl:=iB)
   have abi:zs.drop p=z::zs.drop (p+1):=by
    have bA:=(abb.mp hz).1
    erw[ael bA,(abb.mp hz).2,rfl]
   obtain ⟨lE,oE,zy,hd'⟩:=afs
   have bW:Rel (Y.with [(I,lE)]) g σ h':=T.rel.x9 (H':=[(I,lE)]) rfl (λb o hb e=>lY.extBut b o (by simpa using hb) e) (λq hq=>by simp at hq;subst hq;exact oE)
   have C7:jt s0 I l Y (p+1) σ {s with heap:=h'} g lE:=⟨bW,⟨zy,hd'⟩,λa o ha e=>lY.extBut a o ha (T.kx a o ha e),T.same.trans ⟨rfl,rfl,rfl⟩⟩
   exact gI (C.hold [(I,lE)]) (s:={s with heap:=h'}) bW hbs (.int z t) λd7 a ha V KP gf eV=>hQ z _ abi d7 g lE (C7.put hn ha KP gf eV)
 .have hno:=KO.none (by simpa using hx)
  have KQ:I∉dT Y.fr:=λhm=>T.rel.mX I hm (.head _)
  refine zu X.there λoe zP x1 x2 x3 x4=>?_
  have x5:zP[1]?=some .none:=by
   rcases x4 with ⟨_,q⟩ | ⟨x,_,_,_,q,_⟩
   .exact q
   .exact aq q
  refine hE hno {s with heap:=h'} e ⟨λa o ha hs=>?_,?_,X.wl,oe,zP,x1,x2,x3,.inl ⟨rfl,x5⟩⟩ (FunFrames.step (λb hb o e hd=>⟨o,KN b o (λq=>KQ (q▸hb)) e,hd⟩) T.rel.frames) (T.same.trans ⟨rfl,rfl,rfl⟩)
  .have Vu:a≠I:=by simpa using ha
   exact ⟨o.slots,KN a o Vu (T.kx a o Vu hs),λV=>rfl⟩
  .cases q:s0.heap.get? e with
   |none=>rfl
   |some o=>
    have cW:e≠I:=λq2=>by
     have h2:=T.rel.held (I,oI) (.head _)
     simp only at h2
     rw[<-q2,X.new]at h2;exact aq h2
    have e1:=T.kx e o cW q
    rw[X.new]at e1;exact aq e1
end
section
variable{prog:aas}{w:abI}{A:adV}{Y:Lay}{g:Gh}{σ:bj}{s:aaD}{d:Nat}{base:adF}{nm:NI}{env:Env}{RF:cQ}
noncomputable abbrev V5:cQ:=λV V=>none
theorem Aw(h:Q (i !=0) s):abJ (abD prog w) A (amd (.int i t)) Q E s:=truthy_int h
theorem rf0:vE prog w d base (λV V=>none):=λV V V h=>by exact aq h
inductive pg (nm:NI):List ahs->Prop
 |mk (b it val:Str) (p1 p2 p3 p4 p5 p6 p7 p8 p9 Ax C8 Ih Ht Ff Ii Ij Ik Il Im Io KR KU KV SN SQ SR SU SV SW:Pos) (k1 k2 k3 k4:Nat)
  (nb:bZ nm b=some (.var 1)) (nit:bZ nm it=some (.var 0)) (abj:bZ nm val=some (.var 2)) (sb:bK nm b=some 1) (Hu:bK nm val=some 2) (KW:bZ nm "next"=some (.glob "next" (.obj (.builtin "next")))):
  pg nm [.Assign [.Name b p1] (.Call (.Name "next" p2) [.Name it p3] [] p4) p5,
   .Assign [.Name val p6] (.BinOp (.Name b p7) .BitAnd (.Constant (.int 63) k1 p8) p9) Ax,
   .While (.BinOp (.Name b C8) .BitAnd (.Constant (.int 64) k2 Ih) Ht)
    [.AugAssign (.Name val Ff) .LShift (.Constant (.int 6) k3 Ii) Ij,
     .Assign [.Name b Ik] (.Call (.Name "next" Il) [.Name it Im] [] Io) KR,
     .AugAssign (.Name val KU) .BitOr (.BinOp (.Name b KV) .BitAnd (.Constant (.int 63) k4 SN) SQ) SR] [] SU,
   .Return (some (.Name val SV)) SW]
theorem bl(h:c=true):bn c x=some x:=by subst h;rfl
theorem wz(h:adM b 64=0):gk v b r=some (some (v,r)):=by
 cases r with
 |nil=>unfold gk;erw[if_pos h,rfl]
 |cons y ys=>unfold gk;erw[if_pos h,rfl]
theorem Ay(h:adM b 64≠0)(e:gk v b []=some r):(aae v:Int)+6<=2^27/\r=none:=by
 unfold gk at e
 rw[if_neg h]at e
 split at e
 .rename_i q;exact ⟨q,(aac e).symm⟩
 .exact aq e
theorem wA(h:adM b 64≠0)(e:gk v b (y::ys)=some r):(aae v:Int)+6<=2^27/\gk (agP (v*2^(6:Int).toNat) (adM y 63)) y ys=some r:=by
 unfold gk at e
 rw[if_neg h]at e
 split at e
 .rename_i q;exact ⟨q,e⟩
 .exact aq e
theorem C9{Q:ahE->aaD->Prop}
(PT:pg nm body)(C:Cx base nm env Y)(hs:∃a,a∈Y.dH/\Y.n<=a)(hA:jM d Y.fr A)(T:jt s0 I l Y p ⟨[some (.obj (.ref I)),none,none],[]⟩ s g oI)(KO:dq zs vs)(hl:s0.heap.IsList l vs.toArray)(N0:l≠I)(hn:Y.n=s0.heap.objs.size)
(hf:env.frame=some L)(jD:Y.fr=env::fr)
(Yy:pv (zs.drop p)=some r)
(hQ:∀v rest,r=some (v,rest)->∀t s' g' lE σ' q,jt s0 I l Y q σ' s' g' lE->rest=zs.drop q->Q (.ret (.int v t)) s')
(hE:r=none->∀s' e fl,Xc (dT Y.fr) [I] s0.heap s'.heap e fl->s'.heap.FunFrames Y.base Y.fr->a9 s0 s'->E (.ref e) s'):
 abJ (abD prog w) A (ajA body env) Q E s:=by
 cases PT with
 |mk b it val p1 p2 p3 p4 p5 p6 p7 p8 p9 Ax C8 Ih Ht Ff Ii Ij Ik Il Im Io KR KU KV SN SQ SR SU SV SW k1 k2 k3 k4 nb nit abj sb Hu KW=>
 have CH:∀H,Cx base nm env (Y.with H):=λH=>C.hold H
 have band:∀{s:aaD} {g:Gh} {oI:Obj} {p:Nat} {σ:bj} {z c:Int} {q q' q'':Pos} {k:Nat} {E Q:aaq->aaD->Prop},jt s0 I l Y p σ s g oI->aA V5 (.var 1) σ=some (.int z)->
  (∀t tk,jt s0 I l Y p σ {s with toks:=tk} g oI->Q (.int (adM z c) t) {s with toks:=tk})->abJ (abD prog w) A (eval (.BinOp (.Name b q) .BitAnd (.Constant (.int c) k q') q'') env) Q E s:=by
  intro s g oI p σ z c q q' q'' k E Q T hz hQ
  refine aiU (dZ (RF:=V5) (CH [(I,oI)]) T.rel nb hz λv hv=>?_)
  apply RelV.bV hv;intro _
  exact wpAny_Constant_int (and_int (hQ _ _ (T.tok _)))
 refine a8 λHv Hw ph V V6=>Av C hA T KO hl N0 hn sb KW nit rfl (λz rest hz dx aR SX afu=>ph _ ?_) λhz dx e X SA hsm=>V6 _ _ ?_
 rotate_left
 .rw[hz]at Yy
  skip
  obtain rfl:=aac Yy
  exact hE rfl dx e none X SA hsm
 rw[hz]at Yy
 skip
 have hz1:rest=zs.drop (p+1):=by
  have:=congrArg (List.drop 1) hz
  simpa using this.symm
 refine a8 λKX KY yl V V=>agw (band (z:=z) afu rfl λt tk SY=>gI (CH [(I,SX)]) (s:={dx with toks:=tk}) SY.rel Hu (.int _ t) λqm a ha V abl aM a6=>yl _ ?_) (ci rfl)
 have afv:=SY.put hn ha abl aM a6
 refine a8 λHx KZ rC V V7=>wpAny_While (codeAny_whileLoop (λm s'=>∀G:Prop,(∀q g' lE v' b',m=(zs.drop q).length->jt s0 I l Y q ⟨[some (.obj (.ref I)),some (.int b'),some (.int v')],[]⟩ s' g' lE->gk v' b' (zs.drop q)=some r->G)->G) ?_ _
  λG f=>f (p+1) aR SX (adM z 63) z rfl afv (hz1▸Yy))
 refine λm s' H=>ej λV8 V9 Db abm=>H _ λq g' lE v' b' hm T' N1=>?_
 refine am9 (band (z:=b') T' rfl λt tk C7=>Aw (Db _ _ ?_)) rfl
 by_cases oG:adM b' 64=0
 .have e0:(adM b' 64 !=0)=false:=by simp[oG]
  erw[e0]
  skip
  refine afb (rC _ ?_)
  have hr:r=some (v',zs.drop q):=by
   rw[wz oG]at N1
   exact (aac N1).symm
  refine aft (af7 (dZ (RF:=V5) (CH [(I,lE)]) C7.rel abj rfl λu O2=>?_))
  apply RelV.bV O2;intro _
  exact hQ v' _ hr _ {s' with toks:=tk} g' lE _ q C7 rfl
 .have e0:(adM b' 64 !=0)=true:=by simp[oG]
  erw[e0]
  skip
  have hgd:(aae v':Int)+6<=2^27:=by
   cases hd:zs.drop q with
   |nil=>rw[hd]at N1;exact (Ay oG N1).1
   |cons y ys=>rw[hd]at N1;exact (wA oG N1).1
  refine ej λWa Wc Dc afw=>a8 λafx afy Wd V V=>ajG (t7 (CH [(I,lE)]) (s:={s' with toks:=tk}) C7.rel Hu rfl λaa4 Aj=>?_)
  apply RelV.bV Aj;intro _
  refine wpAny_Constant_int (ilshift_int ⋯ hgd ?_)
  refine gI (CH [(I,lE)]) (s:={s' with toks:=tk+1+1}) (C7.tok (tk+1+1)).rel Hu (.int _ _) λd7 a ha V KP gf eV=>Wd _ ?_
  have afz:=(C7.tok (tk+1+1)).put hn ha KP gf eV
  refine a8 λafA afB Wf V afC=>Av C hA afz KO hl N0 hn sb KW nit rfl (λy ys hy iq o5 K0 abn=>Wf _ ?_) λhy iq e X SA hsm=>afC _ _ (afw _ _ ?_)
  .have hy1:ys=zs.drop (q+1):=by
    have:=congrArg (List.drop 1) hy
    simpa using this.symm
   refine a8 λajr ajs afD V V=>ajG (t7 (CH [(I,K0)]) abn.rel Hu rfl λaa4 Aj=>?_)
   apply RelV.bV Aj;intro _
   refine band (z:=y) abn rfl λt tk Ta=>ior_int ?_
   refine gI (CH [(I,K0)]) (s:={iq with toks:=tk+1}) (Ta.tok (tk+1)).rel Hu (.int _ _) λnY a ha V Ae db pj=>afD _ ?_
   have afE:=(Ta.tok (tk+1)).put hn ha Ae db pj
   refine afb (Dc .next _ ⟨(zs.drop (q+1)).length,?_,λG f=>f (q+1) o5 K0 _ y rfl afE ?_⟩)
   .erw[hm,hy,<-hy1];simp
   .rw[hy]at N1
    erw[<-hy1];exact (wA oG N1).2
  .rw[hy]at N1
   have hrn:r=none:=(Ay oG N1).2
   have afF:dT (env::fr)=dT Y.fr:=by erw[jD,rfl]
   refine V3 (F:=dT Y.fr) (s0:=s0.heap) (wr:=[I]) (hA.frames.trans (by erw[jD,rfl])) (jD▸SA) hf (λb hb=>.inl (afF▸hb)) X (by simp) λh' X' kk=>?_
   refine Hs (s:={iq with heap:=h'}) hf X' λxS SM kk'=>V7 _ _ <| hE hrn {iq with heap:=xS} e _ SM ?_ (hsm.trans ⟨rfl,rfl,rfl⟩)
   refine FunFrames.step (λb hb o ho hd=>?_) SA
   refine bz (kk b o ho hd) λsl e1 _=>?_
   exact ⟨_,kk' b _ e1 hd,hd⟩
end
section
variable{prog:aas}{w:abI}{A:adV}{Y:Lay}{g:Gh}{σ:bj}{s:aaD}{d:Nat}{base:adF}{nm:NI}{env:Env}{RF:cQ}
noncomputable def Hy(o:Obj)(l:aa9)(p:Nat):Prop:=o.cls=.type "list_iterator"/\o.data=.fields #[.ref l,.int p 0]
theorem um(hf:env.frame=some L):dT (env::fr)=L::dT fr:=by
 unfold dT;erw[ahD,hf,rfl]
theorem Dd
(D:bP base fp Yz [it] [it,b,val] body az)(PT:pg (bc Yz.scope [it,b,val] az) body)(eL:base.NoLimit)(hA:jM (d+1) fr A)(hb:KS base s.heap)(jD:s.heap.FunFrames base fr)(hT:tG base s.heap fr)
(hI:s.heap.get? I=some oI)(vw:Hy oI l p)(hl:s.heap.IsList l vs.toArray)(N0:l≠I)(hbI:base.get? I=none)(hIf:I∉iG fr)(KO:dq zs vs)(Yy:pv (zs.drop p)=some r)
(hQ:∀v rest,r=some (v,rest)->∀t s' q lE,rest=zs.drop q->a9 s s'->s'.heap.get? I=some lE->Hy lE l q->
  (∀a o,a≠I->s.heap.get? a=some o->∃sl,s'.heap.get? a=some {o with slots:=sl}/\(a∉dT fr->sl=o.slots))->Q (.int v t) s')
(hE:r=none->∀s' e,a9 s s'->Xc (dT fr) [I] s.heap s'.heap e (some .none)->E (.ref e) s'):
 abJ (abD prog w) A (call (.ref fp) [.ref I] []) Q E s:=by
 refine ajq (KI (d:=d) D eL (H:=[(I,oI)]) (args:=[.obj (.ref I)]) hA hb jD hT (by simp) (λq hq=>by simp at hq;subst hq;exact ⟨hI,hbI,hIf⟩) (λq hq zP nm' tt hd hv=>by
  simp at hq;subst hq
  rw[vw.2]at hd;cases hd;simp at hv) rfl (by simp) (.cons (.obj _) .nil) λbk Y dx C hs Hm KJ wx C5 rB E9 ug fQ ui=>?_)
 have hYw:Y.with [(I,oI)]=Y:=by cases Y;simp only at KJ;subst KJ;rfl
 have hF:dT Y.fr=s.heap.objs.size::dT fr:=by erw[wx];exact um rB
 have conv:∀{a o sl},s.heap.get? a=some o->(a∉dT Y.fr->sl=o.slots)->(a∉dT fr->sl=o.slots):=λ{a o sl} e h hn=>h (by
  (erw[hF];rw[abk];rw[not_or]);exact ⟨ac4 (abZ e),hn⟩)
 have afH:jt s I l Y p ⟨[some (.obj (.ref I)),none,none],[]⟩ dx ⟨f7 (iG fr) [(I,oI)] s.heap,[]⟩ oI:=
  ⟨by erw[hYw];exact ug,vw,λa o V e=>fQ a o e,ui⟩
 refine C9 PT C hs E9 afH KO hl N0 Hm rB wx Yy (λv rest hr t s' g' lE σ' q T iJ=>?_) λhr s' e fl X SA hsm=>?_
 .refine hQ v rest hr t s' q lE iJ T.same (T.rel.held (I,lE) (by simp)) T.it λa o ha e=>?_
  exact ⟨o.slots,T.kx a o ha e,λV=>rfl⟩
 .refine Hr (F:=dT Y.fr) (s0:=s.heap) (wr:=[I]) (base:=base) (E9.frames.trans (by erw[wx,rfl])) rB (wx▸C5▸SA) (λb hb=>.inl (by erw[wx];exact hb)) X λh' X' V=>?_
  refine hE hr {s' with heap:=h'} e (hsm.trans ⟨rfl,rfl,rfl⟩) ⟨λa o ha e=>?_,X'.new,X'.wl,X'.there⟩
  refine bz (X'.lQ a o ha e) λsl e1 n1=>?_
  exact ⟨sl,e1,conv e n1⟩
end
section
variable{prog:aas}{w:abI}{A:adV}{Y:Lay}{g:Gh}{σ:bj}{s:aaD}{d:Nat}{base:adF}{nm:NI}{env:Env}{RF:cQ}
noncomputable def pk:Nat->List Int->Option (List Int)
 |0,_=>none
 |m+1,l=>match pv l with
  |none=>none
  |some none=>some []
  |some (some (v,r))=>(pk m r).map (v::·)
theorem Az:∀{v b:Int} {l:List Int} {u:Int} {r:List Int},gk v b l=some (some (u,r))->r.length<=l.length
 |v,b,[],u,r,h=>by
  unfold gk at h
  split at h
  .cases h;exact adJ _
  .split at h <;> cases h
 |v,b,y::l,u,r,h=>by
  unfold gk at h
  split at h
  .cases h;exact adJ _
  .split at h
   .exact abq (Az h) (aki _)
   .cases h
theorem Wg(h:pv l=some (some (u,r))):r.length<l.length:=by
 cases l with
 |nil=>cases h
 |cons y l=>exact Nat.lt_succ_of_le (Az h)
theorem Rel.po{h h':adF}{H H':List (aa9×Obj)}{X:List aa9}(R:Rel (Y.with H) g σ h)(hm:List.Sublist (H'.map (·.1)) (H.map (·.1)))(hX:∀a∈X,a∈H.map (·.1))
(hk:∀b o,b∉X->h.get? b=some o->∃sl,h'.get? b=some {o with slots:=sl}/\(b∉dT Y.fr->sl=o.slots))(hh:∀p∈H',h'.get? p.1=some p.2):Rel (Y.with H') g σ h':=by
 have nd:=R.zJ
 have De:∀b o,b∉X->b∉dT Y.fr->h.get? b=some o->h'.get? b=some o:=λb o hb hf e=>by
  obtain ⟨sl,e1,n1⟩:=hk b o hb e
  rw[n1 hf]at e1;exact e1
 have K1:∀b o,b∉X->h.get? b=some o->∃o',h'.get? b=some o'/\o'.data=o.data:=λb o hb e=>by
  obtain ⟨sl,e1,_⟩:=hk b o hb e
  exact ⟨_,e1,rfl⟩
 have afI:∀a∈X,g.z a=none:=λa ha=>R.off a (aw.mpr (.inr (.inr (.inl (hX a ha)))))
 have sub:∀a,a∈(Y.with H').bu g->a∈(Y.with H).bu g:=λa ha=>by
  rw[aw]at ha ⊢
  rcases ha with ha|ha|ha|ha
  .exact .inl ha
  .exact .inr (.inl ha)
  .exact .inr (.inr (.inl (hm.subset ha)))
  .exact .inr (.inr (.inr ha))
 refine ⟨λa o q=>De a o (λhx=>by rw[afI a hx]at q;cases q) (R.OG q) (R.eQ a o q),R.base,?_,R.de,λa ha=>R.off a (sub a ha),R.low,R.cZ,R.len,R.eS,λa ha=>?_,λi c hc=>?_,λk a ha=>?_,hh,?_,λL hL q=>R.mX L hL (hm.subset q),R.mY,λt ht=>⟨(R.d6 t ht).1,λq=>(R.d6 t ht).2.1 (sub _ q),(R.d6 t ht).2.2⟩,λt ht=>(R.tabs t ht).of (λV V q=>q) λo q=>De _ o (λhx=>(R.d6 t ht).2.1 (aw.mpr (.inr (.inr (.inl (hX _ hx)))))) (R.d6 t ht).2.2 q⟩
 .refine akz ?_ R.nodup
  skip
  exact (ag6 _).append ((ag6 _).append (hm.append (ag6 _)))
 .obtain ⟨f,⟨o,es,ep,h1,h2,h3⟩,h4⟩:=R.ns a ha
  obtain ⟨o',e1,e2⟩:=K1 a o (λhx=>(nd.2.1 a ha).2.1 _ (hX a hx) rfl) h1
  exact ⟨f,⟨o',es,ep,e1,e2.trans h2,h3⟩,h4⟩
 .obtain ⟨ov,⟨o,h1,h2⟩,h3⟩:=R.cell i c hc
  obtain ⟨o',e1,e2⟩:=K1 c o (λhx=>(nd.2.2.1 c (bR hc)).1 _ (hX c hx) rfl) h1
  exact ⟨ov,⟨o',e1,e2.trans h2⟩,h3⟩
 .obtain ⟨vs,⟨n,h1⟩,h3⟩:=R.own k a ha
  exact ⟨vs,⟨n,De a _ (λhx=>nd.2.2.2 _ (hX a hx) a (ade ha) rfl) (R.oU ha) h1⟩,h3⟩
 .refine FunFrames.step (λb hb o e hd=>?_) R.frames
  obtain ⟨o',e1,e2⟩:=K1 b o (λhx=>R.mX b hb (hX b hx)) e
  exact ⟨o',e1,λvs=>e2▸hd vs⟩
inductive NumText (nm:NI) (fp:aa9) (comp ku:ado):List ahs->Prop
 |mk (Df numbers turn Wh:Str) (p1 p2 p3 p4 p5 p6 p7 p8 p9 Ax C8 Ih Ht Ff Ii Ij Ik Il Im Io KR KU KV:Pos) (hline:(Ax.endLine==Ff.line)=true)
  (Tb:bZ nm "iter"=some (.glob "iter" (.obj (.builtin "iter")))) (Tc:bK nm Df=some 1) (abp:bK nm numbers=some 2) (Td:bK nm turn=some 3) (K2:bZ nm numbers=some (.var 2)) (Fg:bZ nm Df=some (.var 1))
  (npv:bZ nm Wh=some (.glob Wh (.obj (.ref fp)))) (Fh:bZ nm "StopIteration"=some (.glob "StopIteration" (.obj (.type "StopIteration")))):
  NumText nm fp comp ku [.Assign [.Name Df p1] (.Call (.Name "iter" p2) [comp] [] p3) p4,.Assign [.Name numbers p5] (.List [] p6) p7,
   .For (.Name turn p8) ku [.Try [.Expr (.Call (.Attribute (.Name numbers p9) (adQ "append") Ax) [.Call (.Name Wh C8) [.Name Df Ih] [] Ht] [] Ff) Ii]
    [.ExceptHandler (some (.Name "StopIteration" Ij)) none [.Return (some (.Name numbers Ik)) Il] Im] [] [] Io] [] KR,
   .Return (some (.List [] KU)) KV]
end
section
set_option tactic.hygienic true
variable{prog:aas}{w:abI}{A:adV}{Y:Lay}{g:Gh}{σ:bj}{s:aaD}{d:Nat}{base:adF}{nm:NI}{env:Env}{RF:cQ}
noncomputable abbrev me:cQ:=λV V=>none
theorem Fi:∀(f:aa9) (xs:List AV) (res:AV),me (.ref f) xs=some res->∃o fd,base.get? f=some o/\o.data=.func fd:=λV V V h=>by exact aq h
theorem pp(C:Cx base nm env Y)(hs:∃a,a∈Y.dH/\Y.n<=a)(ke:Nat):Sr prog w d base me ke nm env Y:=aaV rf0 Fi ke nm env Y C hs
theorem pq:∀{vs:List aaq},ak n g (zs.map AV.int) vs->dq zs vs:=by
 induction zs with
 |nil=>intro vs h;apply h.oR;exact .nil
 |cons z zs ih=>intro vs h;apply h.gD;intro v us a b;apply a.bV;intro _;exact .cons (.int _ _) (ih b)
theorem wB(zs:List Int):(zs.map AV.int).mapM (iD σ (k+1))=some (zs.map AV.int):=by
 induction zs with
 |nil=>rfl
 |cons z zs ih=>erw[aa6,ad4,ih];rfl
theorem mh(vars:List (Option AV))(zs:List Int)(k:Nat):iD ⟨vars,[zs.map AV.int]⟩ (k+2) (.own 0)=some (.lst (zs.map AV.int)):=by
 show (some (zs.map AV.int)).bind (λxs=>(xs.mapM (iD _ (k+1))).map AV.lst)=_
 erw[aa5 ..,wB ..]
 rfl
theorem PE:cm [amx x p]:=λe he y q=>by
 rw[abF]at he;subst he;exact λh=>by cases h
theorem Fj:cm [Expr.Call f l k p]:=λe he y q=>by
 rw[abF]at he;subst he;exact λh=>by cases h
theorem PF
(C:Cx base nm env Y)(hs:∃a,a∈Y.dH/\Y.n<=a)(hA:jM (d+1) Y.fr A)(C5:Y.base=base)(wx:Y.fr=env::fr)(rB:env.frame=some L)(R:Rel (Y.with [(J,oJ),(I,oI)]) g σ s.heap)(hJI:J≠I)(hIn:Y.n<=I)
(hline:(Ax.endLine==Ff.line)=true)(K2:bZ nm numbers=some (.var 2))(Fg:bZ nm Df=some (.var 1))(npv:bZ nm Wh=some (.glob Wh (.obj (.ref fp))))(Fh:bZ nm "StopIteration"=some (.glob "StopIteration" (.obj (.type "StopIteration"))))
(hv1:aA me (.var 1) σ=some (.obj (.ref I)))(Sd:aA me (.var 2) σ=some (.own 0))(abr:σ.own[0]?=some xs)(cL:xs.length<aa7)
(Dp:bP base fp Yz [it] [it,b,val] K3 Dg)(PT:pg (bc Yz.scope [it,b,val] Dg) K3)(eL:base.NoLimit)
(hIt:Hy oI D q)(zD:g.z D=some oD)(hD3:oD.cls=.type "list")(hD4:oD.data=.seq vs.toArray eD)(hDI:D≠I)(hbI:base.get? I=none)(Wi:I∉iG Y.fr)(KO:dq zs vs)(Te:pv (zs.drop q)=some pr)
(hQ:∀v rest q' lE s' g',pr=some (v,rest)->rest=zs.drop q'->Hy lE D q'->g.le g'->a9 s s'->Kb Y.lo Y.n s.heap s'.heap->Rel (Y.with [(J,oJ),(I,lE)]) g' {σ with own:=σ.own.set 0 (xs++[.int v])} s'.heap->Q .next s')
(hE:pr=none->∀u s' g',a9 s s'->Kb Y.lo Y.n s.heap s'.heap->Rel (Y.with []) g' σ s'.heap->RelV Y.n g' (.own 0) u->Q (.ret u) s'):
 abJ (abD prog w) A (exec (.Try [.Expr (.Call (.Attribute (.Name numbers p9) (adQ "append") Ax) [.Call (.Name Wh C8) [.Name Df Ih] [] Ht] [] Ff) Ii]
  [.ExceptHandler (some (.Name "StopIteration" Ij)) none [.Return (some (.Name numbers Ik)) Il] Im] [] [] Io) env) Q E s:=by
 have CH:∀H,Cx base nm env (Y.with H):=λH=>C.hold H
 have KQ:I∉dT Y.fr:=λhm=>R.mX I hm (by simp)
 obtain ⟨ofp,afL,afM⟩:=Dp.obj
 refine wpAny_Try_except (ej λHv Hw ph V6=>a8 λKX KY yl V U4=>ah6 (ej λHx KZ rC V7=>af1 (dY rfl) (by rw[aO Fj];rfl) hline
  ((dp (RF:=me) (CH [(J,oJ),(I,oI)]) R K2 Sd).then λu Hz PG K4 ym Rc K5 K6=>?_)) (dR C) rfl)
 obtain ⟨a,us,rfl,wv,pf,afN⟩:=pe Rc K6 abr
 refine ⟨"list","list.append",akb,slot_list_append,amc,pf.isList.typeIs,λb e=>by cases e;obtain ⟨z,q⟩:=pf;exact ⟨_,q,rfl⟩,?_⟩
 rw[aO Fj]
 refine aeN rfl (adL (adE (ej λV8 V9 Db abm=>af2 (aO PE Ht) (iL (CH [(J,oJ),(I,oI)]) Rc npv λPH ajw AA abt Rd K7=>?_))))
 refine agg (o:=ofp) (fd:=Yz) (adL (adE ((dp (RF:=me) (CH [(J,oJ),(I,oI)]) Rd Fg hv1).then λu sW fg PI nZ Re PJ PL=>aea ⟨⟨?_,afM⟩,?_⟩)))
 .exact Re.cC _ _ (C.keep _ _ afL)
 apply RelV.nG PL
 have AB:Kb Y.lo Y.n s.heap sW.heap:=Rel.kb (Y:=Y.with [(J,oJ),(I,oI)]) R hs ((K4.trans AA).trans PI)
 have AC:a9 s sW:=(K5.trans K7).trans PJ
 have AF:g.le fg:=(ym.trans abt).trans nZ
 refine Dd (d:=d) Dp PT eL (fr:=Y.fr) (l:=D) hA (C5▸Re.cC) (C5▸Re.frames) (Re.Sf (C5▸λV V e=>e)) (Re.held (I,oI) (by simp)) hIt ⟨oD,Re.eQ _ _ (AF.1 _ _ zD),hD3,eD,hD4⟩ hDI hbI Wi KO Te (λv wt hr t' gJ q' lE iJ yn Pg Wj lQ=>Db _ _ ?_) λhr gJ e yn X=>abm _ _ (V7 _ _ (U4 _ _ (V6 _ _ ?_)))
 ·
  have Rf:Rel (Y.with [(J,oJ),(I,lE)]) fg _ gJ.heap:=Re.po (X:=[I]) (H':=[(J,oJ),(I,lE)]) (by simp) (λb hb=>by simp at hb;subst hb;simp) (λb o hb e=>lQ b o (by simpa using hb) e) (λp hp=>by
   simp at hp
   rcases hp with rfl|rfl
   .obtain ⟨sl,e1,n1⟩:=lQ J oJ hJI (Re.held (J,oJ) (by simp))
    rw[n1 (Re.sM (p:=(J,oJ)) (by simp))]at e1;exact e1
   .exact Pg)
  have pz:fg.ρ[0]?=some a:=(abt.trans nZ).2 _ _ wv
  obtain ⟨AG,HA,pA⟩:=Rf.own 0 a pz
  rw[abr]at pA
  have uo:xs.length=AG.length:=pA.length
  refine aea (aje HA (λPN K8 AH=>rC _ _ (yl _ (afb (ph .next _ (afb ?_))))) (by simp at uo ⊢;exact %[a<=b,c<b,c=a|bJ cL uo]))
  have Fa:PN.PlainList a (AG++[Value.int v t']).toArray:=by simpa using K8
  have Rg:=Rf.dU (xs:=xs++[.int v]) pz (pA.append (.cons (.int v t') .nil)) Fa AH
  exact hQ v wt q' lE _ fg hr iJ Wj AF ((AC.trans yn).trans ⟨rfl,rfl,rfl⟩) ((AB.trans (λb o hb e=>.inl (lQ b o (ac4 (aaO hb hIn)) e)) Rf).trans (Kb.but AH (Rf.low a (.inr (.inr (ade pz))))) Rg) Rg
 ·
  have hFe:dT Y.fr=dT (env::fr):=by rw[wx]
  have HB:gJ.heap.FunFrames base (env::fr):=by
   have h0:sW.heap.FunFrames base (env::fr):=by rw[<-wx,<-C5];exact Re.frames
   refine FunFrames.step (λb hb o ho hd=>?_) h0
   obtain ⟨sl,e1,_⟩:=X.lQ b o (by rw[abF];rintro rfl;exact KQ (hFe▸hb)) ho
   exact ⟨_,e1,hd⟩
  refine V3 (F:=dT Y.fr) (s0:=sW.heap) (wr:=[I]) (base:=base) (outer:=fr) (L:=L) (hA.frames.trans (by rw[wx])) HB rB (λb hb=>.inl (hFe▸hb)) X (by simp[rawInt]) λh' X' kk=>?_
  refine nX (s:={gJ with heap:=h'}) (fr:=none) X' λxS SM kk'=>?_
  have Rh:Rel (Y.with [(J,oJ)]) fg _ xS:=Re.po (X:=[I]) (H':=[(J,oJ)]) (by simp) (λb hb=>by simp at hb;subst hb;simp) (λb o hb e=>SM.lQ b o hb e) (λp hp=>by
   simp at hp
   subst hp
   obtain ⟨sl,e1,n1⟩:=SM.lQ J oJ (by simpa using hJI) (Re.held (J,oJ) (by simp))
   rw[n1 (Re.sM (p:=(J,oJ)) (by simp))]at e1;exact e1)
  refine wpAny_handleBy_builtin (X:="StopIteration") (T:="StopIteration") (b:=true) owsi_raise.isExc (by rw[ale];kernel_rfl) owsi_facts.sub (ej λWa Wc Dc V=>?_)
  refine dZ (s:={gJ with heap:=xS}) (RF:=me) (CH [(J,oJ)]) Rh Fh rfl λu PO=>?_
  apply RelV.nG PO
  refine Dc _ _ ⟨rfl,SM.typeIs,?_⟩
  rw[if_pos rfl]
  refine nX (s:={gJ with heap:=xS}) (fr:=none) SM λyo Fk abu=>?_
  have Rj:Rel (Y.with []) fg _ yo:=Re.po (X:=[I]) (H':=[]) (by simp) (λb hb=>by simp at hb;subst hb;simp) (λb o hb e=>Fk.lQ b o hb e) (λp hp=>by simp at hp)
  refine aft (af7 (dZ (s:={gJ with heap:=yo}) (RF:=me) (CH []) Rj K2 Sd λu yp=>?_))
  exact hE hr u {gJ with heap:=yo} fg (AC.trans (yn.trans ⟨rfl,rfl,rfl⟩)) (AB.trans (λb o hb e=>.inl (Fk.lQ b o (by rw[abF];exact ac4 (aaO hb hIn)) e)) Rj) Rj yp
theorem PP(hk:k<n)(h:pk (n-k) zs=some rest)(hp:pv zs=some (some (v,r)))(e:r=zq):∃sX,pk (n-(k+1)) zq=some sX/\rest=v::sX:=by
 rw[show n-k=(n-(k+1))+1 by exact %[a=b+1,c<d,qD 0 a d c,qD 0 b d (c+1)|d4 hk rfl rfl]]at h
 unfold pk at h
 rw[hp]at h
 refine bC h λPQ h1 h2=>⟨PQ,e▸h1,h2.symm⟩
theorem Wk(hk:k<n)(h:pk (n-k) zs=some rest):∃pr,pv zs=some pr/\(pr=none->rest=[]):=by
 rw[show n-k=(n-(k+1))+1 by exact %[a=b+1,c<d,qD 0 a d c,qD 0 b d (c+1)|d4 hk rfl rfl]]at h
 unfold pk at h
 cases e:pv zs with
 |none=>rw[e]at h;exact aq h
 |some o=>cases o with
  |none=>rw[e]at h;exact ⟨_,rfl,λV=>(aac h).symm⟩
  |some _=>exact ⟨_,rfl,λq=>aq q.symm⟩
noncomputable def Wl(Y:Lay)(dx:aaD)(St:Nat->adF->Prop)(vM:Gh)(x:Str)(zs res:List Int)(D:aa9)(J I:aa9)(n:Nat)(m:Nat)(s':aaD):Prop:=∀G:Prop,(∀k g' oI oJ q acc rest tn,m=n+1-k->k+(zs.drop q).length<=zs.length->St k s'.heap->Kb Y.lo Y.n dx.heap s'.heap->vM.le g'->
 Rel (Y.with [(J,oJ),(I,oI)]) g' ⟨[some (.str x),some (.obj (.ref I)),some (.own 0),tn],[acc.map AV.int]⟩ s'.heap->a9 dx s'->Hy oI D q->pk (zs.length+1-k) (zs.drop q)=some rest->acc++rest=res->acc.length<=k->G)->G
theorem AI
(Dn:bP base fnn fdn [tx] [tx,ta,nu,tu] body yq)(NT:NumText (bc fdn.scope [tx,ta,nu,tu] yq) fp comp ku body)
(Dp:bP base fp Yz [it] [it,b,val] K3 Dg)(PT:pg (bc Yz.scope [it,b,val] Dg) K3)(eL:base.NoLimit)
(abv:ei ke (bc fdn.scope [tx,ta,nu,tu] yq) comp=some ic)(afO:E5 ke (bc fdn.scope [tx,ta,nu,tu] yq) ku=some ir)(i9:eT ku=true)(hcs:cm [comp])
(hev:aA me ic ⟨[some (.str x),none,none,none],[]⟩=some (.lst (zs.map .int)))
(hrg:∀I,∃items,vz me ir ⟨[some (.str x),some (.obj (.ref I)),some (.own 0),none],[[]]⟩=some items/\zs.length<items.length)
(cL:zs.length<aa7)(kK:pk (zs.length+1) zs=some res):vD prog w (d+2) base (.ref fnn) [.str x] (.lst (res.map .int)):=by
 intro fr A s vs E Q hA hb jD hT nR hQ
 apply ak.gD nR;intro v us h1 h2
 apply ak.oR h2
 apply RelV.fq h1;intro t
 refine ajq (KI (d:=d+1) Dn eL (H:=[]) (args:=[.str x]) hA hb jD hT (by simp) (λq hq=>by simp at hq) (λq hq=>by simp at hq) rfl (by simp) (.cons (.str x t) .nil) λbk Y dx C hs Hm KJ wx C5 rB E9 ug fQ ui=>ej λQa Ea hQa V=>?_)
 generalize Sj:bc fdn.scope [tx,ta,nu,tu] yq=nm at *
 cases NT with
 |mk Df numbers turn Wh p1 p2 p3 p4 p5 p6 p7 p8 p9 Ax C8 Ih Ht Ff Ii Ij Ik Il Im Io KR KU KV hline Tb Tc abp Td K2 Fg npv Fh=>
 have hYw:Y.with []=Y:=by cases Y;simp only at KJ;subst KJ;rfl
 have CH:∀H,Cx base nm bk (Y.with H):=λH=>C.hold H
 refine a8 λQb Eb nb V V=>agw (af2 (aO hcs p3) ((dp (RF:=me) C ug Tb rfl).then λv qm bD bb bt aM a6 cD=>?_)) (ci rfl)
 apply RelV.nG cD
 refine aeN rfl (adL (adE (((pp C hs ke).e _ _ abv _ qm bD _ _ E9 aM hev).then λu ce gw cY fM bW cU iH=>aea ?_)))
 cases iH with
 |lst hD1 hD2 hD3 hD4 hD5=>
 rename_i zP D oD eD
 refine Hp ⟨oD,bW.eQ _ _ hD2,hD3,eD,hD4⟩ ?_
 have abw:Hy ({cls:=.type "list_iterator",data:=.fields #[.ref D,.int 0 0]}) D 0:=⟨rfl,rfl⟩
 have K9:({cls:=.type "list_iterator",data:=.fields #[.ref D,.int 0 0]}:Obj).isFreed=false:=rfl
 generalize ({cls:=.type "list_iterator",data:=.fields #[.ref D,.int 0 0]}:Obj)=N2 at abw K9 ⊢
 have hIn:Y.n<=ce.heap.objs.size:=dE ug (bb.trans cY) hs bW
 have gf:Rel (Y.with [(ce.heap.objs.size,N2)]) gw _ (ce.heap.push N2):=
  Rel.gg (Y:=Y) (H:=[]) (hYw.symm▸bW) K9 hIn
 have hDI:D≠ce.heap.objs.size:=ac4 (abZ (bW.eQ _ _ hD2))
 have KQ:ce.heap.objs.size∉dT Y.fr:=λhm=>adP _ (FunFrames.live bW.frames hm)
 have Wi:ce.heap.objs.size∉iG Y.fr:=gf.JH (aw.mpr (.inr (.inr (.inl (by simp))))) KQ
 have hbI:base.get? ce.heap.objs.size=none:=by
  cases e:base.get? ce.heap.objs.size with
  |none=>rfl
  |some o=>exact absurd (abZ (bW.cC _ _ (C5▸e))) (adP _)
 generalize ce.heap.objs.size=I at *
 have KO:dq zs zP:=pq hD5
 refine ck (CH [(I,N2)]) (s:={ce with heap:=ce.heap.push N2}) gf Tc (.obj (.ref I)) λd7 jo dX eV=>nb _ ?_
 have La:Kb Y.lo Y.n dx.heap d7.heap:=(ug.kb hs ((bb.trans cY).trans (cj _ _))).trans jo dX
 have nU:a9 dx d7:=(a6.trans cU).trans ⟨eV.1,eV.2,eV.3⟩
 refine a8 λQc Ec nc V V=>Ku (RF:=me) (CH [(I,N2)]) hs abp 0 _ d7 gw _ _ none E9 dX rfl _ _ λf iq o5 AJ zX db kH afQ=>?_
 cases afQ
 refine nc _ ?_
 obtain ⟨items,Lb,bq⟩:=hrg I
 refine a8 λQd Ed nd rd V=>wpAny_For ((pp (CH [(I,N2)]) hs ke).i _ _ afO _ iq o5 _ items true E9 db (Ak Lb) (λV=>Lb) _ _ λnY vM uq yr iK pj=>?_) (lB i9)
 intro o fp' P St ho It zo
 have hJn:Y.n<=nY.heap.objs.size:=dE db uq hs iK
 have d8:Rel (Y.with ((nY.heap.objs.size,o)::[(I,N2)])) vM _ (nY.heap.push o):=Rel.gg (Y:=Y) (H:=[(I,N2)]) iK ho hJn
 generalize hJ':nY.heap.objs.size=J at *
 have W:=It.walks (A.deeper bk) E9.hand
 refine codeAny_forLoop (Wl Y dx St vM x zs res D J I items.length) ?_ (items.length+1)
  λG f=>f 0 vM N2 o 0 [] res none rfl (by simp) zo ((La.trans AJ db).trans (Rel.kb (Y:=Y.with [(I,N2)]) db hs (uq.trans (cj _ _))) d8) (Gh.le.refl _) d8 ((nU.trans kH).trans (pj.trans ⟨rfl,rfl,rfl⟩)) abw (by simpa using kK) rfl (adJ _)
 refine λm s' H=>ej λQe Ee ne V=>H _ λk g' oI oJ q acc rest tn hm hk CN kb' l' R' m' hIt Tf tX Fl=>?_
 have bA:k<items.length:=%[a<b,c<b,a+d<=c|(d4 bq hk)]
 refine W.item k s' _ _ bA CN λv jJ tk hPv kI gH=>ne _ _ ?_
 obtain ⟨xk,hxk,Pa⟩:=It.rel k v bA hPv
 obtain ⟨Tg,Wm⟩:=It.obj _ _ kI
 have hJI:J≠I:=by
  have nd3:=R'.zJ.1.2.2.1
  simp at nd3;exact nd3
 have Ra:=R'.ya (h':=jJ) gH Wm
 have kpa:Kb Y.lo Y.n s'.heap jJ:=Kb.fw gH λa ha=>by
  rw[abF];exact ac4 (aaO ha hJn)
 refine ag3 (ck (CH [(J,Tg),(I,oI)]) (s:={s' with heap:=jJ,toks:=tk}) Ra Td (Pa.mono l') λvO abx Rb yt=>?_)
 have t8:∀{h h':adF} {ga gb:Gh} {σa σb:bj} {oJ oI lE:Obj},Rel (Y.with [(J,oJ),(I,oI)]) ga σa h->Rel (Y.with [(J,oJ),(I,lE)]) gb σb h'->vM.le ga->ga.le gb->∀b∈fp',∀o,h.get? b=some o->h'.get? b=some o:=by
  intro h h' ga gb σa σb oJ oI lE Ra Rb la lb b hb o e
  rcases It.mY rfl b hb with rfl|hz
  .have e1:=Ra.held (b,oJ) (by simp)
   have e2:=Rb.held (b,oJ) (by simp)
   simp only at e1 e2
   rw[e1]at e;obtain rfl:=aac e;exact e2
  .obtain ⟨o',oE⟩:=afG.mp hz
   have e1:=Ra.eQ _ _ (la.1 _ _ oE)
   rw[e1]at e;obtain rfl:=aac e
   exact Rb.eQ _ _ (lb.1 _ _ (la.1 _ _ oE))
 have Wn:St (k+1) vO.heap:=W.frame _ _ _ kI (t8 Ra Rb l' (Gh.le.refl _))
 have Lc:Kb Y.lo Y.n dx.heap vO.heap:=(kb'.trans kpa Ra).trans abx Rb
 have Ti:a9 dx vO:=m'.trans (⟨yt.1,yt.2,yt.3⟩ :a9 s' vO)
 obtain ⟨pr,Te,afR⟩:=Wk %[a<b+1,a+c<=b|(bJ hk)] Tf
 have zD:g'.z D=some oD:=(zX.trans (yr.trans l')).1 _ _ hD2
 refine a8 λQf Ef nf rf V=>PF (CH []) hs E9 C5 wx rB Rb hJI hIn hline K2 Fg npv Fh rfl rfl rfl (by rw[aan];exact %[a<b,c<b,d+e<=c,a<=d|Cj cL hk Fl]) Dp PT eL hIt zD hD3 hD4 hDI hbI Wi KO Te (λv wt q' lE Fm fg hr iJ Wj nZ ms ur Rg=>nf _ (afb ?_)) λhr u Fm fg ms ur Rj yp=>rf _ _ (rd _ _ (hQa _ _ (hQ u Fm (λa o e=>?_) (ui.trans (Ti.trans ms)) ?_)))
 .obtain ⟨sX,aby,rfl⟩:=PP %[a<b+1,a+c<=b|(bJ hk)] Tf (hr▸Te) iJ
  have Ig:wt.length<(zs.drop q).length:=Wg (hr▸Te)
  rw[iJ]at Ig
  refine ⟨_,sT hm bA,λG f=>f (k+1) fg lE Tg q' (acc++[v]) sX _ rfl %[a+1+b<=c,a+d<=c,b<d|(d4 hk Ig)] (W.frame _ _ _ Wn (t8 Rb Rg l' nZ)) (Lc.trans ur Rg) (l'.trans nZ) (by rw[acf];exact Rg) (Ti.trans ms) Wj aby (by rw[<-tX];simp) (by simp;exact %[a<=b,a<=b|aP Fl])⟩
 .have Ip:a∉dT fr->a∉dT Y.fr:=λhn=>by
   rw[wx,um rB,abk,not_or];exact ⟨ac4 (abZ e),hn⟩
  rcases (Lc.trans ur Rj) a o (by rw[Hm];exact abZ e) (fQ a o e) with ⟨sl,e1,n1⟩ | ⟨ho,CY,t,ht,hP,c,hc,hg,hr⟩
  .exact .inl ⟨sl,e1,λhn=>n1 (Ip hn)⟩
  .refine .inr ⟨ho,λhn=>?_,t,ht,hP,c,λb ob eb=>aaO (abZ eb) (by rw[<-Hm];exact hc),hg,hr⟩
   obtain ⟨_,o',oE,C4⟩:=afX jD hn
   rw[e,ho]at oE;obtain rfl:=aac oE
   exact C4 _ rfl
 .have hr':acc=res:=by rw[<-tX,afR hr,abW]
  exact Hm▸ub Rj 4 _ _ _ (hr'▸mh _ _ _) yp
end
section
variable{prog:aas}{w:abI}{A:adV}{s:aaD}{env:Env}
noncomputable def pB(op:agA)(a b:Int):Option Int:=
 match op with
 |.Add=>some (a+b)
 |.Sub=>some (a-b)
 |.Mult=>if aae a+aae b<=2^20 then some (a*b) else none
 |.RShift=>if 0<=b then some (a.fdiv (2^b.toNat)) else none
 |.LShift=>if 0<=b/\(aae a:Int)+b<=2^27 then some (a*2^b.toNat) else none
 |.BitXor=>some (ahh a b)
 |_=>none
theorem Fn(h:pB op a b=some c)(hQ:∀t tk,Q (.int c t) {s with toks:=tk}):abJ (abD prog w) A (aiq op (.int a t) (.int b u)) Q E s:=by
 unfold pB at h
 split at h
 .obtain rfl:=aac h;exact add_int (hQ _ _)
 .obtain rfl:=aac h;exact sub_int (hQ _ _)
 .split at h
  .rename_i hc;obtain rfl:=aac h;exact mul_int (hQ _ _) (Sb hc)
  .exact aq h
 .split at h
  .rename_i hc;obtain rfl:=aac h;exact rshift_int hc (hQ _ _)
  .exact aq h
 .split at h
  .rename_i hc;obtain rfl:=aac h;exact lshift_int hc.1 hc.2 (hQ _ _)
  .exact aq h
 .obtain rfl:=aac h;exact xor_int (hQ _ _)
 .exact aq h
noncomputable def rj(prog:aas)(w:abI)(A:adV)(env:Env)(s:aaD)(mi:Str->Option Int):Prop:=
 ∀x z,mi x=some z->(x==("__debug__":Str))=false/\∀(E Q:aaq->aaD->Prop) tk,(∀t,Q (.int z t) {s with toks:=tk})->abJ (abD prog w) A (loadName env x) Q E {s with toks:=tk}
noncomputable def afS:Const->Option Int
 |.int i=>some i
 |_=>none
noncomputable def wC(mi:Str->Option Int):Nat->ado->Option Int
 |0,_=>none
 |k+1,e=>match e with
  |.Name x _=>mi x
  |.Constant c _ _=>afS c
  |.BinOp l op r _=>(wC mi k l).bind λa=>(wC mi k r).bind λb=>pB op a b
  |_=>none
theorem cE(hl:rj prog w A env s mi):∀{e:ado} {z:Int} {E Q:aaq->aaD->Prop} {tk:Nat},wC mi k e=some z->(∀t tk,Q (.int z t) {s with toks:=tk})->
 abJ (abD prog w) A (eval e env) Q E {s with toks:=tk}:=by
 induction k with
 |zero=>exact λh V=>aq h
 |succ k ih=>
  intro e z E Q tk h hQ
  cases e with
  |Name x p=>exact aig ((hl x z h).2 E Q tk λt=>hQ t tk) (hl x z h).1
  |Constant c n p=>cases c with
   |int i=>obtain rfl:=aac h;exact wpAny_Constant_int (hQ _ _)
   |_=>exact aq h
  |BinOp l op r p=>
   refine ax (show (wC mi k l).bind _=_ from h) λa ha h=>ax h λb hb h=>?_
   exact aiU (ih ha λt Yw=>ih hb λu PR=>Fn (s:={s with toks:=PR}) h λt tk=>hQ t tk)
  |_=>exact aq h
structure IA (W:aa9->Prop) (s0:aaD) (env:Env) (li:Str->Option Int) (s:aaD):Prop where
 ns:∃m,s.heap.Ns env.locals m/\∀x z,li x=some z->∃t,m x=some (.int z t)
 keep:∀b o,¬W b->s0.heap.get? b=some o->s.heap.get? b=some o
 new:s0.heap.get? env.locals=none
 same:a9 s0 s
theorem IA.tok(X:IA W s0 env li s)(tk:Nat):IA W s0 env li {s with toks:=tk}:=⟨X.ns,X.keep,X.new,X.same.trans ⟨rfl,rfl,rfl⟩⟩
theorem IA.store(X:IA W s0 env li s)(hk:env.scope.kind=.function)(hl:env.kindOf x=some .local)
(hQ:∀s',IA W s0 env (λy=>if y=x then some z else li y) s'->Q () s'):abJ (abD prog w) A (akC env x (.int z t)) Q E s:=by
 obtain ⟨m,hn,hm⟩:=X.ns
 refine ahq hl hn (λh' Ip lY=>hQ _ ⟨⟨_,Ip,λy u hu=>?_⟩,λb o hb e=>?_,X.new,X.same.trans ⟨rfl,rfl,rfl⟩⟩) (by erw[hk];rfl)
 .by_cases q:y=x
  .subst q;simp at hu;subst hu;exact ⟨t,by simp⟩
  .simp[q]at hu ⊢;exact hm y u hu
 .exact lY.extBut b o (λq=>by rw[q,X.new]at e;exact aq e) (X.keep b o hb e)
theorem Wo(X:IA W s0 env li s)(hk:env.scope.kind=.function)(hl:env.kindOf x=some .local)
(hL:rj prog w A env s mi)(hv:wC mi k v=some z)(hc:kJ v=false)(hQ:∀s',IA W s0 env (λy=>if y=x then some z else li y) s'->Q .next s'):abJ (abD prog w) A (exec (.Assign [.Name x px] v ps) env) Q E s:=
 agw (cE (tk:=s.toks) hL hv λt tk=>IA.store (X.tok tk) hk hl λs' X'=>hQ s' X') (ci hc)
theorem IA.loads{W:aa9->Prop}{s0:aaD}{li fi:Str->Option Int}(X:IA W s0 env li s)(hk:env.scope.kind=.function)(fU:∀x z,li x=some z->env.kindOf x=some .local/\(x==("__debug__":Str))=false)
(ek:∀x z,fi x=some z->env.kindOf x=some .free/\(x==("__debug__":Str))=false/\(x==("__classdict__":Str))=false/\∃c t,env.cells.lookup x=some c/\s0.heap.IsCell c (some (.int z t))/\¬W c):
 rj prog w A env s (λx=>(li x).or (fi x)):=by
 intro x z h
 rcases ahY.mp h with h | ⟨_,h⟩
 .obtain ⟨h1,h2⟩:=fU x z h
  refine ⟨h2,λE Q tk hQ=>?_⟩
  obtain ⟨m,hn,hm⟩:=X.ns
  obtain ⟨t,ht⟩:=hm x z h
  exact aio (s:={s with toks:=tk}) hk h1 hn ht (hQ t)
 .obtain ⟨h1,h2,h3,c,t,hc,⟨o,ho,hd⟩,hW⟩:=ek x z h
  refine ⟨h2,λE Q tk hQ=>?_⟩
  exact aiB (s:={s with toks:=tk}) hk h1 hc ⟨o,X.keep c o hW ho,hd⟩ (hQ t) h3
end
section
variable{prog:aas}{w:abI}{A:adV}{s:aaD}{env:Env}
noncomputable def Ld(n:Int):Nat->Int->Int->Int->List Int->Option (List Int)
 |0,_,_,_,_=>none
 |k+1,x,L,R,it=>
  if L+1=R then (if 0<=L/\L<it.length/\L<2^62 then some (it.set L.toNat x) else none)
  else (pB .Mult ((L+R).fdiv (2^(1:Int).toNat)-L) n).bind λsh=>(pB .RShift x sh).bind λup=>(pB .LShift up sh).bind λul=>
   (Ld n k (ahh x ul) L ((L+R).fdiv (2^(1:Int).toNat)) it).bind λit1=>Ld n k up ((L+R).fdiv (2^(1:Int).toNat)) R it1
structure Le (fd:aeV) (ns:List Str) (da:Str):Prop where
 kind:fd.scope.kind=.function
 co:fd.scope.isCoroutine=false
 gen:fd.scope.isGenerator=false
 cell:∀x∈fd.scope.names,x.2≠.cell
 loc:∀x∈ns,fd.scope.names.lookup x=some .local
 free:∀x∈[da,("inner":Str),"n"],fd.scope.names.lookup x=some .free
structure N3 (fd:aeV) (env:Env):Prop where
 kind:env.scope.kind=.function
 ko:∀y,env.kindOf y=fd.scope.names.lookup y
 cel:env.cells=fd.closure
theorem ine(h:fd.scope.kind=.function):N3 fd (callEnv fd L f):=⟨h,λV=>rfl,rfl⟩
structure Lf (h:adF) (f:aa9) (fd:aeV) (da:Str) (al:aa9) (n:Int):Prop where
 obj:∃o,h.get? f=some o/\o.data=.func fd
 lim:h.NoLimit
 code:h.CodeRec fd.code fd.qualname
 ad:∃c,fd.closure.lookup da=some c/\h.IsCell c (some (.ref al))
 sY:∃c,fd.closure.lookup ("inner":Str)=some c/\h.IsCell c (some (.ref f))
 n:∃c t,fd.closure.lookup ("n":Str)=some c/\h.IsCell c (some (.int n t))
theorem Lf.step{h h':adF}{f al:aa9}{fd:aeV}{da:Str}{n:Int}(X:Lf h f fd da al n)(k:∀b o,(∀dK e,o.data≠.seq dK e)->h.get? b=some o->h'.get? b=some o):Lf h' f fd da al n:=
 ⟨(by obtain ⟨o,ho,hd⟩:=X.obj;exact ⟨o,k f o (λa b q=>by rw[hd]at q;cases q) ho,hd⟩),
  (by obtain ⟨mc,⟨o,es,ep,ho,hd,r⟩,q⟩:=X.lim;exact ⟨mc,⟨o,es,ep,k _ o (λa b q=>by rw[hd]at q;cases q) ho,hd,r⟩,q⟩),
  (by obtain ⟨c,o,vs,t,e,ho,hd,hv⟩:=X.code;exact ⟨c,o,vs,t,e,k _ o (λa b q=>by rw[hd]at q;cases q) ho,hd,hv⟩),
  (by obtain ⟨c,e,o,ho,hd⟩:=X.ad;exact ⟨c,e,o,k _ o (λa b q=>by rw[hd]at q;cases q) ho,hd⟩),
  (by obtain ⟨c,e,o,ho,hd⟩:=X.sY;exact ⟨c,e,o,k _ o (λa b q=>by rw[hd]at q;cases q) ho,hd⟩),
  (by obtain ⟨c,t,e,o,ho,hd⟩:=X.n;exact ⟨c,t,e,o,k _ o (λa b q=>by rw[hd]at q;cases q) ho,hd⟩)⟩
noncomputable def lk(l:List (Str×Int)):Str->Option Int:=λy=>l.lookup y
theorem PS(x:Str)(z:Int)(l:List (Str×Int)):(λy=>if y=x then some z else lk l y)=lk ((x,z)::l):=by
 funext y
 unfold lk
 rw[ad5]
 by_cases q:y=x
 .subst q;simp
 .have:(y==x)=false:=by simpa using q
  erw[this];simp[q]
theorem Dh(h:lk l y=some z):y∈l.map (·.1):=ac2.mpr ⟨_,cn h,rfl⟩
section
variable{fd:aeV}{ns:List Str}{da:Str}{f al:aa9}{n:Int}{E Q:aaq->aaD->Prop}{W:aa9->Prop}{s0:aaD}{l:List (Str×Int)}
theorem ut(T:Le fd ns da)(Ee:N3 fd env)(hx:x∈[da,("inner":Str),"n"])(hc:fd.closure.lookup x=some c)(hv:s.heap.IsCell c (some v))
(hd:(x==("__debug__":Str))=false)(hcd:(x==("__classdict__":Str))=false)(hQ:Q v s):abJ (abD prog w) A (eval (.Name x p) env) Q E s:=
 aig (aiB Ee.kind ((Ee.ko x).trans (T.free x hx)) (Ee.cel▸hc) hv hQ hcd) hd
theorem AK(T:Le fd ns da)(Ee:N3 fd env)(X:Lf s.heap f fd da al n)(hQ:Q (.ref f) s):abJ (abD prog w) A (eval (.Name "inner" p) env) Q E s:=
 let ⟨_,hc,hv⟩:=X.sY
 ut T Ee (.tail _ (.head _)) hc hv ⋯ ⋯ hQ
noncomputable def InL(ns:List Str)(l:List (Str×Int)):Prop:=(l.all λy=>ns.contains y.1&&!(y.1==("__debug__":Str)))=true
theorem eX(T:Le fd ns da)(Ee:N3 fd env)(X:IA W s0 env (lk l) s)(Cy:InL ns l)(hn:∃c t,fd.closure.lookup ("n":Str)=some c/\s0.heap.IsCell c (some (.int n t))/\¬W c):rj prog w A env s (λy=>(lk l y).or (lk [(("n":Str),n)] y)):=by
 refine X.loads Ee.kind (λy z hz=>?_) λy z hz=>?_
 .have hm:=aaG.mp Cy _ (cn hz)
  rw[aap]at hm
  exact ⟨(Ee.ko y).trans (T.loc y (ah2.mp hm.1)),(ahj _).mp hm.2⟩
 .have hm:y=("n":Str):=abF.mp (Dh hz)
  subst hm
  obtain rfl:n=z:=aac hz
  obtain ⟨c,t,h1,h2,h3⟩:=hn
  exact ⟨(Ee.ko _).trans (T.free _ (.tail _ (.tail _ (.head _)))),⋯,⋯,c,t,Ee.cel▸h1,h2,h3⟩
theorem lF{z:Int}{x:Str}{v:ado}{px ps:Pos}{Q:ahE->aaD->Prop}(T:Le fd ns da)(Ee:N3 fd env)(X:IA W s0 env (lk l) s)(Cy:InL ns l)(hn:∃c t,fd.closure.lookup ("n":Str)=some c/\s0.heap.IsCell c (some (.int n t))/\¬W c)(hx:x∈ns)
(hv:wC (λy=>(lk l y).or (lk [(("n":Str),n)] y)) 9 v=some z)(hc:kJ v=false)(hQ:∀s',IA W s0 env (lk ((x,z)::l)) s'->Q .next s'):abJ (abD prog w) A (exec (.Assign [.Name x px] v ps) env) Q E s:=
 Wo X Ee.kind ((Ee.ko x).trans (T.loc x hx)) (eX T Ee X Cy hn) hv hc λs' X'=>hQ s' (by erw[<-PS ..];exact X')
theorem Fo{l:List (Str×Pos)}:cm (l.map λx=>amx x.1 x.2):=λe he y q=>by
 obtain ⟨x,_,rfl⟩:=ac2.mp he
 exact λh=>by cases h
theorem AO{mi:Str->Option Int}{n1 n2 n3:Str}{q1 q2 q3 p pc:Pos}{a b c:Int}{tk:Nat}(T:Le fd ns da)(Ee:N3 fd env)(hL:rj prog w A env s mi)(X:Lf s.heap f fd da al n)(h1:mi n1=some a)(h2:mi n2=some b)(h3:mi n3=some c)
(hc:∀t1 t2 t3 tk,abJ (abD prog w) A (call (.ref f) [.int a t1,.int b t2,.int c t3] []) Q E {s with toks:=tk}):abJ (abD prog w) A (eval (.Call (.Name "inner" p) [.Name n1 q1,.Name n2 q2,.Name n3 q3] [] pc) env) Q E {s with toks:=tk}:=
 let ⟨_,ho,hd⟩:=X.obj
 af2 (aO (Fo (l:=[(n1,q1),(n2,q2),(n3,q3)])) pc) (AK (s:={s with toks:=tk}) T Ee X (agg (adL (adE (cE (k:=9) hL h1 λt1 V=>adE (cE (k:=9) hL h2 λt2 V=>adE (cE (k:=9) hL h3 λt3 tk3=>aea ⟨⟨ho,hd⟩,hc t1 t2 t3 tk3⟩)))))))
theorem AP{mi:Str->Option Int}{n1 n2:Str}{q1 q2 p pc:Pos}{a b:Int}{tk:Nat}(T:Le fd ns da)(Ee:N3 fd env)(hL:rj prog w A env s mi)(X:Lf s.heap f fd da al n)(h1:mi n1=some a)(h2:mi n2=some b)
(hc:∀t1 t2 tk,abJ (abD prog w) A (call (.ref f) [.int a t1,.int b t2] []) Q E {s with toks:=tk}):abJ (abD prog w) A (eval (.Call (.Name "inner" p) [.Name n1 q1,.Name n2 q2] [] pc) env) Q E {s with toks:=tk}:=
 let ⟨_,ho,hd⟩:=X.obj
 af2 (aO (Fo (l:=[(n1,q1),(n2,q2)])) pc) (AK (s:={s with toks:=tk}) T Ee X (agg (adL (adE (cE (k:=9) hL h1 λt1 V=>adE (cE (k:=9) hL h2 λt2 tk2=>aea ⟨⟨ho,hd⟩,hc t1 t2 tk2⟩))))))
theorem wD(T:Le fd ns da)(X:Lf s.heap f fd da al n)(hd:A.depth<1000)(Lg:fd.body=.stmts body)(abB:bindArgs fd ⟨args,[]⟩=pure Tj)(fU:∀x∈Tj,x.1∈ns)
(hb:∀y z,lk zl y=some z->∃t,Tj.reverse.lookup y=some (.int z t))(hQ:∀env s' Q' E',N3 fd env->IA (λV=>False) s env (lk zl) s'->KS s.heap s'.heap->(∀v vK,Q v vK->Q' (.ret v) vK)->(∀vK,Q .none vK->Q' .next vK)->abJ (abD prog w) (A.deeper env) (ajA body env) Q' E' s'):
 abJ (abD prog w) A (call (.ref f) args []) Q E s:=by
 obtain ⟨o,ho,afT⟩:=X.obj
 refine ajq (codeAny_call_def (by show A.depth<1000;exact hd) ho afT X.lim X.code Lg (BindsTo.of_eq abB) T.cell (λy hy=>T.loc _ (fU y hy)) (λh₀ lN hk=>?_) T.co T.gen T.kind)
 refine hQ _ _ _ _ (ine T.kind) ⟨⟨_,lN,hb⟩,λb o V e=>hk b o e,aho (adJ _),⟨rfl,rfl,rfl⟩⟩ (λb o e=>hk b o e) (λv vK h=>h) λvK h=>h
end
inductive abC:FuncBody->Prop
 |mk (p1 p2 p3 p4 p5 p6 p7 p8 p9 Ax C8 Ih Ht Ff Ii Ij Ik Il Im Io KR KU KV SN SQ SR SU SV SW p30 p31 p32 p33 p34 p35 p36 p37 p38 p39 p40 p41 p42 p43 p44 p45 p46 p47 p48 p49 p50:Pos) (k1 k2:Nat):abC (.stmts
  [.If (.Compare (.BinOp (.Name "L" p1) .Add (.Constant (.int 1) k1 p2) p3) [.Eq] [.Name "R" p4] p5)
    [.Assign [.Subscript (.Name "a_digits" p6) (.Name "L" p7) p8] (.Name "x" p9) Ax,.Return none C8] [] Ih,
   .Assign [.Name "mid" Ht] (.BinOp (.BinOp (.Name "L" Ff) .Add (.Name "R" Ii) Ij) .RShift (.Constant (.int 1) k2 Ik) Il) Im,
   .Assign [.Name "shift" Io] (.BinOp (.BinOp (.Name "mid" KR) .Sub (.Name "L" KU) KV) .Mult (.Name "n" SN) SQ) SR,
   .Assign [.Name "upper" SU] (.BinOp (.Name "x" SV) .RShift (.Name "shift" SW) p30) p31,
   .Assign [.Name "lower" p32] (.BinOp (.Name "x" p33) .BitXor (.BinOp (.Name "upper" p34) .LShift (.Name "shift" p35) p36) p37) p38,
   .Expr (.Call (.Name "inner" p39) [.Name "lower" p40,.Name "L" p41,.Name "mid" p42] [] p43) p44,
   .Expr (.Call (.Name "inner" p45) [.Name "upper" p46,.Name "mid" p47,.Name "R" p48] [] p49) p50])
noncomputable def Lh:List Str:=["x","L","R","mid","shift","upper","lower"]
structure In1 (fd:aeV):Prop where
 sY:Le fd Lh "a_digits"
 text:abC fd.body
 bind:∀a b c:aaq,bindArgs fd ⟨[a,b,c],[]⟩=pure [(("x":Str),a),(("L":Str),b),(("R":Str),c)]
noncomputable abbrev Wp(h:adF)(f:aa9)(fd:aeV)(al:aa9)(n:Int):Prop:=Lf h f fd "a_digits" al n
theorem Wp.step(X:Wp h f fd al n)(hl:h.PlainList al items)(k:∀b o,b≠al->h.get? b=some o->h'.get? b=some o):Wp h' f fd al n:=
 Lf.step X λb o hd hb=>k b o (λq=>by subst q;obtain ⟨e,Tk⟩:=hl;rw[Tk]at hb;obtain rfl:=aac hb;exact hd _ _ rfl) hb
noncomputable def l3(x L R:Int):List (Str×Int):=[("x",x),("L",L),("R",R)]
noncomputable def Wq(prog:aas)(w:abI)(f al:aa9)(fd:aeV)(n:Int)(k:Nat):Prop:=∀(x L R:Int) (items uv:List Int),Ld n k x L R items=some uv->∀(A:adV) (s:aaD) (vs:List aaq) (tx tL tR:Tok) (E Q:aaq->aaD->Prop),A.depth+k<950->
 Wp s.heap f fd al n->s.heap.PlainList al vs.toArray->dq items vs->
 (∀s' zP,(∀b o,b≠al->s.heap.get? b=some o->s'.heap.get? b=some o)->s'.heap.PlainList al (aed zP)->dq uv zP->a9 s s'->Q .none s')->
 abJ (abD prog w) A (call (.ref f) [.int x tx,.int L tL,.int R tR] []) Q E s
theorem IA.moved{W:aa9->Prop}{s0 s':aaD}{li:Str->Option Int}{al:aa9}(X:IA (λV=>False) s0 env li s)(cW:env.locals≠al)(k:∀b o,b≠al->s.heap.get? b=some o->s'.heap.get? b=some o)(m:a9 s s'):IA (λb=>b=al) s0 env li s':=
 ⟨(by obtain ⟨m,hn,hm⟩:=X.ns;exact ⟨m,hn.at' λo e=>k _ o cW e,hm⟩),λb o hb e=>k b o hb (X.keep b o (λq=>q) e),X.new,X.same.trans m⟩
theorem AQ(T:Le fd Lh "a_digits")(Ee:N3 fd env)(X:Lf h₀.heap f fd "a_digits" al n)
(hL:rj prog w A env h₀ (λy=>(lk (l3 x L R) y).or (lk [(("n":Str),n)] y)))(hl:h₀.heap.PlainList al vs.toArray)(hv:dq items vs)(h0:0<=L)(h1:L<items.length)(h2:L<2^62)
(hQ:∀s' zP,(∀b o,b≠al->h₀.heap.get? b=some o->s'.heap.get? b=some o)->s'.heap.PlainList al (aed zP)->dq (items.set L.toNat x) zP->a9 h₀ s'->Q (.ret .none) s'):
 abJ (abD prog w) A (ajA [.Assign [.Subscript (.Name "a_digits" p1) (.Name "L" p2) p3] (.Name "x" p4) p5,.Return none p6] env) Q E {h₀ with toks:=tk}:=by
 obtain ⟨ca,G7,Wr⟩:=X.ad
 refine a8 λHv Hw ph V V=>amb (cE (k:=9) (z:=x) hL rfl λt tk=>ut (s:={h₀ with toks:=tk}) T Ee (.head _) G7 Wr ⋯ ⋯ (cE (k:=9) (z:=L) hL rfl λt' Yw=>?_)) rfl
 have bq:=hv.length
 rw[aan]at bq
 refine lZ (s:={h₀ with toks:=Yw}) hl h0 %[a>(qL 2 63),a>(qL 2 62)|(fK h2)] (by erw[af4];exact %[a>(qC a),a>(qC b),b=a|Gq h1 bq]) λh' VJ lY=>ph _ (aft (wpAny_Return_none ?_))
 refine hQ _ (vs.set L.toNat (.int x t)) (λb o Ic e=>lY.extBut b o Ic e) (by simpa using VJ) ?_ ⟨rfl,rfl,rfl⟩
 show ak 0 ⟨λV=>none,[]⟩ ((items.set L.toNat x).map AV.int) _
 erw[List.map_set]
 exact ak.set (.int x t) hv
theorem Ws{f al:aa9}{fd:aeV}{n:Int}(T:In1 fd)(k:Nat):Wq prog w f al fd n k:=by
 induction k with
 |zero=>exact λx L R items uv h=>aq h
 |succ k ih=>
  intro x L R items uv h A s vs tx tL tR E Q hd X hl hv hQ
  have hB:=T.text
  generalize hbd:fd.body=B at hB
  cases hB with
  |mk p1 p2 p3 p4 p5 p6 p7 p8 p9 Ax C8 Ih Ht Ff Ii Ij Ik Il Im Io KR KU KV SN SQ SR SU SV SW p30 p31 p32 p33 p34 p35 p36 p37 p38 p39 p40 p41 p42 p43 p44 p45 p46 p47 p48 p49 p50 k1 k2=>
  refine wD (zl:=l3 x L R) T.sY X %[a<1000,a+(b+1)<950|(aP hd)] hbd (T.bind _ _ _) (λy hy=>?_) (λy z hz=>?_) λenv yu afV afW Ee AR hk PU ld=>?_
  .simp only[abk,adH,or_false]at hy
   rcases hy with rfl|rfl|rfl
   .exact .head _
   .exact .tail _ (.head _)
   .exact .tail _ (.tail _ (.head _))
  .have hm:=Dh hz
   simp only[l3,aa6,ahc,abk,adH,or_false]at hm
   rcases hm with rfl|rfl|rfl
   .obtain rfl:x=z:=aac hz;exact ⟨tx,rfl⟩
   .obtain rfl:L=z:=aac hz;exact ⟨tL,rfl⟩
   .obtain rfl:R=z:=aac hz;exact ⟨tR,rfl⟩
  have cT:∃c t,fd.closure.lookup ("n":Str)=some c/\s.heap.IsCell c (some (.int n t))/\¬False:=(by obtain ⟨c,t,h1,h2⟩:=X.n;exact ⟨c,t,h1,h2,id⟩)
  have Di:=eX (prog:=prog) (w:=w) (A:=A.deeper env) T.sY Ee AR rfl cT
  have mv:∀{b o},s.heap.get? b=some o->yu.heap.get? b=some o:=λ{b o} e=>hk b o e
  refine a8 λHv Hw ph Wt V=>amI (ajC (cE (s:=yu) (tk:=yu.toks) (k:=9) (z:=L+1) Di rfl λt tk=>cE (k:=9) (z:=R) Di rfl λu Yw=>eq_int (wpAny_truthy_bool ?_)) rfl)
  unfold Ld at h
  by_cases PV:L+1=R
  .rw[if_pos PV]at h
   erw[(show (L+1==R)=true from beq_iff_eq.mpr PV),if_pos rfl]
   (refine dS h ?_;clear h;intro hb h)
   obtain rfl:=aac h
   exact AQ (h₀:=yu) T.sY Ee (Wp.step X hl λb o V e=>mv e) Di (hl.at λo e=>mv e) hv hb.1 hb.2.1 hb.2.2 λs' zP k' VJ JF m'=>Wt _ _ (PU _ _ (hQ s' zP (λb o Ic e=>k' b o Ic (mv e)) VJ JF (AR.same.trans m')))
  .rw[if_neg PV]at h
   erw[(show (L+1==R)=false from beq_eq_false_iff_ne.mpr PV),if_neg agI]
   refine ax h λsh hsh h=>ax h λup Oa h=>ax h λul hul h=>ax h λit1 afY h=>afb (ph _ ?_)
   refine a8 λKX KY yl V V=>lF (z:=(L+R).fdiv (2^(1:Int).toNat)) T.sY Ee (AR.tok _) rfl cT (.tail _ (.tail _ (.tail _ (.head _)))) rfl rfl λdx Wu=>yl _ ?_
   generalize afZ:(L+R).fdiv (2^(1:Int).toNat)=mid at *
   refine a8 λHx KZ rC V V=>lF (z:=sh) T.sY Ee Wu rfl cT (.tail _ (.tail _ (.tail _ (.tail _ (.head _))))) hsh rfl λqm AT=>rC _ ?_
   refine a8 λV8 V9 Db V V=>lF (z:=up) T.sY Ee AT rfl cT (.tail _ (.tail _ (.tail _ (.tail _ (.tail _ (.head _)))))) Oa rfl λce Li=>Db _ ?_
   refine a8 λWa Wc Dc V V=>lF (z:=ahh x ul) T.sY Ee Li rfl cT (.tail _ (.tail _ (.tail _ (.tail _ (.tail _ (.tail _ (.head _))))))) (show (ani (pB .LShift up sh) λb=>pB .BitXor x b)=_ by erw[hul];rfl) rfl λd7 Ww=>Dc _ ?_
   have hni:akN env=false:=by unfold akN;erw[Ee.kind];rfl
   have af0:=eX (prog:=prog) (w:=w) (A:=A.deeper env) T.sY Ee Ww rfl cT
   have Ao:KS s.heap d7.heap:=λb o e=>Ww.keep b o (λq=>q) e
   have Fp:Wp d7.heap f fd al n:=Wp.step X hl λb o V e=>Ao b o e
   have Lj:d7.heap.PlainList al vs.toArray:=hl.at λo e=>Ao al o e
   refine a8 λafx afy Wd V V=>ah6 (AO (s:=d7) (tk:=d7.toks) (a:=ahh x ul) (b:=L) (c:=mid) T.sY Ee af0 Fp rfl rfl rfl λt1 t2 t3 tk3=>?_) hni rfl
   refine ih (ahh x ul) L mid items it1 afY (A.deeper env) {d7 with toks:=tk3} vs t1 t2 t3 _ _ (by show A.depth+1+k<950;exact %[a+1+b<950,a+(b+1)<950|aP hd]) Fp Lj hv λiq abK tK abL abM kH=>Wd _ ?_
   have Wx:=Ww.moved (W:=λV=>False) (s':=iq) (al:=al) (λq=>by
    have:=AR.new
    obtain ⟨e,Tk⟩:=hl
    rw[q,Tk]at this;exact aq this.symm) tK ⟨kH.1,kH.2,kH.3⟩
   have Wy:∃c t,fd.closure.lookup ("n":Str)=some c/\s.heap.IsCell c (some (.int n t))/\¬c=al:=by
    obtain ⟨c,t,h1,o,h2,h3⟩:=X.n
    refine ⟨c,t,h1,⟨o,h2,h3⟩,λq=>?_⟩
    obtain ⟨e,Tk⟩:=hl
    rw[q,Tk]at h2;obtain rfl:=aac h2;cases h3
   refine a8 λafA afB Wf V V=>ah6 (AO (s:=iq) (tk:=iq.toks) (a:=up) (b:=mid) (c:=R) T.sY Ee (eX T.sY Ee Wx rfl Wy) (Fp.step Lj λb o hb e=>tK b o hb e) rfl rfl rfl λt1 t2 t3 tk3=>?_) hni rfl
   exact ih up mid R it1 uv h (A.deeper env) {iq with toks:=tk3} abK t1 t2 t3 _ _ (by show A.depth+1+k<950;exact %[a+1+b<950,a+(b+1)<950|aP hd]) (Fp.step Lj λb o hb e=>tK b o hb e) abL abM λnY abN uq Kg abO pj=>Wf _ (afb (ld _ (hQ nY abN (λb o hb e=>uq b o hb (Wx.keep b o hb e)) Kg abO (Wx.same.trans ⟨pj.1,pj.2,pj.3⟩))))
end
section
variable{prog:aas}{w:abI}{A:adV}{Y:Lay}{g:Gh}{σ:bj}{s:aaD}{d:Nat}{base:adF}{nm:NI}{env:Env}{RF:cQ}{h h':adF}
theorem Rel.Wz(R:Rel Y g σ h)(hk:g.ρ[k]?=some a)(hv:ak Y.n g xs vs)
(hn:h'.PlainList a vs.toArray)(hs:∀b o,b≠a->h.get? b=some o->h'.get? b=some o):Rel Y g {σ with own:=σ.own.set k xs} h':=by
 have ha:a∈g.ρ:=ade hk
 have Je:a∈Y.bu g:=by simp[Lay.bu,ha]
 have bA:k<σ.own.length:=by erw[R.eS];exact (abb.mp hk).1
 obtain ⟨U4,nH⟩:=id hn
 refine ⟨λb o e=>hs b o (λq=>by subst q;rw[R.off b Je]at e;cases e) (R.eQ b o e),R.base,R.nodup,R.de,R.off,R.low,R.cZ,R.len,by simpa using R.eS,λb hb=>?_,λj c hc=>?_,λj b hj=>?_,λp hp=>?_,?_,R.mX,R.mY,R.d6,λt ht=>(R.tabs t ht).of (λV V e=>e) λo e=>hs _ o (R.tl Je t ht) e⟩
 .obtain ⟨f',h1,h2⟩:=R.ns b hb
  exact ⟨f',h1.at' λo e=>hs b o (R.oV hb ha) e,h2⟩
 .obtain ⟨ov,⟨o,h1,h2⟩,h3⟩:=R.cell j c hc
  exact ⟨ov,⟨o,hs c o (R.kt (bR hc) ha) h1,h2⟩,h3⟩
 .by_cases OI:k=j
  .subst OI
   rw[hk]at hj;obtain rfl:=aac hj
   refine ⟨vs,hn,?_⟩
   erw[aiW bA];exact hv
  .obtain ⟨us,h1,h3⟩:=R.own j b hj
   have cW:b≠a:=by
    rintro rfl
    exact OI ((aiE (abb.mp hk).1 R.zJ.1.2.2.2).mp (hk.trans hj.symm))
   refine ⟨us,h1.at λo e=>hs b o cW e,?_⟩
   erw[ajp OI];exact h3
 .exact hs _ _ (R.zJ.2.2.2 _ (adB hp) a ha) (R.held p hp)
 .exact FunFrames.step (λb hb o e hd=>⟨o,hs b o (λq=>(R.mY b hb).2 (q▸ha)) e,hd⟩) R.frames
theorem lG(C:Cx base nm env Y)(R:Rel Y g σ h)(hx:nm.names.lookup x=some .cell)(hi:nm.slots.lookup x=some i)(hv:σ.vars[i]?.getD none=some av):
 ∃c v,Y.lay[i]?=some (.cell c)/\env.cells.lookup x=some c/\h.IsCell c (some v)/\RelV Y.n g av v:=by
 obtain ⟨l,hl,h1⟩:=C.slots x i hi
 rcases h1 with ⟨_,hk⟩ | ⟨c,rfl,hc,_⟩
 .rw[<-C.names,hx]at hk;cases hk
 .obtain ⟨ov,h1,h2⟩:=R.cell i c hl
  rw[hv]at h2
  cases h2 with
  |some h2=>exact ⟨c,_,hl,hc,h1,h2⟩
noncomputable def kL(cells:List (Str×aa9)):List (Str×afc)->List (Str×aa9)->List (Str×aa9)
 |[],acc=>acc
 |(x,k)::r,acc=>kL cells r (if k==.free then (x,(cells.lookup x).getD 0)::acc else acc)
theorem pC(h:∀x∈scope.names,x.2=.free->(env.cells.lookup x.1).isSome=true):aj9 scope env=pure (kL env.cells scope.names []):=by
 unfold aj9
 suffices hs:∀(names:List (Str×afc)) (acc:List (Str×aa9)),(∀x∈names,x.2=.free->(env.cells.lookup x.1).isSome=true)->
  (forIn names acc (λ(x:Str×afc) (r:List (Str×aa9))=>match x with
   |(name,kind)=>if (kind==adD)=true then (do let c <-cellOf env name;pure (ahy ((name,c)::r))) else pure (ahy r)):Sem (List (Str×aa9)))=pure (kL env.cells names acc) by
  have:=hs scope.names [] h
  simp only[bind_pure]at this ⊢
  exact this
 intro names
 induction names with
 |nil=>intro acc _;rfl
 |cons x r ih=>
  intro acc hx
  obtain ⟨x,k⟩:=x
  have hr:=λacc=>ih acc λy hy=>hx y (ad8 _ hy)
  (erw[afK ..];rw[kL])
  by_cases hk:k=.free
  .subst hk
   obtain ⟨c,hc⟩:=afG.mp (hx (x,.free) al6 rfl)
   have e:cellOf env x=pure c:=by unfold cellOf;erw[hc,rfl]
   simp only[beq_self_eq_true,if_true,e,pure_bind,hc,aiH]
   exact hr _
  .have e:(k==adD)=false:=by simpa using hk
   simp only[e,aeG,if_false,pure_bind]
   exact hr _
theorem n5(hc:cells.lookup x=some c)(names:List (Str×afc)):∀(acc:List (Str×aa9)),(acc.lookup x=some c\/(acc.lookup x=none/\(x,adD)∈names))->(kL cells names acc).lookup x=some c:=by
 induction names with
 |nil=>
  intro acc h
  rcases h with h | ⟨_,h⟩
  .exact h
  .simp at h
 |cons a_ r ih=>
  intro acc h
  obtain ⟨y,k⟩:=a_
  rw[kL]
  refine ih _ ?_
  by_cases hk:k=.free
  .subst hk
   simp only[beq_self_eq_true,if_true,ad5]
   by_cases hy:x=y
   .subst hy;simp[hc]
   .have e:(x==y)=false:=by simpa using hy
    rw[e]
    rcases h with h | ⟨h,hm⟩
    .exact .inl h
    .rcases abk.mp hm with q|q
     .cases q;exact absurd rfl hy
     .exact .inr ⟨h,q⟩
  .have e:(k==adD)=false:=by simpa using hk
   simp only[e,aeG,if_false]
   rcases h with h | ⟨h,hm⟩
   .exact .inl h
   .rcases abk.mp hm with q|q
    .cases q;exact absurd rfl hk
    .exact .inr ⟨h,q⟩
noncomputable abbrev Lk(env:Env)(fd:aeV):Prop:=env.code=fd.code/\env.qual=fd.qualname++".<locals>."/\env.globals=fd.globals
theorem kM(D:bP base f fd ps ns body az)(eL:base.NoLimit)
(bq:args.length=ps.length)(jj:ps.length<=ns.length)(tO:args.all (cf 4)=true)
(hB:∀bk Y A s g,Lk bk fd->Cx base (bc fd.scope ns az) bk Y->(∃a,a∈Y.dH/\Y.n<=a)->Y.hold=[]->Y.base=base->jM d Y.fr A->(∃rest,Y.fr=bk::rest)->Rel Y g ⟨args.map some++aar (ns.length-ps.length) none,[]⟩ s.heap->
  ∀(E:aaq->aaD->Prop) (Q:ahE->aaD->Prop),(∀v s' g' σ' x,Kb Y.lo Y.n s.heap s'.heap->Rel Y g' σ' s'.heap->a9 s s'->RelV Y.n g' x v->iD σ' 4 x=some res->Q (.ret v) s')->abJ (abD prog w) A (ajA body bk) Q E s):
 vD prog w (d+1) base (.ref f) args res:=by
 intro fr A s vs E Q hA hb jD hT nR hQ
 have ud:ak s.heap.objs.size ⟨f7 (iG fr) [] s.heap,[]⟩ args vs:=ak.tH (λx v=>t9 (λa o e=>e) 4 x v) tO nR
 refine ajq (KG D eL (H:=[]) hA hb jD hT ⋯ (λp hp=>by simp at hp) (λp hp=>by simp at hp) bq jj ud λbk Y dx hE V1 hs Hm KJ wx C5 rB E9 ug fQ ui=>?_)
 refine hB bk Y (A.deeper bk) dx _ hE V1 hs KJ C5 E9 ⟨fr,wx⟩ ug _ _ λv s' g' σ' x kb R' m' hv abP=>?_
 have hr:=ub R' 4 x res v abP hv
 rw[Hm]at hr
 refine hQ v s' (λa o e=>?_) (ui.trans m') hr
 have Ip:a∉dT fr->a∉dT Y.fr:=λhn=>by
  (erw[wx,um rB];rw[abk];rw[not_or]);exact ⟨ac4 (abZ e),hn⟩
 rcases kb a o (by erw[Hm];exact abZ e) (fQ a o e) with ⟨sl,e1,n1⟩ | ⟨ho,CY,t,ht,hP,c,hc,hg,hr⟩
 .exact .inl ⟨sl,e1,λhn=>n1 (Ip hn)⟩
 .refine .inr ⟨ho,λhn=>?_,t,ht,hP,c,λb ob eb=>aaO (abZ eb) (by erw[<-Hm];exact hc),hg,hr⟩
  obtain ⟨_,o',oE,C4⟩:=afX jD hn
  rw[e,ho]at oE;obtain rfl:=aac oE
  exact C4 _ rfl
structure yv (base:adF) (fd:aeV) (P:aa9):Prop where
 code:∃c,fd.code=.ref c/\CodeHd base c P
 glob:fd.globals=mainGlobals
 mg:∃mg,base.Ns mainGlobals mg/\∃bm ob,mg "__builtins__"=some (.ref bm)/\bm≠builtinsNs/\bm≠mainGlobals/\bm≠P/\base.get? bm=some ob/\ob.cls=.type "module"/\ob.dict=some builtinsNs/\ob.data=.plain
noncomputable def wE(g:Gh)(c:aa9)(q:Str):Prop:=∃oc vs tt,g.z c=some oc/\oc.data=.fields vs/\vs[1]?=some (.str q tt)
theorem wE.sL(x:wE g c q)(R:Rel Y g σ h):h.CodeRec (.ref c) q:=(by obtain ⟨oc,vs,tt,h1,h2,h3⟩:=x;exact ⟨c,oc,vs,tt,rfl,R.eQ _ _ h1,h2,h3⟩)
theorem wE.mono(x:wE g c q)(l:g.le g'):wE g' c q:=(by obtain ⟨oc,vs,tt,h1,h2,h3⟩:=x;exact ⟨oc,vs,tt,l.1 _ _ h1,h2,h3⟩)
theorem Fq
(C:Cx base nm env Y)(hs:∃a,a∈Y.dH/\Y.n<=a)(R:Rel Y g σ s.heap)(ht:t∈aX)(hE:Lk env fd)(N:yv base fd t.P)(U1:mainGlobals≠t.P)
(hd0:params.defaults=[])(hk0:params.kw_defaults=[])(ha:annTrees params none env=[])
(Ln:∀c',#[rawInt pos.line,rawInt pos.col,.ref c']=t.item c')(abR:qualnameIn env name name=t.qual)(sU:aj9 scope env=pure n6)(hj:bK nm name=some j)
(hQ:∀s' g' f o doc pm rD c',Kb Y.lo Y.n s.heap s'.heap->g.le g'->Rel Y g' (σ.put j (.obj (.ref f))) s'.heap->a9 s s'->g'.z f=some o->o.data=.func (fnX name t.qual params body scope n6 .none .none doc pm none (.ref c') rD)->wE g' c' t.qual->Q .next s'):
 abJ (abD prog w) A (exec (.FunctionDef name params body [] none [] scope none name pos) env) Q E s:=by
 obtain ⟨c,hc,hCd⟩:=N.code
 obtain ⟨mg,hmg,bm,ob,b1,b2,b3,b4,b5,b6,b7,b8⟩:=N.mg
 have kB:KS base s.heap:=λa o e=>R.cC a o (C.keep a o e)
 have hg:s.heap.Ns mainGlobals mg:=hmg.keeps kB
 have hC:=hCd.keeps kB
 have hb:s.heap.BuiltinsAt mg t.P:=⟨bm,ob,b1,b2,b3,b4,kB _ _ b5,b6,b7,b8⟩
 have key:∀(h':adF) (tk:Tok) (c':aa9) (rD doc:aaq),aW Y.lo s.heap h'->(∃oc vs tt,(g.add (above s.heap (h'.push (alg name t.qual params body scope n6 doc ((mg "__name__").getD .none) c' rD)))).z c'=some oc/\oc.data=.fields vs/\vs[1]?=some (.str t.qual tt))->
  abJ (abD prog w) A (akC env name (.ref h'.objs.size)) (λV vK=>Q .next vK) E {s with heap:=h'.push (alg name t.qual params body scope n6 doc ((mg "__name__").getD .none) c' rD),toks:=tk}:=λh' tk c' rD doc k hr=>by
  have k2:aW Y.lo s.heap (h'.push (alg name t.qual params body scope n6 doc ((mg "__name__").getD .none) c' rD)):=k.trans (cj _ _)
  have R':=R.take (s':={s with heap:=h'.push (alg name t.qual params body scope n6 doc ((mg "__name__").getD .none) c' rD),toks:=tk}) k2
  have abS:s.heap.get? h'.objs.size=none:=by
   cases e:s.heap.get? h'.objs.size with
   |none=>rfl
   |some o=>exact absurd (k.live e) (adP _)
  refine ck (s:={s with heap:=h'.push (alg name t.qual params body scope n6 doc ((mg "__name__").getD .none) c' rD),toks:=tk}) C R' hj (.obj _) λqm bb aM a6=>?_
  have hz:(g.add (above s.heap (h'.push (alg name t.qual params body scope n6 doc ((mg "__name__").getD .none) c' rD)))).z h'.objs.size=some (alg name t.qual params body scope n6 doc ((mg "__name__").getD .none) c' rD):=by
   have e1:g.z h'.objs.size=none:=by
    cases e:g.z h'.objs.size with
    |none=>rfl
    |some o=>have:=R.eQ _ _ e;rw[abS]at this;cases this
   simp only[Gh.add,e1,ai7]
   rw[lz abS]
   exact ac0 _ rfl
  refine hQ qm _ h'.objs.size _ doc _ rD c' ((R.kb hs k2).trans bb aM) (Gh.dj _ _) aM ⟨a6.1,a6.2,a6.3⟩ hz rfl hr
 refine nestDef_K hd0 hk0 ha ?_
 erw[abR]
 have As:env.globals=mainGlobals:=hE.2.2.trans N.glob
 have Tl:env.code=.ref c:=hE.1.trans hc
 rcases R.tabs t ht with hP | ⟨t',zI,hp,c',oc,vs,tt,h1,h2,h3,h4⟩
 .refine makeFunction_K (mg:=mg) sU As hg Tl hC hP trivial rfl U1 hb λc' rD doc h' tk hx zp bA abT htb=>?_
  refine key h' tk c' rD doc (λa o e=>?_) (by
   obtain ⟨c₂,oc,vs,tt,e,ho,hd,hv⟩:=abT
   cases e
   have hcn:s.heap.get? c'=none:=by
    cases e:s.heap.get? c' with
    |none=>rfl
    |some o=>exact absurd (aaO (abZ e) zp) (adP _)
   refine ⟨oc,vs,tt,?_,hd,hv⟩
   have e1:g.z c'=none:=by
    cases e:g.z c' with
    |none=>rfl
    |some o=>have:=R.eQ _ _ e;rw[hcn]at this;cases this
   simp only[Gh.add,e1,ai7]
   rw[lz hcn];exact abo _ ho)
  by_cases q:a=t.P
  .subst q
   rw[hP]at e;obtain rfl:=aac e
   refine .inr ⟨rfl,(R.d6 t ht).2.2,t,ht,rfl,c',λb o eb=>aaO (abZ eb) zp,?_,abT⟩
   erw[htb,<-Ln ..];simp
  .exact .inl ⟨o.slots,hx a o q e,λV=>rfl⟩
 .have:=oS t ht t' zI hp
  subst this
  refine makeFunction_hit (mg:=mg) (cv:=.ref c') sU As hg Tl hC h1 (by erw[<-Ln ..];exact trivial) (by erw[<-Ln ..];simp[codeAmong,rawInt]) hb λrD doc h' tk hk cL=>?_
  exact key h' tk c' rD doc (aW.of hk) ⟨oc,vs,tt,(Gh.dj _ _).1 _ _ h2,h3,h4⟩
end
section
variable{prog:aas}{w:abI}{A:adV}{Y:Lay}{g:Gh}{σ:bj}{s:aaD}{d:Nat}{base:adF}{nm:NI}{env:Env}{RF:cQ}{h h':adF}
theorem wF:∀{zs:List Int} {vs:List aaq},dq zs vs->ak n g (zs.map AV.int) vs
 |[],_,.nil=>.nil
 |z::zs,_,.cons h1 h2=>by cases h1;exact .cons (.int _ _) (wF h2)
structure yw (t:CB) (fd:aeV) (name:Str) (params:akH) (scope:aiC) (pos:Pos):Prop where
 mem:t∈aX
 main:mainGlobals≠t.P
 dflt:params.defaults=[]
 kw:params.kw_defaults=[]
 ann:∀env,annTrees params none env=[]
 item:∀c',#[rawInt pos.line,rawInt pos.col,.ref c']=t.item c'
 qual:fd.qualname++".<locals>."++name=t.qual
inductive abU (params:akH) (jE:List ahs) (cy:aiC) (pos:Pos) (E0 Lp mj:ado) (fR:List ado):List ahs->Prop
 |mk (p1 p4 p5 p6 p7 p8 p9 Ax C8:Pos):abU params jE cy pos E0 Lp mj fR [.Assign [.Name "a_digits" p1] (.BinOp E0 .Mult Lp p4) p5,.FunctionDef "inner" params jE [] none [] cy none "inner" pos,
  .If mj [.Expr (.Call (.Name "inner" p6) fR [] p7) p8] [] p9,.Return (some (.Name "a_digits" Ax)) C8]
theorem pD(h1:nm.names.lookup x=some .cell)(h2:nm.slots.lookup x=some i):bK nm x=some i:=by
 unfold bK
 rw[h1];exact h2
theorem pE(h1:(x==("__debug__":Str)||x==("__classdict__":Str))=false)(h2:nm.slots.lookup x=some i):bZ nm x=some (.var i):=by
 unfold bZ
 rw[h1,h2];rfl
theorem fX(C:Cx base nm env Y)(h1:nm.names.lookup x=some .cell)(h2:nm.slots.lookup x=some i):(env.cells.lookup x).isSome=true:=by
 obtain ⟨l,hl,h3⟩:=C.slots _ _ h2
 rcases h3 with ⟨_,hk⟩ | ⟨c,_,hc,_⟩
 .rw[<-C.names,h1]at hk;exact nomatch (aac hk)
 .erw[hc];rfl
theorem uw(C:Cx base nm env Y)(hE:Lk env fd)(h:nm.names.lookup ("inner":Str)=some .cell)(T:yw t fd "inner" params scope pos):qualnameIn env "inner" "inner"=t.qual:=by
 unfold qualnameIn
 (rw[<-C.names];erw[h,hE.2.1])
 exact T.qual
theorem ux{scope:aiC}{l:List Str}(hf:∀x∈scope.names,x.2=.free->x.1∈l)(hc:∀x∈l,(env.cells.lookup x).isSome=true):aj9 scope env=pure (kL env.cells scope.names []):=pC λx hx h=>hc _ (hf x hx h)
theorem PW{f:aa9}{fd:aeV}{body jE:List ahs}{params:akH}{cy:aiC}{pos:Pos}{E0 Lp mj:ado}{fR:List ado}{az:List (Str×AV)}{t:CB}{ke k:Nat}{im YB:IE}{ies:GC}{it:IT}{a n m:Int}{res:List Int}
(D:bP base f fd ["a","n"] ["a","n","a_digits","inner"] body az)(eL:base.NoLimit)(O:abU params jE cy pos E0 Lp mj fR body)(T:yw t fd "inner" params cy pos)(N:yv base fd t.P)
(hn1:fd.scope.names.lookup ("n":Str)=some .cell)(JG:fd.scope.names.lookup ("a_digits":Str)=some .cell)(hn3:fd.scope.names.lookup ("inner":Str)=some .cell)
(ek:∀x∈cy.names,x.2=.free->x.1∈(["n","a_digits","inner"]:List Str))(Dj:∀x∈(["n","a_digits","inner"]:List Str),(x,adD)∈cy.names)
(Cm:∀n6 doc pm rD c',In1 (fnX "inner" t.qual params jE cy n6 .none .none doc pm none (.ref c') rD))
(h0:ei ke (bc fd.scope ["a","n","a_digits","inner"] az) E0=some YB)(h0v:aA me YB ⟨[some (.int a),some (.int n),none,none],[]⟩=some (.lst [.int 0]))
(hmul:ei ke (bc fd.scope ["a","n","a_digits","inner"] az) Lp=some im)(abV:aA me im ⟨[some (.int a),some (.int n),none,none],[]⟩=some (.int m))
(Lq:zM ke (bc fd.scope ["a","n","a_digits","inner"] az) mj=some it)(Dk:∀x y o,iZ me it ⟨[some (.int a),some (.int n),x,y],o⟩=some (a !=0))
(Lr:CG ke (bc fd.scope ["a","n","a_digits","inner"] az) fR=some ies)(Dl:∀y,iE me ies ⟨[some (.int a),some (.int n),some (.own 0),y],[aar m.toNat (.int 0)]⟩=some [.int a,.int 0,.int m])
(cW:fR≠[])(hm0:0<=m)(YC:m<=2^20)(hk:k<=40)(kK:(if a≠0 then Ld n k a 0 m (aar m.toNat 0) else some (aar m.toNat 0))=some res):
 vD prog w (d+1) base (.ref f) [.int a,.int n] (.lst (res.map .int)):=by
 refine kM D eL rfl ⋯ rfl λbk Y A s g hE C hs KJ C5 hA ⟨rest,wx⟩ R E Q hQ=>?_
 have c1:(bc fd.scope ["a","n","a_digits","inner"] az).names.lookup ("n":Str)=some .cell:=hn1
 have c2:(bc fd.scope ["a","n","a_digits","inner"] az).names.lookup ("a_digits":Str)=some .cell:=JG
 have c3:(bc fd.scope ["a","n","a_digits","inner"] az).names.lookup ("inner":Str)=some .cell:=hn3
 have sl1:(bc fd.scope ["a","n","a_digits","inner"] az).slots.lookup ("n":Str)=some 1:=rfl
 have we:(bc fd.scope ["a","n","a_digits","inner"] az).slots.lookup ("a_digits":Str)=some 2:=rfl
 have PX:(bc fd.scope ["a","n","a_digits","inner"] az).slots.lookup ("inner":Str)=some 3:=rfl
 generalize bc fd.scope ["a","n","a_digits","inner"] az=nm at *
 cases O with
 |mk p1 p4 p5 p6 p7 p8 p9 Ax C8=>
 have R0:Rel Y g ⟨[some (.int a),some (.int n),none,none],[]⟩ s.heap:=R
 have S:=pp (prog:=prog) (w:=w) (d:=d) C hs ke
 refine a8 λHv Hw ph V V=>agw (aiU ((S.e _ _ h0 A s g _ _ hA R0 h0v).then λv dx aR mt aY aQ aV bO=>(S.e _ _ hmul A dx aR _ _ hA aQ abV).then λu qm bD bb bt aM a6 cD=>?_)) (ci rfl)
 apply RelV.bV cD;intro _
 (refine Ib (aD aM (bO.mono bt) rfl) λla vs iB hl hv=>?_;obtain rfl:=iB)
 revert hl
 apply ak.gD hv;intro v0 _ hv1 Sd
 apply ak.oR Sd
 intro hl
 refine tF hl hm0 YC rfl ?_
 erw[ly ..,aiu]
 have hnn:Y.n<=qm.heap.objs.size:=dE R0 (mt.trans bb) hs aM
 refine Yp (aM.Jg hnn (ak.replicate hv1 m.toNat) (e:=0)) λgw fM wv bW=>?_
 refine ck C (s:={qm with heap:=_}) bW (pD c2 we) (.own wv) λd7 jo gf eV=>ph _ ?_
 have La:Kb Y.lo Y.n s.heap d7.heap:=(R0.kb hs ((mt.trans bb).trans (cj _ _))).trans jo gf
 have nU:a9 s d7:=(aV.trans a6).trans ⟨eV.1,eV.2,eV.3⟩
 have abX:Rel Y gw ⟨[some (.int a),some (.int n),some (.own 0),none],[aar m.toNat (.int 0)]⟩ d7.heap:=gf
 have sU:=ux ek λx hx=>by
  simp only[abk,adH,or_false]at hx
  rcases hx with rfl|rfl|rfl
  .exact fX C c1 sl1
  .exact fX C c2 we
  .exact fX C c3 PX
 refine a8 λKX KY yl V V=>Fq C hs abX T.mem hE N T.main T.dflt T.kw (T.ann bk) T.item (uw C hE c3 T) sU (pD c3 PX) λiq o5 fi o doc pm rD c' AJ zX dX kH hzf hdf hcr=>yl _ ?_
 have AU:Rel Y o5 ⟨[some (.int a),some (.int n),some (.own 0),some (.obj (.ref fi))],[aar m.toNat (.int 0)]⟩ iq.heap:=dX
 have WB:=La.trans AJ dX
 have ab0:=nU.trans kH
 refine a8 λHx KZ rC V V=>?_
 have dD:∀s' g',Kb Y.lo Y.n s.heap s'.heap->a9 s s'->Rel Y g' ⟨[some (.int a),some (.int n),some (.own 0),some (.obj (.ref fi))],[res.map AV.int]⟩ s'.heap->Hx .next s':=λs' g' kb m R'=>
  rC _ (aft (af7 (dZ (RF:=me) C R' (pE rfl we) rfl λu vu=>hQ u s' g' _ _ kb R' m vu (mh _ _ _))))
 refine amI ((S.t _ _ Lq A iq o5 _ _ hA AU (Dk _ _ _)) _ _ λnY vM uq yr db pj=>?_)
 have AW:=WB.trans (AU.kb hs uq) db
 have AX:=ab0.trans pj
 by_cases Tm:a=0
 .subst Tm
  rw[if_neg (λq=>q rfl)]at kK
  obtain rfl:=aac kK
  exact afb (dD nY vM AW AX (by erw[al7];exact db))
 .rw[if_pos Tm]at kK
  erw[(show (a !=0)=true from bne_iff_ne.mpr Tm),if_pos rfl]
  refine exF (S.es _ _ Lr) λWC WD _=>?_
  refine a8 λV8 V9 Db V V=>ah6 (ej λWa Wc Dc V=>af2 (aO WD p7) ((dp (RF:=me) C db (pE rfl PX) rfl).then λfv vO Ls Lv AY iK yt Lw=>?_)) (dR C) rfl
  apply RelV.nG Lw
  obtain ⟨e1,r1,Lx⟩ :∃e1 r1,fR=e1::r1:=by
   cases fR with
   |nil=>exact absurd rfl cW
   |cons e1 r1=>exact ⟨e1,r1,rfl⟩
  have ev:=WC A vO Ls _ _ hA iK (Dl _)
  rw[Lx]at ev ⊢
  refine agg (o:=o) (fd:=fnX "inner" t.qual params jE cy (kL bk.cells cy.names []) .none .none doc pm none (.ref c') rD) (adL (ev _ _ λab1 Hz PG K4 ym d8 K5 K6=>⟨⟨d8.eQ _ _ (ym.1 _ _ (AY.1 _ _ (yr.1 _ _ hzf))),hdf⟩,?_⟩))
  apply ak.gD K6;intro _ _ w1 w2
  apply ak.gD w2;intro _ _ w2 w3
  apply ak.gD w3;intro _ _ w3 w4
  apply ak.oR w4
  apply RelV.bV w1;intro _
  apply RelV.bV w2;intro _
  apply RelV.bV w3;intro _
  have ab2:=AW.trans (db.kb hs (Lv.trans K4)) d8
  have ab3:=(AX.trans yt).trans K5
  refine zu (lG (i:=1) (av:=.int n) C d8 c1 sl1 rfl) λcN vN hlN hcN WF hrN=>?_
  refine zu (lG (i:=2) (av:=.own 0) C d8 c2 we rfl) λcA vA hlA hcA hvA hrA=>?_
  refine zu (lG (i:=3) (av:=.obj (.ref fi)) C d8 c3 PX rfl) λcI vI N0 hcI WG hrI=>?_
  revert WF WG
  apply RelV.bV hrN;intro tN
  apply RelV.nG hrI
  intro WF WG
  (refine zu (pe d8 hrA (xs:=aar m.toNat (.int 0)) rfl) λal vsl iB Ly pf WH=>?_;obtain rfl:=iB)
  have Dm:∀{x:Str} {c:aa9},bk.cells.lookup x=some c->x∈(["n","a_digits","inner"]:List Str)->(kL bk.cells cy.names []).lookup x=some c:=λ{x c} hc hx=>n5 hc _ _ (.inr ⟨rfl,Dj x hx⟩)
  have kB:KS base Hz.heap:=λa o e=>d8.cC a o (C.keep a o e)
  refine Ws (al:=al) (n:=n) (Cm _ _ _ _ _) k a 0 m _ res kK A Hz vsl _ _ _ _ _ (by have:=hA.depth;exact %[a+b<950,b<=40,a+c<=900|bJ hk this]) ⟨⟨o,d8.eQ _ _ (ym.1 _ _ (AY.1 _ _ (yr.1 _ _ hzf))),hdf⟩,eL.keeps kB,(hcr.mono ((yr.trans AY).trans ym)).sL d8,
   ⟨cA,Dm hcA (.tail _ (.head _)),hvA⟩,⟨cI,Dm hcI (.tail _ (.tail _ (.head _))),WG⟩,⟨cN,_,Dm hcN (.head _),WF⟩⟩ pf (pq (by erw[al7];exact WH)) λPH ahU AA ab4 ab5 K7=>Dc _ _ ?_
  have Pb:=d8.Wz (xs:=res.map AV.int) Ly (wF ab5) ab4 AA
  refine Db _ (afb (dD PH PG (ab2.trans (Kb.fw (wr:=[al]) (λb o hb e=>AA b o (by simpa using hb) e) λb hb=>?_) Pb) (ab3.trans K7) Pb))
  rw[abF]
  exact ac4 (aaO hb (t0 d8 Ly))
end
section
variable{prog:aas}{w:abI}{A:adV}{Y:Lay}{g:Gh}{σ:bj}{s:aaD}{d:Nat}{base:adF}{nm:NI}{env:Env}{RF:cQ}{h h':adF}
noncomputable def Lz(n:Int)(items:List Int):Nat->Int->Int->Option Int
 |0,_,_=>none
 |k+1,L,R=>
  if L+1=R then (if 0<=L/\L<2^62 then items[L.toNat]? else none)
  else (pB .Mult ((L+R).fdiv (2^(1:Int).toNat)-L) n).bind λsh=>(Lz n items k ((L+R).fdiv (2^(1:Int).toNat)) R).bind λhi=>(pB .LShift hi sh).bind λup=>
   (Lz n items k L ((L+R).fdiv (2^(1:Int).toNat))).map λlo=>up+lo
noncomputable def LA:List Str:=["L","R","mid","shift"]
inductive ab6:FuncBody->Prop
 |mk (p1 p2 p3 p4 p5 p6 p7 p8 p9 Ax C8 Ih Ht Ff Ii Ij Ik Il Im Io KR KU KV SN SQ SR SU SV SW p30 p31 p32 p33 p34 p35 p36:Pos) (k1 k2:Nat):ab6 (.stmts
  [.If (.Compare (.BinOp (.Name "L" p1) .Add (.Constant (.int 1) k1 p2) p3) [.Eq] [.Name "R" p4] p5)
    [.Return (some (.Subscript (.Name "digits" p6) (.Name "L" p7) p8)) p9] [] Ax,
   .Assign [.Name "mid" C8] (.BinOp (.BinOp (.Name "L" Ih) .Add (.Name "R" Ht) Ff) .RShift (.Constant (.int 1) k2 Ii) Ij) Ik,
   .Assign [.Name "shift" Il] (.BinOp (.BinOp (.Name "mid" Im) .Sub (.Name "L" Io) KR) .Mult (.Name "n" KU) KV) SN,
   .Return (some (.BinOp (.BinOp (.Call (.Name "inner" SQ) [.Name "mid" SR,.Name "R" SU] [] SV) .LShift (.Name "shift" SW) p30) .Add (.Call (.Name "inner" p31) [.Name "L" p32,.Name "mid" p33] [] p34) p35)) p36])
structure In2 (fd:aeV):Prop where
 sY:Le fd LA "digits"
 text:ab6 fd.body
 bind:∀a b:aaq,bindArgs fd ⟨[a,b],[]⟩=pure [(("L":Str),a),(("R":Str),b)]
structure YD (h:adF) (f:aa9) (fd:aeV) (al:aa9) (vs:List aaq) (n:Int):Prop where
 at_:Lf h f fd "digits" al n
 lst:h.IsList al vs.toArray
theorem YD.step(X:YD h f fd al vs n)(k:KS h h'):YD h' f fd al vs n:=
 ⟨X.at_.step λb o V e=>k b o e,(by obtain ⟨o,ho,hc,e,hd⟩:=X.lst;exact ⟨o,k _ _ ho,hc,e,hd⟩)⟩
noncomputable def l2(L R:Int):List (Str×Int):=[("L",L),("R",R)]
noncomputable def WK(prog:aas)(w:abI)(f al:aa9)(fd:aeV)(n:Int)(items:List Int)(vs:List aaq)(k:Nat):Prop:=∀(L R z:Int),Lz n items k L R=some z->∀(A:adV) (s:aaD) (tL tR:Tok) (E Q:aaq->aaD->Prop),A.depth+k<950->
 YD s.heap f fd al vs n->(∀s' t,KS s.heap s'.heap->a9 s s'->Q (.int z t) s')->
 abJ (abD prog w) A (call (.ref f) [.int L tL,.int R tR] []) Q E s
theorem AZ(T:Le fd LA "digits")(Ee:N3 fd env)(X:YD h₀.heap f fd al vs n)
(hL:rj prog w A env h₀ (λy=>(lk (l2 L R) y).or (lk [(("n":Str),n)] y)))(hv:dq items vs)(h0:0<=L)(h2:L<2^62)(h:items[L.toNat]?=some z)
(hQ:∀t tk,Q (.int z t) {h₀ with toks:=tk}):abJ (abD prog w) A (eval (.Subscript (.Name "digits" p6) (.Name "L" p7) p8) env) Q E {h₀ with toks:=tk}:=by
 refine bz X.at_.ad λca G7 Wr=>?_
 refine akg (ut (s:={h₀ with toks:=tk}) T Ee (.head _) G7 Wr ⋯ ⋯ (cE (k:=9) (z:=L) hL rfl λt' PR=>?_))
 have bA:L.toNat<vs.length:=by
  have:=(abb.mp h).1
  have e:=hv.length
  rw[aan]at e;exact %[a<b,a<c,c=b|bJ this e]
 (refine bU (hv.get (abz bA)) λz' dQ=>?_;refine bU dQ λt'' di=>?_;have hz':=di.1;have hu:=di.2;clear di dQ)
 obtain rfl:=aac (h.symm.trans hz')
 exact nQ (s:={h₀ with toks:=PR}) X.lst.typeIs akn.lookup (ana X.lst h0 %[a>(qL 2 63),a>(qL 2 62)|(fK h2)] (by (erw[af9,abz bA,hu,rfl])) (hQ _ _))
theorem WL(T:In2 fd)(hv:dq items vs)(k:Nat):WK prog w f al fd n items vs k:=by
 induction k with
 |zero=>exact λL R z h=>aq h
 |succ k ih=>
  intro L R z h A s tL tR E Q hd X hQ
  have hB:=T.text
  generalize hbd:fd.body=B at hB
  cases hB with
  |mk p1 p2 p3 p4 p5 p6 p7 p8 p9 Ax C8 Ih Ht Ff Ii Ij Ik Il Im Io KR KU KV SN SQ SR SU SV SW p30 p31 p32 p33 p34 p35 p36 k1 k2=>
  refine wD (zl:=l2 L R) T.sY X.at_ %[a<1000,a+(b+1)<950|(aP hd)] hbd (T.bind _ _) (λy hy=>?_) (λy z hz=>?_) λenv yu afV afW Ee AR hk PU V=>?_
  .simp only[abk,adH,or_false]at hy
   rcases hy with rfl|rfl
   .exact .head _
   .exact .tail _ (.head _)
  .have hm:=Dh hz
   simp only[l2,aa6,ahc,abk,adH,or_false]at hm
   rcases hm with rfl|rfl
   .obtain rfl:L=z:=aac hz;exact ⟨tL,rfl⟩
   .obtain rfl:R=z:=aac hz;exact ⟨tR,rfl⟩
  have cT:∃c t,fd.closure.lookup ("n":Str)=some c/\s.heap.IsCell c (some (.int n t))/\¬False:=(by obtain ⟨c,t,h1,h2⟩:=X.at_.n;exact ⟨c,t,h1,h2,id⟩)
  have Di:=eX (prog:=prog) (w:=w) (A:=A.deeper env) T.sY Ee AR rfl cT
  refine a8 λHv Hw ph Wt V=>amI (ajC (cE (s:=yu) (tk:=yu.toks) (k:=9) (z:=L+1) Di rfl λt tk=>cE (k:=9) (z:=R) Di rfl λu Yw=>eq_int (wpAny_truthy_bool ?_)) rfl)
  unfold Lz at h
  by_cases PV:L+1=R
  .rw[if_pos PV]at h
   erw[(show (L+1==R)=true from beq_iff_eq.mpr PV),if_pos rfl]
   exact dS h λhb h=>aft (af7 (AZ (h₀:=yu) T.sY Ee (X.step hk) Di hv hb.1 hb.2 h λt' PR=>Wt _ _ (PU _ _ (hQ _ _ hk (AR.same.trans ⟨rfl,rfl,rfl⟩)))))
  .rw[if_neg PV]at h
   erw[(show (L+1==R)=false from beq_eq_false_iff_ne.mpr PV),if_neg agI]
   refine ax h λsh hsh h=>ax h λhi Vk h=>ax h λup Oa h=>bC h λlo hlo hz=>afb (ph _ ?_)
   refine a8 λKX KY yl V V=>lF (z:=(L+R).fdiv (2^(1:Int).toNat)) T.sY Ee (AR.tok _) rfl cT (.tail _ (.tail _ (.head _))) rfl rfl λdx Wu=>yl _ ?_
   generalize afZ:(L+R).fdiv (2^(1:Int).toNat)=mid at *
   refine a8 λHx KZ rC V V=>lF (z:=sh) T.sY Ee Wu rfl cT (.tail _ (.tail _ (.tail _ (.head _)))) hsh rfl λqm AT=>rC _ ?_
   have agc:=eX (prog:=prog) (w:=w) (A:=A.deeper env) T.sY Ee AT rfl cT
   have Fs:YD qm.heap f fd al vs n:=X.step λb o e=>AT.keep b o (λq=>q) e
   refine aft (af7 (aiU (aiU (AP (s:=qm) (tk:=qm.toks) (a:=mid) (b:=R) T.sY Ee agc Fs.at_ rfl rfl λt1 t2 tk2=>?_))))
   refine ih mid R hi Vk (A.deeper env) {qm with toks:=tk2} t1 t2 _ _ (by show A.depth+1+k<950;exact %[a+1+b<950,a+(b+1)<950|aP hd]) Fs λce t3 cY cU=>?_
   have Li:IA (λV=>False) s env _ ce:=⟨(by obtain ⟨m,hn,hm⟩:=AT.ns;exact ⟨m,hn.keeps cY,hm⟩),λb o hb e=>cY b o (AT.keep b o hb e),AT.new,AT.same.trans ⟨cU.1,cU.2,cU.3⟩⟩
   have ab7:=eX (prog:=prog) (w:=w) (A:=A.deeper env) T.sY Ee Li rfl cT
   refine cE (k:=9) (z:=sh) (tk:=ce.toks) ab7 rfl λt4 tk4=>Fn (s:={ce with toks:=tk4}) Oa λt5 tk5=>?_
   refine AP (s:=ce) (tk:=tk5) (a:=L) (b:=mid) T.sY Ee ab7 (Fs.step cY).at_ rfl rfl λt1 t2 tk2=>?_
   refine ih L mid lo hlo (A.deeper env) {ce with toks:=tk2} t1 t2 _ _ (by show A.depth+1+k<950;exact %[a+1+b<950,a+(b+1)<950|aP hd]) (Fs.step cY) λd7 t6 jo eV=>?_
   exact add_int (PU _ _ (hz▸hQ _ _ (λb o e=>jo b o (Li.keep b o (λq=>q) e)) (Li.same.trans ⟨eV.1,eV.2,eV.3⟩)))
end
section
variable{prog:aas}{w:abI}{A:adV}{Y:Lay}{g:Gh}{σ:bj}{s:aaD}{d:Nat}{base:adF}{nm:NI}{env:Env}{RF:cQ}{h h':adF}
inductive ab8 (params:akH) (jE:List ahs) (cy:aiC) (pos:Pos) (mj Ft:ado) (fR:List ado):List ahs->Prop
 |mk (p1 p2 p3 p4:Pos):ab8 params jE cy pos mj Ft fR [.FunctionDef "inner" params jE [] none [] cy none "inner" pos,.Return (some (.IfExp mj (.Call (.Name "inner" p1) fR [] p2) Ft p3)) p4]
theorem Do(zs:List Int):cf 4 (.bor (zs.map .int))=true:=aaG.mpr λx hx=>let ⟨z,_,e⟩:=ac2.mp hx;e▸rfl
theorem PY
(D:bP base f fd ["digits","n"] ["digits","n","inner"] body az)(eL:base.NoLimit)(O:ab8 params jE cy pos mj Ft fR body)(T:yw t fd "inner" params cy pos)(N:yv base fd t.P)
(hn1:fd.scope.names.lookup ("digits":Str)=some .cell)(JG:fd.scope.names.lookup ("n":Str)=some .cell)(hn3:fd.scope.names.lookup ("inner":Str)=some .cell)
(ek:∀x∈cy.names,x.2=.free->x.1∈(["digits","n","inner"]:List Str))(Dj:∀x∈(["digits","n","inner"]:List Str),(x,adD)∈cy.names)
(Cm:∀n6 doc pm rD c',In2 (fnX "inner" t.qual params jE cy n6 .none .none doc pm none (.ref c') rD))
(h0:ei ke (bc fd.scope ["digits","n","inner"] az) Ft=some YB)(h0v:∀y o,aA me YB ⟨[some (.bor (zs.map .int)),some (.int n),y],o⟩=some (.int 0))
(Lq:zM ke (bc fd.scope ["digits","n","inner"] az) mj=some it)(Dk:∀y o,iZ me it ⟨[some (.bor (zs.map .int)),some (.int n),y],o⟩=some (zs.length !=0))
(Lr:CG ke (bc fd.scope ["digits","n","inner"] az) fR=some ies)(Dl:∀y o,iE me ies ⟨[some (.bor (zs.map .int)),some (.int n),y],o⟩=some [.int 0,.int zs.length])
(cW:fR≠[])(hk:k<=40)(kK:(if zs.length≠0 then Lz n zs k 0 zs.length else some 0)=some res):
 vD prog w (d+1) base (.ref f) [.bor (zs.map .int),.int n] (.int res):=by
 refine kM D eL rfl ⋯ (by (erw[akS,Do ..]);rfl) λbk Y A s g hE C hs KJ C5 hA ⟨rest,wx⟩ R E Q hQ=>?_
 have c1:(bc fd.scope ["digits","n","inner"] az).names.lookup ("digits":Str)=some .cell:=hn1
 have c2:(bc fd.scope ["digits","n","inner"] az).names.lookup ("n":Str)=some .cell:=JG
 have c3:(bc fd.scope ["digits","n","inner"] az).names.lookup ("inner":Str)=some .cell:=hn3
 have sl1:(bc fd.scope ["digits","n","inner"] az).slots.lookup ("digits":Str)=some 0:=rfl
 have we:(bc fd.scope ["digits","n","inner"] az).slots.lookup ("n":Str)=some 1:=rfl
 have PX:(bc fd.scope ["digits","n","inner"] az).slots.lookup ("inner":Str)=some 2:=rfl
 generalize bc fd.scope ["digits","n","inner"] az=nm at *
 cases O with
 |mk p1 p2 p3 p4=>
 have R0:Rel Y g ⟨[some (.bor (zs.map .int)),some (.int n),none],[]⟩ s.heap:=R
 have S:=pp (prog:=prog) (w:=w) (d:=d) C hs ke
 have sU:=ux ek λx hx=>by
  simp only[abk,adH,or_false]at hx
  rcases hx with rfl|rfl|rfl
  .exact fX C c1 sl1
  .exact fX C c2 we
  .exact fX C c3 PX
 refine a8 λHv Hw ph V V=>Fq C hs R0 T.mem hE N T.main T.dflt T.kw (T.ann bk) T.item (uw C hE c3 T) sU (pD c3 PX) λiq o5 fi o doc pm rD c' AJ zX dX kH hzf hdf hcr=>ph _ ?_
 have AU:Rel Y o5 ⟨[some (.bor (zs.map .int)),some (.int n),some (.obj (.ref fi))],[]⟩ iq.heap:=dX
 refine a8 λKX KY V PQ V=>af7 (ej λHx KZ rC V=>wpAny_IfExp ((S.t _ _ Lq A iq o5 _ _ hA AU (Dk _ _)) _ _ λnY vM uq yr db pj=>?_))
 have AW:=AJ.trans (AU.kb hs uq) db
 have AX:=kH.trans pj
 by_cases Tm:zs.length=0
 .rw[if_neg (λq=>q Tm)]at kK
  obtain rfl:=aac kK
  erw[(show (zs.length !=0)=false from bne_eq_false_iff_eq.mpr Tm),if_neg agI]
  exact (S.e _ _ h0 A nY vM _ _ hA db (h0v _ _)).then λv vO Ls Lv AY iK yt Lw=>rC _ _ (PQ _ _ (hQ v vO Ls _ _ (AW.trans (db.kb hs Lv) iK) iK (AX.trans yt) Lw rfl))
 .rw[if_pos Tm]at kK
  erw[(show (zs.length !=0)=true from bne_iff_ne.mpr Tm),if_pos rfl]
  refine exF (S.es _ _ Lr) λWC WD _=>?_
  refine af2 (aO WD p2) ((dp (RF:=me) C db (pE rfl PX) rfl).then λfv vO Ls Lv AY iK yt Lw=>?_)
  apply RelV.nG Lw
  obtain ⟨e1,r1,Lx⟩ :∃e1 r1,fR=e1::r1:=by
   cases fR with
   |nil=>exact absurd rfl cW
   |cons e1 r1=>exact ⟨e1,r1,rfl⟩
  have ev:=WC A vO Ls _ _ hA iK (Dl _ _)
  rw[Lx]at ev ⊢
  refine agg (o:=o) (fd:=fnX "inner" t.qual params jE cy (kL bk.cells cy.names []) .none .none doc pm none (.ref c') rD) (adL (ev _ _ λab1 Hz PG K4 ym d8 K5 K6=>⟨⟨d8.eQ _ _ (ym.1 _ _ (AY.1 _ _ (yr.1 _ _ hzf))),hdf⟩,?_⟩))
  apply ak.gD K6;intro _ _ w1 w2
  apply ak.gD w2;intro _ _ w2 w3
  apply ak.oR w3
  apply RelV.bV w1;intro _
  apply RelV.bV w2;intro _
  refine zu (lG (i:=0) (av:=.bor (zs.map .int)) C d8 c1 sl1 rfl) λcA vA hlA hcA hvA hrA=>?_
  refine zu (lG (i:=1) (av:=.int n) C d8 c2 we rfl) λcN vN hlN hcN WF hrN=>?_
  refine zu (lG (i:=2) (av:=.obj (.ref fi)) C d8 c3 PX rfl) λcI vI N0 hcI WG hrI=>?_
  revert WF WG
  apply RelV.bV hrN;intro tN
  apply RelV.nG hrI
  intro WF WG
  (refine Ib (aD d8 hrA rfl) λal vsl iB pf WH=>?_;obtain rfl:=iB)
  have Dm:∀{x:Str} {c:aa9},bk.cells.lookup x=some c->x∈(["digits","n","inner"]:List Str)->(kL bk.cells cy.names []).lookup x=some c:=λ{x c} hc hx=>n5 hc _ _ (.inr ⟨rfl,Dj x hx⟩)
  have kB:KS base Hz.heap:=λa o e=>d8.cC a o (C.keep a o e)
  refine WL (al:=al) (n:=n) (Cm _ _ _ _ _) (pq WH) k 0 zs.length res kK A Hz _ _ _ _ (by have:=hA.depth;exact %[a+b<950,b<=40,a+c<=900|bJ hk this]) ⟨⟨⟨o,d8.eQ _ _ (ym.1 _ _ (AY.1 _ _ (yr.1 _ _ hzf))),hdf⟩,eL.keeps kB,(hcr.mono ((yr.trans AY).trans ym)).sL d8,
   ⟨cA,Dm hcA (.head _),hvA⟩,⟨cI,Dm hcI (.tail _ (.tail _ (.head _))),WG⟩,⟨cN,_,Dm hcN (.tail _ (.head _)),WF⟩⟩,pf⟩ λPH agd AA K7=>rC _ _ (PQ _ _ ?_)
  exact hQ _ PH PG _ _ ((AW.trans (db.kb hs (Lv.trans K4)) d8).trans (Kb.ks AA) (d8.keep AA)) (d8.keep AA) (((AX.trans yt).trans K5).trans K7) (.int res agd) rfl
end
end Mine.Internal
end
section
open PySem
namespace Mine.Internal
section
open Sre
noncomputable def rk:Array Nat:=#[14,4,0,1,1,6,1,16,46,1]
noncomputable def fS:Array Nat:=#[14,9,4,1,2,16,10,16,13,0,7,7,16,13,16,10,15,18,5,16,10,15,13,11,16,13,5,5,0,16,10,1,15,2,0,1]
noncomputable def iter:Nat->M->M
 |0,m=>m
 |n+1,m=>iter n m.step
theorem iM:∀(a b:Nat) (m:M),iter (a+b) m=iter b (iter a m)
 |0,b,m=>by simp[iter]
 |a+1,b,m=>by erw[alj ..];exact iM a b m.step
theorem iN(h:m.outcome.isSome=true):∀n,iter n m=m
 |0=>rfl
 |n+1=>by
  have:m.step=m:=by unfold M.step;erw[if_pos h,rfl]
  (rw[iter];erw[this]);exact iN h n
theorem cF(h:m.step=m')(h':iter n m'=PZ):iter (n+1) m=PZ:=by (rw[iter];erw[h]);exact h'
structure Ends (m:M) (n:Nat) (r:Option (Nat×Nat)):Prop where
 e:∃k m',k<=n/\iter k m=m'/\match r with|none=>m'.outcome=some .failed|some (a,b)=>m'.outcome=some .matched/\m'.start=a/\m'.handed=b
theorem Ends.after(h:iter a m=m')(x:Ends m' n r):Ends m (a+n) r:=by
 obtain ⟨k,PZ,hk,he,hr⟩:=x.e
 exact ⟨a+k,PZ,%[a+b<=a+c,b<=c|(bJ hk)],by (erw[iM ..,h]);exact he,hr⟩
theorem Ends.le(x:Ends m a r)(h:a<=n):Ends m n r:=by
 obtain ⟨k,PZ,hk,he,hr⟩:=x.e
 exact ⟨k,PZ,%[a<=b,c<=b,a<=c|(bJ h hk)],he,hr⟩
noncomputable abbrev Dq(t:Array Nat)(s:Nat)(first:Bool)(sd:Seen):M:=
 {code:=rk,text:=t,lim:=t.size,start:=s,lastStart:=t.size,pc:=5,pos:=s,handed:=s,outermost:=first,marks:=#[],frames:=[{wait:=.nextStart,pc:=5,pos:=s,outermost:=first}],weight:=1,seen:=sd}
noncomputable def iu(t:Array Nat)(s:Nat):Bool:=s==0||t.getD (s-1) 0==10
theorem LC(t:Array Nat)(s:Nat)(first:Bool)(sd:Seen):(Dq t s first sd).step=if iu t s=true then {Dq t s first ((sd.add 6).add 44) with pc:=7} else {Dq t s first ((sd.add 6).add 44) with answer:=some false}:=by
 rfl
theorem LD(t:Array Nat)(s:Nat)(first:Bool)(sd:Seen)(p:Nat):({Dq t s first sd with pc:=p,answer:=some false}:M).step=if s<t.size then Dq t (s+1) false sd else {Dq t s first sd with frames:=[],weight:=0,answer:=some false}:=by
 rfl
theorem P0(t:Array Nat)(s:Nat)(first:Bool)(sd:Seen):({Dq t s first sd with pc:=7}:M).step=if s ≥ t.size then {Dq t s first (sd.add 16) with pc:=7,answer:=some false} else
 match (t.getD s 0==46) with|false=>{Dq t s first (sd.add 16) with pc:=7,answer:=some false} | true=>{Dq t s first (sd.add 16) with pc:=9,pos:=s+1}:=by
 show (if s ≥ t.size then _ else match (ah1 (t.getD s 0==46,sd.add 16):Except String (Bool×Seen)) with|.error WM=>_|.ok (false,seen)=>_|.ok (true,seen)=>_)=_
 split
 .rfl
 .cases t.getD s 0==46 <;> rfl
theorem WN(t:Array Nat)(s:Nat)(first:Bool)(sd:Seen):iter 3 ({Dq t s first sd with pc:=9,pos:=s+1}:M)={Dq t s first (sd.add 1) with frames:=[],weight:=0,handed:=s+1,answer:=some true,outcome:=some .matched}:=by
 cases first <;> rfl
noncomputable def fC(t:Array Nat):Nat->Nat->Option (Nat×Nat)
 |0,s=>none
 |n+1,s=>if iu t s=true/\s<t.size/\t.getD s 0=46 then some (s,s+1) else fC t n (s+1)
theorem Tn(t:Array Nat):∀(n s:Nat) (first:Bool) (sd:Seen),s+n=t.size+1->0<n->Ends (Dq t s first sd) (4*n+1) (fC t n s)
 |0,s,first,sd,h,h0=>by lia
 |n+1,s,first,sd,h,h0=>by
  have HC:∀(p:Nat) (Fu:Seen),Ends ({Dq t s first Fu with pc:=p,answer:=some false}:M) (4*n+2) (fC t n (s+1)):=λp Fu=>by
   by_cases hs:s<t.size
   .have h1:=LD t s first Fu p
    rw[if_pos hs]at h1
    exact (Ends.after (a:=1) (cF h1 rfl) (Tn t n (s+1) false Fu %[a+1+b=c+1,a+(b+1)=c+1|(bJ h)] %[0<a,b+(a+1)=c+1,b<c|(bJ h hs)])).le %[1+(4*a+1)<=4*a+2|(aG)]
   .have h1:=LD t s first Fu p
    rw[if_neg hs]at h1
    have hn:n=0:=%[a=0,b+(a+1)=c+1,cu (b<c)|(bJ h hs)]
    subst hn
    exact ⟨2,_,%[2<=4*0+2|(Uw)],cF h1 rfl,rfl⟩
  unfold fC
  by_cases hb:iu t s=true
  .have h1:=LC t s first sd
   rw[if_pos hb]at h1
   have h2:=P0 t s first ((sd.add 6).add 44)
   by_cases hs:s<t.size
   .rw[if_neg %[cu (a<=b),b<a|(aP hs)]]at h2
    by_cases hd:t.getD s 0=46
    .rw[if_pos ⟨hb,hs,hd⟩]
     have e:(t.getD s 0==46)=true:=by simpa using hd
     rw[e]at h2
     exact ⟨5,_,%[5<=4*(a+1)+1|(aG)],cF h1 (cF h2 (WN t s first _)),rfl,rfl,rfl⟩
    .erw[if_neg (λq=>hd q.2.2)]
     have e:(t.getD s 0==46)=false:=by simpa using hd
     rw[e]at h2
     exact (Ends.after (a:=2) (cF h1 (cF h2 rfl)) (HC 7 _)).le %[2+(4*a+2)<=4*(a+1)+1|(aG)]
   .rw[if_pos %[a<=b,cu (b<a)|(aP hs)]]at h2
    erw[if_neg (λq=>hs q.2.1)]
    exact (Ends.after (a:=2) (cF h1 (cF h2 rfl)) (HC 7 _)).le %[2+(4*a+2)<=4*(a+1)+1|(aG)]
  .erw[if_neg (λq=>hb q.1)]
   have h1:=LC t s first sd
   rw[if_neg hb]at h1
   exact (Ends.after (a:=1) (cF h1 rfl) (HC 5 _)).le %[1+(4*a+2)<=4*(a+1)+1|(aG)]
theorem P1(t:Array Nat)(s:Nat)(hs:s<=t.size):Ends (aii rk t 0 s t.size false) (4*t.size+8) (fC t (t.size+1-s) s):=by
 by_cases h:s>t.size\/t.size-s<1
 .have e:aii rk t 0 s t.size false={code:=rk,text:=t,lim:=t.size,start:=s,pc:=5,pos:=s,handed:=s,marks:=#[],seen:=({}:Seen).add 14,answer:=some false}:=by
   show (if (decide (s>t.size)||decide (t.size-s<1))=true then _ else _)=_
   erw[if_pos (by simpa using h)];rfl
  have hse:s=t.size:=%[a=b,a<=b,cz (b<a) (c<1),qD 0 c b a|(bJ hs h rfl)]
  erw[e]
  have hf:fC t (t.size+1-s) s=none:=by
   subst hse
   erw[(show t.size+1-t.size=0+1 by exact %[a=0+1,qD 0 a (b+1) b|aP rfl])]
   unfold fC
   rw[if_neg (λq=>adP _ q.2.1)];rfl
  erw[hf]
  exact ⟨1,_,%[1<=4*a+8|(aG)],rfl,rfl⟩
 .have e:aii rk t 0 s t.size false=Dq t s true (({}:Seen).add 14):=by
   show (if (decide (s>t.size)||decide (t.size-s<1))=true then _ else _)=_
   erw[if_neg (by simpa using h)];rfl
  erw[e]
  exact (Tn t (t.size+1-s) s true _ %[a+b=c+1,a<=c,qD 0 b (c+1) a|(bJ hs rfl)] %[0<a,b<=c,qD 0 a (c+1) b|(bJ hs rfl)]).le %[4*a<4*b+8,qD 0 a (b+1) c|(bJ rfl)]
end
section
open Sre
noncomputable abbrev stB(t:Array Nat)(s:Nat)(sd:Seen):M:=
 {code:=fS,text:=t,lim:=t.size,start:=s,lastStart:=t.size,pc:=10,pos:=s,handed:=s,marks:=#[],frames:=[{wait:=.nextStart,pc:=10,pos:=s,outermost:=true}],weight:=1,seen:=sd}
noncomputable abbrev frB(s i3:Nat):Sre.Frame:={wait:=.nextBranch,pc:=i3,pos:=s,outermost:=true,kept:={lastmark:= -1,lastindex:= -1,whole:=false,marks:=#[]}}
noncomputable abbrev wG(t:Array Nat)(s i3 pc pos:Nat)(sd:Seen)(ans:Option Bool):M:=
 {code:=fS,text:=t,lim:=t.size,start:=s,lastStart:=t.size,pc:=pc,pos:=pos,handed:=s,marks:=#[],frames:=[frB s i3,{wait:=.nextStart,pc:=10,pos:=s,outermost:=true}],weight:=2,seen:=sd,answer:=ans}
theorem nj(t:Array Nat)(s:Nat)(sd:Seen):(stB t s sd).step=wG t s 11 12 s (sd.add 7) none:=rfl
theorem A0(t:Array Nat)(s i3 pos:Nat)(sd:Seen)(pc w:Nat)(h:pc=12/\w=13\/pc=14/\w=10\/pc=19/\w=10\/pc=24/\w=13):(wG t s i3 pc pos sd none).step=if pos ≥ t.size then wG t s i3 pc pos (sd.add 16) (some false) else
 match (t.getD pos 0==w) with|false=>wG t s i3 pc pos (sd.add 16) (some false)|true=>wG t s i3 (pc+2) (pos+1) (sd.add 16) none:=by
 rcases h with ⟨rfl,rfl⟩ | ⟨rfl,rfl⟩ | ⟨rfl,rfl⟩ | ⟨rfl,rfl⟩
 .show (if pos ≥ t.size then _ else match (ah1 (t.getD pos 0==13,sd.add 16):Except String (Bool×Seen)) with|.error WM=>_|.ok (false,seen)=>_|.ok (true,seen)=>_)=_
  split
  .rfl
  .cases t.getD pos 0==13 <;> rfl
 .show (if pos ≥ t.size then _ else match (ah1 (t.getD pos 0==10,sd.add 16):Except String (Bool×Seen)) with|.error WM=>_|.ok (false,seen)=>_|.ok (true,seen)=>_)=_
  split
  .rfl
  .cases t.getD pos 0==10 <;> rfl
 .show (if pos ≥ t.size then _ else match (ah1 (t.getD pos 0==10,sd.add 16):Except String (Bool×Seen)) with|.error WM=>_|.ok (false,seen)=>_|.ok (true,seen)=>_)=_
  split
  .rfl
  .cases t.getD pos 0==10 <;> rfl
 .show (if pos ≥ t.size then _ else match (ah1 (t.getD pos 0==13,sd.add 16):Except String (Bool×Seen)) with|.error WM=>_|.ok (false,seen)=>_|.ok (true,seen)=>_)=_
  split
  .rfl
  .cases t.getD pos 0==13 <;> rfl
theorem n7(h:pc=12/\w=13\/pc=14/\w=10\/pc=19/\w=10\/pc=24/\w=13)(h1:pos<t.size)(h2:t.getD pos 0=w):
 (wG t s i3 pc pos sd none).step=wG t s i3 (pc+2) (pos+1) (sd.add 16) none:=by
 erw[A0 t s i3 pos sd pc w h,if_neg %[cu (a<=b),b<a|(aP h1)]]
 have e:(t.getD pos 0==w)=true:=by simpa using h2
 erw[e,rfl]
theorem Dr(h:pc=12/\w=13\/pc=14/\w=10\/pc=19/\w=10\/pc=24/\w=13)(h1:¬(pos<t.size/\t.getD pos 0=w)):
 (wG t s i3 pc pos sd none).step=wG t s i3 pc pos (sd.add 16) (some false):=by
 erw[A0 t s i3 pos sd pc w h]
 split
 .rfl
 .rename_i q
  have e:(t.getD pos 0==w)=false:=by simpa using λq'=>h1 ⟨%[a<b,cu (b<=a)|(aP q)],q'⟩
  erw[e,rfl]
theorem A2(t:Array Nat)(s pc pos:Nat)(sd:Seen):(wG t s 11 pc pos sd (some false)).step=wG t s 18 19 s sd none:=rfl
theorem HD(t:Array Nat)(s pc pos:Nat)(sd:Seen):(wG t s 18 pc pos sd (some false)).step=wG t s 23 24 s sd none:=rfl
theorem A4(t:Array Nat)(s i3 pos:Nat)(sd:Seen):iter 4 (wG t s i3 35 pos sd none)={wG t s i3 10 s (sd.add 1) (some true) with frames:=[],weight:=0,handed:=pos,outcome:=some .matched}:=rfl
theorem ab9(t:Array Nat)(s i3 pos:Nat)(sd:Seen):(wG t s i3 16 pos sd none).step=wG t s i3 35 pos (sd.add 15) none:=rfl
theorem aca(t:Array Nat)(s i3 pos:Nat)(sd:Seen):(wG t s i3 21 pos sd none).step=wG t s i3 35 pos (sd.add 15) none:=rfl
noncomputable abbrev stD(t:Array Nat)(s i3 pos:Nat)(sd:Seen)(ans:Option Bool):M:=
 {code:=fS,text:=t,lim:=t.size,start:=s,lastStart:=t.size,pc:=29,pos:=pos,handed:=pos,outermost:=false,marks:=#[],frames:=[{wait:=.lookNot,pc:=26,pos:=pos,outermost:=true,kept:={lastmark:= -1,lastindex:= -1,whole:=false,marks:=#[]}},frB s i3,{wait:=.nextStart,pc:=10,pos:=s,outermost:=true}],weight:=3,seen:=sd,answer:=ans}
theorem P2(t:Array Nat)(s i3 pos:Nat)(sd:Seen):(wG t s i3 26 pos sd none).step=stD t s i3 pos (sd.add 5) none:=by
 rfl
theorem LI(h:¬(pos<t.size/\t.getD pos 0=10)):(stD t s i3 pos sd none).step=stD t s i3 pos (sd.add 16) (some false):=by
 show (if pos ≥ t.size then _ else match (ah1 (t.getD pos 0==10,sd.add 16):Except String (Bool×Seen)) with|.error WM=>_|.ok (false,seen)=>_|.ok (true,seen)=>_)=_
 split
 .rfl
 .have e:(t.getD pos 0==10)=false:=by simpa using λq'=>h ⟨by omega,q'⟩
  erw[e]
  rfl
noncomputable abbrev stE(t:Array Nat)(s i3 pc pos hd:Nat)(sd:Seen):M:=
 {code:=fS,text:=t,lim:=t.size,start:=s,lastStart:=t.size,pc:=pc,pos:=pos,handed:=hd,marks:=#[],frames:=[frB s i3,{wait:=.nextStart,pc:=10,pos:=s,outermost:=true}],weight:=2,seen:=sd}
theorem LJ(t:Array Nat)(s i3 pos:Nat)(sd:Seen):(stD t s i3 pos sd (some false)).step=stE t s i3 32 pos pos sd:=rfl
theorem acb(t:Array Nat)(s i3 pos hd:Nat)(sd:Seen):(stE t s i3 32 pos hd sd).step=stE t s i3 35 pos hd (sd.add 15):=rfl
noncomputable abbrev stF(t:Array Nat)(s pos:Nat)(sd:Seen):M:=
 {code:=fS,text:=t,lim:=t.size,start:=s,lastStart:=t.size,pc:=10,pos:=s,handed:=pos,marks:=#[],frames:=[],weight:=0,seen:=sd,answer:=some true,outcome:=some .matched}
theorem LK(t:Array Nat)(s i3 pos hd:Nat)(sd:Seen):iter 4 (stE t s i3 35 pos hd sd)=stF t s pos (sd.add 1):=rfl
noncomputable def ml(t:Array Nat)(s:Nat):Nat:=if t.getD s 0=13/\s+1<t.size/\t.getD (s+1) 0=10 then s+2 else s+1
theorem acd(t:Array Nat)(s:Nat)(sd:Seen)(hs:s<t.size)(hc:t.getD s 0=10\/t.getD s 0=13):Ends (stB t s sd) 20 (some (s,ml t s)):=by
 unfold ml
 rcases hc with hc|hc
 .rw[if_neg (λq=>by rw[hc]at q;exact absurd q.1 ⋯)]
  have n1:¬(s<t.size/\t.getD s 0=13):=λq=>by rw[hc]at q;exact absurd q.2 ⋯
  exact ⟨9,_,%[9<=20|(Uw)],cF (nj t s sd) (cF (Dr (.inl ⟨rfl,rfl⟩) n1) (cF (A2 t s 12 s _) (cF (n7 (.inr (.inr (.inl ⟨rfl,rfl⟩))) hs hc) (cF (aca t s 18 (s+1) _) (A4 t s 18 (s+1) _))))),rfl,rfl,rfl⟩
 .by_cases h2:s+1<t.size/\t.getD (s+1) 0=10
  .erw[if_pos ⟨hc,h2⟩]
   exact ⟨8,_,%[8<=20|(Uw)],cF (nj t s sd) (cF (n7 (.inl ⟨rfl,rfl⟩) hs hc) (cF (n7 (.inr (.inl ⟨rfl,rfl⟩)) h2.1 h2.2) (cF (ab9 t s 11 (s+1+1) _) (A4 t s 11 (s+1+1) _)))),rfl,rfl,rfl⟩
  .erw[if_neg (λq=>h2 q.2)]
   have n1:¬(s<t.size/\t.getD s 0=10):=λq=>by rw[hc]at q;exact absurd q.2 ⋯
   exact ⟨15,_,%[15<=20|(Uw)],cF (nj t s sd) (cF (n7 (.inl ⟨rfl,rfl⟩) hs hc) (cF (Dr (.inr (.inl ⟨rfl,rfl⟩)) h2) (cF (A2 t s 14 (s+1) _) (cF (Dr (.inr (.inr (.inl ⟨rfl,rfl⟩))) n1)
    (cF (HD t s 19 s _) (cF (n7 (.inr (.inr (.inr ⟨rfl,rfl⟩))) hs hc) (cF (P2 t s 23 (s+1) _) (cF (LI h2) (cF (LJ t s 23 (s+1) _) (cF (acb t s 23 (s+1) (s+1) _) (LK t s 23 (s+1) (s+1) _))))))))))),rfl,rfl,rfl⟩
noncomputable def ew(t:Array Nat):Nat->Nat->Option Nat
 |0,_=>none
 |n+1,s=>if s ≥ t.size then none else if t.getD s 0=10\/t.getD s 0=13 then some s else ew t n (s+1)
theorem WO(c:Nat)(sd:Seen):∃Fu,inSet fS c fS.size 5 true sd=.ok (decide (c=10\/c=13),Fu):=by
 show ∃Fu,(if (c==10)=true then (ah1 (true,sd.add 16):Except String (Bool×Seen)) else if (c==13)=true then (ah1 (true,(sd.add 16).add 16):Except String (Bool×Seen)) else (ah1 (false,((sd.add 16).add 16).add 0):Except String (Bool×Seen)))=_
 by_cases h1:c=10
 .subst h1;exact ⟨_,rfl⟩
 .erw[if_neg (by simpa using h1)]
  by_cases h2:c=13
  .subst h2;exact ⟨_,rfl⟩
  .erw[if_neg (by simpa using h2)]
   refine ⟨((sd.add 16).add 16).add 0,?_⟩
   have:decide (c=10\/c=13)=false:=by simp[h1,h2]
   erw[this,rfl]
theorem wH(m:M)(t:Array Nat)(hm:m.code=fS/\m.text=t/\m.lim=t.size):∀(n s:Nat) (sd:Seen),∃Fu,amO m n s sd=.ok (ew t n s,Fu)
 |0,s,sd=>⟨sd,rfl⟩
 |n+1,s,sd=>by
  unfold amO ew
  rw[hm.2.2]
  split
  .exact ⟨_,rfl⟩
  .erw[hm.1,hm.2.1]
   obtain ⟨Fu,e⟩:=WO (t.getD s 0) sd
   erw[e]
   by_cases h:t.getD s 0=10\/t.getD s 0=13
   .erw[if_pos h]
    have:decide (t.getD s 0=10\/t.getD s 0=13)=true:=by simpa using h
    erw[this]
    exact ⟨_,rfl⟩
   .erw[if_neg h]
    have:decide (t.getD s 0=10\/t.getD s 0=13)=false:=by simpa using h
    erw[this]
    exact wH m t hm n (s+1) Fu
theorem ju:∀{n s k:Nat},ew t n s=some k->s<=k/\k<t.size/\(t.getD k 0=10\/t.getD k 0=13)
 |0,s,k,h=>by exact aq h
 |n+1,s,k,h=>by
  unfold ew at h
  split at h
  .exact aq h
  .split at h
   .rename_i q1 q2;obtain rfl:=aac h;exact ⟨adJ _,%[a<b,cu (b<=a)|(aP q1)],q2⟩
   .obtain ⟨h1,h2⟩:=ju h
    exact ⟨%[a<=b,a<b|(aP h1)],h2⟩
noncomputable def jF(t:Array Nat)(s:Nat):Option (Nat×Nat):=(ew t (t.size+1-s) s).map λk=>(k,ml t k)
theorem P4(t:Array Nat)(s:Nat)(hs:s<=t.size):Ends (aii fS t 0 s t.size false) 22 (jF t s):=by
 by_cases h:s>t.size\/t.size-s<1
 .have e:aii fS t 0 s t.size false={code:=fS,text:=t,lim:=t.size,start:=s,pc:=10,pos:=s,handed:=s,marks:=#[],seen:=({}:Seen).add 14,answer:=some false}:=by
   show (if (decide (s>t.size)||decide (t.size-s<1))=true then _ else _)=_
   erw[if_pos (by simpa using h)];rfl
  have hse:s=t.size:=%[a=b,a<=b,cz (b<a) (c<1),qD 0 c b a|(bJ hs h rfl)]
  erw[e]
  have hf:jF t s=none:=by
   subst hse
   unfold jF
   rw[show t.size+1-t.size=0+1 by exact %[a=0+1,qD 0 a (b+1) b|aP rfl]]
   unfold ew
   rw[if_pos (adJ _)];rfl
  erw[hf]
  exact ⟨1,_,%[1<=22|(Uw)],rfl,rfl⟩
 .let m0:M:={code:=fS,text:=t,lim:=t.size,start:=s,lastStart:=t.size,pc:=10,pos:=s,handed:=s,marks:=#[],seen:=({}:Seen).add 14}
  have e:aii fS t 0 s t.size false=m0.attemptFrom s true:=by
   show (if (decide (s>t.size)||decide (t.size-s<1))=true then _ else _)=_
   erw[if_neg (by simpa using h)];rfl
  obtain ⟨Fu,ha⟩:=wH m0 t ⟨rfl,rfl,rfl⟩ (t.size+1-s) s (({}:Seen).add 14)
  have e2:m0.attemptFrom s true=match amO m0 (t.size+1-s) s (({}:Seen).add 14) with|.ok (some s,seen)=>{m0 with mustAdvance:=false,seen}.attemptAt s true|.ok (none,seen)=>{m0 with seen}.say false|.error WM=>m0.stick WM:=rfl
  erw[e,e2,ha]
  unfold jF
  cases hf:ew t (t.size+1-s) s with
  |none=>exact ⟨1,_,%[1<=22|(Uw)],rfl,rfl⟩
  |some k=>
   obtain ⟨h1,h2,h3⟩:=ju hf
   exact (acd t k Fu h2 h3).le %[20<=22|(Uw)]
end
end Mine.Internal
end
section
open PySem PyProof PyProof.Rows
namespace Mine.Internal
theorem kN:PlainAttrs "re.Pattern":=
 ⟨⟨"object.__getattribute__",by (erw[aiy ..,ahr]);kernel_rfl,by decide+kernel⟩,by (erw[aiy ..,ahr]);kernel_rfl⟩
theorem n8:Slot "re.Pattern" "sub" "re.Pattern.sub":=
 .of (owner:="re.Pattern") (n:="sub") (by (erw[aiy ..,ahr]);kernel_rfl) (by decide+kernel) (by decide+kernel) (by decide+kernel)
  (by first|exact .inl (by decide+kernel)|exact .inr (by decide+kernel)) (by erw[ale ..];kernel_rfl)
theorem A5:typeOf (.builtin "re.Pattern.sub")=pure (.type "method_descriptor"):=by show builtinType _=_;erw[builtinType_eq_fast];kernel_rfl
theorem HE:entryFor table "re.Pattern.sub"=some aim.«re.Pattern.sub»:=entryFor_of_tree ∅
theorem Ds:entryFor table "re.Pattern.sub.loop"=some aim.«re.Pattern.sub.loop»:=entryFor_of_tree ∅
theorem nk:plainId "re.Pattern.sub.loop"=true:=by decide+kernel
theorem HF:Manifest.owners.lookup (String.ofList ['n','r','e','t','t','a','P','.','e','r'].reverse)=some Manifest.sig_re_Pattern:=∅
theorem LL(a b c:aaq):argsOk "re.Pattern.sub" ⟨[a,b,c],[]⟩:=by
 unfold argsOk;erw[signature?_of (id:="re.Pattern.sub") (n:=['b','u','s']) (o:=['n','r','e','t','t','a','P','.','e','r']) ∅ HF];kernel_rfl
section
open Sre PySem.Builtin.Re
variable{prog:aas}{w:abI}{A:adV}{s:aaD}
section
variable{Mo:ali}{E:aaq->aaD->Prop}
theorem rl:∀(n:Nat) (m:M),akT n m=iter n m
 |0,m=>rfl
 |n+1,m=>by
  unfold akT
  split
  .rename_i h;exact (iN h _).symm
  .exact rl n m.step
theorem A6:∀(To n:Nat) (m m':M),iter n m=m'->m'.outcome.isSome=true->n<4*To->Q m' s->abJ Mo A (reDrive To m) Q E s
 |0,n,m,m',h,ho,hn,hQ=>by omega
 |t+1,n,m,m',h,ho,hn,hQ=>by
  skip
  show abJ Mo A (if (akT akP m).outcome.isSome=true then pure (akT akP m) else (rule "sre.turn" >>=λV=>reDrive t (akT akP m))) Q E s
  erw[rl ..]
  have h4:akP=4:=rfl
  erw[h4]
  by_cases hd:(iter 4 m).outcome.isSome=true
  .erw[if_pos hd]
   have:iter 4 m=m':=by
    by_cases jj:4<=n
    .have e:n=4+(n-4):=%[a=4+b,4<=a,qD 0 b a (4)|(aP jj rfl)]
     (erw[<-h,e,iM ..];rw[iN hd])
    .have e:4=n+(4-n):=%[4=a+b,cu (4<=a),qD 0 b (4) a|(aP jj rfl)]
     erw[e,iM ..,h,iN ho ..,rfl]
   erw[this]
   exact adG hQ
  .erw[if_neg hd]
   have hgt:4<=n:=by
    by_cases jj:4<=n
    .exact jj
    .exfalso
     apply hd
     have e:4=n+(4-n):=%[4=a+b,cu (4<=a),qD 0 b (4) a|(aP jj rfl)]
     erw[e,iM ..,h,iN ho ..];exact ho
   refine aaH (wpAny_rule (A6 t (n-4) (iter 4 m) m' ?_ ho %[a<4*b,c<4*(b+1),4<=c,qD 0 a c (4)|(bJ hn hgt rfl)] hQ))
   have e:n=4+(n-4):=%[a=4+b,4<=a,qD 0 b a (4)|(aP hgt rfl)]
   erw[<-iM ..,<-e];exact h
theorem WP(h:Ends m n r)(hn:n<2^64)(hQ:(r=none->Q none s)/\∀a b,r=some (a,b)->∀m':M,m'.start=a->m'.handed=b->Q (some m') s):
 abJ Mo A (reRunToEnd m) Q E s:=by
 obtain ⟨k,m',hk,he,hr⟩:=h.e
 skip
 have ho:m'.outcome.isSome=true:=by
  cases r with
  |none=>simp only at hr;erw[hr];rfl
  |some p=>simp only at hr;erw[hr.1];rfl
 refine aaH (A6 (2^64) k m m' he ho %[a<4*(qL 2 64),b<(qL 2 64),a<=b|(aP hn hk)] ?_)
 refine aaH (wpAny_forIn_list _ (λV V s'=>s'=s) (λV s'=>abJ Mo A _ Q E s') (λx rest b s' hs=>?_) (λb s' hs=>?_) _ _ rfl)
 .subst hs
  split
  .exact aaH (wpAny_rule (adG rfl))
  .exact adG rfl
 .subst hs
  cases r with
  |none=>
   simp only at hr
   erw[hr]
   exact adG (hQ.1 rfl)
  |some p=>
   simp only at hr
   erw[hr.1]
   exact adG (hQ.2 p.1 p.2 rfl m' hr.2.1 hr.2.2)
end
structure iO (h:adF) (p:aa9) (code:Array Nat):Prop where
 obj:∃o fs c oc dK e,h.get? p=some o/\o.cls=.type "re.Pattern"/\o.data=.fields fs/\reRawNat (fs.getD 2 .none)=0/\reRawNat (fs.getD 6 .none)=0/\fs.getD 5 .none=.ref c/\h.get? c=some oc/\oc.data=.seq dK e/\(dK.map reRawOf).map (·.toNat)=code
theorem iO.typeIs{p:aa9}{code:Array Nat}(x:iO s.heap p code):s.TypeIs (.ref p) "re.Pattern":=(by obtain ⟨o,fs,c,oc,dK,e,h1,h2,_⟩:=x.obj;exact ⟨o,h1,h2⟩)
theorem iO.keeps{h h':adF}{p:aa9}{code:Array Nat}(x:iO h p code)(k:KS h h'):iO h' p code:=
 (by obtain ⟨o,fs,c,oc,dK,e,h1,h2,h3,h4,h5,h6,h7,h8,h9⟩:=x.obj;exact ⟨o,fs,c,oc,dK,e,k _ _ h1,h2,h3,h4,h5,h6,k _ _ h7,h8,h9⟩)
theorem A7{p:aa9}{code:Array Nat}{x:Str}{t:Tok}{E:aaq->aaD->Prop}{Q:ReTarget->aaD->Prop}{Mo:ali}(X:iO s.heap p code)(hQ:Q ⟨.ref p,.str x t,code,x.cps,0,0,0,x.cps.size⟩ s):abJ Mo A (reWholeTarget (.ref p) (.str x t)) Q E s:=by
 obtain ⟨o,fs,c,oc,ajP,e,h1,h2,h3,h4,h5,h6,h7,h8,h9⟩:=X.obj
 skip
 refine aaH (wpAny_fieldsOf h1 h3 ?_)
 refine aaH (ahf (a:=(x.cps,0)) rfl ?_)
 simp only[h5]
 refine aaH (ahf (a:=()) rfl ?_)
 erw[h6]
 skip
 refine aaH (aaH (alc h7 h8 (adG ?_)))
 refine adG ?_
 simp only[aiH,h9,h4]
 exact hQ
end
section
open Sre PySem.Builtin.Re
variable{prog:aas}{w:abI}{A:adV}{s:aaD}{E:aaq->aaD->Prop}
noncomputable def gm(find:Nat->Option (Nat×Nat))(t:Array Nat)(r:Str):Nat->Nat->List Str
 |0,_=>[]
 |n+1,d=>match find d with
  |some (a,b)=>(if d<a then [⟨t.extract d a⟩] else [])++(r::gm find t r n b)
  |none=>if d<t.size then [⟨t.extract d t.size⟩] else []
theorem uy{xs ys:List aaq}{as bs:List Str}(h:ak9 xs as)(h2:ak9 ys bs):ak9 (xs++ys) (as++bs):=by
 induction h with
 |nil=>exact h2
 |cons y t h ih=>exact .cons y t ih
theorem LN(hl:s.heap.PlainList l dK)(hz:dK.size<aa7)
(h:∀h',h'.PlainList l (dK.push v)->aem l s.heap h'->Q () {s with heap:=h'}):abJ Mo A (alS l (·.push v)) Q E s:=by
 obtain ⟨e,ho⟩:=hl
 refine wpAny_updateSeq ho rfl (h _ ?_ (agN ..)) (afo hz) (by simp;exact %[a<=b,a<b|aP hz])
 exact ⟨e+1,by (erw[agL _ ho (by erw[alw ..];rfl),alw ..,rfl])⟩
noncomputable def Dt(ys:List Str):Nat:=(ys.map (·.length)).sum
theorem pF(ys:List Str)(z:Str):Dt (ys++[z])=Dt ys+z.length:=by
 unfold Dt
 (rw[acf];erw[amV]);rfl
structure mn (s0:aaD) (l:aa9) (acc:List aaq) (ys:List Str) (s:aaD):Prop where
 kk:KS s0.heap s.heap
 sm:a9 s0 s
 hl:s.heap.PlainList l acc.toArray
 hs:ak9 acc ys
section
variable{l:aa9}{s0:aaD}{acc:List aaq}{ys:List Str}{r:Str}
theorem mn.toks(T:mn s0 l acc ys s)(k:Nat):mn s0 l acc ys {s with toks:=k}:=⟨T.kk,⟨T.sm.1,T.sm.2,T.sm.3⟩,T.hl,T.hs⟩
theorem A8(T:mn s0 l acc ys s)(P5:s0.heap.get? l=none)(hz:acc.length<aa7)(h:∀s',mn s0 l (acc++[.str z t]) (ys++[z]) s'->Q () s'):abJ Mo A (alS l (·.push (.str z t))) Q E s:=
 LN T.hl hz λh' hl hs=>h {s with heap:=h'} ⟨λb o e=>hs.extBut b o (λq=>by rw[q,P5]at e;exact aq e) (T.kk b o e),⟨T.sm.1,T.sm.2,T.sm.3⟩,by rw[amn]at hl;exact hl,uy T.hs (.cons _ _ .nil)⟩
theorem Fv{β:Type}{z:Str}{K:Unit->Sem β}{Q:β->aaD->Prop}{Mo:ali}(T:mn s0 l acc ys s)(P5:s0.heap.get? l=none)(hz:acc.length<aa7)(hs:z.length<=aa7)(h:∀s' t,mn s0 l (acc++[.str z t]) (ys++[z]) s'->abJ Mo A (K ()) Q E s'):
 abJ Mo A (mkStr z) (λv s1=>abJ Mo A (alS l (·.push v) >>=K) Q E s1) E s:=
 wpAny_mkStr (aaH (A8 (T.toks _) P5 hz λs' T'=>h s' _ T')) hs
noncomputable abbrev WQ(l:aa9)(Q:aaq->aaD->Prop)(E:aaq->aaD->Prop)(x:Str)(prog:aas)(w:abI)(A:adV)(s:aaD):Prop:=
 abJ (abD prog w) A.in1 (reSlice x.cps 0 0 0 >>=λLO=>seqItems? (.ref l) >>=λo=>(if (o.getD #[]).isEmpty=true then (pure LO >>=λtext=>ret text) else (call (.builtin "str.join") [LO,.ref l] >>=λtext=>ret text)))
  (λdD s'=>match dD with|.done f=>wants Q E (.ok f) s'|.again c'=>c'.quiet=true/\ako (abD prog w) A c' (wants Q E) s') (λe s'=>wants Q E (.error e) s') s
theorem Fw(T:mn s0 l acc ys s)(LQ:Dt ys<=aa7)(hQ:∀s' t',KS s0.heap s'.heap->a9 s0 s'->Q (.str (ag4 ⟨#[]⟩ ys) t') s'):WQ l Q E x prog w A s:=by
 have he:(x.cps.extract 0 0)=#[]:=by simp
 show abJ _ _ (mkStr ⟨x.cps.extract 0 0⟩ >>=_) _ _ _
 erw[he]
 refine aaH (wpAny_mkStr ?_ (ae7 _))
 obtain ⟨e',oE⟩:=id T.hl
 refine aaH (alc (s:={s with toks:=s.toks+1}) oE rfl ?_)
 erw[aiH]
 have dD:∀k t',Q (.str (ag4 ⟨#[]⟩ ys) t') {s with toks:=k}:=λk t'=>hQ _ t' T.kk (T.toks k).sm
 clear hQ
 cases T.hs with
 |nil=>exact aaH (adG (adG (dD _ _)))
 |cons y t h=>exact aaH (join_list (ys:=_) (s:={s with toks:=s.toks+1}) T.hl.isList T.hs (by show Dt _+_*0<=_;erw[agS ..];exact LQ) λt' k'=>adG (dD _ _))
theorem LR{p:aa9}{code:Array Nat}{x:Str}{tx tr:Tok}{find:Nat->Option (Nat×Nat)}{N:Nat}{Q:aaq->aaD->Prop}(X:iO s0.heap p code)(hx:x.cps.size<=1000000)(hr:r.length<=2)
(A9:∀d,d<=x.cps.size->Ends (aii code x.cps 0 d x.cps.size false) N (find d))(hN:N<2^64)(hb:∀d a b,d<=x.cps.size->find d=some (a,b)->d<=a/\a<b/\b<=x.cps.size)(P5:s0.heap.get? l=none)(n:Nat):
 ∀(d:Nat) (k:Int) (acc:List aaq) (ys:List Str) (s:aaD),x.cps.size-d<n->d<=x.cps.size->mn s0 l acc ys s->acc.length<=2*d->Dt ys<=3*d->
  (∀s' t',KS s0.heap s'.heap->a9 s0 s'->Q (.str (ag4 ⟨#[]⟩ (ys++gm find x.cps r n d)) t') s')->
  ako (abD prog w) A (.builtin "re.Pattern.sub.loop" ⟨[.ref p,.str x tx,.str r tr,rawInt 0,rawInt 0,rawInt k,rawInt (d:Nat),rawInt (d:Nat),.bool false,.ref l,.bool false],[]⟩) (wants Q E) s:=by
 have cL:aa7=16777216:=rfl
 induction n with
 |zero=>intro d k acc ys s hn;exact absurd hn (am3 _)
 |succ n ih=>
  intro d k acc ys s hn hd T ha LQ hQ
  refine codeAny_builtin Ds ?_
  rw[ak7 nk _]
  unfold aim.«re.Pattern.sub.loop»
  refine aaH (A7 (X.keeps T.kk) ?_)
  refine aaH (ahf (a:=()) rfl ?_)
  have hdn:(d:Int).toNat=d:=abE d
  show abJ _ _ (reNextFound ⟨.ref p,.str x tx,code,x.cps,0,0,0,x.cps.size⟩ (d:Int).toNat false >>=_) _ _ _
  have Tk:acc.length<aa7:=%[a<b,c<=1000000,b=16777216,d<=c,a<=2*d|(d4 hx cL hd ha)]
  rw[hdn]
  refine aaH (WP (m:=aii code x.cps 0 d x.cps.size false) (A9 d hd) hN ⟨λace=>?_,λa b Tp m' hma hmb=>?_⟩)
  ·
   have hP:gm find x.cps r (n+1) d=if d<x.cps.size then [⟨x.cps.extract d x.cps.size⟩] else []:=by
    unfold gm;rw[ace]
   rw[hP]at hQ
   clear ih hP A9 hb
   dsimp only
   by_cases bA:d<x.cps.size
   .rw[if_pos bA]
    rw[if_pos bA]at hQ
    have hel:(⟨x.cps.extract d x.cps.size⟩ :Str).length=x.cps.size-d:=by show (x.cps.extract d x.cps.size).size=_;rw[alP,Nat.min_self]
    refine aaH ?_
    show abJ _ _ (mkStr ⟨x.cps.extract d x.cps.size⟩) _ _ _
    refine Fv T P5 Tk (by rw[hel];lia) λs' t T'=>?_
    exact Fw T' (by rw[pF,hel];lia) hQ
   .rw[if_neg bA]
    rw[if_neg bA,abW]at hQ
    exact Fw T %[a<=b,c<=1000000,b=16777216,d<=c,a<=3*d|(d4 hx cL hd LQ)] hQ
  ·
   obtain ⟨h1,h2,h3⟩:=hb d a b hd Tp
   have hP:gm find x.cps r (n+1) d=(if d<a then [⟨x.cps.extract d a⟩] else [])++(r::gm find x.cps r n b):=by
    rw[gm,Tp]
   rw[hP]at hQ
   have e1:(m'.handed==m'.start)=false:=by rw[hma,hmb];exact beq_eq_false_iff_ne.mpr (ai3 h2)
   have HC:∀(WR:List aaq) (ys':List Str) (s':aaD),mn s0 l WR ys' s'->WR.length<=2*d+1->Dt ys'<=3*d+(a-d)->
    (∀s' t',KS s0.heap s'.heap->a9 s0 s'->Q (.str (ag4 ⟨#[]⟩ (ys'++(r::gm find x.cps r n b))) t') s')->
    abJ (abD prog w) A.in1 (alS l (·.push (.str r tr)) >>=λV=>again (.builtin "re.Pattern.sub.loop" ⟨[.ref p,.str x tx,.str r tr,rawInt 0,rawInt 0,rawInt (k+1),rawInt (m'.handed:Nat),rawInt (m'.handed:Nat),.bool (m'.handed==m'.start),.ref l,.bool false],[]⟩))
     (λdD s'=>match dD with|.done f=>wants Q E (.ok f) s'|.again c'=>c'.quiet=true/\ako (abD prog w) A c' (wants Q E) s') (λe s'=>wants Q E (.error e) s') s':=by
    intro WR ys' s' T' Vu ahZ hQ'
    refine aaH (A8 T' P5 %[a<b,c<=1000000,b=16777216,d<=c,a<=2*d+1|(d4 hx cL hd Vu)] λvK T''=>adG ⟨alG nk _,?_⟩)
    rw[e1,hmb]
    refine ih b (k+1) _ _ vK (by lia) h3 T'' (by rw[aao,ajb];exact %[a<2*b,c<=d,d<b,a<=2*c+1|d4 h1 h2 Vu]) (by rw[pF];lia) λce t' k'' PZ=>?_
    have:=hQ' ce t' k'' PZ
    rwa [aaI,aja]
   clear ih hP A9 hb
   dsimp only
   by_cases bA:d<a
   .rw[if_pos (by rw[hma];exact bA),hma]
    rw[if_pos bA]at hQ
    have hel:(⟨x.cps.extract d a⟩ :Str).length=a-d:=by show (x.cps.extract d a).size=_;rw[alP,am5 %[a<=b,a<c,c<=b|(bJ h2 h3)]]
    refine aaH ?_
    show abJ _ _ (mkStr ⟨x.cps.extract d a⟩) _ _ _
    refine Fv T P5 Tk (by rw[hel];lia) λs' t T'=>?_
    have hc:=HC _ _ s' T' (by rw[aao,ajb];exact %[a<2*b+1,a<=2*b|aP ha]) (by rw[pF,hel];exact %[a+b<=3*c+b,a<=3*c|bJ LQ]) (by
     intro vK t' k'' PZ
     have:=hQ vK t' k'' PZ
     rwa [aaI])
    rw[hma]at hc
    exact hc
   .rw[if_neg (by rw[hma];exact bA)]
    rw[if_neg bA,adK]at hQ
    exact HC acc ys s T %[a<=2*b+1,a<=2*b|(aP ha)] %[a<=3*b+c,a<=3*b|(bJ LQ)] hQ
end
end
section
open Sre PySem.Builtin.Re
variable{prog:aas}{w:abI}{A:adV}{s:aaD}{E:aaq->aaD->Prop}
theorem Ba:typeLookup (.type "str") "__call__"=pure none:=by (erw[aiy ..,ahr]);kernel_rfl
theorem Bb{p:aa9}{code:Array Nat}{x r:Str}{tx tr:Tok}{find:Nat->Option (Nat×Nat)}{N:Nat}{Q:aaq->aaD->Prop}(X:iO s.heap p code)(hx:x.cps.size<=1000000)(hr:r.length<=2)(hbs:r.cps.contains 92=false)
(A9:∀d,d<=x.cps.size->Ends (aii code x.cps 0 d x.cps.size false) N (find d))(hN:N<2^64)(hb:∀d a b,d<=x.cps.size->find d=some (a,b)->d<=a/\a<b/\b<=x.cps.size)
(hQ:∀s' t',KS s.heap s'.heap->a9 s s'->Q (.str (ag4 ⟨#[]⟩ (gm find x.cps r (x.cps.size+1) 0)) t') s'):
 abJ (abD prog w) A (call (.builtin "re.Pattern.sub") [.ref p,.str r tr,.str x tx]) Q E s:=by
 refine ajq (codeAny_call_builtin n8.plain HE (n8.check _ _ _ _ _ _ _ _ X.typeIs (LL _ _ _) ?_))
 unfold aim.«re.Pattern.sub» reSubstitute
 refine aaH (ahf (a:=[some (.str r tr),some (.str x tx),none]) rfl ?_)
 refine aaH (ahf (a:=(0:Int)) rfl ?_)
 refine aaH (wpAny_specialOf (aih _ _ _) Ba ?_)
 skip
 refine aaH (ahf (a:=some r) rfl ?_)
 skip
 refine aaH (adG ?_)
 erw[hbs]
 refine aaH (adG ?_)
 skip
 refine aaH (ahn (A7 X ?_))
 refine aaH (alE ?_)
 refine adG ⟨alG nk _,?_⟩
 have P5:s.heap.get? s.heap.objs.size=none:=aho (adJ _)
 have ach:=LR (prog:=prog) (w:=w) (A:=A) (tx:=tx) (tr:=tr) (E:=E) (Q:=Q) (s0:=s) (l:=s.heap.objs.size) X hx hr A9 hN hb P5 (x.cps.size+1) 0 0 [] [] {s with heap:=s.heap.push {cls:=.type "list",data:=.seq ([]:List aaq).toArray}} %[a<b+1,qD 0 a b (0)|(aP rfl)] (ae7 _) ⟨λb o e=>abo _ e,⟨rfl,rfl,rfl⟩,⟨_,ac0 _ rfl⟩,.nil⟩ (ae7 _) (ae7 _) hQ
 exact ach
end
end Mine.Internal
end
section
open PySem PyProof PyProof.Rows PySem.W
namespace Mine.Internal
section
open Sre PySem.Builtin.Re
variable{prog:aas}{w:abI}{A:adV}{Y:Lay}{g:Gh}{σ:bj}{s:aaD}{d:Nat}{base:adF}{nm:NI}{env:Env}{RF:cQ}{h h':adF}
theorem kO:∀{n s a b:Nat},fC t n s=some (a,b)->s<=a/\b=a+1/\a<t.size
 |0,s,a,b,h=>by exact aq h
 |n+1,s,a,b,h=>by
  unfold fC at h
  split at h
  .rename_i q;cases h;exact ⟨adJ _,rfl,q.2.1⟩
  .obtain ⟨h1,h2⟩:=kO h
   exact ⟨%[a<=b,a<b|(aP h1)],h2⟩
theorem Bc(t:Array Nat)(k:Nat):ml t k=k+1\/(ml t k=k+2/\k+1<t.size):=by
 unfold ml
 by_cases hc:t.getD k 0=13/\k+1<t.size/\t.getD (k+1) 0=10
 .rw[if_pos hc];exact .inr ⟨rfl,hc.2.1⟩
 .erw[if_neg hc];exact .inl rfl
theorem rm{t:Array Nat}{s a b:Nat}(h:jF t s=some (a,b)):s<=a/\a<b/\b<=t.size:=by
 skip
 refine bC h λk hk e=>?_
 cases e
 refine exF (ju hk) λh1 h2 _=>?_
 rcases Bc t a with e | ⟨e,_⟩ <;> erw[e] <;> (first|exact %[aU (a<=b) (aU (b<b+1) (b<c)),a<=b,b<c|bJ h1 h2]|lia)
noncomputable def yx(x:Str):Str:=ag4 ⟨#[]⟩ (gm (jF x.cps) x.cps ⟨#[13,10]⟩ (x.cps.size+1) 0)
noncomputable def HG(x:Str):Str:=ag4 ⟨#[]⟩ (gm (λd=>fC x.cps (x.cps.size+1-d) d) x.cps ⟨#[46,46]⟩ (x.cps.size+1) 0)
theorem HH(X:iO s.heap p fS)(hx:x.cps.size<=1000000)(hQ:∀s' t',KS s.heap s'.heap->a9 s s'->Q (.str (yx x) t') s'):
 abJ (abD prog w) A (call (.builtin "re.Pattern.sub") [.ref p,.str ⟨#[13,10]⟩ tr,.str x tx]) Q E s:=
 Bb (find:=jF x.cps) (N:=22) X hx ⋯ (by simp) (λd hd=>P4 x.cps d hd) ⋯ (λd a b V h=>rm h) hQ
theorem HI(X:iO s.heap p rk)(hx:x.cps.size<=1000000)(hQ:∀s' t',KS s.heap s'.heap->a9 s s'->Q (.str (HG x) t') s'):
 abJ (abD prog w) A (call (.builtin "re.Pattern.sub") [.ref p,.str ⟨#[46,46]⟩ tr,.str x tx]) Q E s:=
 Bb (find:=λd=>fC x.cps (x.cps.size+1-d) d) (N:=4*x.cps.size+8) X hx ⋯ (by simp) (λd hd=>P1 x.cps d hd) %[4*a+8<(qL 2 64),a<=1000000|(aG hx)] (λd a b V h=>by obtain ⟨h1,h2,h3⟩:=kO h;exact %[aU (a<=b) (aU (b<c) (c<=d)),a<=b,c=b+1,b<d|d4 h1 h2 h3]) hQ
structure WT (base:adF) (body:List ahs) (nm:NI) (q1 q2:aa9):Prop where
 text:∃(p1 ap1 p2 p3 ap2 p4 p5 ps2 ps1 p6:Pos) (k:Nat),body=[.Return (some (.Call (.Attribute (.Name "_twin_re_1" p1) "sub" ap1) [.Constant (.str ⟨#[46,46]⟩) k p2,
  .Call (.Attribute (.Name "_twin_re_2" p3) "sub" ap2) [.Name "CRLF" p4,.Name "data" p5] [] ps2] [] ps1)) p6]/\(ap1.endLine==ps1.line)=true/\(ap2.endLine==ps2.line)=true
 n1:bZ nm "_twin_re_1"=some (.glob "_twin_re_1" (.obj (.ref q1)))
 n2:bZ nm "_twin_re_2"=some (.glob "_twin_re_2" (.obj (.ref q2)))
 n3:bZ nm "CRLF"=some (.glob "CRLF" (.str ⟨#[13,10]⟩))
 n4:bZ nm "data"=some (.var 0)
 o1:iO base q1 rk
 o2:iO base q2 fS
 d1:∃o,base.get? q1=some o/\o.dict=none
 d2:∃o,base.get? q2=some o/\o.dict=none
theorem HJ(D:bP base f fd ["data"] ["data"] body az)(eL:base.NoLimit)(T:WT base body (bc fd.scope ["data"] az) q1 q2)
(hx:x.cps.size<=1000000)(GK:(yx x).cps.size<=1000000):vD prog w (d+1) base (.ref f) [.str x] (.str (HG (yx x))):=by
 refine kM D eL rfl (adJ _) rfl λbk Y A s g hE C hs KJ C5 hA ⟨rest,wx⟩ R E Q hQ=>?_
 (refine bU T.text λp1 dQ=>?_;refine bU dQ λap1 di=>?_;refine bU di λp2 jP=>?_;refine bU jP λp3 oF=>?_;refine bU oF λap2 p_5=>?_;refine bU p_5 λp4 p_6=>?_;refine bU p_6 λp5 p_7=>?_;refine bU p_7 λps2 p_8=>?_;refine bU p_8 λps1 p_9=>?_;refine bU p_9 λp6 aci=>?_;refine bU aci λk P6=>?_;have agj:=P6.1;have Ck:=P6.2.1;have Fa:=P6.2.2;clear P6 aci p_9 p_8 p_7 p_6 p_5 oF jP di dQ;obtain rfl:=agj)
 have R0:Rel Y g ⟨[some (.str x)],[]⟩ s.heap:=R
 have kB:∀{s':aaD} {g':Gh} {σ':bj},Rel Y g' σ' s'.heap->KS base s'.heap:=λR a o e=>R.cC a o (C.keep a o e)
 have acj:cm [Expr.Constant (.str ⟨#[46,46]⟩) k p2,.Call (.Attribute (.Name "_twin_re_2" p3) "sub" ap2) [.Name "CRLF" p4,.Name "data" p5] [] ps2]:=by intro e he y q;simp at he;rcases he with rfl|rfl <;> exact λh=>by cases h
 have ack:cm [amx "CRLF" p4,.Name "data" p5]:=by intro e he y q;simp at he;rcases he with rfl|rfl <;> exact λh=>by cases h
 refine aft (af7 (af1 (dY rfl) (by erw[aO acj ..];rfl) Ck (iL C R0 T.n1 λdx aR mt aY aQ aV=>?_)))
 refine ⟨"re.Pattern","re.Pattern.sub",kN,n8,A5,(T.o1.keeps (kB aQ)).typeIs,λb e=>by cases e;(refine bz T.d1 λo h1 h2=>?_);exact ⟨o,kB aQ _ _ h1,h2⟩,?_⟩
 erw[aO acj ..]
 refine aeN rfl (adL (adE (anb (adE ?_))))
 have acl:Rel Y aR ⟨[some (.str x)],[]⟩ ({dx with toks:=dx.toks+1}:aaD).heap:=aQ
 refine af1 (dY rfl) (by erw[aO ack ..];rfl) Fa (iL C acl T.n2 λqm bD bb bt aM a6=>?_)
 refine ⟨"re.Pattern","re.Pattern.sub",kN,n8,A5,(T.o2.keeps (kB aM)).typeIs,λb e=>by cases e;(refine bz T.d2 λo h1 h2=>?_);exact ⟨o,kB aM _ _ h1,h2⟩,?_⟩
 erw[aO ack ..]
 refine aeN rfl (adL (adE ((dp (RF:=me) C aM T.n3 rfl).then λiH ce gw cY fM bW cU agk=>adE ((dp (RF:=me) C bW T.n4 rfl).then λO2 d7 x7 jo lO gf eV agl=>aea ?_))))
 apply RelV.fq agk;intro _
 apply RelV.fq agl;intro _
 refine HH (T.o2.keeps (kB gf)) hx λiq ajS tK kH=>?_
 have dX:=gf.keep tK
 refine aea (HI (T.o1.keeps (kB dX)) GK λnY agm uq pj=>?_)
 have db:=dX.keep uq
 have kb:Kb Y.lo Y.n s.heap nY.heap:=((R0.kb hs (((mt.trans bb).trans cY).trans jo)).trans (Kb.ks tK) dX).trans (Kb.ks uq) db
 exact hQ _ nY _ _ _ kb db (aV.trans ((⟨a6.1,a6.2,a6.3⟩ :a9 dx qm).trans (cU.trans (eV.trans (kH.trans pj))))) (.str _ agm) rfl
end
section
variable{prog:aas}{w:abI}{A:adV}{Y:Lay}{g:Gh}{σ:bj}{s:aaD}{d:Nat}{base:adF}{nm:NI}{env:Env}{RF:cQ}
noncomputable abbrev uz:IE:=.call (.glob "ord" (.obj (.builtin "ord"))) (.cons (.var 0) .nil)
theorem LU{s:Str}{vs:List (Option AV)}{own:List (List AV)}(h:s.length=1):aA me uz ⟨some (.str s)::vs,own⟩=some (.int (s.cps.getD 0 0:Nat)):=by
 show bn (decide (s.length=1)) (.int (s.cps.getD 0 0:Nat))=_
 erw[h];rfl
structure WU (body:List ahs) (nm:NI) (ke:Nat) (a:aa9):Prop where
 text:∃(e:ado) (p4 p5 p6:Pos),body=[.Return (some (.Compare e [.In] [.Name "b1_set" p4] p5)) p6]/\ei ke nm e=some uz
 n1:bZ nm "b1_set"=some (.glob "b1_set" (.obj (.ref a)))
theorem WV{f a:aa9}{fd:aeV}{body:List ahs}{az:List (Str×AV)}{ke m:Nat}{S:Int->Bool}{x:Str}(D:bP base f fd ["code"] ["code"] body az)(eL:base.NoLimit)
(T:WU body (bc fd.scope ["code"] az) ke a)(hS:base.SetOf (ahT prog w) a S m)(hx:x.length=1):
 vD prog w (d+1) base (.ref f) [.str x] (.bool (S (x.cps.getD 0 0:Nat))):=by
 refine (uh (n:=0) (ev:=λV σ=>(aA me uz σ).bind λx=>match x with|.int i=>some (σ,some (.bool (S i)))|_=>none) D eL (λenv Y C hs=>?_) ?_).2
 .obtain ⟨e,p4,p5,p6,rfl,he⟩:=T.text
  exact Hn hs C ((pp C hs ke).e _ _ he) T.n1 hS
 .show ((ani (aA me uz ⟨[some (.str x)],[]⟩) _).bind _)=_
  erw[LU hx]
  rfl
theorem WW(h:x.length<=5592405):nM σ (.str x) "lower" []=some (.str (afe x)):=by
 show nL σ x "lower" []=_
 unfold nL
 rw[if_pos rfl]
 exact bl (decide_eq_true h)
structure WX (body:List ahs) (nm:NI) (ke k:Nat) (a:aa9):Prop where
 text:∃(e:ado) (rest:List ahs) (pr pd ap ps sp:Pos),body=.Assign [.Name "r" pr] (.Call (.Attribute (.Name "b3_exceptions" pd) (adQ "get") ap) [e] [] ps) sp::rest/\ei ke nm e=some uz/\(ap.endLine==ps.line)=true/\cm [e]/\
  cw k ke nm rest=.cons (.ifs (.val (.cmp .IsNot (.var 1) .none)) (.cons (.ret (.var 1)) .nil) .nil) (.cons (.ret (.vy (.var 0) "lower" .nil)) .nil)
 n1:bZ nm "b3_exceptions"=some (.glob "b3_exceptions" (.obj (.ref a)))
 n2:bK nm "r"=some 1
noncomputable def wI:Option Str->AV
 |some s=>.str s
 |none=>.none
theorem WY{f a:aa9}{fd:aeV}{body:List ahs}{az:List (Str×AV)}{ke k:Nat}{fm:Int->Option aaq}{T3:Int->Option Str}{x:Str}(D:bP base f fd ["code"] ["code","r"] body az)(eL:base.NoLimit)
(T:WX body (bc fd.scope ["code","r"] az) ke k a)(hM:base.MapOf (ahT prog w) a fm)(ha:(a==ajt)=false)(hG:∀i n g,RelV n g (wI (T3 i)) ((fm i).getD .none))(hx:x.length=1):
 vD prog w (d+1) base (.ref f) [.str x] (.str ((T3 (x.cps.getD 0 0:Nat)).getD (afe x))):=by
 obtain ⟨e,rest,pr,pd,ap,ps,sp,Lg,he,hl,zo,hc⟩:=T.text
 refine (uh (n:=0) (ev:=λn σ=>em ((aA me uz σ).bind λx=>match x with|.int i=>(some (wI (T3 i))).map λz=>(σ.put 1 z,none)|_=>none) (λσ=>cg me n (cw k ke (bc fd.scope ["code","r"] az) rest) σ)) D eL (λenv Y C hs=>?_) ?_).2
 .erw[Lg]
  exact PC (PB (G:=λi=>some (wI (T3 i))) hs C ((pp C hs ke).e _ _ he) zo T.n2 T.n1 hM (λi x hx n g=>by cases hx;exact hG i n g) ha hl) ((KC rf0 Fi ke k _ env Y C hs).b rest)
 .erw[hc]
  show ((em ((aA me uz ⟨[some (.str x),none],[]⟩).bind _) _).bind _)=_
  erw[LU hx]
  show ((cg me 0 (.cons (.ifs (.val (.cmp .IsNot (.var 1) .none)) (.cons (.ret (.var 1)) .nil) .nil) (.cons (.ret (.vy (.var 0) "lower" .nil)) .nil)) ⟨[some (.str x),some (wI (T3 (x.cps.getD 0 0:Nat)))],[]⟩).bind _)=_
  cases T3 (x.cps.getD 0 0:Nat) with
  |some y=>rfl
  |none=>
   have bq:x.length<=5592405:=by erw[hx];decide
   show ((((nM ⟨[some (.str x),some .none],[]⟩ (.str x) "lower" []).map λz=>((⟨[some (.str x),some .none],[]⟩ :bj),some z)).bind λp=>match p.2 with|some v=>some (p.1,some v)|none=>some (p.1,none)).bind _)=_
   erw[(show nM ⟨[some (.str x),some .none],[]⟩ (.str x) "lower" []=some (.str (afe x)) from WW bq)]
   rfl
end
section
section
variable{RF:cQ}{σ σ':bj}{n:Nat}{e a b c d f:IE}{es:GC}{t:IT}{ts:zK}{it:II}{x y z r:AV}{xs ys:List AV}{op:agA}{cop:CmpOp}{p q:Bool}{nm:Str}{i j k:Int}
theorem ag(ha:aA RF a σ=some x)(hb:aA RF b σ=some y)(h:cR σ op x y=some r):aA RF (.bin op a b) σ=some r:=by
 show ((aA RF a σ).bind λx=>(aA RF b σ).bind λy=>cR σ op x y)=_
 erw[ha,hb];exact h
theorem uA(ha:aA RF a σ=some (.int i)):aA RF (.neg a) σ=some (.int (-i)):=by
 show ((aA RF a σ).bind λx=>match x with|AV.int i=>some (AV.int (-i))|_=>none)=_
 erw[ha];rfl
theorem pG(ha:aA RF a σ=some (.int i)):aA RF (.inv a) σ=some (.int (acg i)):=by
 show ((aA RF a σ).bind λx=>match x with|AV.int i=>some (AV.int (acg i))|_=>none)=_
 erw[ha];rfl
theorem bh(ha:aA RF a σ=some x)(hb:aA RF b σ=some y)(h:rx σ cop x y=some p):aA RF (.cmp cop a b) σ=some (.bool p):=by
 show ((aA RF a σ).bind λx=>(aA RF b σ).bind λy=>(rx σ cop x y).map AV.bool)=_
 erw[ha,hb];show (rx σ cop x y).map AV.bool=_;erw[h];rfl
theorem nn(ht:iZ RF t σ=some p)(ha:aA RF (if p then a else b) σ=some x):aA RF (.zn t a b) σ=some x:=by
 show ((iZ RF t σ).bind λc=>if c=true then aA RF a σ else aA RF b σ)=_
 erw[ht];cases p <;> exact ha
theorem nq(h:iE RF es σ=some xs)(hl:(decide (xs.length<=aa7))=true):aA RF (.lst es) σ=some (.lst xs):=by
 show ((iE RF es σ).bind λxs=>bn (decide (xs.length<=aa7)) (.lst xs))=_
 erw[h];show bn (decide (xs.length<=aa7)) (.lst xs)=_;erw[hl];rfl
theorem jv(h:iE RF es σ=some xs)(hl:(decide (xs.length<=aa7))=true):aA RF (.tup es) σ=some (.tup xs):=by
 show ((iE RF es σ).bind λxs=>bn (decide (xs.length<=aa7)) (.tup xs))=_
 erw[h];show bn (decide (xs.length<=aa7)) (.tup xs)=_;erw[hl];rfl
theorem bL(ha:aA RF a σ=some x)(hb:aA RF b σ=some y)(h:nK σ x y=some r):aA RF (.idx a b) σ=some r:=by
 show ((aA RF a σ).bind λx=>(aA RF b σ).bind λy=>nK σ x y)=_
 erw[ha,hb];exact h
theorem Du{u v:AV}(ha:aA RF a σ=some x)(hb:aA RF b σ=some y)(hc:aA RF c σ=some z)(hd:aA RF d σ=some u)(h:CD σ x y z u=some r):aA RF (.U5 a b c d) σ=some r:=by
 show ((aA RF a σ).bind λx=>(aA RF b σ).bind λl=>(aA RF c σ).bind λu=>(aA RF d σ).bind λt=>CD σ x l u t)=_
 erw[ha,hb,hc,hd];exact h
theorem aC(hf:aA RF f σ=some x)(ha:iE RF es σ=some xs)(h:f5 RF σ x xs=some r):aA RF (.call f es) σ=some r:=by
 show ((aA RF f σ).bind λfv=>(iE RF es σ).bind λxs=>f5 RF σ fv xs)=_
 erw[hf,ha];exact h
theorem yy(hf:aA RF f σ=some x)(ha:iE RF es σ=some xs)(h:nM σ x nm xs=some r):aA RF (.vy f nm es) σ=some r:=by
 show ((aA RF f σ).bind λfv=>(iE RF es σ).bind λxs=>nM σ fv nm xs)=_
 erw[hf,ha];exact h
theorem ao:iE RF .nil σ=some []:=rfl
theorem af(h:aA RF e σ=some x)(hs:iE RF es σ=some xs):iE RF (.cons e es) σ=some (x::xs):=by
 show ((aA RF e σ).bind λx=>(iE RF es σ).map λxs=>x::xs)=_
 erw[h,hs];rfl
theorem yz(h:aA RF e σ=some x)(ht:tv σ x=some p):iZ RF (.val e) σ=some p:=by
 show ((aA RF e σ).bind λx=>tv σ x)=_
 erw[h];exact ht
theorem aJ(h:aA RF e σ=some (.bool p)):iZ RF (.val e) σ=some p:=yz h rfl
theorem yA(h:aA RF e σ=some (.int i)):iZ RF (.val e) σ=some (i !=0):=yz h rfl
theorem pH:f6 RF .nil σ=some true:=rfl
theorem jw(h:iZ RF t σ=some p)(hs:p=true->f6 RF ts σ=some q):f6 RF (.cons t ts) σ=some (p&&q):=by
 show ((iZ RF t σ).bind λb=>if b=true then f6 RF ts σ else some false)=_
 erw[h];cases p
 .rfl
 .exact hs rfl
theorem LV:xW RF .nil σ=some false:=rfl
theorem wJ(h:iZ RF t σ=some p)(hs:p=false->xW RF ts σ=some q):xW RF (.cons t ts) σ=some (p||q):=by
 show ((iZ RF t σ).bind λb=>if b=true then some true else xW RF ts σ)=_
 erw[h];cases p
 .exact hs rfl
 .rfl
theorem WZ(h:xW RF ts σ=some p):iZ RF (.or ts) σ=some p:=h
theorem Bd{P:AV->Option (Option AV)}{f:AV->AV}:∀{l:List AV},(∀x∈l,P x=some (some (f x)))->dI P l=some (l.map f)
 |[],_=>rfl
 |x::l,h=>by
  show ((P x).bind λo=>match o with|some y=>(dI P l).map (y::·)|none=>dI P l)=_
  erw[h x (.head _),Bd λy hy=>h y (.tail _ hy)];rfl
theorem Be{P:AV->Option (Option AV)}{f:AV->AV}{g:AV->Bool}:∀{l:List AV},(∀x∈l,P x=some (if g x then some (f x) else none))->dI P l=some ((l.filter g).map f)
 |[],_=>rfl
 |x::l,h=>by
  show ((P x).bind λo=>match o with|some y=>(dI P l).map (y::·)|none=>dI P l)=_
  erw[h x (.head _),Be λy hy=>h y (.tail _ hy),aga]
  cases g x <;> rfl
theorem yB(hi:wd RF it σ=some xs)(h:dI (λx=>(f6 RF ts (σ.push x)).bind λc=>if c=true then (aA RF e (σ.push x)).map some else some none) xs=some ys)(hl:decide (ys.length<=aa7)=true):aA RF (.comp e it ts) σ=some (.lst ys):=by
 show ((wd RF it σ).bind λitems=>(dI (λx=>(f6 RF ts (σ.push x)).bind λc=>if c=true then (aA RF e (σ.push x)).map some else some none) items).bind λys=>bn (decide (ys.length<=aa7)) (.lst ys))=_
 erw[hi]
 show ((dI _ xs).bind λys=>bn (decide (ys.length<=aa7)) (.lst ys))=_
 erw[h];show bn (decide (ys.length<=aa7)) (.lst ys)=_;erw[hl];rfl
theorem yC{g:AV->AV}(hi:wd RF it σ=some xs)(h:∀x∈xs,aA RF e (σ.push x)=some (g x))(hl:decide (xs.length<=aa7)=true):aA RF (.comp e it .nil) σ=some (.lst (xs.map g)):=
 yB hi (Bd λx hx=>by show (aA RF e (σ.push x)).map some=_;erw[h x hx];rfl) (by erw[aan ..];exact hl)
theorem W0{g:AV->AV}{c:AV->Bool}(hi:wd RF it σ=some xs)(hc:∀x∈xs,f6 RF ts (σ.push x)=some (c x))(h:∀x∈xs,c x=true->aA RF e (σ.push x)=some (g x))(hl:decide (xs.length<=aa7)=true):aA RF (.comp e it ts) σ=some (.lst ((xs.filter c).map g)):=
 yB hi (Be λx hx=>by
  erw[hc x hx]
  show (if c x=true then _ else _)=_
  cases hcx:c x
  .rfl
  .show (aA RF e (σ.push x)).map some=_
   erw[h x hx hcx];rfl) (by
  erw[aan ..]
  exact decide_eq_true (abq (ajc _ _) (of_decide_eq_true hl)))
theorem yD{hi:IE}(h:aA RF hi σ=some (.int i))(hb:decide (-(2^20)<=i/\i<=2^20)=true):wd RF (.ku hi) σ=some (dk 0 i):=by
 show ((aA RF hi σ).bind λy=>match y with|.int b=>if -(2^20)<=b/\b<=2^20 then some (dk 0 b) else none|_=>none)=_
 erw[h];exact if_pos (of_decide_eq_true hb)
theorem fV(h:aA RF e σ=some x)(hx:jk σ x=some xs):wd RF (.exp e) σ=some xs:=by
 show ((aA RF e σ).bind λx=>jk σ x)=_
 erw[h];exact hx
theorem Fx(h:aA RF e σ=some x)(hx:lw x=some xs):vz RF (.exp e) σ=some xs:=by
 show ((aA RF e σ).bind lw)=_
 erw[h];exact hx
theorem n9{hi:IE}(h:aA RF hi σ=some (.int i))(hb:decide (-(2^20)<=i/\i<=2^20)=true):vz RF (.ku hi) σ=some (dk 0 i):=yD h hb
theorem ki(h:nJ op i j=some r):cR σ op (.int i) (.int j)=some r:=h
theorem gK:cR σ .Add (.int i) (.int j)=some (.int (i+j)):=rfl
theorem k_sub:cR σ .Sub (.int i) (.int j)=some (.int (i-j)):=rfl
theorem LW(h:decide (aae i+aae j<=2^20)=true):cR σ .Mult (.int i) (.int j)=some (.int (i*j)):=ki (by unfold nJ;exact bl h)
theorem LX(h:(decide (j≠0)&&decide (j.natAbs.log2<9000))=true):cR σ .FloorDiv (.int i) (.int j)=some (.int (i.fdiv j)):=ki (by unfold nJ;exact bl h)
theorem mo(h:(decide (j≠0)&&decide (j.natAbs.log2<9000))=true):cR σ .Mod (.int i) (.int j)=some (.int (i.fmod j)):=ki (by unfold nJ;exact bl h)
theorem Tq(h:(decide (0<=j)&&decide ((aae i:Int)*j<=2^27))=true):cR σ .Pow (.int i) (.int j)=some (.int (i^j.toNat)):=ki (by unfold nJ;exact bl h)
theorem acm(h:(decide (0<=j)&&decide ((aae i:Int)+j<=2^27))=true):cR σ .LShift (.int i) (.int j)=some (.int (i*2^j.toNat)):=ki (by unfold nJ;exact bl h)
theorem Tr(h:decide (0<=j)=true):cR σ .RShift (.int i) (.int j)=some (.int (i.fdiv (2^j.toNat))):=ki (by unfold nJ;exact bl h)
theorem LY:cR σ .BitAnd (.int i) (.int j)=some (.int (adM i j)):=rfl
theorem acn:cR σ .BitOr (.int i) (.int j)=some (.int (agP i j)):=rfl
theorem aco{s u:Str}(h:decide (s.length+u.length<=aa7)=true):cR σ .Add (.str s) (.str u)=some (.str (s++u)):=by
 show pV .Add s u=_
 unfold pV;exact bl h
theorem acp(hx:σ.listOf x=some xs)(h:EZ σ op x y=some r):cR σ op x y=some r:=by
 cases x with
 |int _=>exact pW hx
 |str _=>exact pW hx
 |_=>exact h
theorem Ts(hx:σ.listOf x=some xs)(hy:σ.listOf y=some ys)(h:decide (xs.length+ys.length<=aa7)=true):cR σ .Add x y=some (.lst (xs++ys)):=by
 refine acp hx ?_
 unfold EZ
 simp only[hx,hy,aa5]
 exact bl h
theorem LZ:nK σ x (.int k)=if 0<=k/\k<2^62 then (Jl σ x).bind (·[k.toNat]?) else none:=by
 skip
 erw[aa5 ..,rfl]
theorem gL(hx:σ.listOf x=some xs)(h:0<=k/\k<2^62)(hy:xs[k.toNat]?=some y):nK σ x (.int k)=some y:=by
 have e:Jl σ x=some xs:=by
  cases x with
  |tup _=>exact pW hx
  |_=>exact hx
 erw[LZ,if_pos h,e];exact hy
theorem Bf(h:0<=k/\k<2^62)(hy:xs[k.toNat]?=some y):nK σ (.tup xs) (.int k)=some y:=by
 erw[LZ,if_pos h];exact hy
theorem cO{g:aa9}(h:(x::xs).mapM (lM σ 3)=some ys)(hR:RF (.ref g) ys=some r):f5 RF σ (.obj (.ref g)) (x::xs)=some r:=by
 show (((x::xs).mapM (lM σ 3)).bind (RF (.ref g)))=_
 erw[h];exact hR
theorem acq:zL σ "chr" xs=tB Jm xs:=if_pos rfl
theorem acr:zL σ "ord" xs=tB Jn xs:=(if_neg ⋯).trans (if_pos rfl)
theorem acs:zL σ "len" xs=tB (U9 σ) xs:=(if_neg ⋯).trans ((if_neg ⋯).trans (if_pos rfl))
theorem act:zL σ "sum" xs=tB (Jp σ) xs:=(if_neg ⋯).trans ((if_neg ⋯).trans ((if_neg ⋯).trans (if_pos rfl)))
theorem agn:zL σ "divmod" xs=U8 dmK xs:=(if_neg ⋯).trans ((if_neg ⋯).trans ((if_neg ⋯).trans ((if_neg ⋯).trans (if_pos rfl))))
theorem cb{b:String}{o:Option AV}(h:zL σ b xs=o):f5 RF σ (.obj (.builtin b)) xs=o:=h
theorem ai:eg (.int i)=some i:=rfl
theorem as_{s:Str}:nI (.str s)=some s:=rfl
theorem L0{m:Nat}(h:decide ((m:Int)<2^62)=true):Jo m=some (.int m):=by
 unfold Jo;exact bl h
theorem wK(h:(decide (0<=i)&&decide (i<=1114111))=true):f5 RF σ (.obj (.builtin "chr")) [.int i]=some (.str ⟨#[i.toNat]⟩):=by
 refine cb (acq.trans ?_)
 show Jm (.int i)=_
 unfold Jm
 (rw[ai];erw[aa5 ..]);exact bl h
theorem Fy{s:Str}(h:decide (s.length=1)=true):f5 RF σ (.obj (.builtin "ord")) [.str s]=some (.int (s.cps.getD 0 0:Nat)):=by
 refine cb (acr.trans ?_)
 show Jn (.str s)=_
 unfold Jn
 (rw[as_];erw[aa5 ..]);exact bl h
theorem L1{m:Nat}(hx:E1 σ x=some m)(h:decide ((m:Int)<2^62)=true):f5 RF σ (.obj (.builtin "len")) [x]=some (.int m):=by
 refine cb (acs.trans ?_)
 show (E1 σ x).bind Jo=_
 erw[hx,aa5 ..]
 exact L0 h
theorem W1{s:Str}(h:decide ((s.length:Int)<2^62)=true):f5 RF σ (.obj (.builtin "len")) [.str s]=some (.int s.length):=L1 rfl h
theorem P7(hx:σ.listOf x=some xs):E1 σ x=some xs.length:=by
 cases x with
 |str _=>exact pW hx
 |own k=>show (σ.listOf (.own k)).map ag9=_;erw[hx];rfl
 |lst l=>cases hx;rfl
 |bor l=>cases hx;rfl
 |_=>exact pW hx
theorem Fz(hx:σ.listOf x=some xs)(h:decide ((xs.length:Int)<2^62)=true):f5 RF σ (.obj (.builtin "len")) [x]=some (.int xs.length):=L1 (P7 hx) h
theorem Tt{l:List Int}(hx:(σ.listOf x).bind bp=some l):f5 RF σ (.obj (.builtin "sum")) [x]=some (.int l.sum):=by
 refine cb (act.trans ?_)
 show Jp σ x=_
 unfold Jp
 rw[hx];rfl
theorem ago(h:(decide (j≠0)&&decide (j.natAbs.log2<9000))=true):f5 RF σ (.obj (.builtin "divmod")) [.int i,.int j]=some (.tup [.int (i.fdiv j),.int (i.fmod j)]):=by
 refine cb (agn.trans ?_)
 show dmK (.int i) (.int j)=_
 unfold dmK
 (rw[ai];erw[aa5 ..,ai,aa5 ..]);exact bl h
theorem du:∀l:List Int,bp (l.map AV.int)=some l
 |[]=>rfl
 |i::l=>by show (bp (l.map AV.int)).map (i::·)=_;erw[du l];rfl
theorem a7{i:Nat}(h:aA RF e σ=some x):CV RF n (.asg i e) σ=some (σ.put i x,none):=by
 show ((aA RF e σ).map λx=>(σ.put i x,none))=_
 erw[h];rfl
theorem eP(h:aA RF e σ=some x):CV RF n (.ret e) σ=some (σ,some x):=by
 show ((aA RF e σ).map λx=>(σ,some x))=_
 erw[h];rfl
theorem iP{i:Nat}(ho:(σ.vars[i]?.getD none)=some y)(h:aA RF e σ=some x)(hr:yd op y x=some r):CV RF n (.aug i op e) σ=some (σ.put i r,none):=by
 show ((σ.vars[i]?.getD none).bind λold=>(aA RF e σ).bind λx=>(yd op old x).map λy=>(σ.put i y,none))=_
 erw[ho,h];show (yd op y x).map _=_;erw[hr];rfl
theorem oa{i j:Nat}(h:aA RF e σ=some (.tup [x,y])):CV RF n (.ni i j e) σ=some ((σ.put i x).put j y,none):=by
 show ((aA RF e σ).bind λx=>match x with|.tup [a,b]=>some ((σ.put i a).put j b,none)|_=>none)=_
 erw[h];rfl
theorem uB{m:Nat}(ho:aA RF a σ=some (.own m))(h:aA RF e σ=some x)(hm:σ.own[m]?=some xs)(hl:decide (xs.length<=aa7)=true):CV RF n (.app a e) σ=some (σ.dU m (xs++[x]),none):=by
 show ((aA RF a σ).bind λov=>(aA RF e σ).bind λx=>match ov with
  |.own m=>σ.own[m]?.bind λxs=>if xs.length<=aa7 then some (σ.dU m (xs++[x]),none) else none
  |_=>none)=_
 erw[ho,h]
 show (σ.own[m]?.bind λxs=>if xs.length<=aa7 then some (σ.dU m (xs++[x]),none) else none)=_
 erw[hm];exact if_pos (of_decide_eq_true hl)
theorem acu{m:Nat}(ho:aA RF a σ=some (.own m))(hm:σ.own[m]?=some xs)(hl:decide (xs.length<=aa7)=true):CV RF n (.rev a) σ=some (σ.dU m xs.reverse,none):=by
 show ((aA RF a σ).bind λov=>match ov with
  |.own m=>σ.own[m]?.bind λxs=>if xs.length<=aa7 then some (σ.dU m xs.reverse,none) else none
  |_=>none)=_
 erw[ho]
 show (σ.own[m]?.bind λxs=>if xs.length<=aa7 then some (σ.dU m xs.reverse,none) else none)=_
 erw[hm];exact if_pos (of_decide_eq_true hl)
theorem dv{A B:eW}{o:Cp}(ht:iZ RF t σ=some p)(h:cg RF n (if p then A else B) σ=o):CV RF n (.ifs t A B) σ=o:=by
 show ((iZ RF t σ).bind λc=>if c=true then cg RF n A σ else cg RF n B σ)=_
 erw[ht];cases p <;> exact h
theorem mq{i:Nat}{B:eW}{o:Cp}(hi:vz RF it σ=some xs)(h:jK (λx σ=>cg RF n B (σ.put i x)) xs σ=o):CV RF n (.lP i it B) σ=o:=by
 show ((vz RF it σ).bind λitems=>jK (λx σ=>cg RF n B (σ.put i x)) items σ)=_
 erw[hi];exact h
theorem bH:cg RF n .nil σ=some (σ,none):=rfl
theorem au{S:IS}{B:eW}{o:Cp}(h:CV RF n S σ=some (σ',none))(hb:cg RF n B σ'=o):cg RF n (.cons S B) σ=o:=by
 show em (CV RF n S σ) (cg RF n B)=_
 erw[h];exact hb
theorem bM{S:IS}{B:eW}{v:AV}(h:CV RF n S σ=some (σ',some v)):cg RF n (.cons S B) σ=some (σ',some v):=by
 show em (CV RF n S σ) (cg RF n B)=_
 erw[h];rfl
theorem cV{np nl:Nat}{Sz:eW}{args:List AV}{v:AV}(hp:(decide (args.length=np/\np<=nl)&&args.all (cf 4))=true)
(h:cg RF n Sz ⟨args.map some++aar (nl-np) none,[]⟩=some (σ',some v))(hr:iD σ' 4 v=some r):Yx np nl Sz RF n args=some r:=by
 rw[aap,decide_eq_true_eq]at hp
 unfold Yx evG
 (rw[if_pos ⟨hp.1.1,hp.1.2,hp.2⟩];erw[h])
 exact hr
end
end
section
noncomputable def fr0:Obj:={cls:=.none,data:=.freed}
noncomputable def ey(P:abA):adF:=⟨((jh pw P).objs.set! 47 fr0).set! 54 fr0,{}⟩
noncomputable def jx(P:abA)(a:aa9):aeV:=match (ey P).get? a with|some o=>(match o.data with|.func fd=>fd|_=>default)|none=>default
noncomputable def acv:aaq->AV
 |.int i _=>.int i
 |.str s _=>.str s
 |v=>.obj v
theorem L2(n:Nat)(g:Gh):∀v,RelV n g (acv v) v
 |.int i t=>.int i t
 |.str s t=>.str s t
 |.none=>.obj _|.ellipsis=>.obj _|.notImplemented=>.obj _|.bool _=>.obj _|.float _ _=>.obj _|.bytes _ _=>.obj _|.type _=>.obj _|.builtin _=>.obj _|.ref _=>.obj _
noncomputable def gN(s:String)(v:aaq):Str×aaq:=(adQ s,v)
noncomputable def gl:List (Str×aaq):=[gN "_parse_varint" (.ref 80),gN "_div2n1n" (.ref 38),gN "_div3n2n" (.ref 45),gN "_int2digits" (.ref 52),gN "_digits2int" (.ref 59),gN "_divmod_pos" (.ref 66),gN "int_divmod" (.ref 73),gN "quotedata" (.ref 97),gN "in_table_b1" (.ref 115),gN "map_table_b3" (.ref 161),gN "_law_heaps" (.ref 166),gN "_law_hidden" (.ref 173),gN "_law_beside" (.ref 180),gN "_law_form" (.ref 187),gN "_law_prepared" (.ref 194),gN "_law_numbers" (.ref 199),gN "_law_steps" (.ref 206),gN "_law_mail" (.ref 213),gN "_law_rows" (.ref 220),gN "_law_shapes" (.ref 225),
 gN "_DIV_LIMIT" (.int 4000 284),gN "CRLF" (.str ⟨#[13,10]⟩ 435),gN "b1_set" (.ref 105),gN "b3_exceptions" (.ref 116),gN "_twin_re_1" (.ref 85),gN "_twin_re_2" (.ref 90),
 gN "chr" (.builtin "chr"),gN "ord" (.builtin "ord"),gN "len" (.builtin "len"),gN "sum" (.builtin "sum"),gN "divmod" (.builtin "divmod"),gN "iter" (.builtin "iter"),gN "next" (.builtin "next"),gN "max" (.builtin "max"),gN "sorted" (.builtin "sorted"),gN "range" (.type "range"),gN "reversed" (.type "reversed"),gN "StopIteration" (.type "StopIteration")]
noncomputable def az:List (Str×AV):=gl.map λp=>(p.1,acv p.2)
theorem acw(P:abA):gl.map (λp=>((ey P).nsMap 3 p.1).or ((ey P).nsMap 0 p.1))=gl.map λp=>some p.2:=∅
theorem ns3(P:abA):(ey P).isNs 3=true:=∅
theorem ns0(P:abA):(ey P).isNs 0=true:=∅
theorem nsS(P:abA):(ey P).isNs cStatics=true:=∅
theorem uC(P:abA):(ey P).NoLimit:=⟨_,.of_isNs (nsS P),∅⟩
theorem uD{α β:Type}(f:α->β)(x:Str):∀l:List (Str×α),(l.map λp=>(p.1,f p.2)).lookup x=(l.lookup x).map f
 |[]=>rfl
 |(y,v)::l=>by
  erw[aa6,ad5,ad5]
  cases x==y
  .exact uD f x l
  .rfl
theorem L3(P:abA)(x:Str)(av:AV)(h:az.lookup x=some av):∃v,(∀n g,RelV n g av v)/\∃mg,(ey P).Ns 3 mg/\(mg x=some v\/mg x=none/\∃mb,(ey P).Ns 0 mb/\mb x=some v):=by
 unfold az at h
 rw[uD]at h
 refine bC h λv hv cc=>?_
 obtain rfl:=cc
 have hm:=cn hv
 have h2:=amq.mp (acw P) _ hm
 refine ⟨v,λn g=>L2 n g v,_,.of_isNs (ns3 P),?_⟩
 rcases ahY.mp h2 with h3 | ⟨h3,h4⟩
 .exact .inl h3
 .exact .inr ⟨h3,_,.of_isNs (ns0 P),h4⟩
theorem eB{α:Type}{o:Option α}{p:α->Bool}{G:Prop}(h:o.any p=true)(k:∀a,o=some a->p a=true->G):G:=by
 cases o with
 |none=>exact fT h
 |some a=>exact k a rfl h
theorem fk{a b:Bool}{G:Prop}(h:(a&&b)=true)(k:a=true->b=true->G):G:=by
 cases a with
 |false=>exact fT h
 |true=>exact k rfl h
noncomputable def YF:aaq->Option String
 |.type n=>some n
 |_=>none
noncomputable def L4:aaq->Option aa9
 |.ref a=>some a
 |_=>none
noncomputable def W2:aaq->Bool
 |.str _ _=>true
 |_=>false
noncomputable def W3:aaq->Bool
 |.int _ _=>true
 |_=>false
noncomputable def Tv:aaq->Bool
 |.bool _=>true
 |_=>false
noncomputable def L5:Data->Option (Array aaq)
 |.fields vs=>some vs
 |_=>none
noncomputable def acx:Data->Option (Array aaq)
 |.seq vs _=>some vs
 |_=>none
section
variable{v:aaq}{d:Data}
theorem uE(h:YF v=some n):v=.type n:=by
 cases v with
 |type _=>exact congrArg akq (aac h)
 |_=>exact aq h
theorem sZ(h:L4 v=some n):v=.ref n:=by
 cases v with
 |ref _=>exact congrArg ahI (aac h)
 |_=>exact aq h
theorem FA(h:W2 v=true):∃s t,v=.str s t:=by
 cases v with
 |str s t=>exact ⟨s,t,rfl⟩
 |_=>exact fT h
theorem FC(h:W3 v=true):∃s t,v=.int s t:=by
 cases v with
 |int s t=>exact ⟨s,t,rfl⟩
 |_=>exact fT h
theorem L6(h:Tv v=true):∃b,v=.bool b:=by
 cases v with
 |bool b=>exact ⟨b,rfl⟩
 |_=>exact fT h
theorem s4(h:L5 d=some vs):d=.fields vs:=by
 cases d with
 |fields _=>exact congrArg Data.fields (aac h)
 |_=>exact aq h
theorem P8(h:acx d=some vs):∃e,d=.seq vs e:=by
 cases d with
 |seq _ e=>exact ⟨e,congrArg (Data.seq · e) (aac h)⟩
 |_=>exact aq h
end
noncomputable def Tw:aaq->Option Str
 |.str s _=>some s
 |_=>none
theorem L7(h:Tw v=some s):∃t,v=.str s t:=by
 cases v with
 |str _ t=>exact ⟨t,congrArg (Value.str · t) (aac h)⟩
 |_=>exact aq h
noncomputable def codeOk(h:adF)(cd:aaq)(q:Str):Bool:=(L4 cd).any λc=>(h.get? c).any λo=>(L5 o.data).any λvs=>((vs[1]?:Option aaq)).any λu=>(Tw u).any λx=>x==q
theorem P9{h:adF}{cd:aaq}{q:Str}(x:codeOk h cd q=true):h.CodeRec cd q:=by
 refine eB x λc hc x=>eB x λo ho x=>eB x λvs hd x=>eB x λu hv x=>eB x λy hy x=>?_
 refine bU (L7 hy) λt e=>?_
 rw[e,eq_of_beq x]at hv
 exact ⟨c,o,vs,t,sZ hc,ho,s4 hd,hv⟩
structure Look (P:abA) (f:aa9) (fd:aeV) (ns:List Str) (i:Nat):Prop where
 obj:((ey P).get? f).map (·.data)=some (.func fd)
 code:codeOk (ey P) fd.code fd.qualname=true
 rest:(fd.closure,fd.scope.isCoroutine,fd.scope.isGenerator,fd.globals,fd.builtins)=([],false,false,3,0)
 kind:fd.scope.kind=.function
 body:fd.body=.stmts (cK pw i).2.1
 kinds:(ns.all λx=>fd.scope.names.lookup x==some .local||fd.scope.names.lookup x==some .cell)=true
theorem Look.dO(L:Look P f fd ns i)(hb:∀vals:List aaq,vals.length=ps.length->bindArgs fd ⟨vals,[]⟩=pure (ps.zip vals))
(nd:ns.Nodup)(pre:ns.take ps.length=ps):bP (ey P) f fd ps ns (cK pw i).2.1 az:=by
 have hr:=L.rest
 simp only[amy]at hr
 obtain ⟨h1,h2,h3,h4,h5⟩:=hr
 refine bz (aiM.mp L.obj) λo ho hd=>?_
 refine ⟨⟨o,ho,hd⟩,P9 L.code,L.body,h1,hb,h2,h3,L.kind,nd,pre,λx hx=>?_,λx av h=>by (erw[h4,h5]);exact L3 P x av h⟩
 have:=aaG.mp L.kinds x hx
 simp only[agh,beq_iff_eq]at this
 exact this
theorem kP{fd:aeV}{ps:List Str}(hp:ps.length=1)(h:∀a,bindArgs fd ⟨[a],[]⟩=pure (ps.zip [a])):∀vals:List aaq,vals.length=ps.length->bindArgs fd ⟨vals,[]⟩=pure (ps.zip vals)
 |[a],_=>h a
 |[],e=>by rw[hp]at e;cases e
 |_::_::_,e=>by rw[hp]at e;cases e
theorem wL{fd:aeV}{ps:List Str}(hp:ps.length=2)(h:∀a b,bindArgs fd ⟨[a,b],[]⟩=pure (ps.zip [a,b])):∀vals:List aaq,vals.length=ps.length->bindArgs fd ⟨vals,[]⟩=pure (ps.zip vals)
 |[a,b],_=>h a b
 |[],e=>by rw[hp]at e;cases e
 |[_],e=>by rw[hp]at e;cases e
 |_::_::_::_,e=>by rw[hp]at e;cases e
theorem Tx{fd:aeV}{ps:List Str}(hp:ps.length=3)(h:∀a b c,bindArgs fd ⟨[a,b,c],[]⟩=pure (ps.zip [a,b,c])):∀vals:List aaq,vals.length=ps.length->bindArgs fd ⟨vals,[]⟩=pure (ps.zip vals)
 |[a,b,c],_=>h a b c
 |[],e=>by rw[hp]at e;cases e
 |[_],e=>by rw[hp]at e;cases e
 |[_,_],e=>by rw[hp]at e;cases e
 |_::_::_::_::_,e=>by rw[hp]at e;cases e
theorem acy{fd:aeV}{ps:List Str}(hp:ps.length=5)(h:∀a b c d e,bindArgs fd ⟨[a,b,c,d,e],[]⟩=pure (ps.zip [a,b,c,d,e])):∀vals:List aaq,vals.length=ps.length->bindArgs fd ⟨vals,[]⟩=pure (ps.zip vals)
 |[a,b,c,d,e],_=>h a b c d e
 |[],e=>by rw[hp]at e;cases e
 |[_],e=>by rw[hp]at e;cases e
 |[_,_],e=>by rw[hp]at e;cases e
 |[_,_,_],e=>by rw[hp]at e;cases e
 |[_,_,_,_],e=>by rw[hp]at e;cases e
 |_::_::_::_::_::_::_,e=>by rw[hp]at e;cases e
theorem acz{fd:aeV}{ps:List Str}(hp:ps.length=6)(h:∀a b c d e f,bindArgs fd ⟨[a,b,c,d,e,f],[]⟩=pure (ps.zip [a,b,c,d,e,f])):∀vals:List aaq,vals.length=ps.length->bindArgs fd ⟨vals,[]⟩=pure (ps.zip vals)
 |[a,b,c,d,e,f],_=>h a b c d e f
 |[],e=>by rw[hp]at e;cases e
 |[_],e=>by rw[hp]at e;cases e
 |[_,_],e=>by rw[hp]at e;cases e
 |[_,_,_],e=>by rw[hp]at e;cases e
 |[_,_,_,_],e=>by rw[hp]at e;cases e
 |[_,_,_,_,_],e=>by rw[hp]at e;cases e
 |_::_::_::_::_::_::_::_,e=>by rw[hp]at e;cases e
noncomputable abbrev Dv:List Str:=["a","b","n"]
noncomputable abbrev uF:List Str:=["a","b","n","pad","half_n","mask","b1","b2","q1","r","q2"]
theorem wM(P:abA):bP (ey P) 38 (jx P 38) Dv uF (cK pw 3).2.1 az:=
 Look.dO ⟨∅,∅,∅,∅,∅,∅⟩ (Tx rfl λa b c=>∅) (by decide+kernel) ∅
noncomputable abbrev Dw:List Str:=["a12","a3","b","b1","b2","n"]
noncomputable abbrev uG:List Str:=["a12","a3","b","b1","b2","n","q","r"]
theorem HK(P:abA):bP (ey P) 45 (jx P 45) Dw uG (cK pw 4).2.1 az:=
 Look.dO ⟨∅,∅,∅,∅,∅,∅⟩ (acz rfl λa b c d e f=>∅) (by decide+kernel) ∅
noncomputable abbrev vP:List Str:=["a","n"]
noncomputable abbrev vQ:List Str:=["a","n","a_digits","inner"]
theorem od(P:abA):bP (ey P) 52 (jx P 52) vP vQ (cK pw 5).2.1 az:=
 Look.dO ⟨∅,∅,∅,∅,∅,∅⟩ (wL rfl λa b=>∅) (by decide+kernel) ∅
noncomputable abbrev vR:List Str:=["digits","n"]
noncomputable abbrev vS:List Str:=["digits","n","inner"]
theorem og(P:abA):bP (ey P) 59 (jx P 59) vR vS (cK pw 6).2.1 az:=
 Look.dO ⟨∅,∅,∅,∅,∅,∅⟩ (wL rfl λa b=>∅) (by decide+kernel) ∅
noncomputable abbrev vT:List Str:=["a","b"]
noncomputable abbrev mr:List Str:=["a","b","n","a_digits","r","q_digits","a_digit","q_digit","q"]
theorem yE(P:abA):bP (ey P) 66 (jx P 66) vT mr (cK pw 7).2.1 az:=
 Look.dO ⟨∅,∅,∅,∅,∅,∅⟩ (wL rfl λa b=>∅) (by decide+kernel) ∅
noncomputable abbrev vU:List Str:=["a","b"]
noncomputable abbrev mw:List Str:=["a","b","q","r"]
theorem jy(P:abA):bP (ey P) 73 (jx P 73) vU mw (cK pw 8).2.1 az:=
 Look.dO ⟨∅,∅,∅,∅,∅,∅⟩ (wL rfl λa b=>∅) (by decide+kernel) ∅
noncomputable abbrev rE:List Str:=["iterator"]
noncomputable abbrev jG:List Str:=["iterator","b","val"]
theorem uH(P:abA):bP (ey P) 80 (jx P 80) rE jG (cK pw 10).2.1 az:=
 Look.dO ⟨∅,∅,∅,∅,∅,∅⟩ (kP rfl λa=>∅) (by decide+kernel) ∅
noncomputable abbrev yF:List Str:=["data"]
noncomputable abbrev yG:List Str:=["data"]
theorem rn(P:abA):bP (ey P) 97 (jx P 97) yF yG (cK pw 15).2.1 az:=
 Look.dO ⟨∅,∅,∅,∅,∅,∅⟩ (kP rfl λa=>∅) (by decide+kernel) ∅
noncomputable abbrev uI:List Str:=["code"]
noncomputable abbrev uJ:List Str:=["code"]
theorem mx(P:abA):bP (ey P) 115 (jx P 115) uI uJ (cK pw 18).2.1 az:=
 Look.dO ⟨∅,∅,∅,∅,∅,∅⟩ (kP rfl λa=>∅) (by decide+kernel) ∅
noncomputable abbrev rF:List Str:=["code"]
noncomputable abbrev rG:List Str:=["code","r"]
theorem kQ(P:abA):bP (ey P) 161 (jx P 161) rF rG (cK pw 20).2.1 az:=
 Look.dO ⟨∅,∅,∅,∅,∅,∅⟩ (kP rfl λa=>∅) (by decide+kernel) ∅
noncomputable abbrev yH:List Str:=["script"]
noncomputable abbrev oh:List Str:=["script","firsts"]
theorem Bg(P:abA):bP (ey P) 166 (jx P 166) yH oh (cK pw 22).2.1 az:=
 Look.dO ⟨∅,∅,∅,∅,∅,∅⟩ (kP rfl λa=>∅) (by decide+kernel) ∅
noncomputable abbrev vV:List Str:=["draw"]
noncomputable abbrev my:List Str:=["draw","codes"]
theorem yI(P:abA):bP (ey P) 173 (jx P 173) vV my (cK pw 23).2.1 az:=
 Look.dO ⟨∅,∅,∅,∅,∅,∅⟩ (kP rfl λa=>∅) (by decide+kernel) ∅
noncomputable abbrev vW:List Str:=["draw"]
noncomputable abbrev mz:List Str:=["draw","codes"]
theorem yJ(P:abA):bP (ey P) 180 (jx P 180) vW mz (cK pw 24).2.1 az:=
 Look.dO ⟨∅,∅,∅,∅,∅,∅⟩ (kP rfl λa=>∅) (by decide+kernel) ∅
noncomputable abbrev Bh:List Str:=["letter","draw"]
noncomputable abbrev ro:List Str:=["letter","draw","starts"]
theorem Dx(P:abA):bP (ey P) 187 (jx P 187) Bh ro (cK pw 25).2.1 az:=
 Look.dO ⟨∅,∅,∅,∅,∅,∅⟩ (wL rfl λa b=>∅) (by decide+kernel) ∅
noncomputable abbrev rH:List Str:=["text"]
noncomputable abbrev jH:List Str:=["text","kept","sign","held"]
theorem uK(P:abA):bP (ey P) 194 (jx P 194) rH jH (cK pw 26).2.1 az:=
 Look.dO ⟨∅,∅,∅,∅,∅,∅⟩ (kP rfl λa=>∅) (by decide+kernel) ∅
noncomputable abbrev uL:List Str:=["text"]
noncomputable abbrev kR:List Str:=["text","tape","numbers","turn"]
theorem mA(P:abA):bP (ey P) 199 (jx P 199) uL kR (cK pw 27).2.1 az:=
 Look.dO ⟨∅,∅,∅,∅,∅,∅⟩ (kP rfl λa=>∅) (by decide+kernel) ∅
noncomputable abbrev yK:List Str:=["size","more","offset"]
noncomputable abbrev oi:List Str:=["size","more","offset","steps","lies","note"]
theorem Bi(P:abA):bP (ey P) 206 (jx P 206) yK oi (cK pw 28).2.1 az:=
 Look.dO ⟨∅,∅,∅,∅,∅,∅⟩ (Tx rfl λa b c=>∅) (by decide+kernel) ∅
noncomputable abbrev Bj:List Str:=["steps","letters","first","draw","ends"]
noncomputable abbrev rp:List Str:=["steps","letters","first","draw","ends","text","place","note","name","hidden"]
theorem Dy(P:abA):bP (ey P) 213 (jx P 213) Bj rp (cK pw 29).2.1 az:=
 Look.dO ⟨∅,∅,∅,∅,∅,∅⟩ (acy rfl λa b c d e=>∅) (by decide+kernel) ∅
noncomputable abbrev Bk:List Str:=["numbers"]
noncomputable abbrev rq:List Str:=["numbers","rows","dots","number"]
theorem Dz(P:abA):bP (ey P) 220 (jx P 220) Bk rq (cK pw 30).2.1 az:=
 Look.dO ⟨∅,∅,∅,∅,∅,∅⟩ (kP rfl λa=>∅) (by decide+kernel) ∅
noncomputable abbrev vX:List Str:=["dots","chord"]
noncomputable abbrev mB:List Str:=["dots","chord","shapes","place","shape","one","last"]
theorem yL(P:abA):bP (ey P) 225 (jx P 225) vX mB (cK pw 31).2.1 az:=
 Look.dO ⟨∅,∅,∅,∅,∅,∅⟩ (wL rfl λa b=>∅) (by decide+kernel) ∅
noncomputable abbrev W4:List Str:=["script"]
noncomputable abbrev L8:List Str:=[.ofString "script",.ofString "heaps",.ofString "size",.ofString "more",.ofString "times",.ofString "note",.ofString "letters",.ofString "offset",.ofString "mask",.ofString "chord",.ofString "word",.ofString "code",.ofString "typed",.ofString "left",.ofString "steps",.ofString "text",.ofString "turn",.ofString "rows",.ofString "dots",.ofString "total",.ofString "folded",.ofString "bits",.ofString "places",.ofString "unit",.ofString "told",.ofString "notes",.ofString "bounds",.ofString "kind",.ofString "shapes",.ofString "kinds",.ofString "far",.ofString "great",.ofString "page",.ofString "place"]
theorem acA(P:abA):bP (ey P) 230 (jx P 230) W4 L8 (cK pw 32).2.1 az:=
 Look.dO ⟨∅,∅,∅,∅,∅,∅⟩ (kP rfl λa=>∅) (by decide+kernel) ∅
end
section
set_option tactic.hygienic true
abbrev W5:eW:=.cons (.asg 4 (.bin .RShift (.var 2) (.int 1))) (.cons (.asg 5 (.bin .Sub (.bin .LShift (.int 1) (.var 4)) (.int 1))) (.cons (.ni 6 7 (.tup (.cons (.bin .RShift (.var 1) (.var 4)) (.cons (.bin .BitAnd (.var 1) (.var 5)) .nil)))) (.cons (.ni 8 9 (.call (.glob "_div3n2n" (.obj (.ref 45))) (.cons (.bin .RShift (.var 0) (.var 2)) (.cons (.bin .BitAnd (.bin .RShift (.var 0) (.var 4)) (.var 5)) (.cons (.var 1) (.cons (.var 6) (.cons (.var 7) (.cons (.var 4) .nil)))))))) (.cons (.ni 10 9 (.call (.glob "_div3n2n" (.obj (.ref 45))) (.cons (.var 9) (.cons (.bin .BitAnd (.var 0) (.var 5)) (.cons (.var 1) (.cons (.var 6) (.cons (.var 7) (.cons (.var 4) .nil)))))))) (.cons (.ifs (.val (.var 3)) (.cons (.aug 9 .RShift (.int 1)) .nil) .nil) (.cons (.ret (.tup (.cons (.bin .BitOr (.bin .LShift (.var 8) (.var 4)) (.var 10)) (.cons (.var 9) .nil)))) .nil))))))
abbrev Tz:IS:=.ifs (.val (.var 3)) (.cons (.aug 0 .LShift (.int 1)) (.cons (.aug 1 .LShift (.int 1)) (.cons (.aug 2 .Add (.int 1)) .nil))) .nil
abbrev TA:IT:=.val (.cmp .LtE (.bin .Sub (.vy (.var 0) "bit_length" .nil) (.var 2)) (.glob "_DIV_LIMIT" (.int 4000)))
noncomputable def pJ:eW:=
(.cons (.ifs TA (.cons (.ret (.call (.glob "divmod" (.obj (.builtin "divmod"))) (.cons (.var 0) (.cons (.var 1) .nil))))
 .nil) .nil)
 (.cons (.asg 3 (.bin .BitAnd (.var 2) (.int 1)))
 (.cons Tz
 W5)))
theorem wO(P:abA):cw 60 60 (bc (jx P 38).scope uF az) (cK pw 3).2.1=pJ:=∅
noncomputable def HL:eW:=
(.cons (.ifs (.val (.cmp .Eq (.bin .RShift (.var 0) (.var 5)) (.var 3))) (.cons (.ni 6 7 (.tup (.cons (.bin .Sub (.bin .LShift (.int 1) (.var 5)) (.int 1)) (.cons (.bin .Add (.bin .Sub (.var 0) (.bin .LShift (.var 3) (.var 5))) (.var 3)) .nil))))
 .nil) (.cons (.ni 6 7 (.call (.glob "_div2n1n" (.obj (.ref 38))) (.cons (.var 0) (.cons (.var 3) (.cons (.var 5) .nil)))))
 .nil))
 (.cons (.asg 7 (.bin .Sub (.bin .BitOr (.bin .LShift (.var 7) (.var 5)) (.var 1)) (.bin .Mult (.var 6) (.var 4))))
 (.cons (.whl (.val (.cmp .Lt (.var 7) (.int 0))) (.cons (.aug 6 .Sub (.int 1))
 (.cons (.aug 7 .Add (.var 2))
 .nil)))
 (.cons (.ret (.tup (.cons (.var 6) (.cons (.var 7) .nil))))
 .nil))))
theorem HM(P:abA):cw 60 60 (bc (jx P 45).scope uG az) (cK pw 4).2.1=HL:=∅
abbrev TB:eW:=.cons (.ni 7 4 (.call (.glob "_div2n1n" (.obj (.ref 38))) (.cons (.bin .Add (.bin .LShift (.var 4) (.var 2)) (.var 6)) (.cons (.var 1) (.cons (.var 2) .nil))))) (.cons (.app (.var 5) (.var 7)) .nil)
noncomputable def yM:eW:=
(.cons (.asg 2 (.vy (.var 1) "bit_length" .nil))
 (.cons (.asg 3 (.call (.glob "_int2digits" (.obj (.ref 52))) (.cons (.var 0) (.cons (.var 2) .nil))))
 (.cons (.asg 4 (.int 0))
 (.cons (.own 5)
 (.cons (.lP 6 (.rev (.var 3)) TB)
 (.cons (.rev (.var 5))
 (.cons (.asg 8 (.call (.glob "_digits2int" (.obj (.ref 59))) (.cons (.var 5) (.cons (.var 2) .nil))))
 (.cons (.ret (.tup (.cons (.var 8) (.cons (.var 4) .nil))))
 .nil))))))))
theorem yN(P:abA):cw 60 60 (bc (jx P 66).scope mr az) (cK pw 7).2.1=yM:=∅
noncomputable def oj:eW:=
(.cons (.ifs (.val (.cmp .Eq (.var 1) (.int 0))) (.cons .bad
 .nil) (.cons (.ifs (.val (.cmp .Lt (.var 1) (.int 0))) (.cons (.ni 2 3 (.call (.glob "int_divmod" (.obj (.ref 73))) (.cons (.neg (.var 0)) (.cons (.neg (.var 1)) .nil))))
 (.cons (.ret (.tup (.cons (.var 2) (.cons (.neg (.var 3)) .nil))))
 .nil)) (.cons (.ifs (.val (.cmp .Lt (.var 0) (.int 0))) (.cons (.ni 2 3 (.call (.glob "int_divmod" (.obj (.ref 73))) (.cons (.inv (.var 0)) (.cons (.var 1) .nil))))
 (.cons (.ret (.tup (.cons (.inv (.var 2)) (.cons (.bin .Add (.var 1) (.inv (.var 3))) .nil))))
 .nil)) (.cons (.ret (.call (.glob "_divmod_pos" (.obj (.ref 66))) (.cons (.var 0) (.cons (.var 1) .nil))))
 .nil))
 .nil))
 .nil))
 .nil)
theorem jz(P:abA):cw 60 60 (bc (jx P 73).scope mw az) (cK pw 8).2.1=oj:=∅
noncomputable def Bm:eW:=
(.cons (.asg 1 (.lst (.cons (.int 41) (.cons (.int 500000000002) (.cons (.int 1020) (.cons (.int 23) (.cons (.int 58) .nil)))))))
 (.cons (.ret (.comp (.bin .Mod (.bin .Add (.idx (.var 1) (.var 2)) (.call (.glob "sum" (.obj (.builtin "sum"))) (.cons (.U5 (.var 0) (.var 2) .none (.int 5)) .nil))) (.bin .Pow (.int 10) (.int 12))) (.ku (.int 5)) .nil))
 .nil))
theorem Bo(P:abA):cw 60 60 (bc (jx P 166).scope oh az) (cK pw 22).2.1=Bm:=∅
noncomputable def yO:eW:=
(.cons (.asg 1 (.lst (.cons (.int 173) (.cons (.int 847) (.cons (.int 6150) (.cons (.int 6155) (.cons (.int 6156) (.cons (.int 6157) (.cons (.int 8203) (.cons (.int 8204) (.cons (.int 8205) (.cons (.int 8288) (.cons (.int 65279) .nil)))))))))))))
 (.cons (.ret (.call (.glob "chr" (.obj (.builtin "chr"))) (.cons (.zn (.val (.cmp .Lt (.bin .Mod (.var 0) (.int 27)) (.int 11))) (.idx (.var 1) (.bin .Mod (.var 0) (.int 27))) (.bin .Add (.int 65013) (.bin .Mod (.var 0) (.int 27)))) .nil)))
 .nil))
theorem yP(P:abA):cw 60 60 (bc (jx P 173).scope my az) (cK pw 23).2.1=yO:=∅
noncomputable def yQ:eW:=
(.cons (.asg 1 (.lst (.cons (.int 172) (.cons (.int 174) (.cons (.int 846) (.cons (.int 848) (.cons (.int 6149) (.cons (.int 6151) (.cons (.int 6154) (.cons (.int 6158) (.cons (.int 8202) (.cons (.int 8206) (.cons (.int 8287) (.cons (.int 8289) (.cons (.int 65023) (.cons (.int 65040) (.cons (.int 65278) (.cons (.int 65280) .nil))))))))))))))))))
 (.cons (.ret (.call (.glob "chr" (.obj (.builtin "chr"))) (.cons (.idx (.var 1) (.bin .Mod (.var 0) (.int 16))) .nil)))
 .nil))
theorem yR(P:abA):cw 60 60 (bc (jx P 180).scope mz az) (cK pw 24).2.1=yQ:=∅
noncomputable def DA:eW:=
(.cons (.asg 2 (.lst (.cons (.int 97) (.cons (.int 65) (.cons (.int 119808) (.cons (.int 119860) (.cons (.int 119912) (.cons (.int 120016) (.cons (.int 120172) (.cons (.int 120224) (.cons (.int 120276) (.cons (.int 120328) (.cons (.int 120380) (.cons (.int 120432) .nil))))))))))))))
 (.cons (.ret (.call (.glob "chr" (.obj (.builtin "chr"))) (.cons (.bin .Sub (.bin .Add (.idx (.var 2) (.bin .Mod (.var 1) (.int 12))) (.call (.glob "ord" (.obj (.builtin "ord"))) (.cons (.var 0) .nil))) (.int 97)) .nil)))
 .nil))
theorem DB(P:abA):cw 60 60 (bc (jx P 187).scope ro az) (cK pw 25).2.1=DA:=∅
abbrev acB:eW:=.cons (.asg 3 (.call (.glob "in_table_b1" (.obj (.ref 115))) (.cons (.var 2) .nil))) (.cons (.ifs (.val (.cmp .Is (.var 3) (.bool false))) (.cons (.aug 1 .Add (.call (.glob "map_table_b3" (.obj (.ref 161))) (.cons (.var 2) .nil))) .nil) (.cons (.ifs (.val (.cmp .IsNot (.var 3) (.bool true))) (.cons (.aug 1 .Add (.str "?")) .nil) .nil) .nil)) .nil)
noncomputable def uM:eW:=
(.cons (.asg 1 (.str ""))
 (.cons (.lP 2 (.exp (.var 0)) acB)
 (.cons (.ret (.var 1))
 .nil)))
theorem uO(P:abA):cw 60 60 (bc (jx P 194).scope jH az) (cK pw 26).2.1=uM:=∅
abbrev TC:eW:=.cons (.aug 4 .Add (.var 1)) (.cons (.ifs (.val (.cmp .GtE (.var 4) (.var 0))) (.cons (.aug 4 .Sub (.var 0)) (.cons (.app (.var 3) (.int 2)) .nil)) (.cons (.app (.var 3) (.int 1)) .nil)) .nil)
noncomputable def Bp:eW:=
(.cons (.own 3)
 (.cons (.asg 4 (.bin .Mod (.var 2) (.var 0)))
 (.cons (.lP 5 (.ku (.var 0)) TC)
 (.cons (.ret (.var 3))
 .nil))))
theorem Bq(P:abA):cw 60 60 (bc (jx P 206).scope oi az) (cK pw 28).2.1=Bp:=∅
abbrev acC:eW:=.cons (.asg 7 (.bin .Mod (.bin .Add (.var 2) (.var 6)) (.call (.glob "len" (.obj (.builtin "len"))) (.cons (.var 0) .nil)))) (.cons (.asg 8 (.call (.glob "_law_form" (.obj (.ref 187))) (.cons (.idx (.var 1) (.var 7)) (.cons (.bin .Add (.var 3) (.bin .Mult (.int 5) (.var 7))) .nil)))) (.cons (.asg 9 (.call (.glob "_law_hidden" (.obj (.ref 173))) (.cons (.bin .Add (.var 4) (.var 7)) .nil))) (.cons (.aug 5 .Add (.bin .Add (.bin .Mult (.str ".") (.idx (.var 0) (.var 7))) (.zn (.val (.cmp .Eq (.bin .Mod (.bin .Add (.var 3) (.var 7)) (.int 2)) (.int 0))) (.bin .Add (.var 9) (.var 8)) (.bin .Add (.var 8) (.var 9))))) (.cons (.aug 5 .Add (.idx (.tup (.cons (.str ⟨#[10]⟩) (.cons (.str ⟨#[13]⟩) (.cons (.str ⟨#[13,10]⟩) .nil)))) (.bin .Mod (.bin .Add (.var 4) (.var 6)) (.int 3)))) .nil))))
noncomputable def DC:eW:=
(.cons (.asg 5 (.str ""))
 (.cons (.lP 6 (.ku (.call (.glob "len" (.obj (.builtin "len"))) (.cons (.var 0) .nil))) acC)
 (.cons (.ret (.bin .Add (.bin .Add (.bin .Add (.bin .Add (.var 5) (.str ⟨#[13,46,10]⟩)) (.call (.glob "_law_beside" (.obj (.ref 180))) (.cons (.var 4) .nil))) (.str ".")) (.idx (.tup (.cons (.str "") (.cons (.str ⟨#[10]⟩) (.cons (.str ⟨#[13]⟩) (.cons (.str ⟨#[13,10]⟩) .nil))))) (.bin .Mod (.bin .FloorDiv (.var 4) (.int 16)) (.int 4)))))
 .nil)))
theorem DE(P:abA):cw 60 60 (bc (jx P 213).scope rp az) (cK pw 29).2.1=DC:=∅
abbrev acD:eW:=.cons (.ifs (.val (.cmp .Eq (.var 3) (.int 46))) (.cons (.aug 2 .Add (.int 1)) .nil) (.cons (.ifs (.and (.cons (.val (.cmp .Gt (.var 3) (.int 63))) (.cons (.val (.cmp .Eq (.bin .Mod (.var 3) (.int 64)) (.int 13))) .nil))) (.cons (.app (.var 1) (.lst (.cons (.bin .FloorDiv (.var 3) (.int 64)) (.cons (.var 2) .nil)))) (.cons (.asg 2 (.int 0)) .nil)) .nil) .nil)) .nil
noncomputable def DF:eW:=
(.cons (.own 1)
 (.cons (.asg 2 (.int 0))
 (.cons (.lP 3 (.exp (.var 0)) acD)
 (.cons (.ret (.call (.glob "sorted" (.obj (.builtin "sorted"))) (.cons (.var 1) .nil)))
 .nil))))
theorem DG(P:abA):cw 60 60 (bc (jx P 220).scope rq az) (cK pw 30).2.1=DF:=∅
abbrev acE:eW:=.cons (.asg 6 (.zn (.val (.cmp .Lt (.bin .Add (.var 5) (.int 1)) (.call (.glob "len" (.obj (.builtin "len"))) (.cons (.var 1) .nil)))) (.idx (.var 1) (.bin .Add (.var 5) (.int 1))) (.bin .Add (.idx (.var 1) (.int 0)) (.call (.glob "len" (.obj (.builtin "len"))) (.cons (.var 0) .nil))))) (.cons (.app (.var 4) (.call (.glob "sum" (.obj (.builtin "sum"))) (.cons (.comp (.idx (.var 0) (.bin .Mod (.bin .Add (.var 3) (.var 7)) (.call (.glob "len" (.obj (.builtin "len"))) (.cons (.var 0) .nil)))) (.GD (.idx (.var 1) (.var 5)) (.var 6)) .nil) .nil))) .nil)
noncomputable def yS:eW:=
(.cons (.own 2)
 (.cons (.lP 3 (.ku (.call (.glob "len" (.obj (.builtin "len"))) (.cons (.var 0) .nil))) (.cons (.own 4)
 (.cons (.lP 5 (.ku (.call (.glob "len" (.obj (.builtin "len"))) (.cons (.var 1) .nil))) acE)
 (.cons (.app (.var 2) (.var 4))
 .nil))))
 (.cons (.ret (.var 2))
 .nil)))
theorem yT(P:abA):cw 60 60 (bc (jx P 225).scope mB az) (cK pw 31).2.1=yS:=∅
abbrev acF:IT:=.or (.cons (.val (.cmp .NotEq (.U5 (.var 12) (.int 1) .none .none) (.zn (.val (.cmp .Eq (.bin .Mod (.bin .FloorDiv (.var 11) (.int 64)) (.int 2)) (.int 1))) (.lst (.cons (.bin .Add (.bin .Mult (.bin .Mod (.var 11) (.int 64)) (.int 64)) (.int 46)) .nil)) (.lst (.cons (.bin .Mod (.var 11) (.int 64)) (.cons (.int 46) .nil)))))) (.cons (.val (.cmp .NotEq (.call (.glob "_law_numbers" (.obj (.ref 199))) (.cons (.var 10) .nil)) (.lst .nil))) .nil))
abbrev acG:IT:=.val (.cmp .NotEq (.call (.glob "int_divmod" (.obj (.ref 73))) (.cons (.bin .Mult (.bin .Add (.bin .Mult (.bin .Mult (.var 19) (.var 2)) (.var 30)) (.var 7)) (.var 31)) (.cons (.bin .Mult (.var 2) (.var 31)) .nil))) (.tup (.cons (.bin .Add (.idx (.var 25) (.int 0)) (.bin .Mult (.var 19) (.var 30))) (.cons (.bin .FloorDiv (.bin .Mult (.idx (.idx (.var 24) (.int 0)) (.int 1)) (.var 31)) (.var 23)) .nil))))
abbrev acH:IE:=.bin .Mult (.bin .Mult (.bin .FloorDiv (.bin .Sub (.bin .Add (.bin .Pow (.int 2) (.int 4200)) (.bin .Pow (.int 2) (.int 2100))) (.int 1)) (.var 2)) (.bin .Pow (.int 2) (.bin .Mod (.idx (.var 1) (.int 3)) (.int 2)))) (.bin .Sub (.bin .Mult (.bin .Mod (.bin .FloorDiv (.idx (.var 1) (.int 2)) (.bin .Pow (.int 10) (.int 4))) (.int 2)) (.int 2)) (.int 1))
abbrev acI:IE:=.vy (.str "") "join" (.cons (.comp (.zn (.val (.cmp .In (.var 34) (.var 9))) (.call (.glob "chr" (.obj (.builtin "chr"))) (.cons (.bin .Sub (.call (.glob "ord" (.obj (.builtin "ord"))) (.cons (.idx (.var 6) (.var 34)) .nil)) (.int 32)) .nil)) (.idx (.var 6) (.var 34))) (.ku (.var 2)) .nil) .nil)
abbrev acJ:eW:=.cons (.asg 5 (.bin .Mod (.bin .Add (.bin .Mod (.idx (.var 1) (.int 3)) (.int 10)) (.var 33)) (.var 2))) (.cons (.aug 32 .Add (.bin .Add (.bin .Add (.bin .Mult (.str ".") (.bin .Add (.idx (.var 14) (.var 5)) (.var 4))) (.idx (.var 6) (.var 5))) (.str ⟨#[13,10]⟩))) .nil)
abbrev TD:IE:=.comp (.bin .Mod (.call (.glob "len" (.obj (.builtin "len"))) (.cons (.comp (.var 35) (.exp (.var 26)) (.cons (.val (.cmp .LtE (.var 35) (.idx (.var 34) (.int 1)))) .nil)) .nil)) (.call (.glob "len" (.obj (.builtin "len"))) (.cons (.var 9) .nil))) (.exp (.var 24)) .nil
abbrev TE:eW:=.cons (.ifs (.val (.cmp .NotIn (.lst (.cons (.idx (.var 27) (.var 5)) (.cons (.idx (.var 28) (.var 5)) .nil))) (.var 29))) (.cons (.app (.var 29) (.lst (.cons (.idx (.var 27) (.var 5)) (.cons (.idx (.var 28) (.var 5)) .nil)))) .nil) .nil) .nil
abbrev TF:IT:=.val (.cmp .NotEq (.call (.glob "sorted" (.obj (.builtin "sorted"))) (.cons (.comp (.idx (.var 34) (.int 0)) (.exp (.var 29)) .nil) .nil)) (.comp (.var 34) (.ku (.call (.glob "len" (.obj (.builtin "len"))) (.cons (.var 9) .nil))) .nil))
abbrev TG:IE:=.bin .Add (.bin .Add (.bin .Add (.bin .Add (.str ⟨#[13,10]⟩) (.bin .Mult (.str ".") (.bin .Add (.int 1) (.var 4)))) (.str ⟨#[13,10]⟩)) (.call (.glob "_law_beside" (.obj (.ref 180))) (.cons (.idx (.var 1) (.int 4)) .nil))) (.str ".")
abbrev TH:IE:=.bin .Mult (.bin .FloorDiv (.bin .Sub (.bin .Pow (.int 2) (.int 4202)) (.bin .Pow (.int 2) (.int 60))) (.var 19)) (.bin .Sub (.bin .Mult (.bin .Mod (.bin .FloorDiv (.idx (.var 1) (.int 2)) (.int 1000)) (.int 2)) (.int 2)) (.int 1))
abbrev TJ:IE:=.comp (.call (.glob "chr" (.obj (.builtin "chr"))) (.cons (.bin .Add (.bin .Add (.int 97) (.bin .Mod (.bin .Mod (.bin .FloorDiv (.idx (.var 1) (.int 0)) (.int 1000)) (.int 100)) (.int 20))) (.var 34)) .nil)) (.ku (.var 2)) .nil
abbrev TK:IE:=.call (.glob "_digits2int" (.obj (.ref 59))) (.cons (.bin .Add (.lst (.cons (.int 13) .nil)) (.U5 (.comp (.idx (.var 34) (.int 0)) (.exp (.var 17)) .nil) .none .none (.neg (.int 1)))) (.cons (.int 6) .nil))
abbrev TL:IE:=.comp (.idx (.call (.glob "int_divmod" (.obj (.ref 73))) (.cons (.bin .Mult (.bin .Mult (.neg (.var 19)) (.var 34)) (.var 23)) (.cons (.bin .Mult (.var 2) (.var 23)) .nil))) (.int 1)) (.exp (.var 9)) .nil
abbrev TN:IE:=.comp (.call (.glob "int_divmod" (.obj (.ref 73))) (.cons (.bin .Mult (.bin .Add (.bin .Mult (.var 19) (.var 34)) (.var 7)) (.var 23)) (.cons (.bin .Mult (.var 2) (.var 23)) .nil))) (.ku (.var 2)) .nil
abbrev TP:IE:=.call (.glob "_int2digits" (.obj (.ref 52))) (.cons (.idx (.call (.glob "int_divmod" (.obj (.ref 73))) (.cons (.bin .Sub (.var 20) (.var 13)) (.cons (.int 2047) .nil))) (.int 1)) (.cons (.int 1) .nil))
abbrev TQ:IT:=.val (.cmp .NotEq (.var 21) (.comp (.zn (.val (.cmp .In (.var 34) (.var 22))) (.int 1) (.int 0)) (.ku (.bin .Add (.int 1) (.call (.glob "max" (.obj (.builtin "max"))) (.cons (.var 22) .nil)))) .nil))
abbrev TR:IE:=.call (.glob "_law_numbers" (.obj (.ref 199))) (.cons (.bin .Add (.bin .Add (.bin .Add (.var 10) (.str ⟨#[13]⟩)) (.call (.glob "chr" (.obj (.builtin "chr"))) (.cons (.var 11) .nil))) (.str ".")) .nil)
abbrev TS:IE:=.zn (.val (.cmp .NotEq (.bin .Mod (.bin .FloorDiv (.idx (.var 1) (.int 4)) (.int 16)) (.int 4)) (.int 0))) (.bin .Add (.var 32) (.str ⟨#[13,10]⟩)) (.var 32)
abbrev TU:IE:=.bin .Add (.comp (.idx (.var 34) (.int 0)) (.exp (.var 24)) .nil) (.lst (.cons (.bin .Add (.idx (.idx (.var 24) (.int 0)) (.int 0)) (.var 19)) .nil))
abbrev TV:IT:=.val (.cmp .NotEq (.comp (.bin .Sub (.idx (.var 25) (.bin .Add (.var 34) (.int 1))) (.idx (.var 25) (.var 34))) (.ku (.var 2)) .nil) (.var 18))
abbrev TW:IE:=.call (.glob "ord" (.obj (.builtin "ord"))) (.cons (.call (.glob "_law_beside" (.obj (.ref 180))) (.cons (.idx (.var 1) (.int 4)) .nil)) .nil)
abbrev TX:IE:=.bin .Add (.int 1) (.bin .Mod (.bin .Mod (.bin .FloorDiv (.idx (.var 1) (.int 0)) (.int 10)) (.int 10)) (.bin .Sub (.var 2) (.int 1)))
abbrev TY:IE:=.bin .Add (.int 1) (.bin .Mod (.bin .Mod (.idx (.var 1) (.int 2)) (.int 1000)) (.bin .Sub (.bin .Pow (.int 2) (.var 2)) (.int 1)))
abbrev T1:IE:=.comp (.var 34) (.ku (.var 2)) (.cons (.val (.cmp .Eq (.bin .BitAnd (.bin .RShift (.var 8) (.var 34)) (.int 1)) (.int 1))) .nil)
abbrev T2:IE:=.comp (.bin .Mod (.bin .Mult (.int 6) (.bin .Sub (.bin .Sub (.var 2) (.int 1)) (.var 34))) (.int 11)) (.exp (.var 9)) .nil
abbrev T4:IE:=.idx (.call (.glob "int_divmod" (.obj (.ref 73))) (.cons (.idx (.var 12) (.int 0)) (.cons (.int 2047) .nil))) (.int 1)
abbrev T5:IE:=.call (.glob "_law_steps" (.obj (.ref 206))) (.cons (.var 2) (.cons (.var 3) (.cons (.var 7) .nil)))
noncomputable def T6:eW:=
(.cons (.asg 1 (.call (.glob "_law_heaps" (.obj (.ref 166))) (.cons (.var 0) .nil)))
 (.cons (.asg 2 (.idx (.tup (.cons (.int 5) (.cons (.int 7) .nil))) (.bin .Mod (.idx (.var 1) (.int 0)) (.int 2))))
 (.cons (.asg 3 TX)
 (.cons (.asg 4 (.bin .Add (.int 1) (.bin .Mod (.bin .FloorDiv (.idx (.var 1) (.int 0)) (.int 100)) (.int 2))))
 (.cons (.asg 6 TJ)
 (.cons (.asg 7 (.bin .Sub (.idx (.var 1) (.int 1)) (.bin .Mult (.int 5) (.bin .Pow (.int 10) (.int 11)))))
 (.cons (.asg 8 TY)
 (.cons (.asg 9 T1)
 (.cons (.asg 10 acI)
 (.cons (.asg 11 TW)
 (.cons (.asg 12 TR)
 (.cons (.ifs acF (.cons (.ret (.bool false))
 .nil) .nil)
 (.cons (.asg 13 T4)
 (.cons (.asg 14 T5)
 (.cons (.asg 15 (.call (.glob "_law_mail" (.obj (.ref 213))) (.cons (.var 14) (.cons (.var 6) (.cons (.bin .Mod (.bin .Mod (.idx (.var 1) (.int 3)) (.int 10)) (.var 2)) (.cons (.bin .FloorDiv (.idx (.var 1) (.int 3)) (.int 10)) (.cons (.idx (.var 1) (.int 4)) .nil)))))))
 (.cons (.lP 16 (.ku (.var 4)) (.cons (.asg 15 (.call (.glob "quotedata" (.obj (.ref 97))) (.cons (.var 15) .nil)))
 .nil))
 (.cons (.asg 15 (.call (.glob "_law_prepared" (.obj (.ref 194))) (.cons (.var 15) .nil)))
 (.cons (.asg 17 (.call (.glob "_law_rows" (.obj (.ref 220))) (.cons (.call (.glob "_law_numbers" (.obj (.ref 199))) (.cons (.var 15) .nil)) .nil)))
 (.cons (.ifs (.val (.cmp .NotEq (.call (.glob "len" (.obj (.builtin "len"))) (.cons (.var 17) .nil)) (.var 2))) (.cons (.ret (.bool false))
 .nil) .nil)
 (.cons (.asg 18 (.comp (.idx (.var 34) (.int 1)) (.exp (.var 17)) .nil))
 (.cons (.asg 19 (.call (.glob "sum" (.obj (.builtin "sum"))) (.cons (.var 18) .nil)))
 (.cons (.asg 20 TK)
 (.cons (.asg 21 TP)
 (.cons (.asg 22 T2)
 (.cons (.ifs TQ (.cons (.ret (.bool false))
 .nil) .nil)
 (.cons (.asg 23 (.bin .Pow (.int 10) (.int 20)))
 (.cons (.asg 24 TN)
 (.cons (.asg 25 TU)
 (.cons (.ifs TV (.cons (.ret (.bool false))
 .nil) .nil)
 (.cons (.asg 26 TL)
 (.cons (.asg 27 TD)
 (.cons (.asg 28 (.call (.glob "_law_shapes" (.obj (.ref 225))) (.cons (.var 18) (.cons (.var 9) .nil))))
 (.cons (.own 29)
 (.cons (.lP 5 (.ku (.var 2)) TE)
 (.cons (.ifs TF (.cons (.ret (.bool false))
 .nil) .nil)
 (.cons (.asg 30 TH)
 (.cons (.asg 31 acH)
 (.cons (.ifs acG (.cons (.ret (.bool false))
 .nil) .nil)
 (.cons (.asg 32 (.str ""))
 (.cons (.lP 33 (.ku (.var 2)) acJ)
 (.cons (.aug 32 .Add TG)
 (.cons (.ret (.cmp .Eq (.var 15) TS))
 .nil))))))))))))))))))))))))))))))))))))))))))
theorem acK(P:abA):cw 60 60 (bc (jx P 230).scope L8 az) (cK pw 32).2.1=T6:=∅
end
section
variable{prog:aas}{w:abI}{d:Nat}{P:abA}
theorem pvT(P:abA):pg (bc (jx P 80).scope jG az) (cK pw 10).2.1:=
 .mk "b" "iterator" "val" _ _ _ _ _ _ _ _ _ _ _ _ _ _ _ _ _ _ _ _ _ _ _ _ _ _ _ _ _ _ _ _ _ ∅ ∅ ∅ ∅ ∅ ∅
noncomputable abbrev nmN(P:abA):NI:=bc (jx P 199).scope kR az
theorem agq(P:abA):∃comp ku,NumText (nmN P) 80 comp ku (cK pw 27).2.1/\ei 60 (nmN P) comp=some (.comp (.call (.glob "ord" (.obj (.builtin "ord"))) (.cons (.var 4) .nil)) (.exp (.var 0)) .nil)/\
 E5 60 (nmN P) ku=some (.ku (.bin .Add (.call (.glob "len" (.obj (.builtin "len"))) (.cons (.var 0) .nil)) (.int 1)))/\eT ku=true/\cm [comp]:=
 ⟨_,_,.mk "tape" "numbers" "turn" "_parse_varint" _ _ _ _ _ _ _ _ _ _ _ _ _ _ _ _ _ _ _ _ _ _ _ ∅ ∅ ∅ ∅ ∅ ∅ ∅ ∅ ∅,
  by kernel_rfl,∅,∅,λe he y q=>by simp at he;subst he;exact λh=>by cases h⟩
noncomputable def L9(h:adF)(c P:aa9):Bool:=(h.get? c).any λo=>(YF o.cls).any λn=>(L5 o.data).any λvs=>
 n=="code"&&(((vs[11]?:Option aaq)).any λu=>(L4 u).any λq=>W2 (vs.getD 18 .none)&&(W3 (vs.getD 7 .none)&&(Tv (vs.getD 9 .none)&&(W3 (vs.getD 10 .none)&&(q==P&&c !=P)))))
theorem Qg{h:adF}{c P:aa9}(x:L9 h c P=true):CodeHd h c P:=by
 refine eB x λo ho x=>eB x λn hc x=>eB x λvs hd x=>fk x λx1 x=>eB x λu e1 x=>eB x λq hq x=>fk x λy1 x=>fk x λy2 x=>fk x λy3 x=>fk x λy4 x=>fk x λx2 x3=>?_
 rw[eq_of_beq x1]at hc
 rw[sZ hq,eq_of_beq x2]at e1
 refine zv (FA y1) λf tf e2=>?_
 refine zv (FC y2) λfl tg e3=>?_
 refine bU (L6 y3) λinF e4=>?_
 refine zv (FC y4) λtx tt e5=>?_
 exact ⟨o,vs,f,tf,fl,tg,inF,tx,tt,ho,uE hc,s4 hd,e1,Array.getD_eq_getD_getElem?.trans (congrArg (λz:Option aaq=>z.getD .none) e1),e2,e3,e4,e5,bne_iff_ne.mp x3⟩
noncomputable def Ma:Data->Bool
 |.plain=>true
 |_=>false
theorem HN{d:Data}(h:Ma d=true):d=.plain:=by
 cases d with
 |plain=>rfl
 |_=>exact fT h
noncomputable def acL(h:adF)(bm:aa9):Bool:=(h.get? bm).any λo=>(YF o.cls).any λn=>o.dict.any λb=>n=="module"&&(b==builtinsNs&&Ma o.data)
theorem wP{P:abA}{fd:aeV}{c p:aa9}(hc:fd.code=.ref c)(hh:L9 (ey P) c p=true)(hg:fd.globals=mainGlobals)(hp:p=47\/p=54):yv (ey P) fd p:=by
 refine ⟨⟨c,hc,Qg hh⟩,hg,_,.of_isNs (ns3 P),4,?_⟩
 refine eB (show acL (ey P) 4=true by kernel_rfl) λo ho x=>eB x λn h1 x=>eB x λb h2 x=>fk x λe1 x=>fk x λe2 h3=>?_
 rw[eq_of_beq e1]at h1
 rw[eq_of_beq e2]at h2
 refine ⟨o,∅,⋯,⋯,?_,ho,uE h1,h2,HN h3⟩
 rcases hp with rfl|rfl <;> decide
theorem Mb:aX[0]∈aX:=by simp[aX]
theorem Md:aX[1]∈aX:=by simp[aX]
theorem fh{α:Type}{p:α->Prop}{l:List α}{f:α->Bool}(h:∀x,f x=true->p x)(x:l.all f=true):∀y∈l,p y:=λy hy=>h y (aaG.mp x y hy)
theorem W6{a n m:Int}{res:List Int}{k:Nat}(hk:k<=40)(hmv:aA me (.bin .FloorDiv (.bin .Sub (.bin .Add (.vy (.var 0) "bit_length" .nil) (.var 1)) (.int 1)) (.var 1)) ⟨[some (.int a),some (.int n),none,none],[]⟩=some (.int m))
(hm0:0<=m)(YC:m<=2^20)(kK:(if a≠0 then Ld n k a 0 m (aar m.toNat 0) else some (aar m.toNat 0))=some res):
 vD prog w (d+1) (ey P) (.ref 52) [.int a,.int n] (.lst (res.map .int)):=
 PW (t:=aX[0]) (ke:=60) (od P) (uC P) (.mk _ _ _ _ _ _ _ _ _)
  ⟨Mb,⋯,rfl,rfl,λV=>rfl,λV=>rfl,∅⟩ (wP (c:=51) ∅ ∅ ∅ (.inl rfl)) ∅ ∅ ∅
  (fh (f:=λx=>x.2 !=.free||(["n","a_digits","inner"]:List Str).contains x.1) (λx h e=>by rw[e]at h;simpa using h) ∅)
  (fh (λx=>of_decide_eq_true) ∅)
  (λn6 doc pm rD c'=>⟨⟨∅,∅,∅,fh (λx=>of_decide_eq_true) ∅,fh (λx=>of_decide_eq_true) ∅,fh (λx=>of_decide_eq_true) ∅⟩,.mk _ _ _ _ _ _ _ _ _ _ _ _ _ _ _ _ _ _ _ _ _ _ _ _ _ _ _ _ _ _ _ _ _ _ _ _ _ _ _ _ _ _ _ _ _ _ _ _ _ _ _ _,λa b c=>∅⟩)
  (YB:=.lst (.cons (.int 0) .nil)) ∅ rfl ∅ hmv (it:=.val (.var 0)) ∅ (λx y o=>rfl)
  (ies:=.cons (.var 0) (.cons (.int 0) (.cons (.call (.glob "len" (.obj (.builtin "len"))) (.cons (.var 2) .nil)) .nil))) ∅ (λy=>by
   have e:((aar m.toNat (AV.int 0)).length:Int)=m:=by erw[afa];exact aeM hm0
   refine af rfl (af rfl (af (aC rfl (af rfl ao) ?_) ao))
   erw[<-e]
   have h2:((aar m.toNat (AV.int 0)).length:Int)<2^62:=by erw[e];exact %[a>(qL 2 62),a>=(qL 2 20)|fK YC]
   erw[(show (((aar m.toNat (AV.int 0)).length:Int).toNat)=m.toNat by erw[e,rfl])]
   exact Fz rfl (decide_eq_true h2)) (amC _ _) hm0 YC hk kK
theorem W7{n res:Int}{zs:List Int}{k:Nat}(hk:k<=40)(hz:zs.length<2^62)(kK:(if zs.length≠0 then Lz n zs k 0 zs.length else some 0)=some res):
 vD prog w (d+1) (ey P) (.ref 59) [.bor (zs.map .int),.int n] (.int res):=
 PY (t:=aX[1]) (ke:=60) (og P) (uC P) (.mk _ _ _ _)
  ⟨Md,⋯,rfl,rfl,λV=>rfl,λV=>rfl,∅⟩ (wP (c:=58) ∅ ∅ ∅ (.inr rfl)) ∅ ∅ ∅
  (fh (f:=λx=>x.2 !=.free||(["digits","n","inner"]:List Str).contains x.1) (λx h e=>by rw[e]at h;simpa using h) ∅)
  (fh (λx=>of_decide_eq_true) ∅)
  (λn6 doc pm rD c'=>⟨⟨∅,∅,∅,fh (λx=>of_decide_eq_true) ∅,fh (λx=>of_decide_eq_true) ∅,fh (λx=>of_decide_eq_true) ∅⟩,.mk _ _ _ _ _ _ _ _ _ _ _ _ _ _ _ _ _ _ _ _ _ _ _ _ _ _ _ _ _ _ _ _ _ _ _ _ _ _,λa b=>∅⟩)
  (YB:=.int 0) ∅ (λy o=>rfl) (it:=.val (.var 0)) ∅ (λy o=>by
   refine yz rfl ?_
   show (if (zs.map AV.int).length<2^62 then some ((zs.map AV.int).length !=0) else none)=_
   erw[aan ..,if_pos hz,rfl])
  (ies:=.cons (.int 0) (.cons (.call (.glob "len" (.obj (.builtin "len"))) (.cons (.var 0) .nil)) .nil)) ∅ (λy o=>by
   refine af rfl (af (aC rfl (af rfl ao) ?_) ao)
   have e:((zs.map AV.int).length:Int)=zs.length:=by erw[aan ..,rfl]
   erw[<-e]
   have h2:((zs.map AV.int).length:Int)<2^62:=by erw[e];exact %[(qC a)>(qL 2 62),a<(qL 2 62)|aG hz]
   exact Fz rfl (decide_eq_true h2)) (amC _ _) hk kK
open PySem.Builtin.Re in
noncomputable def Mf(h:adF)(p:aa9)(code:Array Nat):Bool:=(h.get? p).any λo=>(YF o.cls).any λn=>(L5 o.data).any λfs=>o.dict.isNone&&(n=="re.Pattern"&&(reRawNat (fs.getD 2 .none)==0&&(reRawNat (fs.getD 6 .none)==0&&
 ((L4 (fs.getD 5 .none)).any λc=>(h.get? c).any λoc=>(acx oc.data).any λdK=>((dK.map reRawOf).map (·.toNat)).toList==code.toList))))
open PySem.Builtin.Re in
theorem yU{h:adF}{p:aa9}{code:Array Nat}(x:Mf h p code=true):iO h p code/\∃o,h.get? p=some o/\o.dict=none:=by
 refine eB x λo ho x=>eB x λn h1 x=>eB x λfs h3 x=>fk x λh2 x=>fk x λx1 x=>fk x λx2 x=>fk x λx3 x=>eB x λc hc x=>eB x λoc hoc x=>eB x λdK hd x=>?_
 rw[eq_of_beq x1]at h1
 obtain ⟨e,hd⟩:=P8 hd
 exact ⟨⟨o,fs,c,oc,dK,e,ho,uE h1,s4 h3,eq_of_beq x2,eq_of_beq x3,sZ hc,hoc,hd,ahv.mp (eq_of_beq x)⟩,o,ho,aku.mp h2⟩
theorem acM(P:abA):Mf (ey P) 85 rk=true:=∅
theorem acN(P:abA):Mf (ey P) 90 fS=true:=∅
theorem Mg{x:Str}(hx:x.cps.size<=1000000)(GK:(yx x).cps.size<=1000000):vD prog w (d+1) (ey P) (.ref 97) [.str x] (.str (HG (yx x))):=
 HJ (q1:=85) (q2:=90) (rn P) (uC P) ⟨⟨_,_,_,_,_,_,_,_,_,_,_,rfl,∅,∅⟩,∅,∅,∅,∅,(yU (acM P)).1,(yU (acN P)).1,(yU (acM P)).2,(yU (acN P)).2⟩ hx GK
theorem DH(hl:x.cps.toList.length<2^20)(kK:pk (x.cps.toList.length+1) (x.cps.toList.map λ(c:Nat)=>(c:Int))=some res):
 vD prog w (d+2) (ey P) (.ref 199) [.str x] (.lst (res.map .int)):=by
 (refine bU (agq P) λcomp dQ=>?_;refine bU dQ λku di=>?_;have NT:=di.1;have h1:=di.2.1;have h2:=di.2.2.1;have h3:=di.2.2.2.1;have h4:=di.2.2.2.2;clear di dQ)
 have hz:(x.cps.toList.map λ(c:Nat)=>(c:Int)).length=x.cps.toList.length:=aan _
 refine AI (ke:=60) (mA P) NT (uH P) (pvT P) (uC P) h1 h2 h3 h4 (zs:=x.cps.toList.map λ(c:Nat)=>(c:Int)) ?_ (λI=>⟨dk 0 (x.cps.toList.length+1:Int),?_,?_⟩) ?_ (by erw[hz];exact kK)
 .have e:(x.cps.toList.map λ(c:Nat)=>(c:Int)).map AV.int=(x.cps.toList.map λc=>AV.str ⟨#[c]⟩).map (λv=>match v with|.str s=>.int (s.cps.getD 0 0:Nat)|_=>.none):=by
   erw[abH,abH];rfl
  erw[e]
  refine yC (fV rfl rfl) (λy hy=>?_) (decide_eq_true ?_)
  . (refine bz (ac2.mp hy) λc _ cc=>?_;obtain rfl:=cc)
    exact aC rfl (af rfl ao) (Fy rfl)
  .erw[aan ..]
   exact afo (aaO hl ⋯)
 .refine n9 (i:=(x.cps.toList.length+1:Int)) (ag (aC rfl (af rfl ao) (W1 (decide_eq_true ?_))) rfl ?_) (decide_eq_true ?_)
  .show ((x.cps.size:Nat):Int)<2^62
   have:x.cps.size=x.cps.toList.length:=rfl
   erw[this];exact %[(qC a)>(qL 2 62),a<(qL 2 20)|aG hl]
  .exact gK
  .exact %[aU ((qG (qL 2 20))>=(qC a)+1) ((qC a)>(qL 2 20)),a<(qL 2 20)|aG hl]
 .show _<((aai ((x.cps.toList.length+1:Int)-0).toNat).map _).length
  erw[hz,aan ..,aa0];exact %[a<b,qD 4 b ((qC a)+1-0) (0)|aP rfl]
 .erw[hz]
  exact aaO hl ⋯
noncomputable def cG:List Int:=[65024,65025,65026,65027,65028,65029,6150,65030,65031,65032,65033,6155,6156,6157,8203,8204,8205,65034,65035,65036,65037,65038,65039,173,847,8288,65279]
noncomputable def iv(v:aaq):Option Int:=match v with
 |.int i _=>some i
 |_=>none
noncomputable def acO:Data->Option (Array (Int×aaq)×Nat×SetTable)
 |.set es ep t=>some (es,ep,t)
 |_=>none
theorem Qh{d:Data}{p:Array (Int×aaq)×Nat×SetTable}(h:acO d=some p):d=.set p.1 p.2.1 p.2.2:=by
 cases d with
 |set a b c=>erw[<-aac h,rfl]
 |_=>exact aq h
noncomputable def T7(h:adF)(a:aa9)(codes:List Int):Bool:=(h.get? a).any λo=>(YF o.cls).any λn=>(acO o.data).any λp=>o.dict.isNone&&(n=="set"&&(o.slots.size==0&&
 ((p.1.toList.all λe=>(iv e.2).any λi=>e.1==hashInt i)&&(p.1.toList.map (λe=>iv e.2)==codes.map some&&(decide (p.1.size<scanBound)&&p.2.2.fits p.1.size)))))
theorem Br(h:iv v=some i):∃t,v=.int i t:=by
 cases v with
 |int j t=>cases h;exact ⟨t,rfl⟩
 |_=>exact pW h
theorem eY:ahJ i v=true↔iv v=some i:=by
 cases v with
 |int j t=>exact (beq_iff_eq (a:=j) (b:=i)).trans (by show _↔some j=some i;simp)
 |_=>exact ⟨λh=>(by exact fT h),λh=>(by exact aq h)⟩
theorem W8(x:T7 h a codes=true):h.SetOf (ahT prog w) a (λi=>codes.contains i) codes.length:=by
 refine eB x λo ho x=>eB x λn h1 x=>eB x λp h3 x=>fk x λh2 x=>fk x λx1 x=>fk x λx2 x=>fk x λx3 x=>fk x λx4 x=>fk x λx5 x6=>?_
 rw[eq_of_beq x1]at h1
 have e4:=eq_of_beq x4
 have hl:p.1.size=codes.length:=by
  have:=congrArg ag9 e4
  rwa [aan,aan]at this
 refine ⟨o,p.1,p.2.1,p.2.2,ho,⟨uE h1,aku.mp h2,Array.eq_empty_of_size_eq_zero (eq_of_beq x2)⟩,Qh h3,λe he=>?_,λk=>?_,of_decide_eq_true x5,x6,hl⟩
 .refine eB (aaG.mp x3 e he) λi hk q=>?_
  refine bU (Br hk) λtk ht=>?_
  exact ⟨⟨i,eY.mpr hk,eq_of_beq q⟩,by erw[ht];rfl⟩
 .have hm:k∈codes↔some k∈p.1.toList.map λe=>iv e.2:=by erw[e4];simp
  rw[ah2,hm,ac2]
  exact ⟨λ⟨e,he,hk⟩=>⟨e,he,eY.mpr hk⟩,λ⟨e,he,hk⟩=>⟨e,he,eY.mp hk⟩⟩
theorem acP(hx:x.length=1):vD prog w (d+1) (ey P) (.ref 115) [.str x] (.bool (cG.contains (x.cps.getD 0 0:Nat))):=
 WV (S:=λi=>cG.contains i) (ke:=60) (a:=105) (mx P) (uC P) ⟨⟨_,_,_,_,rfl,∅⟩,∅⟩ (W8 (show T7 (ey P) 105 cG=true by kernel_rfl)) hx
noncomputable def mC(i:Int):Option Str:=match amf ahJ jg.toArray i with
 |some (.str s _)=>some s
 |_=>none
noncomputable def acQ(e:afd):Bool:=W2 e.val&&(iv e.key).any λi=>e.hash==hashInt i
theorem FD:jg.all acQ=true:=∅
theorem acR(P:abA):(ey P).get? 116=some {cls:=.type "dict",data:=.dict jg.toArray 650}:=∅
theorem W9(P:abA):(ey P).MapOf (ahT prog w) 116 (amf ahJ jg.toArray):=by
 refine ⟨_,_,_,acR P,⟨rfl,rfl,rfl⟩,rfl,λe he=>?_,λk=>rfl⟩
 have:=aaG.mp FD e (by simpa using he)
 exact fk this λV x=>eB x λi hk x=>⟨i,eY.mpr hk,eq_of_beq x⟩
theorem HO(i:Int)(n:Nat)(g:Gh):RelV n g (wI (mC i)) ((amf ahJ jg.toArray i).getD .none):=by
 unfold mC
 cases h:amf ahJ jg.toArray i with
 |none=>exact .none
 |some v=>
  skip
  refine bC h λe he cc=>?_
  obtain rfl:=cc
  refine fk (aaG.mp FD e (by simpa using Array.mem_of_find?_eq_some he)) λx V=>?_
  refine zv (FA x) λs t hv=>?_
  show RelV n g (wI (match some e.val with|some (.str s _)=>some s|_=>none)) e.val
  erw[hv];exact .str _ _
theorem acS(hx:x.length=1):vD prog w (d+1) (ey P) (.ref 161) [.str x] (.str ((mC (x.cps.getD 0 0:Nat)).getD (afe x))):=
 WY (ke:=60) (k:=60) (a:=116) (kQ P) (uC P) ⟨⟨_,_,_,_,_,_,_,rfl,∅,∅,(λe he y q=>by simp at he;subst he;exact λh=>by cases h),∅⟩,∅,∅⟩ (W9 P) ⋯ HO hx
end
section
variable{prog:aas}{w:abI}{d:Nat}{P:abA}
theorem bI(h:f x σ=some (σ',none))(hl:jK f l σ'=o):jK f (x::l) σ=o:=by
 show em (f x σ) (jK f l)=_
 erw[h];exact hl
end
theorem bB{a k:Nat}(h:a<2^k):aae (a:Int)<=k:=by
 unfold aae
 split
 .exact ae7 _
 .rename_i hn
  have h0:a≠0:=λe=>hn (by subst e;rfl)
  erw[afk ..]
  exact (aif h0).mpr h
theorem lH(a b:Nat):adM (a:Int) (b:Int)=((a&&& b:Nat):Int):=by
 skip
 erw[decide_eq_true (ad0 a),decide_eq_true (ad0 b)]
 rfl
theorem yV(a b:Nat):agP (a:Int) (b:Int)=((a||| b:Nat):Int):=by
 unfold agP
 have hn:∀c:Nat,decide (0<=acg (c:Int))=false:=λc=>decide_eq_false (by unfold acg;exact %[cu (0>=(qG (qC a))-1)|aG])
 have hb:∀c:Nat,acg (acg (c:Int))=c:=λc=>by unfold acg;exact %[(qG ((qG (qC a))-1))-1==(qC a)|aG]
 unfold adM
 (rw[hn];erw[hn ..])
 show acg (acg _)=_
 erw[hb ..,hb ..,hb ..,abE ..,abE ..,rfl]
theorem fD(a b:Nat):(a:Int).fdiv (b:Int)=((a/b:Nat):Int):=by
 erw[akM _ (ad0 b)];exact (Int.natCast_ediv a b).symm
theorem gp(a b:Nat):(a:Int).fmod (b:Int)=((a%b:Nat):Int):=by
 erw[akL _ (ad0 b)];exact (Int.natCast_emod a b).symm
theorem om(a s:Nat):(a:Int).fdiv (2^((s:Int)).toNat)=((a/2^s:Nat):Int):=by
 erw[abE ..,<-fD ..];congr 1
theorem yW(a s:Nat):(a:Int)*2^((s:Int)).toNat=((a*2^s:Nat):Int):=by
 erw[abE ..,aeb ..];congr 1
theorem gq(u l s:Nat)(h:l<2^s):u*2^s+l=u*2^s||| l:=by
 have:=Nat.shiftLeft_add_eq_or_of_lt h u
 rwa [ah8]at this
theorem FE(u l s:Nat)(h:l<2^s):l&&& u*2^s=0:=by
 apply Nat.eq_of_testBit_eq
 intro i
 erw[Nat.testBit_and ..,<-ah8 ..,Nat.testBit_shiftLeft ..,Nat.zero_testBit ..]
 by_cases hi:i<s
 .simp[amk.mpr hi]
 .erw[Nat.testBit_lt_two_pow (aaO h (adU ⋯ (amU hi)))];rfl
theorem Qi(x s:Nat):ahh (x:Int) ((x/2^s*2^s:Nat):Int)=((x%2^s:Nat):Int):=by
 unfold ahh
 (rw[yV];erw[lH ..])
 have hl:x%2^s<2^s:=adC _ (adT s)
 have hx:x=x/2^s*2^s+x%2^s:=by erw[ad2 ..];exact (ai9 x (2^s)).symm
 have hor:x||| x/2^s*2^s=x:=by
  conv=>lhs;lhs;rw[hx,gq _ _ _ hl]
  erw[Nat.or_comm (_||| _) ..,<-Nat.or_assoc ..,Nat.or_self ..,<-gq _ _ _ hl];exact hx.symm
 have hand:x&&& x/2^s*2^s=x/2^s*2^s:=by
  conv=>lhs;lhs;rw[hx,gq _ _ _ hl]
  erw[akW ..,Nat.and_self ..,FE _ _ _ hl,Nat.or_zero ..,rfl]
 erw[hor,hand]
 generalize x/2^s*2^s=u at hx
 exact %[(qC a)-(qC b)==(qC c),a=b+c|bJ hx]
noncomputable def dg(n x len:Nat):List Nat:=(aai len).map λj=>x/2^(n*j)%2^n
noncomputable def yX(items:List Int)(L:Nat)(ds:List Nat):List Int:=items.take L++(ds.map λ(d:Nat)=>(d:Int))++items.drop (L+ds.length)
theorem DI(n x len:Nat):(dg n x len).length=len:=by unfold dg;erw[aan ..,aa0,rfl]
theorem Bs(n x h len:Nat)(hl:h<=len):dg n x len=dg n (x%2^(n*h)) h++dg n (x/2^(n*h)) (len-h):=by
 unfold dg
 have e:aai len=aai h++(aai (len-h)).map (h+·):=by
  have:=List.range_add (n:=h) (m:=len-h)
  rwa [ajD hl]at this
 (rw[e];rw[acf];erw[abH])
 congr 1
 .refine abG λj hj=>?_
  have hj:j<h:=abd.mp hj
  have e1:2^(n*h)=2^(n*j)*2^(n*(h-j)):=by (erw[<-af6 ..,<-ad9 ..,ajD (afo hj),rfl])
  erw[e1,Nat.mod_mul_right_div_self ..]
  refine (Nat.mod_mod_of_dvd _ (Nat.pow_dvd_pow 2 ?_)).symm
  exact alb n %[0<a,b<c,qD 0 a c b|(bJ hj rfl)]
 .refine abG λj V=>?_
  show x/2^(n*(h+j))%2^n=_
  erw[ad9 ..,af6 ..,aln ..,rfl]
theorem Mh(items:List Int)(L:Nat)(d1 d2:List Nat)(h:L+d1.length<=items.length):yX (yX items L d1) (L+d1.length) d2=yX items L (d1++d2):=by
 unfold yX
 have h1:(items.take L++d1.map λ(d:Nat)=>(d:Int)).length=L+d1.length:=by
  rw[aao,aiN,aan];exact %[a+b=c+b,c+b<=d,qD 3 a c d|d4 h rfl]
 (rw[List.take_append_of_le_length %[a+b<=c,c=a+b|(bJ h1)]];erw[ahV %[a<=b+c,a=b+c|(bJ h1)]])
 erw[(show L+d1.length+d2.length=(items.take L++d1.map λ(d:Nat)=>(d:Int)).length+d2.length by erw[h1,rfl]),List.drop_append,am7,aiX %[a<=a+b|(aP)],adK ..,aiT ..,acf,aao,aaI (items.take L) ..,ahg ..,rfl]
theorem FG{L a b:Nat}(h1:a<=b)(h2:b<=a+1):((L:Int)+((L+(a+b):Nat):Int)).fdiv (2^(1:Int).toNat)=((L+a:Nat):Int):=by
 erw[<-agp ..]
 exact (om (L+(L+(a+b))) 1).trans (congrArg Nat.cast %[a=b+c,c<=d,d<=c+1,qD 1 a (b+(b+(c+d))) (qL 2 1)|(d4 h1 h2 rfl)])
theorem acT{a n:Nat}(ha:a<2^18)(hn:n<2^18):pB .Mult (a:Int) (n:Int)=some ((n*a:Nat):Int):=
 (if_pos (abq (ajz (bB ha) (bB hn)) ⋯)).trans (by (erw[<-aeb ..,ad2 ..,rfl]))
theorem ags(x s:Nat):pB .RShift (x:Int) (s:Int)=some ((x/2^s:Nat):Int):=(if_pos (e:=none) (ad0 s)).trans (congrArg some (om x s))
theorem acU{x s m:Nat}(hx:x<2^m)(h:m+s<=2^27):pB .LShift (x:Int) (s:Int)=some ((x*2^s:Nat):Int):=
 (if_pos ⟨ad0 _,by have:=bB hx;exact %[(qC a)+(qC b)>=(qL 2 27),c+b<=(qL 2 27),a<=c|bJ h this]⟩).trans (congrArg some (yW x s))
theorem Mi(h1:1<=len)(h:len≠1):∃a b,len=a+b/\1<=a/\a<=b/\b<=a+1:=⟨len/2,len-len/2,%[a=b+c,qD 1 b a (2),qD 0 c a b|(bJ rfl rfl)],%[1<=a,1<=b,cu (b=1),qD 1 a b (2)|(aP h1 h rfl)],%[a<=b,qD 1 a c (2),qD 0 b c a|(bJ rfl rfl)],%[a<=b+1,qD 1 b c (2),qD 0 a c b|(bJ rfl rfl)]⟩
theorem Mj{n k x L a b:Nat}{items:List Int}(ha:1<=a)(h1:a<=b)(h2:b<=a+1)(h3:x<2^(n*(a+b)))(h6:n*(a+b)<=2^20)(h7:n<2^18)(h8:a+b<2^18):
 Ld n (k+1) x L ((L+(a+b):Nat):Int) items=(Ld n k ((x%2^(n*a):Nat):Int) L ((L+a:Nat):Int) items).bind λit=>Ld n k ((x/2^(n*a):Nat):Int) ((L+a:Nat):Int) ((L+(a+b):Nat):Int) it:=by
 have Oa:x/2^(n*a)<2^(n*b):=by
  (rw[ad6 (adT _)];erw[<-af6 ..,<-ad9 ..,aeU b ..]);exact h3
 have e:((L+a:Nat):Int)-(L:Int)=(a:Int):=%[(qC (a+b))-(qC a)==(qC b)|(aP)]
 rw[ad9]at h6
 refine (if_neg %[cu ((qC a)+1==(qC (a+(b+c)))),1<=b,b<=c|(bJ ha h1)]).trans ?_
 erw[FG h1 h2,e,acT %[a<(qL 2 18),a+b<(qL 2 18)|(aP h8)] h7,aa5 ..,ags ..,aa5 ..,acU Oa %[a*b+a*c<=(qL 2 27),a*c+a*b<=(qL 2 20)|(bJ h6)],aa5 ..,Qi ..,rfl]
theorem Bt{n k x L:Nat}{items:List Int}(h3:x<2^n)(h4:L+1<=items.length)(h5:items.length<2^20):Ld n (k+1) x L ((L+1:Nat):Int) items=some (yX items L (dg n x 1)):=by
 refine (if_pos rfl).trans ((if_pos ⟨%[0>=(qC a)|(aG)],%[(qC a)>(qC b),a<b|(aP h4)],%[(qC a)>(qL 2 62),a<b,b<(qL 2 20)|(aP h4 h5)]⟩).trans (congrArg some ?_))
 unfold yX dg
 rw[abE,List.set_eq_take_append_cons_drop,if_pos (Nat.lt_of_succ_le h4),aaI]
 show _++(_::_)=_++(((x/2^(n*0)%2^n:Nat):Int)::_)
 erw[agS ..,alm ..,Nat.div_one ..,agC h3];rfl
theorem Mk(n:Nat)(h7:n<2^18)(k:Nat):∀{x L len:Nat} {items:List Int},1<=len->len<=2^k->x<2^(n*len)->L+len<=items.length->items.length<2^20->n*len<=2^20->len<2^18->
 Ld n (k+1) x L ((L+len:Nat):Int) items=some (yX items L (dg n x len)):=by
 induction k with
 |zero=>
  intro x L len items h1 h2 h3 h4 h5 h6 h8
  obtain rfl:len=1:=aik h2 h1
  exact Bt (agz n▸h3) h4 h5
 |succ k ih=>
  intro x L len items h1 h2 h3 h4 h5 h6 h8
  by_cases tW:len=1
  .subst tW;exact Bt (agz n▸h3) h4 h5
  . (refine zu (Mi h1 tW) λa b iB ha vL OH=>?_;obtain rfl:=iB)
    rw[ahe]at h2
    have Oa:x/2^(n*a)<2^(n*b):=by
     (rw[ad6 (adT _)];erw[<-af6 ..,<-ad9 ..,aeU b ..]);exact h3
    have h6':=h6
    rw[ad9]at h6'
    have pf:∀d,d.length=a->(yX items L d).length=items.length:=λd hd=>by
     skip
     erw[aao,aao,aan ..,aiN,aj2,hd];lia
    have Ig:=DI n (x%2^(n*a)) a
    rw[Mj ha vL OH h3 h6 h7 h8,ih ha %[a<=b,a<=c,a+c<=b*2|(bJ vL h2)] (adC _ (adT _)) %[a+b<=c,a+(b+d)<=c|(d4 h4)] h5 %[a*b<=(qL 2 20),a*(b+c)<=(qL 2 20)|(bJ h6)] %[a<(qL 2 18),a+b<(qL 2 18)|(aP h8)],aa5,<-ahg,
     ih (abq ha vL) %[a<=b,a<=c+1,c+a<=b*2|(bJ OH h2)] Oa (by erw[pf _ Ig];exact %[a+b+c<=d,a+(b+c)<=d|d4 h4]) (by erw[pf _ Ig];exact h5) %[a*b<=(qL 2 20),a*(c+b)<=(qL 2 20)|(bJ h6)] %[a<(qL 2 18),b+a<(qL 2 18)|(aP h8)]]
    have e:=Mh items L (dg n (x%2^(n*a)) a) (dg n (x/2^(n*a)) b) (by erw[Ig];exact %[a+b<=c,a+(b+d)<=c|d4 h4])
    rw[Ig]at e
    have e2:=Bs n x a (a+b) (ag5 a b)
    rw[aiT]at e2
    erw[e,e2,rfl]
noncomputable def dF(n:Nat):List Nat->Nat
 |[]=>0
 |d::r=>d+2^n*dF n r
theorem fE(n:Nat):∀a b:List Nat,dF n (a++b)=dF n a+2^(n*a.length)*dF n b
 |[],b=>by simp[dF]
 |d::a,b=>by
  erw[adS]
  show d+2^n*dF n (a++b)=d+2^n*dF n a+_
  erw[fE n a b,adY,ad9 n ..,agz ..,aeU (n*a.length) ..,af6 ..,ad9 ..,af3 ..,ahg ..,rfl]
theorem yY(n:Nat):∀{ds:List Nat},(∀d∈ds,d<2^n)->dF n ds<2^(n*ds.length)
 |[],_=>by show 0<2^(n*0);exact adT _
 |d::r,h=>by
  show d+2^n*dF n r<_
  have h1:=yY n (ds:=r) λx hx=>h x (.tail _ hx)
  have h2:=h d (.head _)
  erw[adY,ad9 n ..,agz ..,aeU (n*r.length) ..,af6 ..]
  have:=aeL (2^n) (Nat.succ_le_of_lt h1)
  rw[Nat.mul_succ]at this
  exact %[a+b*c<b*d,a<b,b*c+b<=b*d|d4 h2 this]
theorem Qj(n x len:Nat):dg n x (len+1)=x%2^n::dg n (x/2^n) len:=by
 have:=Bs n x 1 (len+1) %[1<=a+1|(aG)]
 erw[this,agz ..,amm ..]
 unfold dg
 simp
theorem FH(n:Nat):∀(len x:Nat),x<2^(n*len)->dF n (dg n x len)=x
 |0,x,h=>by
  rw[agS,alm]at h
  have:x=0:=%[a=0,a<1|(aG h)]
  subst this;rfl
 |len+1,x,h=>by
  erw[Qj ..]
  show x%2^n+2^n*dF n (dg n (x/2^n) len)=x
  rw[FH n len (x/2^n) (by
   (rw[ad6 (adT _)];erw[<-af6 ..]);rwa [ad9,agz]at h)]
  exact aij x (2^n)
theorem acV(n x len:Nat):∀d∈dg n x len,d<2^n:=λd hd=>by
 skip
 (refine bz (ac2.mp hd) λj _ cc=>?_;obtain rfl:=cc)
 exact adC _ (adT n)
theorem rI{α:Type}(ds:List α)(L h len:Nat)(hl:h<=len):(ds.drop L).take len=(ds.drop L).take h++(ds.drop (L+h)).take (len-h):=by
 have e:len=h+(len-h):=%[a=b+c,b<=a,qD 0 c a b|(bJ hl rfl)]
 conv=>lhs;rw[e,List.take_add,am7]
theorem Bu{n k L:Nat}{ds:List Nat}(h4:L+1<=ds.length)(h5:ds.length<2^18):Lz n (ds.map λ(d:Nat)=>(d:Int)) (k+1) L ((L+1:Nat):Int)=some ((dF n ((ds.drop L).take 1):Nat):Int):=by
 refine (if_pos rfl).trans ((if_pos ⟨%[0>=(qC a)|(aG)],%[(qC a)>(qL 2 62),a<b,b<(qL 2 18)|(aP h4 h5)]⟩).trans ?_)
 erw[abE ..,adR,abz h4,ael h4]
 rfl
theorem Ml{n k L a b hi lo:Nat}{items:List Int}(ha:1<=a)(h1:a<=b)(h2:b<=a+1)(h6:n*(a+b)<=2^20)(h7:n<2^18)(h8:a+b<2^18)(hh:hi<2^(n*b))
(r1:Lz n items k ((L+a:Nat):Int) ((L+(a+b):Nat):Int)=some (hi:Int))(r2:Lz n items k L ((L+a:Nat):Int)=some (lo:Int)):Lz n items (k+1) L ((L+(a+b):Nat):Int)=some ((lo+2^(n*a)*hi:Nat):Int):=by
 have e:((L+a:Nat):Int)-(L:Int)=(a:Int):=%[(qC (a+b))-(qC a)==(qC b)|(aP)]
 rw[ad9]at h6
 refine (if_neg %[cu ((qC a)+1==(qC (a+(b+c)))),1<=b,b<=c|(bJ ha h1)]).trans ?_
 erw[FG h1 h2,e,acT %[a<(qL 2 18),a+b<(qL 2 18)|(aP h8)] h7,aa5 ..,r1,aa5 ..,acU hh %[a*b+a*c<=(qL 2 27),a*c+a*b<=(qL 2 20)|(bJ h6)],aa5 ..,r2,aic ..,<-agp ..,aeU ..,ad2 hi ..,rfl]
theorem Mm(n:Nat)(ds:List Nat)(hds:∀d∈ds,d<2^n)(hn:n<2^18)(cL:ds.length<2^18)(Cz:n*ds.length<=2^20)(k:Nat):∀{L len:Nat},1<=len->len<=2^k->L+len<=ds.length->
 Lz n (ds.map λ(d:Nat)=>(d:Int)) (k+1) L ((L+len:Nat):Int)=some ((dF n ((ds.drop L).take len):Nat):Int):=by
 induction k with
 |zero=>
  intro L len h1 h2 h4
  obtain rfl:len=1:=aik h2 h1
  exact Bu h4 cL
 |succ k ih=>
  intro L len h1 h2 h4
  by_cases tW:len=1
  .subst tW;exact Bu h4 cL
  . (refine zu (Mi h1 tW) λa b iB ha vL OH=>?_;obtain rfl:=iB)
    rw[ahe]at h2
    have r1:=ih (L:=L+a) (len:=b) (abq ha vL) %[a<=b,a<=c+1,c+a<=b*2|(bJ OH h2)] %[a+b+c<=d,a+(b+c)<=d|(d4 h4)]
    rw[ahg]at r1
    have Ck:((ds.drop L).take a).length=a:=by (erw[aiN,aj2]);exact %[a=b,c+(b+d)<=e,qD 0 f e c,qD 3 a b f|RB h4 rfl rfl]
    have Fa:((ds.drop (L+a)).take b).length=b:=by (erw[aiN,aj2]);exact %[a=b,c+(d+b)<=e,qD 0 f e (c+d),qD 3 a b f|RB h4 rfl rfl]
    have hv:=yY n (ds:=(ds.drop (L+a)).take b) λd hd=>hds d (List.mem_of_mem_drop (alA hd))
    rw[Fa]at hv
    erw[Ml ha vL OH (abq (aeL n (by lia)) Cz) hn (by lia) hv r1 (ih ha %[a<=b,a<=c,a+c<=b*2|(bJ vL h2)] %[a+b<=c,a+(b+d)<=c|(d4 h4)]),rI ds L a (a+b) (ag5 a b),aiT ..,fE ..,Ck,rfl]
section
variable{prog:aas}{w:abI}{d:Nat}{P:abA}
noncomputable abbrev Spec:=List AV->Option AV
noncomputable def FI:AV->Option (List AV)
 |.bor xs=>some xs
 |_=>none
noncomputable def aI(k:Int->Spec):Spec
 |x::r=>(eg x).bind λi=>k i r
 |[]=>none
noncomputable def aS(k:Str->Spec):Spec
 |x::r=>(nI x).bind λi=>k i r
 |[]=>none
noncomputable def aB(k:List AV->Spec):Spec
 |x::r=>(FI x).bind λi=>k i r
 |[]=>none
noncomputable def uP:AV->Option Nat
 |.int i=>match i with
  |.ofNat n=>some n
  |.negSucc _=>none
 |_=>none
noncomputable def aN(k:Nat->Spec):Spec
 |x::r=>(uP x).bind λi=>k i r
 |[]=>none
noncomputable def aL{α:Type}(f:AV->Option α)(k:List α->Spec):Spec
 |x::r=>(FI x).bind λL=>(L.mapM f).bind λl=>k l r
 |[]=>none
noncomputable def aZ(k:List Int->Spec):Spec
 |x::r=>(FI x).bind λL=>(bp L).bind λl=>k l r
 |[]=>none
noncomputable def aE(o:Option AV):Spec
 |[]=>o
 |_=>none
theorem Mp:aI k (.int i::r)=k i r:=rfl
theorem Bv:aS k (.str i::r)=k i r:=rfl
theorem Qk:aB k (.bor i::r)=k i r:=rfl
theorem aj3{k:Nat->Spec}{i:Nat}{r:List AV}:aN k (.int (i:Int)::r)=k i r:=rfl
theorem aj4{α:Type}:aL f k (.bor i::r)=(i.mapM f).bind λl=>k l r:=rfl
theorem agt:aZ k (.bor i::r)=(bp i).bind λl=>k l r:=rfl
theorem yZ:aE o []=o:=rfl
theorem nr(h:FI x=some l):x=.bor l:=by
 cases x with
 |bor _=>exact congrArg AV.bor (aac h)
 |_=>exact aq h
section
variable{xs:List AV}{res:AV}{G:List AV->Prop}
theorem iQ(h:aI k xs=some res)(n:∀i r,k i r=some res->G (.int i::r)):G xs:=by
 cases xs with
 |nil=>exact aq h
 |cons x r=>exact ax h λi e h=>by rw[a5 e];exact n i r h
theorem wQ(h:aS k xs=some res)(n:∀i r,k i r=some res->G (.str i::r)):G xs:=by
 cases xs with
 |nil=>exact aq h
 |cons x r=>exact ax h λi e h=>by rw[eU e];exact n i r h
theorem ah7(h:aB k xs=some res)(n:∀i r,k i r=some res->G (.bor i::r)):G xs:=by
 cases xs with
 |nil=>exact aq h
 |cons x r=>exact ax h λi e h=>by rw[nr e];exact n i r h
theorem iR(h:uP x=some n):x=.int (n:Int):=by
 cases x with
 |int i=>
  cases i with
  |ofNat m=>rw[<-aac h];rfl
  |negSucc _=>exact aq h
 |_=>exact aq h
theorem eC(h:aN k xs=some res)(n:∀i r,k i r=some res->G (.int (i:Int)::r)):G xs:=by
 cases xs with
 |nil=>exact aq h
 |cons x r=>exact ax h λi e h=>by rw[iR e];exact n i r h
theorem Mq{α β:Type}{f:α->Option β}{g:β->α}(h:∀x y,f x=some y->x=g y){L:List α}:∀{l:List β},L.mapM f=some l->L=l.map g:=by
 induction L with
 |nil=>intro l e;obtain rfl:=aac (show some []=some l from e);rfl
 |cons x L ih=>
  intro l e
  rw[ad4]at e
  refine ax e λy hy e=>ax e λr hr e=>?_
  rw[<-aac e,ih hr,h _ _ hy];rfl
theorem Bw{α:Type}{f:AV->Option α}{g:α->AV}{k:List α->Spec}(hf:∀x y,f x=some y->x=g y)(h:aL f k xs=some res)(n:∀l r,k l r=some res->G (.bor (l.map g)::r)):G xs:=by
 cases xs with
 |nil=>exact aq h
 |cons x r=>exact ax h λi e h=>ax h λl e2 h=>by rw[nr e,Mq hf e2];exact n l r h
theorem Mr(h:aZ k xs=some res)(n:∀l r,k l r=some res->G (.bor (l.map .int)::r)):G xs:=by
 cases xs with
 |nil=>exact aq h
 |cons x r=>exact ax h λi e h=>ax h λl e2 h=>by rw[nr e,dm e2];exact n l r h
theorem dw(h:aE o xs=some res)(n:o=some res->G []):G xs:=by
 cases xs with
 |nil=>exact n h
 |cons x r=>exact aq h
end
noncomputable def fF(l:List (aa9×Spec)):cQ:=λf xs=>match f with
 |.ref a=>(l.lookup a).bind λS=>S xs
 |_=>none
structure bw (prog:aas) (w:abI) (d:Nat) (P:abA) (a:aa9) (S:Spec):Prop where
 fn:∃o fd,(ey P).get? a=some o/\o.data=.func fd
 con:∀xs res,S xs=some res->fresh 4 res=true/\vD prog w d (ey P) (.ref a) xs res
theorem jM.less(h:jM (d+1) l A):jM d l A:=⟨h.frames,h.hand,by have:=h.depth;exact %[a+b<=900,a+(b+1)<=900|aP this],by have:=h.units;exact %[a+100*b<=9000,a+100*(b+1)<=9000|aP this]⟩
theorem vD.more(h:vD prog w d (ey P) f xs res):vD prog w (d+1) (ey P) f xs res:=λl A s vs E Q hA=>h l A s vs E Q hA.less
theorem bw.more(h:bw prog w d P a S):bw prog w (d+1) P a S:=⟨h.fn,λxs res e=>⟨(h.con xs res e).1,(h.con xs res e).2.more⟩⟩
theorem rr{α:Type}{a:aa9}{b:α}:∀{l:List (aa9×α)},l.lookup a=some b->(a,b)∈l
 |[],h=>by exact aq h
 |(x,y)::l,h=>by
  rw[ad5]at h
  split at h
  .rename_i e;obtain rfl:=aac h;rw[eq_of_beq e];exact .head _
  .exact .tail _ (rr h)
noncomputable abbrev cH(prog:aas)(w:abI)(d:Nat)(P:abA)(l:List (aa9×Spec)):Prop:=∀p∈l,bw prog w d P p.1 p.2
theorem cH.more(h:cH prog w d P l):cH prog w (d+1) P l:=λp hp=>(h p hp).more
theorem cH.nil:cH prog w d P []:=λp hp=>by cases hp
theorem cH.cons(h:bw prog w d P a S)(hl:cH prog w d P l):cH prog w d P ((a,S)::l):=λp hp=>by
 cases hp with
 |head=>exact h
 |tail _ hp=>exact hl p hp
theorem Ms{l:List (aa9×Spec)}{f:aaq}{xs:List AV}{res:AV}(h:fF l f xs=some res):∃a S,f=.ref a/\(a,S)∈l/\S xs=some res:=by
 cases f with
 |ref a=>
  obtain ⟨S,h1,h2⟩:=aec.mp (show (l.lookup a).bind (λS=>S xs)=some res from h)
  exact ⟨a,S,rfl,rr h1,h2⟩
 |_=>exact pW h
theorem Xa(hl:cH prog w d P l):vE prog w d (ey P) (fF l):=λf xs res h=>by
 obtain ⟨a,S,rfl,hm,hS⟩:=Ms h
 exact (hl _ hm).con xs res hS
theorem Ql(hl:cH prog w d P l):∀f xs res,fF l (.ref f) xs=some res->∃o fd,(ey P).get? f=some o/\o.data=.func fd:=λf xs res h=>by
 obtain ⟨a,S,e,hm,hS⟩:=Ms h
 cases e
 exact (hl _ hm).fn
theorem bX(hl:cH prog w d P l)(D:bP (ey P) a (jx P a) ps ns body az)(C:cw 60 60 (bc (jx P a).scope ns az) body=Sz)
(hS:∀xs res,S xs=some res->∃n,Yx ps.length ns.length Sz (fF l) n xs=some res):bw prog w (d+1) P a S:=by
 refine ⟨?_,λxs res h=>?_⟩
 .obtain ⟨o,h1,h2⟩:=D.obj
  exact ⟨o,_,h1,h2⟩
 .obtain ⟨n,hn⟩:=hS xs res h
  exact PA (k:=60) (ke:=60) D (uC P) (Xa hl) (Ql hl) (by rw[C];exact hn)
theorem iS(D:bP (ey P) a fd ps ns body az):∃o fd,(ey P).get? a=some o/\o.data=.func fd:=by
 obtain ⟨o,h1,h2⟩:=D.obj
 exact ⟨o,_,h1,h2⟩
noncomputable def ae(d:Nat):AV:=.int (d:Int)
noncomputable def Mt:Spec:=aN λa=>aN λn=>aE (if 1<=n/\n<2^16/\aae a<2^16 then some (.lst ((dg n a ((aae a+n-1)/n)).map ae)) else none)
theorem lI(a:Nat):a<2^aae (a:Int):=by
 unfold aae
 split
 .rename_i h
  have:(a:Int)=0:=eq_of_beq h
  have:a=0:=%[a=0,(qC a)==0|(aG this)]
  subst this;decide
 .rw[afk];exact Nat.lt_log2_self
theorem uQ(l:List Nat)(k:Nat):fresh (k+2) (.lst (l.map ae))=true:=by
 show (l.map ae).all (fresh (k+1))=true
 rw[aiY,aaG]
 exact λx V=>rfl
theorem T8:2^18<=2^39:=adU ⋯ ⋯
theorem Mu:bw prog w (d+1) P 52 Mt:=by
 refine ⟨iS (od P),λxs res h=>?_⟩
 apply eC h;clear h;intro a _ h
 apply eC h;clear h;intro n _ h
 apply dw h;clear h;intro h
 refine dS h ?_
 clear h
 intro hc h
 have h2:=hc.1
 have h3:=hc.2.1
 have h4:=hc.2.2
 clear hc
 obtain rfl:=aac h
 refine ⟨uQ _ 2,?_⟩
 generalize hB:aae (a:Int)=B at h4
 have hmB:n*((B+n-1)/n)<=B+n-1:=Nat.mul_div_le _ _
 have hm2:B<=n*((B+n-1)/n):=by
  have:=al2 (B+n-1) (show 0<n by exact %[0<a,1<=a|aG h2])
  rw[ad9,agz]at this;exact %[a<=b*c,d<b*c+b,qD 0 d (a+b) (1)|d4 this rfl]
 generalize hm:(B+n-1)/n=m at hmB hm2
 have Qm:m<=B+n-1:=by rw[<-hm];exact ail _ _
 have hx:a<2^(n*m):=aaO (hB▸lI a) (adU ⋯ hm2)
 have e:(dg n a m).map ae=((dg n a m).map λ(d:Nat)=>(d:Int)).map .int:=by rw[abH];rfl
 rw[e]
 refine W6 (m:=(m:Int)) (k:=40) ⋯ ?_ (ad0 _) %[(qC a)>=(qL 2 20),b<(qL 2 16),c<(qL 2 16),a<=d,qD 0 d (c+b) (1)|(d4 h3 h4 Qm rfl)] ?_
 .refine ag (x:=.int ((B+n-1:Nat):Int)) (y:=.int (n:Int)) (ag (ag (x:=.int (B:Int)) ?_ rfl gK) rfl ?_) rfl ?_
  .rw[<-hB];rfl
  .rw[k_sub,show ((B:Int)+(n:Int)-1)=((B+n-1:Nat):Int) by exact %[(qC a)+(qC b)-1==(qC c),1<=b,qD 0 c (a+b) (1)|bJ h2 rfl]]
  .refine (LX ?_).trans ?_
   .rw[aap]
    refine ⟨decide_eq_true %[cu ((qC a)==0),1<=a|(aG h2)],decide_eq_true ?_⟩
    rw[afk]
    exact aeT ((aif %[cu (a=0),1<=a|(aG h2)]).mpr (show n<2^16 by exact %[a<(qL 2 16),a<(qL 2 16)|aG h3])) ⋯
   .rw[fD,hm]
 .split
  .rename_i ha
   rw[abE]
   have hB0:1<=B:=by
    rcases aiz B with q|q
    .have:=lI a
     rw[hB,q]at this;lia
    .exact q
   have YC:1<=m:=by
    rcases aiz m with q|q
    .subst q;lia
    .exact q
   have bq:(aar m (0:Int)).length=m:=afa
   have:=Mk n %[a<(qL 2 18),a<(qL 2 16)|(aG h3)] 39 (x:=a) (L:=0) (items:=aar m 0) YC (abq %[a<=(qL 2 18),b<(qL 2 16),c<(qL 2 16),a<=d,qD 0 d (c+b) (1)|(d4 h3 h4 Qm rfl)] T8) hx %[0+a<=b,b=a|(aP bq)] %[a<(qL 2 20),b<(qL 2 16),c<(qL 2 16),d<=e,a=d,qD 0 e (c+b) (1)|(Cj h3 h4 Qm bq rfl)] %[a*b<=(qL 2 20),a<(qL 2 16),c<(qL 2 16),a*b<=d,qD 0 d (c+a) (1)|(d4 h3 h4 hmB rfl)] %[a<(qL 2 18),b<(qL 2 16),c<(qL 2 16),a<=d,qD 0 d (c+b) (1)|(d4 h3 h4 Qm rfl)]
   rw[aeD]at this
   rw[show ((0:Nat):Int)=0 from rfl]at this
   rw[this]
   congr 1
   unfold yX
   rw[aky,adK,DI,aiX %[a<=0+b,a=b|(aP bq)],abW]
  .rename_i ha
   have ha:(a:Int)=0:=Decidable.not_not.mp ha
   have ha:a=0:=%[a=0,(qC a)==0|(aG ha)]
   subst ha
   have:B=0:=by rw[<-hB];rfl
   subst this
   have:m=0:=by rw[<-hm];exact ah9 %[a<b,1<=b,qD 0 a (0+b) (1)|(aP h2 rfl)]
   subst this
   rfl
noncomputable def Mv:Spec:=aZ λzs=>aN λn=>aE (if 1<=n/\n<2^16/\zs.length<16/\∀z∈zs,0<=z/\z<2^n then some (.int (dF n (zs.map akf):Nat)) else none)
theorem Mw:bw prog w (d+1) P 59 Mv:=by
 refine ⟨iS (og P),λxs res h=>?_⟩
 apply Mr h;clear h;intro zs _ h
 apply eC h;clear h;intro n _ h
 apply dw h;clear h;intro h
 refine dS h ?_
 clear h
 intro hc h
 have h1:=hc.1
 have h2:=hc.2.1
 have h3:=hc.2.2.1
 have h4:=hc.2.2.2
 clear hc
 obtain rfl:=aac h
 refine ⟨rfl,?_⟩
 have ez:(zs.map akf).map (λ(d:Nat)=>(d:Int))=zs:=by
  rw[abH]
  conv=>rhs;rw[<-ake zs]
  exact abG λz hz=>aeM (h4 z hz).1
 refine W7 (k:=40) ⋯ %[a<(qL 2 62),a<16|(aG h3)] ?_
 by_cases h0:zs.length=0
 .rw[if_neg %[cu (cu (a=0)),a=0|(aG h0)]]
  have:zs=[]:=ahP.mp h0
  subst this;rfl
 .rw[if_pos h0]
  have hl:(zs.map akf).length=zs.length:=aan _
  have hb:n*zs.length<=2^20:=by
   have:=anj (show n<=2^16 by exact %[a<=(qL 2 16),a<(qL 2 16)|aG h2]) (show zs.length<=16 by exact %[a<=16,a<16|aG h3])
   exact %[a*b<=(qL 2 20),a*b<=(qL 2 16)*16|aP this]
  have:=Mm n (zs.map akf) (λd hd=>by
   obtain ⟨z,hz,rfl⟩:=ac2.mp hd
   obtain ⟨q1,q2⟩:=h4 z hz
   have:((z.toNat:Nat):Int)<((2^n:Nat):Int):=by rw[aeM q1];exact_mod_cast q2
   exact ag1.mp this) %[a<(qL 2 18),a<(qL 2 16)|(aG h2)] %[a<(qL 2 18),b<16,a=b|(aP h3 hl)] (by rw[hl];exact hb) 39 (L:=0) (len:=zs.length) %[1<=a,cu (a=0)|(aG h0)] (abq %[a<=(qL 2 18),a<16|(aG h3)] T8) %[0+a<=b,b=a|(aP hl)]
  rw[ez,aeD]at this
  rw[show ((0:Nat):Int)=0 from rfl]at this
  rw[this,List.drop_zero,ahV %[a<=b,a=b|(aP hl)]]
end
noncomputable def fO:Option Nat->List Nat->List Nat
 |_,[]=>[]
 |YG,b::l=>if b/64%2=1 then fO (some (YG.getD 0*64+b%64)) l else (YG.getD 0*64+b%64)::fO none l
noncomputable abbrev nv(l:List Nat):List Int:=l.map λ(c:Nat)=>(c:Int)
theorem T9(b:Nat):adM (b:Int) 63=((b%64:Nat):Int):=by
 erw[(show (63:Int)=((63:Nat):Int) from rfl),lH ..]
 congr 1
 exact akd b 6
theorem uR(b:Nat):adM (b:Int) 64=0↔b/64%2=0:=by
 erw[(show (64:Int)=((64:Nat):Int) from rfl),lH ..]
 have hl:b%64<2^6:=adC _ ⋯
 have hb:b=b/64*2^6+b%64:=by lia
 have h1:b&&& 1*2^6=(b/64%2)*2^6:=by
  conv=>lhs;lhs;rw[hb,gq _ _ _ hl]
  erw[akW ..,FE _ _ _ hl,Nat.or_zero ..,<-ah8 ..,<-ah8 ..,<-Nat.shiftLeft_and_distrib,ajI ..,ah8 ..,rfl]
 have h1:b&&& 64=(b/64%2)*64:=h1
 erw[h1]
 lia
theorem Qn(v b:Nat):agP ((v:Int)*2^(6:Int).toNat) (adM (b:Int) 63)=((v*64+b%64:Nat):Int):=by
 erw[T9 ..]
 have:(v:Int)*2^(6:Int).toNat=((v*2^6:Nat):Int):=yW v 6
 erw[this,yV ..,<-gq v (b%64) 6 (adC _ ⋯),rfl]
theorem wR:∀(l:List Nat) (v b k:Nat),v<2^(6*k)->6*(k+l.length)+6<=2^27->
 (∃(u:Nat) (r:List Nat),gk (v:Int) (b:Int) (nv l)=some (some ((u:Int),nv r))/\r.length<=l.length/\(if b/64%2=1 then fO (some v) l else v::fO none l)=u::fO none r)\/
 (gk (v:Int) (b:Int) (nv l)=some none/\(if b/64%2=1 then fO (some v) l else v::fO none l)=[])
 |l,v,b,k,hv,hk=>by
  by_cases hb:b/64%2=1
  .have Ic:adM (b:Int) 64≠0:=λe=>by have:=(uR b).mp e;lia
   have hg:(aae (v:Int):Int)+6<=2^27:=by have:=bB hv;exact %[(qC a)+6>=(qL 2 27),6*(b+c)+6<=(qL 2 27),a<=6*b|bJ hk this]
   cases l with
   |nil=>
    refine .inr ⟨?_,by erw[if_pos hb];rfl⟩
    show gk (v:Int) (b:Int) []=_
    unfold gk
    (rw[if_neg Ic];erw[if_pos hg,rfl])
   |cons y l=>
    have e:gk (v:Int) (b:Int) (nv (y::l))=gk ((v*64+y%64:Nat):Int) (y:Int) (nv l):=by
     erw[<-Qn ..]
     show gk (v:Int) (b:Int) ((y:Int)::nv l)=_
     conv=>lhs;unfold gk
     erw[if_neg Ic,if_pos hg,rfl]
    have bA:y%64<64:=adC _ ⋯
    have Sd:v*64+y%64<2^(6*(k+1)):=by
     have hp:2^(6*(k+1))=2^(6*k)*64:=by (erw[ad9 ..,af6 ..,rfl])
     erw[hp];exact %[a*64+b<c*64,a<c,b<64|bJ hv bA]
    have bq:(y::l).length=l.length+1:=rfl
    have:=wR l (v*64+y%64) y (k+1) Sd %[6*(a+1+b)+6<=(qL 2 27),6*(a+c)+6<=(qL 2 27),c=b+1|(bJ hk bq)]
    erw[e,if_pos hb]
    show (∃u r,_/\_/\(if y/64%2=1 then _ else _)=_)\/(_/\(if y/64%2=1 then _ else _)=_)
    rcases this with ⟨u,r,h1,h2,h3⟩ | ⟨h1,h2⟩
    .exact .inl ⟨u,r,h1,%[a<=b,b=c+1,a<=c|(bJ bq h2)],h3⟩
    .exact .inr ⟨h1,h2⟩
  .have Ic:adM (b:Int) 64=0:=(uR b).mpr %[a=0,cu (a=1),qD 2 a b (2)|(aP hb rfl)]
   refine .inl ⟨v,l,?_,adJ _,by erw[if_neg hb,rfl]⟩
   exact wz Ic
theorem wT:∀(n:Nat) (l:List Nat),l.length<n->l.length<2^20->pk n (nv l)=some (nv (fO none l))
 |0,l,h,_=>absurd h (am3 _)
 |n+1,[],_,_=>rfl
 |n+1,b::l,h,hs=>by
  have bq:(b::l).length=l.length+1:=rfl
  have e:pv (nv (b::l))=gk ((b%64:Nat):Int) (b:Int) (nv l):=by
   rw[<-T9];rfl
  have bA:b%64<64:=adC _ ⋯
  have ev:fO none (b::l)=(if b/64%2=1 then fO (some (b%64)) l else (b%64)::fO none l):=by
   show (if b/64%2=1 then fO (some (0*64+b%64)) l else (0*64+b%64)::fO none l)=_
   rw[Nat.zero_mul,aeD]
  rcases wR l (b%64) b 1 (by lia) %[6*(1+a)+6<=(qL 2 27),b<(qL 2 20),b=a+1|(aP hs bq)] with ⟨u,r,h1,h2,h3⟩ | ⟨h1,h2⟩
  .have ih:=wT n r %[a<b,c<b+1,c=d+1,a<=d|(d4 h bq h2)] %[a<(qL 2 20),b<(qL 2 20),b=c+1,a<=c|(bJ hs bq h2)]
   unfold pk
   rw[e,h1]
   show (pk n (nv r)).map ((u:Int)::·)=_
   rw[ih,ev,h3];rfl
  .unfold pk
   rw[e,h1,ev,h2];rfl
section
variable{prog:aas}{w:abI}{d:Nat}{P:abA}
noncomputable abbrev iw(c:Nat):Str:=⟨#[c]⟩
noncomputable def b1F:Spec:=aS λx=>aE (if x.length=1 then some (.bool (cG.contains (x.cps.getD 0 0:Nat))) else none)
noncomputable def iT(x:Str):Str:=(mC (x.cps.getD 0 0:Nat)).getD (afe x)
noncomputable def b3F:Spec:=aS λx=>aE (if x.length=1 then some (.str (iT x)) else none)
noncomputable def Mx:Spec:=aS λx=>aE (if x.cps.size<=1000000/\(yx x).cps.size<=1000000 then some (.str (HG (yx x))) else none)
noncomputable def My:Spec:=aS λx=>aE (if x.cps.toList.length<2^20 then some (.lst ((fO none x.cps.toList).map ae)) else none)
theorem acW:bw prog w (d+1) P 115 b1F:=⟨iS (mx P),λxs res h=>by
 apply wQ h;clear h;intro x _ h
 apply dw h;clear h;intro h
 refine dS h ?_
 clear h
 intro hx h
 obtain rfl:=aac h;exact ⟨rfl,acP hx⟩⟩
theorem acX:bw prog w (d+1) P 161 b3F:=⟨iS (kQ P),λxs res h=>by
 apply wQ h;clear h;intro x _ h
 apply dw h;clear h;intro h
 refine dS h ?_
 clear h
 intro hx h
 obtain rfl:=aac h;exact ⟨rfl,acS hx⟩⟩
theorem Xb:bw prog w (d+1) P 97 Mx:=⟨iS (rn P),λxs res h=>by
 apply wQ h;clear h;intro x _ h
 apply dw h;clear h;intro h
 refine dS h ?_
 clear h
 intro hx h
 obtain rfl:=aac h;exact ⟨rfl,Mg hx.1 hx.2⟩⟩
theorem Xd:bw prog w (d+2) P 199 My:=⟨iS (mA P),λxs res h=>by
 apply wQ h;clear h;intro x _ h
 apply dw h;clear h;intro h
 refine dS h ?_
 clear h
 intro hx h
 obtain rfl:=aac h
 have e:(fO none x.cps.toList).map ae=(nv (fO none x.cps.toList)).map .int:=by erw[abH];rfl
 refine ⟨uQ _ 2,?_⟩
 erw[e]
 exact DH hx (wT _ _ (afm _) hx)⟩
theorem bx(d:Int)(h:0<m):0<=d.fmod m/\d.fmod m<m:=⟨alu d h,ams d h⟩
noncomputable def DJ(l:List Int)(k:Int):Int:=(l[k.toNat]?).getD 0
theorem eE{l:List Int}{p:Int->Bool}(h:l.all p=true){k:Int}(h0:0<=k)(h1:k<l.length):p (DJ l k)=true:=by
 have hk:k.toNat<l.length:=%[a<b,0>=a,a>(qC b),qD 4 a a (0)|(Gq h0 h1 rfl)]
 unfold DJ
 rw[abz hk]
 exact aaG.mp h _ (aj5 hk)
theorem oo(h0:0<=k)(h1:k<l.length)(h2:l.length<2^62):nK σ (.lst (l.map .int)) (.int k)=some (.int (DJ l k)):=by
 have hk:k.toNat<l.length:=%[a<b,0>=a,a>(qC b),qD 4 a a (0)|(Gq h0 h1 rfl)]
 refine gL rfl ⟨h0,%[a>(qL 2 62),a>(qC a),a<(qL 2 62)|(N9 h1 h2)]⟩ ?_
 unfold DJ
 rw[adR,abz hk];rfl
noncomputable def Mz(i:Int):Bool:=decide (0<=i)&&decide (i<=1114111)
noncomputable def Bx:List Int:=[173,847,6150,6155,6156,6157,8203,8204,8205,8288,65279]
noncomputable def DK(d:Int):Int:=if d.fmod 27<11 then DJ Bx (d.fmod 27) else 65013+d.fmod 27
noncomputable def uS(d:Int):Nat:=(DK d).toNat
noncomputable def acY:Spec:=aI λd=>aE (some (.str (iw (uS d))))
theorem By(d:Int):Mz (DK d)=true:=by
 have hr:=bx d (m:=27) ⋯
 unfold DK
 split
 .exact eE (p:=Mz) ⋯ hr.1 (by show d.fmod 27<11;omega)
 .skip
  erw[aap ..];exact ⟨decide_eq_true %[0>=65013+a,aU (0>=a) (a>27)|(fK hr)],decide_eq_true %[65013+a>=1114111,aU (0>=a) (a>27)|(fK hr)]⟩
theorem Xe:bw prog w (d+1) P 173 acY:=bX cH.nil (yI P) (yP P) λxs res h=>by
 apply iQ h;clear h;intro d _ h
 apply dw h;clear h;intro h
 obtain rfl:=aac h
 refine ⟨0,cV (v:=.str (iw (uS d))) rfl (au (a7 (x:=.lst (Bx.map .int)) rfl) (bM (eP ?_))) rfl⟩
 have hr:=bx d (m:=27) ⋯
 refine aC rfl (af (nn (aJ (bh (ag rfl rfl (mo rfl)) rfl rfl)) (x:=.int (DK d)) ?_) ao) (wK (By d))
 unfold DK
 by_cases hc:d.fmod 27<11
 . (rw[if_pos hc];erw[decide_eq_true hc])
   exact bL rfl (ag rfl rfl (mo rfl)) (oo hr.1 hc ⋯)
 .erw[if_neg hc,decide_eq_false hc]
  exact ag rfl (ag rfl rfl (mo rfl)) gK
noncomputable def cJ:List Int:=[172,174,846,848,6149,6151,6154,6158,8202,8206,8287,8289,65023,65040,65278,65280]
noncomputable def Xf(d:Int):Int:=DJ cJ (d.fmod 16)
noncomputable def eF(d:Int):Nat:=(Xf d).toNat
noncomputable def Qo:Spec:=aI λd=>aE (some (.str (iw (eF d))))
theorem MA:bw prog w (d+1) P 180 Qo:=bX cH.nil (yJ P) (yR P) λxs res h=>by
 apply iQ h;clear h;intro d _ h
 apply dw h;clear h;intro h
 obtain rfl:=aac h
 have hr:=bx d (m:=16) ⋯
 exact ⟨0,cV (v:=.str (iw (eF d))) rfl (au (a7 (x:=.lst (cJ.map .int)) rfl) (bM (eP (aC rfl (af (bL rfl (ag rfl rfl (mo rfl)) (oo hr.1 hr.2 ⋯)) ao) (wK (eE (p:=Mz) ⋯ hr.1 hr.2)))))) rfl⟩
noncomputable def kS:List Int:=[97,65,119808,119860,119912,120016,120172,120224,120276,120328,120380,120432]
noncomputable def Xg(c:Nat)(d:Int):Int:=DJ kS (d.fmod 12)+(c:Int)-97
noncomputable def frm(c:Nat)(d:Int):Nat:=(Xg c d).toNat
noncomputable def MB:Spec:=aS λx=>aI λd=>aE (if x.length=1/\97<=x.cps.getD 0 0/\x.cps.getD 0 0<=122 then some (.str (iw (frm (x.cps.getD 0 0) d))) else none)
theorem Xh:bw prog w (d+1) P 187 MB:=bX cH.nil (Dx P) (DB P) λxs res h=>by
 apply wQ h;clear h;intro x _ h
 apply iQ h;clear h;intro d _ h
 apply dw h;clear h;intro h
 refine dS h ?_
 clear h
 intro hx h
 obtain rfl:=aac h
 have hr:=bx d (m:=12) ⋯
 have hn:=eE (l:=kS) (p:=λi=>decide (65<=i)&&decide (i<=121000)) ⋯ hr.1 hr.2
 have hn:=bQ hn
 refine ⟨0,cV (v:=.str (iw (frm (x.cps.getD 0 0) d))) rfl (au (a7 (x:=.lst (kS.map .int)) rfl) (bM (eP (aC rfl (af (ag (ag (bL rfl (ag rfl rfl (mo rfl)) (oo hr.1 hr.2 ⋯)) (aC rfl (af rfl ao) (Fy (decide_eq_true hx.1))) gK) rfl k_sub) ao) (wK ?_))))) rfl⟩
 erw[aap ..];exact ⟨decide_eq_true %[0>=a+(qC a)-97,aU (b=1) (aU (97<=a) (a<=122)),aU (65>=a) (a>=121000)|(Gq hx hn)],decide_eq_true %[a+(qC a)-97>=1114111,aU (b=1) (aU (97<=a) (a<=122)),aU (65>=a) (a>=121000)|(Gq hx hn)]⟩
end
section
set_option tactic.hygienic true
noncomputable def rs(e:afd):Int:=(iv e.key).getD 0
theorem DL:lj (jg.map rs)=true:=∅
theorem FJ{α β:Type}{f:α->β}{p:α->Bool}{e:α}:∀{l:List α} {i:Nat},(l.map f).Nodup->l[i]?=some e->p e=true->(∀x∈l,p x=true->f x=f e)->l.find? p=some e
 |[],i,_,h,_,_=>by cases h
 |x::l,0,nd,h,hp,hf=>by
  cases h
  erw[amY,hp,rfl]
 |x::l,i+1,nd,h,hp,hf=>by
  obtain ⟨n1,n2⟩:=ad1.mp (show (f x::l.map f).Nodup from nd)
  rw[akZ]at h
  erw[amY]
  cases hx:p x with
  |false=>exact FJ n2 h hp λy hy=>hf y (.tail _ hy)
  |true=>
   refine absurd ?_ n1
   erw[hf x (.head _) hx]
   exact adB (ade h)
theorem MC{i:Nat}{k:Int}{s:Str}(h:jg[i]?.map (λe=>(iv e.key,match e.val with|.str s _=>some s|_=>none))=some (some k,some s)):mC k=some s:=by
 obtain ⟨e,he,h⟩:=aiM.mp h
 rw[amy]at h
 obtain ⟨h1,h2⟩:=h
 have hf:jg.find? (λe=>ahJ k e.key)=some e:=by
  refine FJ (f:=rs) (i:=i) (pT DL) he (eY.mpr h1) λx V hx=>?_
  unfold rs
  rw[eY.mp hx,h1]
 unfold mC amf
 (rw[al9];erw[hf])
 show (match some e.val with|some (.str s _)=>some s|_=>none)=some s
 cases hv:e.val with
 |str y t=>rw[hv]at h2;exact h2
 |_=>rw[hv]at h2;exact pW h2
theorem wU{k:Int}(h:(jg.all λe=>!(Nat.beq (rs e).toNat k.toNat))=true):mC k=none:=by
 unfold mC amf
 rw[al9,List.find?_eq_none.mpr]
 .rfl
 .intro e he hx
  have:=aaG.mp h e he
  unfold rs at this
  rw[eY.mp hx]at this
  show False
  rw[show ((some k).getD 0).toNat=k.toNat from rfl,Nat.beq_refl]at this
  cases this
theorem MD:(jg.all λe=>ahA 181 (rs e).toNat)=true:=∅
theorem uT{c:Nat}(h:c<181):mC (c:Int)=none:=by
 refine wU (aaG.mpr λe he=>?_)
 have:=ahi (aaG.mp MD e he)
 cases hb:Nat.beq (rs e).toNat (c:Int).toNat with
 |false=>rfl
 |true=>
  have e2:=Nat.eq_of_beq_eq_true hb
  rw[abE]at e2
  lia
theorem kT(c:Nat):iT (iw c)=(mC (c:Int)).getD (afe (iw c)):=rfl
noncomputable def kU(p start:Nat):Bool:=((jg.drop p).take 26).zipIdx.all λe=>iv e.1.key==some ((start+e.2:Nat):Int)&&(match e.1.val with|.str s _=>s.cps.toList==[97+e.2]|_=>false)
theorem Qp:Nat.blt 600 jg.length=true:=∅
theorem fj{p start k:Nat}(h:kU p start=true)(hp:p<=500)(hk:k<26):iT (iw (start+k))=iw (97+k):=by
 have hl:=aaO (afm 600) (ahi Qp)
 have hi:p+k<jg.length:=adZ (ajz hp (afo hk)) (adZ ⋯ hl)
 rw[kT,MC (i:=p+k) (s:=iw (97+k))]
 .rfl
 .erw[abz hi]
  have hm:(jg[p+k],k)∈((jg.drop p).take 26).zipIdx:=by
   refine ade (i:=k) ?_
   erw[List.getElem?_zipIdx,List.getElem?_take_of_lt hk,List.getElem?_drop,abz hi]
   simp
  have:=aaG.mp h _ hm
  rw[aap]at this
  obtain ⟨h1,h2⟩:=this
  show some (iv jg[p+k].key,_)=_
  erw[eq_of_beq h1]
  split at h2
  .rename_i s t hs
   have lY:jg[p+k].val=.str s t:=hs
   erw[lY]
   have e2:=eq_of_beq h2
   obtain ⟨cs⟩:=s
   show some (some (((start+k:Nat)):Int),some (⟨cs⟩ :Str))=some (some _,some (iw (97+k)))
   erw[(show (⟨cs⟩ :Str)=iw (97+k) from congrArg Str.mk (ahv.mp e2)),rfl]
  .cases h2
theorem ME:((aai 26).all λk=>afe (iw (97+k))==iw (97+k)&&afe (iw (65+k))==iw (97+k))=true:=by decide+kernel
theorem Qq:(([46,13,10]:List Nat).all λc=>afe (iw c)==iw c)=true:=by decide+kernel
theorem DM{k:Nat}(hk:k<26):iT (iw (97+k))=iw (97+k):=by
 erw[kT ..,uT %[97+a<181,a<26|(aG hk)]]
 have:=aaG.mp ME k (abd.mpr hk)
 rw[aap]at this
 exact eq_of_beq this.1
theorem DN{k:Nat}(hk:k<26):iT (iw (65+k))=iw (97+k):=by
 erw[kT ..,uT %[65+a<181,a<26|(aG hk)]]
 have:=aaG.mp ME k (abd.mpr hk)
 rw[aap]at this
 exact eq_of_beq this.2
theorem FK{c:Nat}(h:c=46\/c=13\/c=10):iT (iw c)=iw c:=by
 erw[kT ..,uT %[a<181,cz (a=46) (cz (a=13) (a=10))|(aG h)]]
 exact eq_of_beq (aaG.mp Qq c (by simp;exact %[cz (a=46) (cz (a=13) (a=10)),cz (a=46) (cz (a=13) (a=10))|aG h]))
theorem agu:(kU 202 119808&&kU 228 119860&&kU 254 119912&&kU 298 120016&&kU 364 120172&&kU 390 120224&&kU 416 120276&&kU 442 120328&&kU 468 120380&&kU 494 120432)=true:=∅
theorem BA{k:Nat}(hk:k<26)(d:Int):iT (iw (frm (97+k) d))=iw (97+k):=by
 have hr:=bx d (m:=12) ⋯
 have e:∀s:Nat,DJ kS (d.fmod 12)=(s:Int)->frm (97+k) d=s+k:=λs hs=>by
  unfold frm Xg
  rw[hs];exact %[a=b+c,qD 4 a ((qC b)+(qC (97+c))-97) (0)|bJ rfl]
 have hb:=agu
 simp only[aap]at hb
 obtain ⟨⟨⟨⟨⟨⟨⟨⟨⟨b1,b2⟩,b3⟩,b4⟩,b5⟩,b6⟩,b7⟩,b8⟩,b9⟩,b10⟩:=hb
 generalize d.fmod 12=m at hr e
 obtain ⟨m,rfl⟩:=ag7 hr.1
 have hm:m<12:=%[a<12,aU (0>=(qC a)) ((qC a)>12)|(aG hr)]
 clear hr
 match m,hm with
 |0,_=>rw[e 97 rfl];exact DM hk
 |1,_=>rw[e 65 rfl];exact DN hk
 |2,_=>rw[e 119808 rfl];exact fj b1 ⋯ hk
 |3,_=>erw[e 119860 rfl];exact fj b2 ⋯ hk
 |4,_=>erw[e 119912 rfl];exact fj b3 ⋯ hk
 |5,_=>erw[e 120016 rfl];exact fj b4 ⋯ hk
 |6,_=>erw[e 120172 rfl];exact fj b5 ⋯ hk
 |7,_=>erw[e 120224 rfl];exact fj b6 ⋯ hk
 |8,_=>erw[e 120276 rfl];exact fj b7 ⋯ hk
 |9,_=>erw[e 120328 rfl];exact fj b8 ⋯ hk
 |10,_=>erw[e 120380 rfl];exact fj b9 ⋯ hk
 |11,_=>erw[e 120432 rfl];exact fj b10 ⋯ hk
theorem MF:(cJ.all λk=>jg.all λe=>!(Nat.beq (rs e).toNat k.toNat))=true:=by decide+kernel
theorem Qr:(cJ.all λk=>afe (iw k.toNat)==iw k.toNat)=true:=by decide+kernel
theorem BD(d:Int):iT (iw (eF d))=iw (eF d):=by
 have hr:=bx d (m:=16) ⋯
 have h1:=eE MF hr.1 hr.2
 have h2:=eE Qr hr.1 hr.2
 have h3:=eE (l:=cJ) (p:=λi=>decide (0<=i)) ⋯ hr.1 hr.2
 erw[kT ..]
 have e:((eF d:Nat):Int)=DJ cJ (d.fmod 16):=aeM (of_decide_eq_true h3)
 erw[e,wU h1]
 exact eq_of_beq h2
theorem Xi{c:Nat}(h:c<173\/65279<c):cG.contains (c:Int)=false:=by
 have hb:(cG.all λi=>decide (173<=i)&&decide (i<=65279))=true:=⋯
 cases hc:cG.contains (c:Int) with
 |false=>rfl
 |true=>
  have:=bQ (aaG.mp hb _ (ah2.mp hc))
  lia
theorem Xj(d:Int):cG.contains ((uS d:Nat):Int)=true:=by
 have hr:=bx d (m:=27) ⋯
 have hc:=bQ (By d)
 erw[(show ((uS d:Nat):Int)=DK d from aeM hc.1)]
 unfold DK
 split
 .exact eE (p:=λi=>cG.contains i) ⋯ hr.1 (by show d.fmod 27<11;lia)
 .generalize d.fmod 27=m at *
  obtain ⟨m,rfl⟩:=ag7 hr.1
  have h:((aai 16).all λj=>cG.contains (65024+(j:Int)))=true:=⋯
  have:=aaG.mp h (m-11) (abd.mpr %[a<16,aU (0>=(qC b)) ((qC b)>27),qD 0 a b (11)|(aP hr rfl)])
  erw[(show (65013:Int)+(m:Int)=65024+((m-11:Nat):Int) by lia)]
  exact this
theorem Xk(d:Int):cG.contains ((eF d:Nat):Int)=false:=by
 have hr:=bx d (m:=16) ⋯
 have h1:=eE (l:=cJ) (p:=λi=>decide (0<=i)&&!cG.contains i) ⋯ hr.1 hr.2
 rw[aap]at h1
 erw[(show ((eF d:Nat):Int)=Xf d from aeM (of_decide_eq_true h1.1))]
 have:=h1.2
 unfold Xf
 cases hc:cG.contains (DJ cJ (d.fmod 16)) with
 |false=>rfl
 |true=>rw[hc]at this;cases this
theorem wV{k:Nat}(hk:k<26)(d:Int):frm (97+k) d<173/\65<=frm (97+k) d\/65279<frm (97+k) d:=by
 have hr:=bx d (m:=12) ⋯
 have h1:=eE (l:=kS) (p:=λi=>decide (i=97)||decide (i=65)||decide (70000<i)) ⋯ hr.1 hr.2
 simp only[agh,decide_eq_true_eq]at h1
 unfold frm Xg
 exact %[cz (aU (a<173) (65<=a)) (65279<a),b<26,cz (cz (a==97) (a==65)) (70000>a),qD 4 a (a+(qC (97+b))-97) (0)|Gq hk h1 rfl]
end
section
variable{prog:aas}{w:abI}{d:Nat}{P:abA}
noncomputable abbrev wS(l:List Nat):Str:=⟨l.toArray⟩
theorem uU(a b:List Nat):wS a++wS b=wS (a++b):=Str.ext' (by show a.toArray++b.toArray=_;simp)
theorem kW(a:List Nat):(wS a).length=a.length:=by simp[alh]
noncomputable abbrev iU(c:Nat):AV:=.str (iw c)
noncomputable def dJ(c:Nat):Bool:=!cG.contains (c:Int)
noncomputable def dy(c:Nat):Nat:=(iT (iw c)).cps.getD 0 0
noncomputable def df(l:List Nat):List Nat:=(l.filter dJ).map dy
noncomputable def MG:Spec:=aS λx=>aE (if x.length<=2^20/\∀c∈x.cps.toList,dJ c=true->iT (iw c)=iw (dy c) then some (.str (wS (df x.cps.toList))) else none)
noncomputable abbrev Qs:eW:=acB
noncomputable abbrev tB1:cQ:=fF [(115,b1F),(161,b3F)]
theorem FL(h:a.length+b.length<=aa7):yd .Add (.str a) (.str b)=some (.str (a++b)):=by
 show pV .Add a b=_
 unfold pV;exact bl (decide_eq_true h)
theorem MH(l:List Nat):∀(acc:List Nat) (v2 v3:Option AV),acc.length+l.length<=2^20->(∀c∈l,dJ c=true->iT (iw c)=iw (dy c))->∃u2 u3,
 jK (λx σ=>cg tB1 n Qs (σ.put 2 x)) (l.map iU) ⟨[some t,some (.str (wS acc)),v2,v3],[]⟩=some (⟨[some t,some (.str (wS (acc++df l))),u2,u3],[]⟩,none):=by
 induction l with
 |nil=>
  intro acc v2 v3 _ _
  exact ⟨v2,v3,by show some _=some _;(erw[(show df []=[] from rfl),abW ..,rfl])⟩
 |cons c l ih=>
  intro acc v2 v3 h hf
  have hl:(c::l).length=l.length+1:=rfl
  have hf':=λy hy=>hf y (ad8 _ hy)
  have Ua:aA tB1 (.call (.glob "in_table_b1" (.obj (.ref 115))) (.cons (.var 2) .nil)) ⟨[some t,some (.str (wS acc)),some (iU c),v3],[]⟩=some (.bool (cG.contains (c:Int))):=
   aC rfl (af rfl ao) (cO rfl rfl)
  have Te:df (c::l)=(if dJ c then [dy c] else [])++df l:=by
   unfold df
   rw[aga]
   cases dJ c <;> rfl
  cases hk:cG.contains (c:Int) with
  |false=>
   have G3:dJ c=true:=by unfold dJ;erw[hk];rfl
   refine zv (ih (acc++[dy c]) (some (iU c)) (some (.bool false)) (by rw[aao];show acc.length+1+l.length<=_;omega) hf') λu2 u3 ih=>?_
   refine ⟨u2,u3,bI (σ':=⟨[some t,some (.str (wS (acc++[dy c]))),some (iU c),some (.bool false)],[]⟩) ?_ ?_⟩
   .refine au (a7 (x:=.bool false) (hk▸Ua)) (au (dv (p:=true) rfl (au (iP (y:=.str (wS acc)) (x:=iU (dy c)) rfl (aC rfl (af rfl ao) (cO (ys:=[iU c]) rfl (by
     show some (AV.str (iT (iw c)))=_
     erw[hf c (.head _) G3,rfl]))) (FL ?_)) bH)) ?_)
    .erw[kW ..];show acc.length+1<=aa7
     have:aa7=16777216:=rfl
     omega
    .erw[(show wS acc++iw (dy c)=wS (acc++[dy c]) from uU acc [dy c])];rfl
   .erw[ih,Te,if_pos G3,aaI ..,rfl]
  |true=>
   have G3:dJ c=false:=by unfold dJ;erw[hk];rfl
   refine zv (ih acc (some (iU c)) (some (.bool true)) (by omega) hf') λu2 u3 ih=>?_
   refine ⟨u2,u3,bI (σ':=⟨[some t,some (.str (wS acc)),some (iU c),some (.bool true)],[]⟩) ?_ ?_⟩
   .exact au (a7 (x:=.bool true) (hk▸Ua)) (au (dv (p:=false) rfl (au (dv (p:=false) rfl bH) bH)) bH)
   .erw[ih,Te,G3];rfl
theorem Xl:bw prog w (d+2) P 194 MG:=bX ((cH.nil.cons acX).cons acW) (uK P) (uO P) λxs res h=>by
 apply wQ h;clear h;intro x _ h
 apply dw h;clear h;intro h
 refine dS h ?_
 clear h
 intro hx h
 obtain rfl:=aac h
 obtain ⟨u2,u3,hl⟩:=MH (n:=0) (t:=.str x) x.cps.toList [] none none (by rw[ai5,aeD];exact hx.1) hx.2
 rw[adK]at hl
 exact ⟨0,cV (v:=.str (wS (df x.cps.toList))) rfl (au (a7 (x:=.str (wS [])) rfl) (au (mq (Fx rfl rfl) hl) (bM (eP rfl)))) rfl⟩
noncomputable def jn(sep:List Nat):List (List Nat)->List Nat
 |[]=>[]
 |[x]=>x
 |x::r=>x++sep++jn sep r
theorem MI(sep:List Nat):∀rows:List (List Nat),ag4 (wS sep) (rows.map wS)=wS (jn sep rows):=λrows=>by
 unfold ag4
 rw[StrLaws.glued_eq_join]
 induction rows with
 |nil=>rfl
 |cons x r ih=>
  cases r with
  |nil=>rfl
  |cons y r=>
   show wS x++wS sep++Str.join (wS sep) ((y::r).map wS)=_
   (erw[ih];rw[uU];rw[uU]);rfl
theorem DP:∀rows:List (List Nat),jn [] rows=rows.flatten
 |[]=>rfl
 |[x]=>by show x=x++[];erw[abW ..,rfl]
 |x::y::r=>by
  show x++[]++jn [] (y::r)=x++(y::r).flatten
  erw[abW ..,DP (y::r),rfl]
theorem rt:∀rows:List (List Nat),jl (rows.map λr=>AV.str (wS r))=some (rows.map wS)
 |[]=>rfl
 |r::rows=>by
  show (jl (rows.map λr=>AV.str (wS r))).map (wS r::·)=_
  erw[rt rows];rfl
theorem Xm(hx:σ.listOf x=some (rows.map λr=>AV.str (wS r)))(h:(rows.map ag9).sum+rows.length*sep.length<=16777216):
 nM σ (.str (wS sep)) "join" [x]=some (.str (wS (jn sep rows))):=by
 show nL σ (wS sep) "join" [x]=_
 simp only[nL,if_true]
 unfold Jq
 (rw[hx];rw[aa5];erw[rt ..,aa5 ..,MI ..])
 refine bl (decide_eq_true ?_)
 erw[abH,aan ..,kW ..,(show (alh ∘ wS)=ag9 from funext λl=>kW l)]
 exact h
theorem BE{α:Type}(f:α->Nat):∀l:List α,(l.map λc=>[f c]).flatten=l.map f
 |[]=>rfl
 |c::l=>by show f c::(l.map λc=>[f c]).flatten=_;erw[BE f l];rfl
end
section
variable{prog:aas}{w:abI}{d:Nat}{P:abA}
theorem Qt{α β:Type}(f:α->β)(l:List α)(a b c:Option Int):cB (l.map f) a b c=(cB l a b c).map f:=by
 unfold cB
 (rw[aan];erw[List.map_filterMap])
 congr 1
 funext i
 erw[adR,rfl]
theorem Qu(h:x∈dk 0 5):∃p:Nat,p<5/\x=.int (p:Int):=by
 skip
 (refine bz (ac2.mp h) λk hk cc=>?_;obtain rfl:=cc)
 exact ⟨k,abd.mp hk,by congr 1;exact %[0+(qC a)==(qC a)|aG]⟩
noncomputable def DQ:List Int:=[41,500000000002,1020,23,58]
noncomputable def iV(zs:List Int)(p:Int):Int:=(DJ DQ p+(cB zs (some p) none (some 5)).sum).fmod (10^(12:Int).toNat)
noncomputable def MJ:Spec:=aZ λzs=>aE (if zs.length<=2^20 then some (.lst ([iV zs 0,iV zs 1,iV zs 2,iV zs 3,iV zs 4].map .int)) else none)
theorem uV{σ:bj}{x lo hi st:AV}{xs:List AV}{l u t:Option Int}(hx:σ.listOf x=some xs)(h1:kz lo=some l)(h2:kz hi=some u)(h3:kz st=some t)(ht:t≠some 0)(hl:xs.length<=aa7):
 CD σ x lo hi st=some (.lst (cB xs l u t)):=by
 have key:(σ.listOf x).bind (λxs=>if t≠some 0/\xs.length<=aa7 then some (AV.lst (cB xs l u t)) else none)=some (AV.lst (cB xs l u t)):=by
  erw[hx,aa5 ..,if_pos ⟨ht,hl⟩,rfl]
 unfold CD
 (rw[h1];rw[aa5];erw[h2,aa5 ..,h3,aa5 ..])
 cases x with
 |str s=>exact pW hx
 |_=>exact key
theorem Xn:bw prog w (d+1) P 166 MJ:=bX cH.nil (Bg P) (Bo P) λxs res h=>by
 apply Mr h;clear h;intro zs _ h
 apply dw h;clear h;intro h
 refine dS h ?_
 clear h
 intro hl h
 obtain rfl:=aac h
 have cL:aa7=16777216:=rfl
 refine ⟨0,cV (v:=.lst ([iV zs 0,iV zs 1,iV zs 2,iV zs 3,iV zs 4].map .int)) ?_ (au (a7 (x:=.lst (DQ.map .int)) rfl) (bM (eP ?_))) rfl⟩
 .erw[aap ..]
  refine ⟨rfl,?_⟩
  show ((zs.map AV.int).all (cf 3)&&true)=true
  erw[agy ..,aiY]
  exact aaG.mpr λz V=>rfl
 .refine yC (xs:=dk 0 5) (g:=λx=>match x with|.int p=>.int (iV zs p)|_=>.none) (yD rfl ⋯) (λx hx=>?_) ⋯
  (refine bz (Qu hx) λp hp cc=>?_;obtain rfl:=cc)
  refine ag (ag (bL rfl rfl (oo (l:=DQ) %[0>=(qC a)|(aG)] (by show (p:Int)<5;exact %[(qC a)>5,a<5|aG hp]) ⋯)) (aC rfl (af (Du (x:=.bor (zs.map .int)) (y:=.int p) (z:=.none) (u:=.int 5) (v:=.none) rfl rfl rfl rfl (uV rfl rfl rfl rfl ⋯ (by erw[aan ..];exact %[a<=b,a<=(qL 2 20),b=16777216|aP hl cL]))) ao) (Tt (l:=cB zs (some (p:Int)) none (some 5)) ?_)) gK) (ag rfl rfl (Tq ⋯)) (mo ⋯)
  show bp (cB (zs.map AV.int) _ _ _)=_
  erw[Qt ..,du ..,rfl]
theorem agv(b:Nat):adM (b:Int) 1=((b%2:Nat):Int):=by
 erw[(show (1:Int)=((1:Nat):Int) from rfl),lH ..,ajI ..,rfl]
end
section
variable{prog:aas}{w:abI}{d:Nat}{P:abA}
noncomputable def FM:AV->Option Nat
 |.str s=>if s.length=1 then some (s.cps.getD 0 0) else none
 |_=>none
theorem Qv(h:s.length=1):s=iw (s.cps.getD 0 0):=by
 obtain ⟨⟨l⟩⟩:=s
 match l,h with
 |[c],_=>rfl
theorem HQ(h:FM x=some c):x=iU c:=by
 cases x with
 |str s=>
  replace h:(if s.length=1 then some (s.cps.getD 0 0) else none)=some c:=h
  refine dS h ?_
  clear h
  intro hs h
  obtain rfl:=aac h;exact congrArg AV.str (Qv hs)
 |_=>exact pW h
theorem iW{α:Type}(f:α->AV)(hf:∀x,cf 3 (f x)=true)(l:List α):cf 4 (.bor (l.map f))=true:=by
 show (l.map f).all (cf 3)=true
 erw[aiY]
 exact aaG.mpr λx V=>hf x
noncomputable def dz(b:Nat):List Nat:=if b/64%2=1 then [b%64*64+46] else [b%64,46]
theorem FN{n:Nat}{ds:List Nat}(h1:1<=n)(h2:n<2^16)(h3:ds.length<16)(h4:∀d∈ds,d<2^n):Mv [.bor (ds.map ae),.int (n:Int)]=some (ae (dF n ds)):=by
 have e:ds.map ae=(nv ds).map .int:=by erw[abH];rfl
 have hz:(nv ds).map akf=ds:=by
  erw[abH]
  conv=>rhs;rw[<-ake ds]
  exact abG λx V=>abE x
 show (bp (ds.map ae)).bind _=_
 erw[e,du ..,aa5 ..]
 refine (if_pos ⟨h1,h2,by erw[aan ..];exact h3,λz hz=>?_⟩).trans (by erw[hz];rfl)
 (refine bz (ac2.mp hz) λx hx cc=>?_;obtain rfl:=cc)
 exact ⟨ad0 x,(akw 2 n)▸ag1.mpr (h4 x hx)⟩
theorem wW{σ:bj}(k:Nat)(l:List Nat):iD σ (k+2) (.lst (l.map ae))=some (.lst (l.map ae)):=by
 have e:l.map ae=(nv l).map AV.int:=by erw[abH];rfl
 show ((l.map ae).mapM (iD σ (k+1))).map AV.lst=_
 erw[e,wB ..];rfl
noncomputable def oq(k:Int):List Nat:=if k.fmod 3=0 then [10] else if k.fmod 3=1 then [13] else [13,10]
noncomputable def jL(k:Int):List Nat:=if k.fmod 4=0 then [] else if k.fmod 4=1 then [10] else if k.fmod 4=2 then [13] else [13,10]
noncomputable abbrev rAV(r:List Nat):AV:=.str (wS r)
theorem MK(k:Int):nK σ (.tup [.str ⟨#[10]⟩,.str ⟨#[13]⟩,.str ⟨#[13,10]⟩]) (.int (k.fmod 3))=some (rAV (oq k)):=by
 have hr:=bx k (m:=3) ⋯
 refine Bf ⟨hr.1,%[a>(qL 2 62),aU (0>=a) (a>3)|(fK hr)]⟩ ?_
 unfold oq
 rcases (show k.fmod 3=0\/k.fmod 3=1\/k.fmod 3=2 by exact %[cz (a==0) (cz (a==1) (a==2)),aU (0>=a) (a>3)|fK hr]) with h|h|h <;> rw[h] <;> rfl
theorem ML(k:Int):nK σ (.tup [.str (adQ ""),.str ⟨#[10]⟩,.str ⟨#[13]⟩,.str ⟨#[13,10]⟩]) (.int (k.fmod 4))=some (rAV (jL k)):=by
 have hr:=bx k (m:=4) ⋯
 refine Bf ⟨hr.1,%[a>(qL 2 62),aU (0>=a) (a>4)|(fK hr)]⟩ ?_
 unfold jL
 rcases (show k.fmod 4=0\/k.fmod 4=1\/k.fmod 4=2\/k.fmod 4=3 by exact %[cz (a==0) (cz (a==1) (cz (a==2) (a==3))),aU (0>=a) (a>4)|fK hr]) with h|h|h|h <;> rw[h] <;> rfl
theorem BF(k:Int):(oq k).length<=2:=by unfold oq;split <;> (try split) <;> simp
theorem BG(k:Int):(jL k).length<=2:=by unfold jL;split <;> (try split) <;> (try split) <;> simp
end
section
variable{prog:aas}{w:abI}{d:Nat}{P:abA}
noncomputable def dsF:Spec:=aI λa=>aI λb=>aI λn=>aE (if 0<=a/\0<b/\0<=n/\(aae a:Int)<=n+4000/\b.natAbs.log2<9000 then some (.tup [.int (a.fdiv b),.int (a.fmod b)]) else none)
noncomputable abbrev Qw:eW:=(.cons (.asg 3 (.bin .BitAnd (.var 2) (.int 1)))
 (.cons Tz
 W5))
theorem MM:nM σ (.int i) "bit_length" []=some (.int (aae i)):=by
 show xV i "bit_length" []=_
 simp only[xV,if_true]
theorem BH{RF:cQ}{n:Nat}{a b m:Int}{vs:List (Option AV)}{own:List (List AV)}:iZ RF TA ⟨some (.int a)::some (.int b)::some (.int m)::vs,own⟩=some (decide ((aae a:Int)-m<=4000)):=
 aJ (bh (ag (yy rfl ao MM) rfl k_sub) rfl rfl)
theorem BI{RF:cQ}{a b m:Int}(h1:(aae a:Int)<=m+4000)(h2:0<b)(h3:b.natAbs.log2<9000):Yx 3 11 pJ RF 0 [.int a,.int b,.int m]=some (.tup [.int (a.fdiv b),.int (a.fmod b)]):=by
 refine cV (σ':=⟨[.int a,.int b,.int m].map some++aar (11-3) none,[]⟩) (v:=.tup [.int (a.fdiv b),.int (a.fmod b)]) rfl (bM (dv (p:=decide ((aae a:Int)-m<=4000)) (BH (n:=0)) ?_)) rfl
 rw[decide_eq_true (show (aae a:Int)-m<=4000 by exact %[(qC a)-a>=4000,(qC a)>=a+4000|N9 h1])]
 refine bM (eP (aC rfl (af rfl (af rfl ao)) (ago ?_)))
 rw[decide_eq_true (show b≠0 by exact %[cu (a==0),0>a|fK h2]),decide_eq_true h3];rfl
theorem acZ:bw prog w (d+1) P 38 dsF:=bX cH.nil (wM P) (wO P) λxs res h=>by
 apply iQ h;clear h;intro a _ h
 apply iQ h;clear h;intro b _ h
 apply iQ h;clear h;intro n _ h
 apply dw h;clear h;intro h
 refine dS h ?_
 clear h
 intro hc h
 obtain rfl:=aac h;exact ⟨0,BI hc.2.2.2.1 hc.2.1 hc.2.2.2.2⟩
theorem eZ{A b q r:Int}(h:A=q*b+r)(h0:0<=r)(h1:r<b):A.fdiv b=q/\A.fmod b=r:=by
 have hb:0<b:=%[0>a,0>=b,b>a|(Yq h0 h1)]
 rw[akM _ %[0>=a,0>a|(fK hb)],akL _ %[0>=a,0>a|(fK hb)]]
 have e:A=r+b*q:=by rw[h,ah0];exact %[a*b+c==c+a*b|YY]
 constructor
 .rw[e,Int.add_mul_ediv_left _ _ %[cu (a==0),0>a|(fK hb)],Int.ediv_eq_zero_of_lt h0 h1];exact %[0+a==a|fK]
 .rw[e,Int.add_mul_emod_self_left];exact amG h0 h1
theorem Qx(h1:N<=2*b1)(h2:b1<N)(h3:b2<N)(h4:A3<N)(h5:A<b1*N+b2)(hq:q=if A/N=b1 then N-1 else A/b1)(hr:r=if A/N=b1 then A-b1*N+b1 else A%b1):
 A=q*b1+r/\q<N/\r<2*N/\r*N+A3<b1*N+b2+q*b2/\q*b2<=r*N+A3+2*(b1*N+b2):=by
 have hN:0<N:=%[0<a,b<a|(aP h2)]
 have hsq:N*N<=2*(b1*N):=by rw[<-af3];exact aeP N h1
 by_cases hc:A/N=b1
 .rw[if_pos hc]at hq hr
  have hA:=ai9 A N
  have ht:=adC A hN
  rw[hc]at hA
  generalize A%N=t at hA ht
  have hc1:N*b1=b1*N:=ad2 _ _
  have htb:t<b2:=%[a<b,c<d*e+b,e*d+a=c|(Cj h5 hA)]
  have er:r=t+b1:=by lia
  subst er hq
  have e1:(N-1)*b1+b1=N*b1:=by rw[<-agR,al1,agb %[1<=a,b<a|(aP h2)]]
  have e2:(N-1)*b2+b2=N*b2:=by rw[<-agR,al1,agb %[1<=a,b<a|(aP h2)]]
  have e3:(t+b1)*N=t*N+b1*N:=ahu _ _ _
  have e4:t*N+N<=b2*N:=by rw[<-agR];exact aeP N htb
  have e5:N*b2=b2*N:=ad2 _ _
  have e6:b2*N+N<=N*N:=by rw[<-agR];exact aeP N h3
  refine ⟨%[a=b*c+(d+c),e*c+d=a,b*c+c=e*c|(Cj hA e1)],%[a<b,c<b,qD 0 a b (1)|(bJ h2 rfl)],by lia,%[(a+b)*c+d<b*c+e+f*e,d<c,f*e+e=c*e,a*c+c<=e*c|(RB h4 e2 e4)],by lia⟩
 .rw[if_neg hc]at hq hr
  have Ie:0<b1:=%[0<a,b<=2*a,a<b|(aP h1 h2)]
  have jj:A/N<b1:=by
   have:A/N<b1+1:=by rw[ad6 hN,ahu,Nat.one_mul];exact %[a<b*c+c,d<c,a<b*c+d|d4 h3 h5]
   exact %[a<b,cu (a=b),a<b+1|aP hc this]
  have hA:A<b1*N:=by rwa [ad6 hN]at jj
  have hqN:A/b1<N:=by rw[ad6 Ie,ad2];exact hA
  have hrb:=adC A Ie
  have hA2:=ai9 A b1
  rw[ad2]at hA2
  rw[<-hq,<-hr]at hA2
  rw[<-hq]at hqN
  rw[<-hr]at hrb
  clear hq hr
  have e1:r*N+N<=b1*N:=by rw[<-agR];exact aeP N hrb
  have e2:q*b2<=N*N:=anj %[a<=b,a<b|(aP hqN)] %[a<=b,a<b|(aP h3)]
  refine ⟨hA2.symm,hqN,%[a<2*b,c<b,a<c|(bJ h2 hrb)],%[a*b+c<d*b+e+f*e,c<b,a*b+b<=d*b|(RB h4 e1)],%[a*b<=c*d+e+2*(f*d+b),d*d<=2*(f*d),a*b<=d*d|(RB hsq e2)]⟩
noncomputable abbrev uW:IT:=.val (.cmp .Lt (.var 7) (.int 0))
noncomputable abbrev FO:eW:=(.cons (.aug 6 .Sub (.int 1)) (.cons (.aug 7 .Add (.var 2)) .nil))
theorem Xo(j:Nat):∀(q R:Int), -(j*b)<=R->R<b->∃q' R',Hc (iZ RF uW) (cg RF m FO) (j+1) ⟨[v0,v1,some (.int b),v3,v4,v5,some (.int q),some (.int R)],[]⟩=some (⟨[v0,v1,some (.int b),v3,v4,v5,some (.int q'),some (.int R')],[]⟩,none)/\0<=R'/\R'<b/\q'*b+R'=q*b+R:=by
 have stop:∀(j:Nat) (q R:Int),¬R<0->Hc (iZ RF uW) (cg RF m FO) (j+1) ⟨[v0,v1,some (.int b),v3,v4,v5,some (.int q),some (.int R)],[]⟩=some (⟨[v0,v1,some (.int b),v3,v4,v5,some (.int q),some (.int R)],[]⟩,none):=λj q R hR=>by
  show ((iZ RF uW _).bind λc=>if c=true then _ else _)=_
  rw[show iZ RF uW ⟨[v0,v1,some (.int b),v3,v4,v5,some (.int q),some (.int R)],[]⟩=some (decide (R<0)) from aJ (bh rfl rfl rfl),decide_eq_false hR]
  rfl
 induction j with
 |zero=>
  intro q R h1 h2
  have hR:¬R<0:=by rw[show ((0:Nat):Int)*b=0 from alq b]at h1;exact %[cu (a>0),(qG (0))>=a|fK h1]
  exact ⟨q,R,stop 0 q R hR,ajK.mp hR,h2,rfl⟩
 |succ j ih=>
  intro q R h1 h2
  by_cases hR:R<0
  .rw[show ((j+1:Nat):Int)*b=(j:Int)*b+b by rw[Int.natCast_succ,ahR,agW]]at h1
   obtain ⟨q',R',e,g1,g2,g3⟩:=ih (q-1) (R+b) %[(qG ((qC a)*a))>=b+a,(qG ((qC a)*a+a))>=b|(q12 h1)] %[a+b>b,a>0|(Yq hR)]
   refine ⟨q',R',?_,g1,g2,by rw[g3,alN,agW];exact %[a*b-b+(c+b)==a*b+c|YY]⟩
   show ((iZ RF uW _).bind λc=>if c=true then em (cg RF m FO _) (Hc (iZ RF uW) (cg RF m FO) (j+1)) else _)=_
   rw[show iZ RF uW ⟨[v0,v1,some (.int b),v3,v4,v5,some (.int q),some (.int R)],[]⟩=some (decide (R<0)) from aJ (bh rfl rfl rfl),decide_eq_true hR]
   exact e
  .exact ⟨q,R,stop _ q R hR,ajK.mp hR,h2,rfl⟩
theorem uX{σ:bj}{a s:Nat}(h:a<2^20000)(hs:s<=10000):cR σ .LShift (.int a) (.int s)=some (ae (a*2^s)):=by
 have:=bB h
 refine (acm ?_).trans (congrArg (λi=>some (AV.int i)) (yW a s))
 rw[decide_eq_true (ad0 s),decide_eq_true %[(qC a)+(qC b)>=(qL 2 27),b<=10000,a<=20000|(aP hs this)]];rfl
theorem y0{σ:bj}{a s:Nat}:cR σ .RShift (.int a) (.int s)=some (ae (a/2^s)):=
 (Tr (decide_eq_true (ad0 s))).trans (congrArg (λi=>some (AV.int i)) (om a s))
noncomputable abbrev tS:cQ:=fF [(38,dsF)]
theorem Xp{a b n:Nat}(h1:(aae (a:Int))<=n+4000)(h2:0<b)(h3:b<2^9000):tS (.ref 38) [.int a,.int b,.int n]=some (.tup [ae (a/b),ae (a%b)]):=by
 show dsF [.int a,.int b,.int n]=_
 have hl:((b:Int).natAbs.log2)<9000:=by rw[afk];exact (aif %[cu (a=0),0<a|(aG h2)]).mpr h3
 simp only[dsF,Mp,Qk,Bv,yZ,if_pos (show 0<=(a:Int)/\0<(b:Int)/\0<=(n:Int)/\(aae (a:Int):Int)<=(n:Int)+4000/\(b:Int).natAbs.log2<9000 from ⟨%[0>=(qC a)|(aG)],%[0>(qC a),0<a|(aG h2)],%[0>=(qC a)|(aG)],%[(qC a)>=(qC b)+4000,a<=b+4000|(aP h1)],hl⟩),fD,gp]
 rfl
noncomputable def d3N:Spec:=aN λA=>aN λA3=>aN λB=>aN λB1=>aN λB2=>aN λk=>aE (if 1<=k/\k<=3000/\B=B1*2^k+B2/\B2<2^k/\2^k<=2*B1/\B1<2^k/\A3<2^k/\A<B then
 some (.tup [ae ((A*2^k+A3)/B),ae ((A*2^k+A3)%B)]) else none)
theorem ac1:bw prog w (d+2) P 45 d3N:=bX (cH.nil.cons acZ) (HK P) (HM P) λxs res h=>by
 apply eC h;clear h;intro A _ h
 apply eC h;clear h;intro A3 _ h
 apply eC h;clear h;intro B _ h
 apply eC h;clear h;intro B1 _ h
 apply eC h;clear h;intro B2 _ h
 apply eC h;clear h;intro k _ h
 apply dw h;clear h;intro h
 refine dS h ?_
 clear h
 intro hc h
 have c5:=hc.1
 have hk:=hc.2.1
 have c7:=hc.2.2.1
 have c9:=hc.2.2.2.1
 have c10:=hc.2.2.2.2.1
 have c11:=hc.2.2.2.2.2.1
 have c12:=hc.2.2.2.2.2.2.1
 have c13:=hc.2.2.2.2.2.2.2
 clear hc
 obtain rfl:=aac h
 subst c7
 obtain ⟨m1,m2,m3,m4,m5⟩:=Qx c10 c11 c9 c12 c13 rfl rfl
 generalize hN:2^k=N at *
 have hN0:0<N:=%[0<a,b<a|(aP c9)]
 have hNb:N<=2^3000:=by rw[<-hN];exact adU ⋯ hk
 generalize hq:(if A/N=B1 then N-1 else A/B1)=q at *
 generalize hr:(if A/N=B1 then A-B1*N+B1 else A%B1)=r at *
 have hp:∀{x:Nat},x<2*N->x<2^20000:=λhx=>aaO hx (abq (aeL 2 hNb) (by rw[<-akV];exact adU ⋯ ⋯))
 have cL:∀{x:Nat},x<N->aae (x:Int)<=3000:=λhx=>bB (aaO hx hNb)
 have hor:agP ((r*N:Nat):Int) (A3:Int)=((r*N+A3:Nat):Int):=by
  rw[yV,<-hN,<-gq r A3 k (by rw[hN];exact c12)]
 obtain ⟨q',R',e,g1,g2,g3⟩:=Xo (RF:=tS) (m:=3) (v0:=some (.int A)) (v1:=some (.int A3)) (v3:=some (.int B1)) (v4:=some (.int B2)) (v5:=some (.int k)) (b:=((B1*N+B2:Nat):Int)) 2 (q:Int) (((r*N+A3:Nat):Int)-(q:Int)*(B2:Int)) (by rw[<-aeb];exact %[(qG (qC (2*(a*b+c))))>=(qC (d*b+e))-(qC f)*(qC c),f*c<=d*b+e+2*(a*b+c)|RB m5]) (by rw[<-aeb];exact %[(qC (a*b+c))-(qC (d*e))>(qC (f*b+e)),a*b+c<f*b+e+d*e|RB m4])
 have hu:=eZ (A:=((A*N+A3:Nat):Int)) (b:=((B1*N+B2:Nat):Int)) (q:=q') (r:=R') (by
  rw[g3]
  have e1:A*N=q*B1*N+r*N:=by conv=>lhs;rw[m1]
                             rw[ahu]
  have e2:q*(B1*N+B2)=q*B1*N+q*B2:=by rw[ad9,af3]
  rw[<-aeb,<-aeb,e2,e1]
  exact %[(qC (a*b*c+d*c+e))==(qC (a*b*c+a*f))+((qC (d*c+e))-(qC (a*f)))|RB]) g1 g2
 rw[fD,gp]at hu
 refine ⟨3,cV (σ':=⟨[some (.int A),some (.int A3),some (.int ((B1*N+B2:Nat):Int)),some (.int B1),some (.int B2),some (.int k),some (.int q'),some (.int R')],[]⟩) (v:=.tup [ae ((A*N+A3)/(B1*N+B2)),ae ((A*N+A3)%(B1*N+B2))]) rfl
  (au (σ':=⟨[some (.int A),some (.int A3),some (.int ((B1*N+B2:Nat):Int)),some (.int B1),some (.int B2),some (.int k),some (ae q),some (ae r)],[]⟩) ?_
   (au (a7 (x:=.int (((r*N+A3:Nat):Int)-(q:Int)*(B2:Int))) ?_) (au e (bM (eP ?_))))) rfl⟩
 .refine dv (p:=decide (A/N=B1)) (aJ (bh (x:=ae (A/N)) (ag rfl rfl (y0.trans (by rw[hN]))) rfl ?_)) ?_
  .show some (((A/N:Nat):Int)==(B1:Int))=_
   congr 1
   rw[ahG,beq_iff_eq,decide_eq_true_eq];lia
  .by_cases Vz:A/N=B1
   .rw[decide_eq_true Vz]
    rw[if_pos Vz]at hq hr
    have jj:B1*N<=A:=by rw[<-Vz];exact al3 A N
    refine au (oa (x:=ae q) (y:=ae r) (jv (af (x:=ae q) (ag (ag (x:=.int ((1:Nat):Int)) (y:=.int k) rfl rfl (uX (hp %[1<2*a,b<a|(aP c9)]) %[a<=10000,a<=3000|(aG hk)])) rfl (k_sub.trans ?_)) (af (x:=ae r) (ag (ag rfl (ag rfl rfl (uX (hp %[a<2*b,a<b|(aP c11)]) %[a<=10000,a<=3000|(aG hk)])) k_sub) rfl (gK.trans ?_)) ao)) rfl)) bH
    .rw[Nat.one_mul,hN,<-hq];exact congrArg (λi=>some (AV.int i)) (by lia)
    .rw[hN,<-hr];exact congrArg (λi=>some (AV.int i)) (by lia)
   .rw[decide_eq_false Vz]
    rw[if_neg Vz]at hq hr
    have hA2:A<2^(k+k):=by
     rw[af6,hN]
     have e6:B1*N+N<=N*N:=by rw[<-agR];exact aeP N c11
     exact %[a<b*b,c<b,a<d*b+c,d*b+b<=b*b|d4 c9 c13 e6]
    refine au (oa (x:=ae q) (y:=ae r) (aC rfl (af rfl (af rfl (af rfl ao))) (cO (ys:=[.int A,.int B1,.int k]) rfl ((Xp ?_ ?_ ?_).trans ?_)))) bH
    .have:=bB hA2;exact %[a<=b+4000,b<=3000,a<=b+b|aP hk this]
    .exact %[0<a,b<=2*a,a<b|aP c10 c11]
    .exact aaO c11 (abq hNb (adU ⋯ ⋯))
    .rw[hq,hr]
 .refine ag (ag (ag rfl rfl (uX (hp m3) %[a<=10000,a<=3000|(aG hk)])) rfl (acn.trans ?_)) (ag rfl rfl (LW ?_)) k_sub
  .rw[hN,hor]
  .have h1:=cL m2
   have h2:=cL c9
   exact decide_eq_true %[a+b<=(qL 2 20),a<=3000,b<=3000|(aP h1 h2)]
 .rw[show ae ((A*N+A3)/(B1*N+B2))=.int q' from congrArg AV.int hu.1,show ae ((A*N+A3)%(B1*N+B2))=.int R' from congrArg AV.int hu.2]
  exact jv (af rfl (af rfl ao)) rfl
noncomputable def d2N:Spec:=aN λa=>aN λb=>aN λn=>aE (if 1<=n/\n<=5000/\a<2^n*b/\2^n<=2*b/\b<2^n then some (.tup [ae (a/b),ae (a%b)]) else none)
noncomputable abbrev t3:cQ:=fF [(45,d3N)]
theorem MN{A A3 B B1 B2 k:Nat}(h1:1<=k)(h2:k<=3000)(h3:B=B1*2^k+B2)(h4:B2<2^k)(h5:2^k<=2*B1)(h6:B1<2^k)(h7:A3<2^k)(h8:A<B):
 t3 (.ref 45) [.int A,.int A3,.int B,.int B1,.int B2,.int k]=some (.tup [ae ((A*2^k+A3)/B),ae ((A*2^k+A3)%B)]):=by
 show (if _ then _ else none)=_
 exact if_pos ⟨h1,h2,h3,h4,h5,h6,h7,h8⟩
theorem HR(hk:1<=k)(hH:H=2^k)(Ie:H*H<=2*b)(YH:b<H*H)(ha:a<H*H*b)
(eA:A1=(a/(H*H))*H+a/H%H)(e1:q1=A1/b)(e2:r1=A1%b)(e3:q2=(r1*H+a%H)/b)(e4:r2=(r1*H+a%H)%b):
 a/(H*H)<b/\b=b/H*H+b%H/\H<=2*(b/H)/\b/H<H/\r1<b/\q1<H/\q2<H/\a/b=q1*H+q2/\a%b=r2:=by
 have HS:0<H:=by rw[hH];exact adT k
 have hHH:0<H*H:=Nat.mul_pos HS HS
 have oG:0<b:=%[0<a,b*b<=2*a,a<b*b|(aP Ie YH)]
 have g1:a/(H*H)<b:=by rw[ad6 hHH,ad2];exact ha
 have g2:b=b/H*H+b%H:=(ahz b H).symm
 have g4:b/H<H:=by rw[ad6 HS];exact YH
 have g3:H<=2*(b/H):=by
  obtain ⟨j,rfl⟩ :∃j,k=j+1:=⟨k-1,%[a=b+1,1<=a,qD 0 b a (1)|(aP hk rfl)]⟩
  have e:H=2*2^j:=by rw[hH,ahe,ad2]
  have:2^j<=b/H:=by
   rw[alz HS]
   have:H*H=2*(2^j*H):=by conv=>lhs;lhs;rw[e]
                          rw[af3]
   exact %[a*b<=c,b*b<=2*c,b*b=2*(a*b)|bJ Ie this]
  exact %[a<=2*b,a=2*c,c<=b|bJ e this]
 have g5:r1<b:=by rw[e2];exact adC _ oG
 have hm:a/H%H<H:=adC _ HS
 have hl:a%H<H:=adC _ HS
 have hA1:A1<H*b:=by
  have:(a/(H*H))*H+H<=b*H:=by rw[<-agR];exact aeP H g1
  rw[ad2 H b];exact %[a<b*c,a=d*c+e,e<c,d*c+c<=b*c|Cj eA hm this]
 have g6:q1<H:=by rw[e1,ad6 oG];exact hA1
 have hR:r1*H+a%H<H*b:=by
  have:r1*H+H<=b*H:=by rw[<-agR];exact aeP H g5
  rw[ad2 H b];exact %[a*b+c<d*b,c<b,a*b+b<=d*b|d4 hl this]
 have g7:q2<H:=by rw[e3,ad6 oG];exact hR
 have hr2:r2<b:=by rw[e4];exact adC _ oG
 have ea:a=A1*H+a%H:=by
  have x1:=ahz a H
  have x2:=ahz (a/H) H
  rw[aln]at x2
  rw[eA,x2];exact x1.symm
 have eA1:A1=q1*b+r1:=by rw[e1,e2];exact (ahz A1 b).symm
 have eR:r1*H+a%H=q2*b+r2:=by rw[e3,e4];exact (ahz _ b).symm
 have key:a=(q1*H+q2)*b+r2:=by
  conv=>lhs;rw[ea,eA1]
  have z1:(q1*b+r1)*H=q1*H*b+r1*H:=by rw[ahu,af3,ad2 b H,<-af3]
  have z2:(q1*H+q2)*b=q1*H*b+q2*b:=ahu _ _ _
  rw[z1,z2];lia
 refine ⟨g1,g2,g3,g4,g5,g6,g7,?_,?_⟩
 .conv=>lhs;rw[key]
  rw[ad2,am4 oG,ah9 hr2,ait]
 .conv=>lhs;rw[key]
  rw[ad2,akv,agC hr2]
noncomputable abbrev Qy:eW:=W5
theorem Qz(x k:Nat):cR σ .BitAnd (.int x) (.int (((1*2^k:Nat):Int)-1))=some (ae (x%2^k)):=by
 have h0:=adT k
 rw[show (((1*2^k:Nat):Int)-1)=((2^k-1:Nat):Int) by exact %[(qC (1*a))-1==(qC b),0<a,qD 0 b a (1)|aP h0 rfl]]
 refine LY.trans ?_
 rw[lH,akd];rfl
theorem FP{a b k pad:Nat}(h1:1<=k)(h2:k<=2600)(Ie:2^(2*k)<=2*b)(YH:b<2^(2*k))(ha:a<2^(2*k)*b)(hp:pad<2):
 ∃σ',cg t3 0 Qy ⟨[some (ae a),some (ae b),some (ae (2*k)),some (ae pad),none,none,none,none,none,none,none],[]⟩=some (σ',some (.tup [ae (a/b),ae (if pad=0 then a%b else a%b/2)])):=by
 have hsq:2^(2*k)=2^k*2^k:=by rw[Nat.two_mul,af6]
 rw[hsq]at Ie YH ha
 generalize hH:2^k=H at *
 obtain ⟨g1,g2,g3,g4,g5,g6,g7,g8,g9⟩:=HR h1 hH.symm Ie YH ha rfl rfl rfl rfl rfl
 generalize hA1:(a/(H*H))*H+a/H%H=A1 at *
 generalize hr1:A1%b=r1 at *
 have hHb:H<=2^2600:=by rw[<-hH];exact adU ⋯ h2
 have hp2:∀{x:Nat},x<2*H->x<2^20000:=λhx=>aaO hx (abq (aeL 2 hHb) (by rw[<-akV];exact adU ⋯ ⋯))
 have HS:0<H:=by rw[<-hH];exact adT k
 have oG:0<b:=by have:=Nat.mul_pos HS HS;exact %[0<a,b*b<=2*a,a<b*b|aP Ie YH]
 have hmk:∀{σ:bj} (x:Nat),cR σ .BitAnd (.int x) (.int (((1*H:Nat):Int)-1))=some (ae (x%H)):=λx=>by rw[<-hH];exact Qz x k
 have hsr:∀{σ:bj} (x:Nat),cR σ .RShift (.int x) (.int k)=some (ae (x/H)):=λx=>by rw[<-hH];exact y0
 have agB:∀{σ:bj} (x:Nat),cR σ .RShift (.int x) (ae (2*k))=some (ae (x/(H*H))):=λx=>by rw[<-hsq];exact y0
 have Xq:∀{σ:bj} (x:Nat),x<2*H->cR σ .LShift (.int x) (.int k)=some (ae (x*H)):=λx hx=>by rw[<-hH];exact uX (hp2 hx) %[a<=10000,a<=2600|(aG h2)]
 have c1:=MN (A:=a/(H*H)) (A3:=a/H%H) (B:=b) (B1:=b/H) (B2:=b%H) (k:=k) h1 %[a<=3000,a<=2600|(aG h2)] (by rw[hH];exact g2) (by rw[hH];exact adC _ HS) (by rw[hH];exact g3) (by rw[hH];exact g4) (by rw[hH];exact adC _ HS) g1
 rw[hH,hA1,hr1]at c1
 have c2:=MN (A:=r1) (A3:=a%H) (B:=b) (B1:=b/H) (B2:=b%H) (k:=k) h1 %[a<=3000,a<=2600|(aG h2)] (by rw[hH];exact g2) (by rw[hH];exact adC _ HS) (by rw[hH];exact g3) (by rw[hH];exact g4) (by rw[hH];exact adC _ HS) g5
 rw[hH]at c2
 generalize hq1:A1/b=q1 at *
 generalize hq2:(r1*H+a%H)/b=q2 at *
 rw[<-g9]at c2
 have dD:∀x:Nat,cg t3 0 (.cons (.ret (.tup (.cons (.bin .BitOr (.bin .LShift (.var 8) (.var 4)) (.var 10)) (.cons (.var 9) .nil)))) .nil)
  ⟨[some (ae a),some (ae b),some (ae (2*k)),some (ae pad),some (ae k),some (.int (((1*H:Nat):Int)-1)),some (ae (b/H)),some (ae (b%H)),some (ae q1),some (ae x),some (ae q2)],[]⟩=some (⟨[some (ae a),some (ae b),some (ae (2*k)),some (ae pad),some (ae k),some (.int (((1*H:Nat):Int)-1)),some (ae (b/H)),some (ae (b%H)),some (ae q1),some (ae x),some (ae q2)],[]⟩,some (.tup [ae (a/b),ae x])):=λx=>by
  refine bM (eP (jv (af (ag (x:=ae (q1*H)) (y:=ae q2) (ag rfl rfl (Xq q1 %[a<2*b,a<b|(aP g6)])) rfl (acn.trans ?_)) (af rfl ao)) rfl))
  rw[yV,<-hH,<-gq q1 q2 k (by rw[hH];exact g7),hH,g8];rfl
 refine ⟨_,au (a7 (x:=ae k) (ag rfl rfl ((y0 (a:=2*k) (s:=1)).trans ?_))) (au (a7 (x:=.int (((1*H:Nat):Int)-1)) (ag (ag (x:=.int ((1:Nat):Int)) rfl rfl (Xq 1 %[1<2*a,b<a|(aP g4)])) rfl k_sub)) (au (oa (jv (af (ag rfl rfl (hsr b)) (af (ag rfl rfl (hmk b)) ao)) rfl))
  (au (oa (x:=ae q1) (y:=ae r1) (aC rfl (af (ag rfl rfl (agB a)) (af (ag (ag rfl rfl (hsr a)) rfl (hmk (a/H))) (af rfl (af rfl (af rfl (af rfl ao)))))) (cO rfl c1)))
  (au (oa (x:=ae q2) (y:=ae (a%b)) (aC rfl (af rfl (af (ag rfl rfl (hmk a)) (af rfl (af rfl (af rfl (af rfl ao)))))) (cO rfl c2)))
  (au (dv (p:=pad !=0) (yA rfl |>.trans ?_) ?_) (dD _))))))⟩
 .rw[show 2*k/2^1=k by exact %[a=b,qD 1 a (2*b) (qL 2 1)|aP rfl]]
 .congr 1
  rw[ahG,bne_iff_ne,bne_iff_ne];lia
 .rcases (show pad=0\/pad=1 by exact %[cz (a=0) (a=1),a<2|aG hp]) with rfl|rfl
  .exact bH
  .refine au (iP (y:=ae (a%b)) (x:=.int ((1:Nat):Int)) rfl rfl ?_) bH
   have:yd .RShift (ae (a%b)) (.int ((1:Nat):Int))=some (ae (a%b/2^1)):=by
    show Kr .RShift ((a%b:Nat):Int) ((1:Nat):Int)=_
    unfold Kr
    refine (bl (decide_eq_true (ad0 1))).trans ?_
    rw[om];rfl
   exact this
end
section
set_option exponentiation.threshold 3000
variable{prog:aas}{w:abI}{d:Nat}{P:abA}
theorem FQ{x:Nat}(h:aae (x:Int)<=100000):yd .LShift (ae x) (.int 1)=some (ae (2*x)):=by
 have e:ae (2*x)=.int ((x:Int)*2^(1:Int).toNat):=congrArg AV.int (by show _=(x:Int)*2^1;exact %[(qC (2*a))==(qC a)*(qL 2 1)|aG])
 rw[e]
 show (some (1:Int)).bind (Kr .LShift (x:Int))=_
 rw[aa5]
 unfold Kr
 refine bl ?_
 rw[aap];exact ⟨rfl,decide_eq_true %[(qC a)>(qL 2 27),a<=100000|(aG h)]⟩
theorem ac3:bw prog w (d+3) P 38 d2N:=bX (cH.nil.cons ac1) (wM P) (wO P) λxs res h=>by
 apply eC h;clear h;intro a _ h
 apply eC h;clear h;intro b _ h
 apply eC h;clear h;intro n _ h
 apply dw h;clear h;intro h
 refine dS h ?_
 clear h
 intro hc h
 have c3:=hc.1
 have c4:=hc.2.1
 have c5:=hc.2.2.1
 have c6:=hc.2.2.2.1
 have c7:=hc.2.2.2.2
 clear hc
 obtain rfl:=aac h
 have hn0:=adT n
 have oG:0<b:=%[0<a,b<=2*a,a<b|(aP c6 c7)]
 have hb9:b<2^9000:=aaO c7 (adU ⋯ %[a<=9000,a<=5000|(aG c4)])
 by_cases hE:aae (a:Int)<=n+4000
 .refine ⟨0,(BI (a:=(a:Int)) (b:=(b:Int)) (m:=(n:Int)) %[(qC a)>=(qC b)+4000,a<=b+4000|(aP hE)] %[0>(qC a),b<=2*a,a<b|(aP c6 c7)] (by rw[afk];exact (aif %[cu (a=0),b<=2*a,a<b|(aP c6 c7)]).mpr hb9)).trans ?_⟩
  rw[fD,gp];rfl
 .have ha2:a<2^(n+n):=by
   rw[af6]
   exact aaO c5 (aeL _ (afo c7))
  have vL:=bB ha2
  have zt:=bB c7
  have hn:4000<n:=%[4000<a,cu (b<=a+4000),b<=a+a|(aP hE vL)]
  have hh:∀(σ':bj) (v:AV),cg t3 0 Qw ⟨[some (ae a),some (ae b),some (ae n),none,none,none,none,none,none,none,none],[]⟩=some (σ',some v)->cg t3 0 pJ ⟨[some (ae a),some (ae b),some (ae n),none,none,none,none,none,none,none,none],[]⟩=some (σ',some v):=λσ' v e=>by
   refine au (dv (p:=decide ((aae (a:Int):Int)-(n:Int)<=4000)) (BH (n:=0)) ?_) e
   rw[decide_eq_false %[cu ((qC a)-(qC b)>=4000),cu (a<=b+4000)|(aP hE)]];exact bH
  have hand:∀{σ:bj},cR σ .BitAnd (ae n) (.int 1)=some (ae (n%2)):=LY.trans (congrArg (λi=>some (AV.int i)) (agv n))
  rcases aht n with he|ho
  .obtain ⟨k,rfl⟩ :∃k,n=2*k:=⟨n/2,by lia⟩
   obtain ⟨σ',e⟩:=FP (a:=a) (b:=b) (k:=k) (pad:=0) %[1<=a,1<=2*a|(aG c3)] %[a<=2600,2*a<=5000|(aG c4)] c6 c7 c5 ⋯
   refine ⟨0,cV (σ':=σ') (v:=.tup [ae (a/b),ae (a%b)]) rfl (hh σ' _ (au (a7 (x:=ae 0) (ag rfl rfl (hand.trans (by rw[he])))) (au (dv (p:=false) (yA (i:=((0:Nat):Int)) rfl) bH) e))) rfl⟩
  .obtain ⟨k,rfl⟩ :∃k,n=2*k-1:=⟨(n+1)/2,by lia⟩
   have hp:2^(2*k)=2*2^(2*k-1):=by rw[<-akV,show (2*k-1).succ=2*k by lia]
   have bA:2*a<2^(2*k)*(2*b):=by
    rw[hp,af3,ajR (2^(2*k-1)) 2 b]
    generalize 2^(2*k-1)*b=z at c5
    exact %[2*a<2*(2*b),a<b|aP c5]
   obtain ⟨σ',e⟩:=FP (a:=2*a) (b:=2*b) (k:=k) (pad:=1) %[1<=a,1<=b,qD 0 b (2*a) (1)|(aP c3 rfl)] %[a<=2600,b<=5000,qD 0 b (2*a) (1)|(aP c4 rfl)] %[a<=2*(2*b),c<=2*b,a=2*c|(bJ c6 hp)] %[2*a<b,a<c,b=2*c|(bJ c7 hp)] bA ⋯
   rw[if_neg ⋯,Nat.mul_div_mul_left _ _ ⋯,Nat.mul_mod_mul_left,Nat.mul_div_cancel_left _ ⋯]at e
   refine ⟨0,cV (σ':=σ') (v:=.tup [ae (a/b),ae (a%b)]) rfl (hh σ' _ (au (a7 (x:=ae 1) (ag rfl rfl (hand.trans (by rw[ho])))) (au (dv (p:=true) (yA (i:=((1:Nat):Int)) rfl) (au (iP (y:=ae a) (x:=.int 1) rfl rfl (FQ %[a<=100000,b<=5000,a<=b+b|(aP c4 vL)])) (au (iP (y:=ae b) (x:=.int 1) rfl rfl (FQ %[a<=100000,b<=5000,a<=b|(aP c4 zt)])) (au (iP (y:=ae (2*k-1)) (x:=.int 1) (r:=ae (2*k)) rfl rfl ?_) bH)))) e))) rfl⟩
   exact congrArg (λi=>some (AV.int i)) %[(qC a)+1==(qC (2*b)),1<=a,qD 0 a (2*b) (1)|(aP c3 rfl)]
end
section
variable{prog:aas}{w:abI}{d:Nat}{P:abA}
noncomputable def nw(n b:Nat):Nat->List Nat->List Nat×Nat
 |r,[]=>([],r)
 |r,d::ds=>(((r*2^n+d)/b)::(nw n b ((r*2^n+d)%b) ds).1,(nw n b ((r*2^n+d)%b) ds).2)
theorem wX(n b:Nat)(hb:0<b):∀(ds:List Nat) (r:Nat),r<b->(∀d∈ds,d<2^n)->(nw n b r ds).1.length=ds.length/\(∀q∈(nw n b r ds).1,q<2^n)/\(nw n b r ds).2<b/\
 r*2^(n*ds.length)+dF n ds.reverse=dF n (nw n b r ds).1.reverse*b+(nw n b r ds).2
 |[],r,hr,_=>⟨rfl,λq hq=>(by cases hq),hr,by show r*2^(n*0)+0=0*b+r;rw[agS,alm];exact %[a*1+0=0*b+a|aP]⟩
 |d::ds,r,hr,hd=>by
  have hd0:=hd d (.head _)
  have hx:(r*2^n+d)%b<b:=adC _ hb
  obtain ⟨h1,h2,h3,h4⟩:=wX n b hb ds ((r*2^n+d)%b) hx λy hy=>hd y (.tail _ hy)
  have hq:(r*2^n+d)/b<2^n:=by
   rw[ad6 hb]
   have:r*2^n+2^n<=b*2^n:=by rw[<-agR];exact aeP _ hr
   rw[ad2 (2^n) b];exact %[a*b+c<d*b,c<b,a*b+b<=d*b|d4 hd0 this]
  refine ⟨by show (nw n b ((r*2^n+d)%b) ds).1.length+1=ds.length+1;rw[h1],λq Ys=>?_,h3,?_⟩
  .cases Ys with
   |head=>exact hq
   |tail _ Ys=>exact h2 q Ys
  .show r*2^(n*(ds.length+1))+dF n (d::ds).reverse=dF n (((r*2^n+d)/b)::(nw n b ((r*2^n+d)%b) ds).1).reverse*b+(nw n b ((r*2^n+d)%b) ds).2
   rw[ahW,ahW,fE,fE,ae3,ae3,h1]
   have e:=ahz (r*2^n+d) b
   generalize (r*2^n+d)/b=q at *
   generalize (r*2^n+d)%b=x at *
   have hv:∀z,dF n [z]=z:=λz=>by show z+2^n*0=z;exact %[a+b*0=a|aP]
   rw[hv,hv,ad9 n,agz,af6]
   generalize 2^(n*ds.length)=M at *
   have e2:M*(q*b+x)=M*(r*2^n+d):=by rw[e]
   rw[ad9,ad9]at e2
   have e3:M*(q*b)=M*q*b:=(af3 ..).symm
   have e4:M*(r*2^n)=r*(M*2^n):=ajR ..
   have e5:x*M=M*x:=ad2 ..
   rw[ahu]
   exact %[a*(b*c)+(d+b*e)=f*g+b*h*g+i,j*b+d=f*g+i,b*(h*g)+b*j=b*(a*c)+b*e|YZ h4 e2]
noncomputable abbrev tDP:cQ:=fF [(52,Mt),(38,d2N),(59,Mv)]
noncomputable abbrev Xr:eW:=TB
theorem Xs{a b n:Nat}(h1:1<=n)(h2:n<=5000)(h3:a<2^n*b)(h4:2^n<=2*b)(h5:b<2^n):tDP (.ref 38) [.int a,.int b,.int n]=some (.tup [ae (a/b),ae (a%b)]):=by
 show d2N [.int a,.int b,.int n]=_
 show (if _ then _ else none)=_
 exact if_pos ⟨h1,h2,h3,h4,h5⟩
theorem FR{m n b:Nat}{A:AV}{va v3 v8:Option AV}(h1:1<=n)(h2:n<=5000)(h4:2^n<=2*b)(h5:b<2^n):∀(ds:List Nat) (r:Nat) (qs:List Nat) (v6 v7:Option AV),r<b->(∀d∈ds,d<2^n)->qs.length+ds.length<=1000->∃u6 u7,
 jK (λx σ=>cg tDP m Xr (σ.put 6 x)) (ds.map ae) ⟨[va,some (ae b),some (ae n),v3,some (ae r),some (.own 0),v6,v7,v8],[qs.map ae]⟩=
  some (⟨[va,some (ae b),some (ae n),v3,some (ae (nw n b r ds).2),some (.own 0),u6,u7,v8],[(qs++(nw n b r ds).1).map ae]⟩,none)
 |[],r,qs,v6,v7,_,_,_=>⟨v6,v7,by show some _=some _;rw[show (nw n b r []).1=[] from rfl,abW];rfl⟩
 |d::ds,r,qs,v6,v7,hr,hd,hl=>by
  have hn0:=adT n
  have hd0:=hd d (.head _)
  have oG:0<b:=%[0<a,b<=2*a,a<b|(aP h4 h5)]
  have bq:(d::ds).length=ds.length+1:=rfl
  have hx:r*2^n+d<2^n*b:=by
   have:r*2^n+2^n<=b*2^n:=by rw[<-agR];exact aeP _ hr
   rw[ad2 (2^n) b];exact %[a*b+c<d*b,c<b,a*b+b<=d*b|d4 hd0 this]
  obtain ⟨u6,u7,ih⟩:=FR (m:=m) (A:=A) (va:=va) (v3:=v3) (v8:=v8) h1 h2 h4 h5 ds ((r*2^n+d)%b) (qs++[(r*2^n+d)/b]) (some (ae d)) (some (ae ((r*2^n+d)/b))) (adC _ oG) (λy hy=>hd y (.tail _ hy)) (by rw[aao];show qs.length+1+ds.length<=_;exact %[a+1+b<=1000,a+c<=1000,c=b+1|bJ hl bq])
  refine ⟨u6,u7,?_⟩
  rw[aa6]
  refine bI (σ':=⟨[va,some (ae b),some (ae n),v3,some (ae ((r*2^n+d)%b)),some (.own 0),some (ae d),some (ae ((r*2^n+d)/b)),v8],[(qs++[(r*2^n+d)/b]).map ae]⟩) ?_ ?_
  .refine au (oa (x:=ae ((r*2^n+d)/b)) (y:=ae ((r*2^n+d)%b)) (aC rfl (af (x:=ae (r*2^n+d)) (ag (ag rfl rfl (uX (a:=r) (s:=n) ?_ %[a<=10000,a<=5000|(aG h2)])) rfl (gK.trans ?_)) (af rfl (af rfl ao))) (cO (ys:=[ae (r*2^n+d),ae b,ae n]) rfl (Xs h1 h2 hx h4 h5)))) (au ((uB (m:=0) (xs:=qs.map ae) rfl rfl rfl (decide_eq_true ?_)).trans ?_) bH)
   .exact aaO (aeT hr h5) (adU ⋯ %[a<=20000,a<=5000|(aG h2)])
   .exact congrArg (λi=>some (AV.int i)) (agp _ _).symm
   .have:aa7=16777216:=rfl
    rw[aan];exact %[a<=b,a+c<=1000,b=16777216|bJ hl this]
   .rw[acf];rfl
  .rw[ih,aaI];rfl
theorem pK:∀l:List Nat,(l.map ae).mapM (lM σ k)=some (l.map ae)
 |[]=>rfl
 |z::l=>by
  rw[aa6,ad4,pK l]
  cases k <;> rfl
theorem FT{a n:Nat}(h1:1<=n)(h2:n<2^16)(h3:aae (a:Int)<2^16):Mt [.int a,.int n]=some (.lst ((dg n a ((aae (a:Int)+n-1)/n)).map ae)):=by
 show (if _ then _ else none)=_
 exact if_pos ⟨h1,h2,h3⟩
theorem MO{b:Nat}(h:0<b):1<=aae (b:Int)/\2^aae (b:Int)<=2*b:=by
 have e:aae (b:Int)=b.log2+1:=by
  unfold aae
  rw[if_neg (by intro q;have:(b:Int)=0:=eq_of_beq q;lia),afk]
 rw[e]
 refine ⟨%[1<=a+1|(aG)],?_⟩
 rw[ahe,ad2]
 exact aeL 2 (Nat.log2_self_le %[cu (a=0),0<a|(aG h)])
noncomputable def dpN:Spec:=aN λa=>aN λb=>aE (if 0<b/\aae a<=14*aae b/\aae b<=4500 then some (.tup [ae (a/b),ae (a%b)]) else none)
theorem MP:bw prog w (d+4) P 66 dpN:=bX (((cH.nil.cons Mw.more.more).cons ac3).cons Mu.more.more) (yE P) (yN P) λxs res h=>by
 apply eC h;clear h;intro a _ h
 apply eC h;clear h;intro b _ h
 apply dw h;clear h;intro h
 refine dS h ?_
 clear h
 intro hc h
 have oG:=hc.1
 have c3:=hc.2.1
 have c4:=hc.2.2
 clear hc
 obtain rfl:=aac h
 obtain ⟨n1,n2⟩:=MO oG
 have n3:=lI b
 generalize hn:aae (b:Int)=n at *
 have ha:=lI a
 have hv:=FT (a:=a) (n:=n) n1 %[a<(qL 2 16),a<=4500|(aG c4)] %[a<(qL 2 16),a<=14*b,b<=4500|(aP c3 c4)]
 generalize hB:aae (a:Int)=B at *
 have hm2:B<=n*((B+n-1)/n):=by
  have:=al2 (B+n-1) (show 0<n by exact %[0<a,1<=a|aG n1])
  rw[ad9,agz]at this;exact %[a<=b*c,d<b*c+b,qD 0 d (a+b) (1)|d4 this rfl]
 have Xu:(B+n-1)/n<=14:=by
  have:(B+n-1)/n<15:=by rw[ad6 %[0<a,1<=a|(aG n1)]];exact %[a<15*b,1<=b,c<=14*b,qD 0 a (c+b) (1)|bJ n1 c3 rfl]
  exact %[a<=14,a<15|aG this]
 generalize hm:(B+n-1)/n=m at *
 have Vt:a<2^(n*m):=aaO ha (adU ⋯ hm2)
 have Ig:∀x∈(dg n a m).reverse,x<2^n:=λx hx=>acV n a m x (aj0.mp hx)
 have bq:(dg n a m).reverse.length=m:=by rw[ae3,DI]
 obtain ⟨p1,p2,p3,p4⟩:=wX n b oG (dg n a m).reverse 0 oG Ig
 rw[Nat.zero_mul,aeD,List.reverse_reverse,FH n m a Vt]at p4
 obtain ⟨u6,u7,hl⟩:=FR (m:=0) (A:=.none) (va:=some (ae a)) (v3:=some (.lst ((dg n a m).map ae))) (v8:=none) n1 %[a<=5000,a<=4500|(aG c4)] n2 n3 (dg n a m).reverse 0 [] none none oG Ig (by rw[bq];show 0+m<=_;exact %[0+a<=1000,a<=14|aG Xu])
 rw[adK]at hl
 generalize hqs:(nw n b 0 (dg n a m).reverse).1=qs at *
 generalize hr:(nw n b 0 (dg n a m).reverse).2=r at *
 have hq:a/b=dF n qs.reverse/\a%b=r:=by
  rw[p4]
  constructor
  .rw[ad2,am4 oG,ah9 p3,ait]
  .rw[ad2,akv,agC p3]
 rw[hq.1,hq.2]
 have hdv:=FN (n:=n) (ds:=qs.reverse) n1 %[a<(qL 2 16),a<=4500|(aG c4)] (by rw[ae3,p1,bq];exact %[a<16,a<=14|aG Xu]) (λx hx=>p2 x (aj0.mp hx))
 have agD:((dg n a m).map ae).reverse=(dg n a m).reverse.map ae:=(aj1 ..).symm
 refine ⟨0,cV (σ':=⟨[some (ae a),some (ae b),some (ae n),some (.lst ((dg n a m).map ae)),some (ae r),some (.own 0),u6,u7,some (ae (dF n qs.reverse))],[qs.reverse.map ae]⟩) (v:=.tup [ae (dF n qs.reverse),ae r]) rfl
  (au (a7 (x:=ae n) (yy rfl ao (MM.trans (by rw[hn];rfl)))) (au (a7 (aC rfl (af rfl (af rfl ao)) (cO rfl hv))) (au (a7 (x:=ae 0) rfl) (au rfl
  (au (mq (xs:=(dg n a m).reverse.map ae) (by rw[<-agD];rfl) hl) (au (σ':=⟨[some (ae a),some (ae b),some (ae n),some (.lst ((dg n a m).map ae)),some (ae r),some (.own 0),u6,u7,none],[qs.reverse.map ae]⟩) ((acu (m:=0) (xs:=qs.map ae) rfl rfl (decide_eq_true ?_)).trans ?_) (au (a7 (x:=ae (dF n qs.reverse)) (aC rfl (af rfl (af rfl ao)) (cO (ys:=[.bor (qs.reverse.map ae),.int n]) ?_ hdv))) (bM (eP (jv (af rfl (af rfl ao)) rfl)))))))))) rfl⟩
 .have:aa7=16777216:=rfl
  rw[aan,p1,bq];exact %[a<=b,a<=14,b=16777216|aP Xu this]
 .rw[<-aj1];rfl
 .rw[ad4]
  show (((qs.reverse.map ae).mapM (lM _ 2)).map AV.bor).bind _=_
  rw[pK];rfl
end
section
variable{prog:aas}{w:abI}{d:Nat}{P:abA}
noncomputable abbrev eG(a b:Int):Prop:=b≠0/\aae a<=14*aae b/\aae b<=4500
theorem iX(a:Int):aae (a.natAbs:Int)=aae a:=by
 unfold aae
 rw[afk]
 by_cases h:a=0
 .subst h;rfl
 .rw[if_neg (by simpa using h),if_neg (by simpa using h)]
theorem uY(a:Int):aae (-a)=aae a:=by rw[<-iX,ank,iX]
theorem wY{a b:Int}(h:a.natAbs<=b.natAbs):aae a<=aae b:=by
 rw[<-iX a,<-iX b]
 exact bB (adZ h (lI _))
theorem FU{a:Int}(h:a<0):(acg a).natAbs<=a.natAbs:=by unfold acg;omega
noncomputable def idP:Spec:=aI λa=>aI λb=>aE (if 0<=a/\0<b/\eG a b then some (.tup [.int (a.fdiv b),.int (a.fmod b)]) else none)
noncomputable def idA:Spec:=aI λa=>aI λb=>aE (if 0<b/\eG a b then some (.tup [.int (a.fdiv b),.int (a.fmod b)]) else none)
noncomputable def idF:Spec:=aI λa=>aI λb=>aE (if eG a b then some (.tup [.int (a.fdiv b),.int (a.fmod b)]) else none)
theorem DR{l:List (aa9×Spec)}{a b:Int}(hl:l.lookup 66=some dpN)(h0:0<=a)(h1:0<b)(h2:eG a b):fF l (.ref 66) [.int a,.int b]=some (.tup [.int (a.fdiv b),.int (a.fmod b)]):=by
 obtain ⟨a,rfl⟩:=ag7 h0
 obtain ⟨b,rfl⟩:=ag7 (show 0<=b by exact %[0>=a,0>a|fK h1])
 have this:=h2.2
 show (l.lookup 66).bind (λS=>S [.int a,.int b])=_
 rw[hl,aa5]
 show (if _ then _ else none)=_
 rw[fD,gp]
 exact if_pos ⟨ag1.mp h1,this.1,this.2⟩
theorem DS(h0:0<=a)(h1:0<b)(h:RF (.ref 66) [.int a,.int b]=some (.tup [.int (a.fdiv b),.int (a.fmod b)])):Yx 2 4 oj RF 0 [.int a,.int b]=some (.tup [.int (a.fdiv b),.int (a.fmod b)]):=by
 refine cV (σ':=⟨[some (.int a),some (.int b),none,none],[]⟩) (v:=.tup [.int (a.fdiv b),.int (a.fmod b)]) rfl (bM (dv (p:=b==0) (aJ (bh rfl rfl rfl)) ?_)) rfl
 rw[show (b==0)=false from beq_eq_false_iff_ne.mpr %[cu (a==0),0>a|(fK h1)]]
 refine bM (dv (p:=decide (b<0)) (aJ (bh rfl rfl rfl)) ?_)
 rw[decide_eq_false %[cu (a>0),0>a|(fK h1)]]
 refine bM (dv (p:=decide (a<0)) (aJ (bh rfl rfl rfl)) ?_)
 rw[decide_eq_false %[cu (a>0),0>=a|(fK h0)]]
 exact bM (eP (aC rfl (af rfl (af rfl ao)) (cO rfl h)))
theorem Xv:bw prog w (d+5) P 73 idP:=bX (cH.nil.cons MP) (jy P) (jz P) λxs res h=>by
 apply iQ h;clear h;intro a _ h
 apply iQ h;clear h;intro b _ h
 apply dw h;clear h;intro h
 refine dS h ?_
 clear h
 intro hc h
 obtain rfl:=aac h
 exact ⟨0,DS hc.1 hc.2.1 (DR rfl hc.1 hc.2.1 hc.2.2)⟩
theorem FV(ha:a<0)(hb:0<b):a.fdiv b=acg ((acg a).fdiv b)/\a.fmod b=b+acg ((acg a).fmod b):=by
 unfold acg
 have h0:=alu (-a-1) hb
 have h1:=ams (-a-1) hb
 have h2:=alB (-a-1) b
 generalize (-a-1).fdiv b=q at *
 generalize (-a-1).fmod b=r at *
 refine eZ ?_ %[0>=a+((qG b)-1),b>a|(Yq h1)] %[a+((qG b)-1)>a,0>=b|(Yq h0)]
 have e:(-q-1)*b= -(b*q)-b:=by rw[alN,agW,aiJ,ah0]
 rw[e];exact %[a==(qG (b*c))-b+(b+((qG d)-1)),b*c+d==(qG a)-1|q04 h2]
theorem Xw:bw prog w (d+6) P 73 idA:=bX ((cH.nil.cons Xv).cons MP.more) (jy P) (jz P) λxs res h=>by
 apply iQ h;clear h;intro a _ h
 apply iQ h;clear h;intro b _ h
 apply dw h;clear h;intro h
 refine dS h ?_
 clear h
 intro hc h
 obtain rfl:=aac h
 obtain ⟨hb,hs⟩:=hc
 by_cases ha:a<0
 .obtain ⟨e1,e2⟩:=FV ha hb
  have lY:eG (acg a) b:=⟨hs.1,abq (wY (FU ha)) hs.2.1,hs.2.2⟩
  refine ⟨0,cV (σ':=⟨[some (.int a),some (.int b),some (.int ((acg a).fdiv b)),some (.int ((acg a).fmod b))],[]⟩) (v:=.tup [.int (a.fdiv b),.int (a.fmod b)]) rfl (bM (dv (p:=b==0) (aJ (bh rfl rfl rfl)) ?_)) rfl⟩
  rw[show (b==0)=false from beq_eq_false_iff_ne.mpr %[cu (a==0),0>a|(fK hb)]]
  refine bM (dv (p:=decide (b<0)) (aJ (bh rfl rfl rfl)) ?_)
  rw[decide_eq_false %[cu (a>0),0>a|(fK hb)]]
  refine bM (dv (p:=decide (a<0)) (aJ (bh rfl rfl rfl)) ?_)
  rw[decide_eq_true ha]
  refine au (oa (x:=.int ((acg a).fdiv b)) (y:=.int ((acg a).fmod b)) (aC rfl (af (pG rfl) (af rfl ao)) (cO (ys:=[.int (acg a),.int b]) rfl ?_))) (bM (eP (jv (af (x:=.int (a.fdiv b)) ((pG rfl).trans (by rw[e1])) (af (x:=.int (a.fmod b)) ((ag rfl (pG rfl) gK).trans (by rw[e2])) ao)) rfl)))
  show idP [.int (acg a),.int b]=_
  simp only[idP,Mp,Qk,Bv,yZ]
  rw[if_pos ⟨by unfold acg;exact %[0>=(qG a)-1,a>0|fK ha],hb,lY⟩]
 .exact ⟨0,DS %[0>=a,cu (a>0)|(fK ha)] hb (DR rfl %[0>=a,cu (a>0)|(fK ha)] hb hs)⟩
theorem ac5:bw prog w (d+7) P 73 idF:=bX ((cH.nil.cons Xw).cons MP.more.more) (jy P) (jz P) λxs res h=>by
 apply iQ h;clear h;intro a _ h
 apply iQ h;clear h;intro b _ h
 apply dw h;clear h;intro h
 refine dS h ?_
 clear h
 intro hs h
 obtain rfl:=aac h
 have oG:b≠0:=hs.1
 have call:∀{a b:Int},0<b->eG a b->fF [(66,dpN),(73,idA)] (.ref 73) [.int a,.int b]=some (.tup [.int (a.fdiv b),.int (a.fmod b)]):=λ{a b} hb hs=>by
  show idA [.int a,.int b]=_
  simp only[idA,Mp,Qk,Bv,yZ]
  rw[if_pos ⟨hb,hs⟩]
 by_cases hb:b<0
 .have lY:eG (-a) (-b):=⟨Int.neg_ne_zero.mpr hs.1,by rw[uY,uY];exact hs.2.1,by rw[uY];exact hs.2.2⟩
  have e1:(-a).fdiv (-b)=a.fdiv b:=am0 ..
  have e2: -((-a).fmod (-b))=a.fmod b:=by rw[alv,alv,e1,aiJ];exact %[(qG ((qG a)-(qG (b*c))))==a-b*c|YY]
  refine ⟨0,cV (σ':=⟨[some (.int a),some (.int b),some (.int (a.fdiv b)),some (.int ((-a).fmod (-b)))],[]⟩) (v:=.tup [.int (a.fdiv b),.int (a.fmod b)]) rfl (bM (dv (p:=b==0) (aJ (bh rfl rfl rfl)) ?_)) rfl⟩
  rw[show (b==0)=false from beq_eq_false_iff_ne.mpr oG]
  refine bM (dv (p:=decide (b<0)) (aJ (bh rfl rfl rfl)) ?_)
  rw[decide_eq_true hb]
  refine au (oa (x:=.int (a.fdiv b)) (y:=.int ((-a).fmod (-b))) (aC rfl (af (uA rfl) (af (uA rfl) ao)) (cO (ys:=[.int (-a),.int (-b)]) rfl ((call %[0>(qG a),a>0|(fK hb)] lY).trans (by rw[e1]))))) (bM (eP (jv (af rfl (af (x:=.int (a.fmod b)) ((uA rfl).trans (by rw[e2])) ao)) rfl)))
 .by_cases ha:a<0
  .have hb:0<b:=%[0>a,cu (a==0),cu (a>0)|(fK oG hb)]
   obtain ⟨e1,e2⟩:=FV ha hb
   have lY:eG (acg a) b:=⟨hs.1,abq (wY (FU ha)) hs.2.1,hs.2.2⟩
   refine ⟨0,cV (σ':=⟨[some (.int a),some (.int b),some (.int ((acg a).fdiv b)),some (.int ((acg a).fmod b))],[]⟩) (v:=.tup [.int (a.fdiv b),.int (a.fmod b)]) rfl (bM (dv (p:=b==0) (aJ (bh rfl rfl rfl)) ?_)) rfl⟩
   rw[show (b==0)=false from beq_eq_false_iff_ne.mpr %[cu (a==0),0>a|(fK hb)]]
   refine bM (dv (p:=decide (b<0)) (aJ (bh rfl rfl rfl)) ?_)
   rw[decide_eq_false %[cu (a>0),0>a|(fK hb)]]
   refine bM (dv (p:=decide (a<0)) (aJ (bh rfl rfl rfl)) ?_)
   rw[decide_eq_true ha]
   exact au (oa (x:=.int ((acg a).fdiv b)) (y:=.int ((acg a).fmod b)) (aC rfl (af (pG rfl) (af rfl ao)) (cO (ys:=[.int (acg a),.int b]) rfl (call hb lY)))) (bM (eP (jv (af (x:=.int (a.fdiv b)) ((pG rfl).trans (by rw[e1])) (af (x:=.int (a.fmod b)) ((ag rfl (pG rfl) gK).trans (by rw[e2])) ao)) rfl)))
  .exact ⟨0,DS %[0>=a,cu (a>0)|(fK ha)] %[0>a,cu (a==0),cu (a>0)|(fK oG hb)] (DR rfl %[0>=a,cu (a>0)|(fK ha)] %[0>a,cu (a==0),cu (a>0)|(fK oG hb)] hs)⟩
end
section
set_option exponentiation.threshold 200
theorem jA(h:a<=b):2^a<=2^b:=adU ⋯ h
section
variable{RF:cQ}{σ:bj}
theorem jI(h0:0<b)(h1:b<2^8000):cR σ .FloorDiv (ae a) (ae b)=some (ae (a/b)):=by
 refine (LX ?_).trans (congrArg (λi=>some (AV.int i)) (fD a b))
 erw[aap ..]
 refine ⟨decide_eq_true %[cu ((qC a)==0),0<a|(aG h0)],decide_eq_true ?_⟩
 erw[afk ..]
 exact aeT ((aif %[cu (a=0),0<a|(aG h0)]).mpr h1) ⋯
theorem dA(h0:0<b)(h1:b<2^8000):cR σ .Mod (ae a) (ae b)=some (ae (a%b)):=by
 refine (mo ?_).trans (congrArg (λi=>some (AV.int i)) (gp a b))
 erw[aap ..]
 refine ⟨decide_eq_true %[cu ((qC a)==0),0<a|(aG h0)],decide_eq_true ?_⟩
 erw[afk ..]
 exact aeT ((aif %[cu (a=0),0<a|(aG h0)]).mpr h1) ⋯
theorem dP:cR σ .Add (ae a) (ae b)=some (ae (a+b)):=gK.trans (congrArg (λi=>some (AV.int i)) (agp a b).symm)
theorem BJ{a b:Nat}(h:aae (a:Int)+aae (b:Int)<=2^20):cR σ .Mult (ae a) (ae b)=some (ae (a*b)):=(LW (decide_eq_true h)).trans (congrArg (λi=>some (AV.int i)) (aeb a b).symm)
theorem MQ{a b:Nat}(h:aae (a:Int)*b<=2^20):cR σ .Pow (ae a) (ae b)=some (ae (a^b)):=by
 refine (Tq ?_).trans (congrArg (λi=>some (AV.int i)) ?_)
 .erw[aap ..]
  refine ⟨decide_eq_true (ad0 b),decide_eq_true ?_⟩
  erw[<-aeb ..];exact %[(qC (a*b))>=(qL 2 27),a*b<=(qL 2 20)|aP h]
 .erw[abE ..];exact (akw a b).symm
theorem ac6:cR σ .BitAnd (ae a) (ae b)=some (ae (a&&& b)):=LY.trans (congrArg (λi=>some (AV.int i)) (lH a b))
theorem DT:rx σ .Eq (ae a) (ae b)=some (decide (a=b)):=by
 show some (((a:Int))==(b:Int))=_
 congr 1
 (rw[ahG];rw[beq_iff_eq];erw[decide_eq_true_eq]);exact Int.ofNat_inj
theorem ac7:rx σ .NotEq (ae a) (ae b)=some (!decide (a=b)):=by
 show (rx σ .Eq (ae a) (ae b)).map (!·)=_
 erw[DT];rfl
theorem fG(l:List Nat):bp (l.map ae)=some (l.map λ(n:Nat)=>(n:Int)):=by
 have:=du (l.map λ(n:Nat)=>(n:Int))
 rwa [abH]at this
theorem ot{x y:AV}{l:List Nat}(hx:σ.listOf x=some (l.map ae))(hy:σ.listOf y=some (l.map ae)):rx σ .NotEq x y=some false:=by
 have key:Yr σ x y=some false:=by
  have:Jj x=none:=by
   cases x with
   |tup _=>exact aq hx
   |_=>rfl
  unfold Yr
  rw[this]
  show neI _ _=_
  unfold neI
  (rw[hx];rw[hy];rw[aa5];erw[fG ..,aa5 ..,aa5 ..,if_pos rfl,rfl])
 cases x with
 |str _=>exact aq hx
 |int _=>exact aq hx
 |_=>exact key
theorem Ub(hp:p<=12):cR σ .Pow (ae 10) (ae p)=some (ae (10^p)):=MQ (by
 have:aae ((10:Nat):Int)=4:=rfl
 erw[this];exact %[4*a<=(qL 2 20),a<=12|aG hp])
theorem Xx(hp:p<=12):0<10^p/\10^p<2^8000:=
 ⟨akh ⋯,adZ (adU ⋯ hp) (aaO (show 10^12<2^40 by decide) (adU ⋯ ⋯))⟩
theorem p8(h:b<2^e)(he:e<=8000):b<2^8000:=aaO h (jA he)
theorem MR(e:Nat):aae ((2^e:Nat):Int)<=e+1:=bB (by erw[ahe ..];have:=adT e;exact %[a<a*2,0<a|aG this])
theorem pL(h:e<=5000):cR σ .Pow (ae 2) (ae e)=some (ae (2^e)):=MQ (by
 have:aae ((2:Nat):Int)=2:=rfl
 erw[this];exact %[2*a<=(qL 2 20),a<=5000|aG h])
theorem QA(hl:l.lookup 73=some idF)(h:eG a b):fF l (.ref 73) [.int a,.int b]=some (.tup [.int (a.fdiv b),.int (a.fmod b)]):=by
 show (l.lookup 73).bind (λS=>S [.int a,.int b])=_
 erw[hl,aa5 ..]
 simp only[idF,Mp,Qk,Bv,yZ]
 rw[if_pos h]
theorem FW(p:Nat->Bool):∀l:List Nat,(l.map ae).filter (λx=>match x with|.int i=>p i.toNat|_=>false)=(l.filter p).map ae
 |[]=>rfl
 |x::l=>by
  have e:p ((x:Int)).toNat=p x:=by erw[abE ..,rfl]
  erw[aa6,aga,aga,FW p l]
  show (if p ((x:Int)).toNat=true then _ else _)=_
  erw[e]
  cases p x <;> rfl
theorem FX{e:IE}{it:II}{ts:zK}{l:List Nat}{p:Nat->Bool}{f:Nat->Nat}(hi:wd RF it σ=some (l.map ae))(hc:∀k∈l,f6 RF ts (σ.push (ae k))=some (p k))(he:∀k∈l,aA RF e (σ.push (ae k))=some (ae (f k)))(hl:l.length<=1000):
 aA RF (.comp e it ts) σ=some (.lst (((l.filter p).map f).map ae)):=by
 have e1:((l.filter p).map f).map ae=((l.map ae).filter (λx=>match x with|.int i=>p i.toNat|_=>false)).map (λx=>match x with|.int i=>ae (f i.toNat)|_=>.none):=by
  erw[FW ..,abH,abH]
  refine abG λk V=>?_
  show ae (f k)=ae (f ((k:Int)).toNat)
  erw[abE ..,rfl]
 erw[e1]
 refine W0 hi (λx hx=>?_) (λx hx V=>?_) (decide_eq_true ?_)
 . (refine bz (ac2.mp hx) λk hk cc=>?_;obtain rfl:=cc)
   erw[hc k hk]
   show some (p k)=some (p ((k:Int)).toNat)
   erw[abE ..,rfl]
 . (refine bz (ac2.mp hx) λk hk cc=>?_;obtain rfl:=cc)
   erw[he k hk]
   show some (ae (f k))=some (ae (f ((k:Int)).toNat))
   erw[abE ..,rfl]
 .have:aa7=16777216:=rfl
  erw[aan ..];exact %[a<=b,a<=1000,b=16777216|aP hl this]
theorem kX(m:Nat):dk 0 (m:Int)=(aai m).map ae:=by
 skip
 erw[(show ((m:Int)-0).toNat=m by exact %[a=b,qD 4 a ((qC b)-0) (0)|aP rfl])]
 exact abG λk V=>congrArg AV.int %[0+(qC a)==(qC a)|(aG)]
theorem BK:∀l:List Nat,(nv l).sum=((l.sum:Nat):Int)
 |[]=>rfl
 |x::l=>by
  show (x:Int)+(nv l).sum=((x+l.sum:Nat):Int)
  erw[BK l];exact %[(qC a)+(qC b)==(qC (a+b))|aP]
theorem MS{x:AV}{l:List Nat}(hx:σ.listOf x=some (l.map ae)):f5 RF σ (.obj (.builtin "sum")) [x]=some (ae l.sum):=by
 have e:l.map ae=(nv l).map .int:=by erw[abH];rfl
 refine (Tt (l:=nv l) ?_).trans ?_
 .erw[hx,aa5 ..,e,du ..,rfl]
 .erw[BK ..];rfl
theorem ix{x:AV}{l:List Nat}(hx:σ.listOf x=some (l.map ae))(h:l.length<=1000):f5 RF σ (.obj (.builtin "len")) [x]=some (ae l.length):=by
 refine (Fz hx (decide_eq_true ?_)).trans ?_
 .erw[aan ..];exact %[(qC a)>(qL 2 62),a<=1000|aG h]
 .erw[aan ..];rfl
theorem FY:∀l:List Int,(l.map AV.int).mapM (lM σ k)=some (l.map AV.int)
 |[]=>rfl
 |z::l=>by
  erw[aa6,ad4,FY l]
  cases k <;> rfl
theorem QB{σ:bj}{l:List Int}:[AV.bor (l.map .int)].mapM (lM σ 3)=some [.bor (l.map .int)]:=by
 have e:lM σ 3 (.bor (l.map .int))=some (.bor (l.map .int)):=by
  show ((l.map AV.int).mapM (lM σ 2)).map AV.bor=_
  erw[FY ..];rfl
 erw[ad4,e];rfl
theorem QC:rx σ .NotEq (.tup [.int a,.int b]) (.tup [.int a,.int b])=some false:=by
 show (if [a,b]=[a,b] then some false else none)=_
 erw[if_pos rfl,rfl]
theorem uZ{z:Int}{m:Nat}(h:0<=z/\z<(m:Int)):∃n:Nat,z=(n:Int)/\n<m:=⟨z.toNat,%[a==(qC a),aU (0>=a) (a>(qC b)),qD 4 a a (0)|(Gq h rfl)],%[a<b,aU (0>=a) (a>(qC b)),qD 4 a a (0)|(Gq h rfl)]⟩
theorem gu(zs:List Int)(p:Int):0<=iV zs p/\iV zs p<((10^12:Nat):Int):=bx _ ⋯
end
end
section
variable{prog:aas}{w:abI}{d:Nat}{P:abA}
noncomputable def bf(s m:Nat):Nat->Nat->List Nat
 |0,_=>[]
 |n+1,x=>if s<=x+m then 2::bf s m n (x+m-s) else 1::bf s m n (x+m)
noncomputable abbrev Xy:eW:=TC
theorem gv{l:List Nat}(h:l.length<=1000):decide ((l.map ae).length<=aa7)=true:=decide_eq_true (by
 have:aa7=16777216:=rfl
 erw[aan ..];exact %[a<=b,a<=1000,b=16777216|aP h this])
theorem u0{RF:cQ}{n s m:Nat}{v2:Option AV}:∀(l:List AV) (acc:List Nat) (x:Nat) (v5:Option AV),acc.length+l.length<=1000->∃u4 u5,
 jK (λx σ=>cg RF n Xy (σ.put 5 x)) l ⟨[some (ae s),some (ae m),v2,some (.own 0),some (ae x),v5],[acc.map ae]⟩=
  some (⟨[some (ae s),some (ae m),v2,some (.own 0),u4,u5],[(acc++bf s m l.length x).map ae]⟩,none)
 |[],acc,x,v5,_=>⟨some (ae x),v5,by show some _=some _;(erw[(show bf s m [].length x=[] from rfl),abW ..,rfl])⟩
 |y::l,acc,x,v5,h=>by
  have hl:(y::l).length=l.length+1:=rfl
  rw[hl]at h
  have zo:bf s m (y::l).length x=if s<=x+m then 2::bf s m l.length (x+m-s) else 1::bf s m l.length (x+m):=rfl
  by_cases hc:s<=x+m
  .refine zv (u0 (RF:=RF) (n:=n) (s:=s) (m:=m) (v2:=v2) l (acc++[2]) (x+m-s) (some y) (by rw[aao];show acc.length+1+l.length<=_;exact %[a+1+b<=1000,a+(b+1)<=1000|aP h])) λu4 u5 ih=>?_
   refine ⟨u4,u5,bI (σ':=⟨[some (ae s),some (ae m),v2,some (.own 0),some (ae (x+m-s)),some y],[(acc++[2]).map ae]⟩) ?_ ?_⟩
   .refine au (iP (y:=ae x) (x:=ae m) (r:=ae (x+m)) rfl rfl (congrArg (λi=>some (AV.int i)) (agp x m).symm)) (au (dv (p:=true) (aJ (bh (x:=ae (x+m)) (y:=ae s) rfl rfl ?_)) (au (iP (y:=ae (x+m)) (x:=ae s) (r:=ae (x+m-s)) rfl rfl (congrArg (λi=>some (AV.int i)) ?_)) (au ((uB (m:=0) (xs:=acc.map ae) (x:=ae 2) rfl rfl rfl (gv ?_)).trans ?_) bH))) bH)
    .show some (decide ((s:Int)<=((x+m:Nat):Int)))=some true
     erw[decide_eq_true %[(qC a)>=(qC (b+c)),a<=b+c|(bJ hc)],rfl]
    .show ((x+m:Nat):Int)-(s:Int)=_
     exact %[(qC (a+b))-(qC c)==(qC d),c<=a+b,qD 0 d (a+b) c|d4 hc rfl]
    .exact %[a<=1000,a+(b+1)<=1000|aP h]
    .erw[acf];rfl
   .erw[ih,zo,if_pos hc,aaI ..];rfl
  .refine zv (u0 (RF:=RF) (n:=n) (s:=s) (m:=m) (v2:=v2) l (acc++[1]) (x+m) (some y) (by rw[aao];show acc.length+1+l.length<=_;exact %[a+1+b<=1000,a+(b+1)<=1000|aP h])) λu4 u5 ih=>?_
   refine ⟨u4,u5,bI (σ':=⟨[some (ae s),some (ae m),v2,some (.own 0),some (ae (x+m)),some y],[(acc++[1]).map ae]⟩) ?_ ?_⟩
   .refine au (iP (y:=ae x) (x:=ae m) (r:=ae (x+m)) rfl rfl (congrArg (λi=>some (AV.int i)) (agp x m).symm)) (au (dv (p:=false) (aJ (bh (x:=ae (x+m)) (y:=ae s) rfl rfl ?_)) (au ((uB (m:=0) (xs:=acc.map ae) (x:=ae 1) rfl rfl rfl (gv ?_)).trans ?_) bH)) bH)
    .show some (decide ((s:Int)<=((x+m:Nat):Int)))=some false
     erw[decide_eq_false %[cu ((qC a)>=(qC (b+c))),cu (a<=b+c)|(bJ hc)],rfl]
    .exact %[a<=1000,a+(b+1)<=1000|aP h]
    .erw[acf];rfl
   .erw[ih,zo,if_neg hc,aaI ..];rfl
noncomputable def Xz:Spec:=aN λs=>aN λm=>aI λo=>aE (if 1<=s/\s<=100 then some (.lst ((bf s m s (o.fmod s).toNat).map ae)) else none)
theorem XA:bw prog w (d+1) P 206 Xz:=bX cH.nil (Bi P) (Bq P) λxs res h=>by
 apply eC h;clear h;intro s _ h
 apply eC h;clear h;intro m _ h
 apply iQ h;clear h;intro o _ h
 apply dw h;clear h;intro h
 refine dS h ?_
 clear h
 intro hs h
 obtain rfl:=aac h
 have hr:=bx o (m:=(s:Int)) %[0>(qC a),aU (1<=a) (a<=100)|(aG hs)]
 have bq:((aai s).map ae).length=s:=by (erw[aan ..,aa0,rfl])
 refine zv (u0 (RF:=fF []) (n:=0) (s:=s) (m:=m) (v2:=some (.int o)) ((aai s).map ae) [] (o.fmod s).toNat none (by rw[bq];show 0+s<=_;exact %[0+a<=1000,aU (1<=a) (a<=100)|aG hs])) λu4 u5 hl=>?_
 rw[bq,adK]at hl
 refine ⟨0,cV (v:=.own 0) rfl (au rfl (au (a7 (x:=ae (o.fmod s).toNat) (ag rfl rfl ((mo ?_).trans ?_))) (au (mq (xs:=(aai s).map ae) ((n9 rfl (decide_eq_true ?_)).trans (congrArg some (kX s))) hl) (bM (eP rfl))))) ?_⟩
 .erw[aap ..]
  refine ⟨decide_eq_true %[cu ((qC a)==0),aU (1<=a) (a<=100)|(aG hs)],decide_eq_true ?_⟩
  erw[afk ..]
  exact aeT ((aif %[cu (a=0),aU (1<=a) (a<=100)|(aG hs)]).mpr (show s<2^7 by exact %[a<(qL 2 7),aU (1<=a) (a<=100)|aG hs])) ⋯
 .exact congrArg (λi=>some (AV.int i)) (aeM hr.1).symm
 .exact %[aU ((qG (qL 2 20))>=(qC a)) ((qC a)>=(qL 2 20)),aU (1<=a) (a<=100)|aG hs]
 .show (((bf s m s (o.fmod s).toNat).map ae).mapM (iD _ 3)).map AV.lst=_
  exact wW 2 (bf s m s (o.fmod s).toNat)
end
section
variable{prog:aas}{w:abI}{d:Nat}{P:abA}
noncomputable def cP:Nat->List Nat->List (Nat×Nat)
 |_,[]=>[]
 |k,n::l=>if n=46 then cP (k+1) l else if 63<n/\n%64=13 then (n/64,k)::cP 0 l else cP k l
noncomputable abbrev kY(p:Nat×Nat):AV:=.lst [ae p.1,ae p.2]
noncomputable abbrev XB:eW:=acD
theorem c64:0<64/\64<2^8000:=⟨⋯,p8 (e:=7) ⋯ ⋯⟩
theorem ou{RF:cQ}{n:Nat}{v0:Option AV}:∀(l:List Nat) (acc:List (Nat×Nat)) (k:Nat) (v3:Option AV),acc.length+l.length<=2^20->∃u2 u3,
 jK (λx σ=>cg RF n XB (σ.put 3 x)) (l.map ae) ⟨[v0,some (.own 0),some (ae k),v3],[acc.map kY]⟩=
  some (⟨[v0,some (.own 0),u2,u3],[(acc++cP k l).map kY]⟩,none)
 |[],acc,k,v3,_=>⟨some (ae k),v3,by show some _=some _;(erw[(show cP k []=[] from rfl),abW ..,rfl])⟩
 |y::l,acc,k,v3,h=>by
  have hl:(y::l).length=l.length+1:=rfl
  rw[hl]at h
  have hr:cP k (y::l)=if y=46 then cP (k+1) l else if 63<y/\y%64=13 then (y/64,k)::cP 0 l else cP k l:=rfl
  by_cases DU:y=46
  .refine zv (ou (RF:=RF) (n:=n) (v0:=v0) l acc (k+1) (some (ae y)) %[a+b<=(qL 2 20),a+(b+1)<=(qL 2 20)|(aP h)]) λu2 u3 ih=>?_
   refine ⟨u2,u3,bI (σ':=⟨[v0,some (.own 0),some (ae (k+1)),some (ae y)],[acc.map kY]⟩) ?_ ?_⟩
   .refine au (dv (p:=true) (aJ (bh (x:=ae y) (y:=ae 46) rfl rfl (DT.trans (by erw[decide_eq_true DU,rfl])))) (au (iP (y:=ae k) (x:=ae 1) (r:=ae (k+1)) rfl rfl (congrArg (λi=>some (AV.int i)) (agp k 1).symm)) bH)) bH
   .erw[ih,hr,if_pos DU,rfl]
  .have cW:iZ RF (.val (.cmp .Eq (.var 3) (.int 46))) ⟨[v0,some (.own 0),some (ae k),some (ae y)],[acc.map kY]⟩=some false:=aJ (bh (x:=ae y) (y:=ae 46) rfl rfl (DT.trans (by erw[decide_eq_false DU,rfl])))
   have ht:iZ RF (.and (.cons (.val (.cmp .Gt (.var 3) (.int 63))) (.cons (.val (.cmp .Eq (.bin .Mod (.var 3) (.int 64)) (.int 13))) .nil))) ⟨[v0,some (.own 0),some (ae k),some (ae y)],[acc.map kY]⟩=some (decide (63<y)&&(decide (y%64=13)&&true)):=by
    refine jw (aJ (bh (x:=ae y) (y:=ae 63) rfl rfl ?_)) λ_=>jw (aJ (bh (x:=ae (y%64)) (y:=ae 13) (ag (x:=ae y) (y:=ae 64) rfl rfl (dA c64.1 c64.2)) rfl DT)) λ_=>pH
    show some (decide (((63:Nat):Int)<(y:Int)))=_
    congr 1
    exact decide_eq_decide.mpr (by omega)
   by_cases hc:63<y/\y%64=13
   .refine zv (ou (RF:=RF) (n:=n) (v0:=v0) l (acc++[(y/64,k)]) 0 (some (ae y)) (by rw[aao];show acc.length+1+l.length<=_;exact %[a+1+b<=(qL 2 20),a+(b+1)<=(qL 2 20)|aP h])) λu2 u3 ih=>?_
    refine ⟨u2,u3,bI (σ':=⟨[v0,some (.own 0),some (ae 0),some (ae y)],[(acc++[(y/64,k)]).map kY]⟩) ?_ ?_⟩
    .refine au (dv cW (au (dv (p:=true) (ht.trans (by (erw[decide_eq_true hc.1,decide_eq_true hc.2]);rfl)) (au (σ':=⟨[v0,some (.own 0),some (ae k),some (ae y)],[(acc++[(y/64,k)]).map kY]⟩) ((uB (m:=0) (xs:=acc.map kY) (x:=kY (y/64,k)) rfl (nq (af (ag (x:=ae y) (y:=ae 64) rfl rfl (jI c64.1 c64.2)) (af rfl ao)) rfl) rfl (decide_eq_true ?_)).trans ?_) (au (a7 (x:=ae 0) rfl) bH))) bH)) bH
     .have:aa7=16777216:=rfl
      erw[aan ..];exact %[a<=b,a+(c+1)<=(qL 2 20),b=16777216|bJ h this]
     .erw[acf];rfl
    .erw[ih,hr,if_neg DU,if_pos hc,aaI ..];rfl
   .refine zv (ou (RF:=RF) (n:=n) (v0:=v0) l acc k (some (ae y)) %[a+b<=(qL 2 20),a+(b+1)<=(qL 2 20)|(aP h)]) λu2 u3 ih=>?_
    refine ⟨u2,u3,bI (σ':=⟨[v0,some (.own 0),some (ae k),some (ae y)],[acc.map kY]⟩) ?_ ?_⟩
    .refine au (dv cW (au (dv (p:=false) (ht.trans ?_) bH) bH)) bH
     erw[agy ..,<-Bool.decide_and ..,decide_eq_false hc,rfl]
    .erw[ih,hr,if_neg DU,if_neg hc,rfl]
noncomputable def cI(p:Nat×Nat):Int×Int:=((p.1:Int),(p.2:Int))
theorem BL:∀l:List (Nat×Nat),tC (l.map kY)=some (l.map cI)
 |[]=>rfl
 |p::l=>by
  show (tC (l.map kY)).map (cI p::·)=_
  erw[BL l];rfl
noncomputable def HU(l:List (Nat×Nat)):Option (List (Nat×Nat)):=if 2<=l.length/\l.length<64 then (tD (kA (l.map cI)) (ai0 l.length)).bind λp=>if p.toList.all (λi=>decide (i<l.length))=true then some (p.toList.map λi=>l.getD i (0,0)) else none else none
theorem XC{l ps:List (Nat×Nat)}(h:HU l=some ps):tE (l.map kY)=some (.lst (ps.map kY)):=by
 skip
 refine dS h ?_
 clear h
 intro hl h
 have hn:bp (l.map kY)=none:=by
  match l,hl with
  |p::l,_=>rfl
 unfold tE
 rw[hn]
 show sQ (l.map kY)=_
 unfold sQ
 (rw[BL];erw[aa5 ..,aan ..,if_pos hl])
 refine ax h λp hp h=>?_
 erw[hp]
 refine dS h ?_
 clear h
 intro ha h
 obtain rfl:=aac h
 show some (AV.lst _)=_
 congr 2
 erw[abH]
 refine abG λi hi=>?_
 have hi:=of_decide_eq_true (aaG.mp ha i hi)
 show (l.map kY).getD i .none=kY (l.getD i (0,0))
 simp[aiO,hi]
theorem QD{σ:bj}(ps:List (Nat×Nat)):iD σ 4 (.lst (ps.map kY))=some (.lst (ps.map kY)):=by
 show ((ps.map kY).mapM (iD σ 3)).map AV.lst=_
 have:∀ps:List (Nat×Nat),(ps.map kY).mapM (iD σ 3)=some (ps.map kY):=λps=>by
  induction ps with
  |nil=>rfl
  |cons p ps ih=>erw[aa6,ad4,ih];rfl
 erw[this ..];rfl
noncomputable def XD:Spec:=aL uP λl=>aE (if l.length<=2^20 then (HU (cP 0 l)).map λps=>.lst (ps.map kY) else none)
theorem XE:bw prog w (d+1) P 220 XD:=bX cH.nil (Dz P) (DG P) λxs res h=>by
 apply Bw (g:=ae) (λx y e=>iR e) h;clear h;intro l _ h
 apply dw h;clear h;intro h
 refine dS h ?_
 clear h
 intro hs h
 refine bC h λps hps h=>?_
 obtain rfl:=h
 refine zv (ou (RF:=fF []) (n:=0) (v0:=some (.bor (l.map ae))) l [] 0 none (by show 0+l.length<=_;exact %[0+a<=(qL 2 20),a<=(qL 2 20)|aG hs])) λu2 u3 hl=>?_
 rw[adK]at hl
 refine ⟨0,cV (v:=.lst (ps.map kY)) ?_ (au rfl (au (a7 (x:=ae 0) rfl) (au (mq (xs:=l.map ae) (Fx rfl rfl) hl) (bM (eP (aC rfl (af rfl ao) ?_)))))) (QD ps)⟩
 .erw[aap ..]
  refine ⟨rfl,?_⟩
  show (cf 4 (.bor (l.map ae))&&true)=true
  erw[agy ..]
  exact iW ae (λx=>rfl) l
 .show tE ((cP 0 l).map kY)=_
  exact XC hps
end
section
variable{prog:aas}{w:abI}{d:Nat}{P:abA}
noncomputable def BM(ds:List Nat)(p a b:Nat):Nat:=((aai (b-a)).map λk=>ds.getD ((p+(a+k))%ds.length) 0).sum
noncomputable def eH(n:Nat)(ch:List Nat)(j:Nat):Nat:=if j+1<ch.length then ch.getD (j+1) 0 else ch.getD 0 0+n
noncomputable def gx(ds ch:List Nat)(p:Nat):List Nat:=(aai ch.length).map λj=>BM ds p (ch.getD j 0) (eH ds.length ch j)
theorem wZ{σ:bj}{x:AV}{l:List Nat}(hx:σ.listOf x=some (l.map ae))(hi:i<l.length)(hl:l.length<=1000):nK σ x (ae i)=some (ae (l.getD i 0)):=by
 refine gL hx ⟨%[0>=(qC a)|(aG)],%[(qC a)>(qL 2 62),a<b,b<=1000|(aP hi hl)]⟩ ?_
 erw[abE ..]
 simp[hi]
noncomputable abbrev MT:eW:=acE
noncomputable abbrev QE:eW:=(.cons (.own 4)
 (.cons (.lP 5 (.ku (.call (.glob "len" (.obj (.builtin "len"))) (.cons (.var 1) .nil))) MT)
 (.cons (.app (.var 2) (.var 4))
 .nil)))
theorem XF(a b:Nat):dk (a:Int) (b:Int)=(aai (b-a)).map λk=>ae (a+k):=by
 show (aai ((b:Int)-(a:Int)).toNat).map _=_
 erw[(show ((b:Int)-(a:Int)).toNat=b-a by exact %[a=b,qD 4 a ((qC c)-(qC d)) (0),qD 0 b c d|d4 rfl rfl])]
 exact abG λk _=>congrArg AV.int %[(qC a)+(qC b)==(qC (a+b))|(aP)]
theorem MU{RF:cQ}{σ:bj}{lo hi:IE}{a b:Nat}(h1:aA RF lo σ=some (ae a))(h2:aA RF hi σ=some (ae b))(ha:a<=1000)(hb:b<=1000):wd RF (.GD lo hi) σ=some (((aai (b-a)).map λk=>a+k).map ae):=by
 show ((aA RF lo σ).bind λx=>(aA RF hi σ).bind λy=>match x,y with
  |.int a,.int b=>if -(2^20)<=a/\a<=2^20/\ -(2^20)<=b/\b<=2^20 then some (dk a b) else none
  |_,_=>none)=_
 erw[h1,h2]
 show (if -(2^20)<=(a:Int)/\(a:Int)<=2^20/\ -(2^20)<=(b:Int)/\(b:Int)<=2^20 then some (dk a b) else none)=_
 erw[if_pos %[aU ((qG (qL 2 20))>=(qC a)) (aU ((qC a)>=(qL 2 20)) (aU ((qG (qL 2 20))>=(qC b)) ((qC b)>=(qL 2 20)))),a<=1000,b<=1000|(aP ha hb)],XF ..,abH];rfl
structure XG (ds ch:List Nat):Prop where
 d0:1<=ds.length
 d1:ds.length<=100
 c0:ch.length<=100
 cs:∀c∈ch,c<ds.length
theorem ru{l:List Nat}(h:i<l.length):l.getD i 0∈l:=by
 simp[aiO,h]
theorem FZ{RF:cQ}{n p:Nat}{ds ch:List Nat}{v2:Option AV}{pre:List (List AV)}(H:XG ds ch)(hp:p<=100):∀(l:List Nat) (acc:List Nat) (v5 v6:Option AV),(∀j∈l,j<ch.length)->acc.length+l.length<=1000->∃u5 u6,
 jK (λx σ=>cg RF n MT (σ.put 5 x)) (l.map ae) ⟨[some (.bor (ds.map ae)),some (.bor (ch.map ae)),v2,some (ae p),some (.own pre.length),v5,v6],pre++[acc.map ae]⟩=
  some (⟨[some (.bor (ds.map ae)),some (.bor (ch.map ae)),v2,some (ae p),some (.own pre.length),u5,u6],pre++[(acc++l.map λj=>BM ds p (ch.getD j 0) (eH ds.length ch j)).map ae]⟩,none)
 |[],acc,v5,v6,_,_=>⟨v5,v6,by show some _=some _;(erw[ahc,abW ..,rfl])⟩
 |j::l,acc,v5,v6,hj,hl=>by
  have bq:(j::l).length=l.length+1:=rfl
  rw[bq]at hl
  have hj0:=hj j (.head _)
  have d0:=H.d0
  have d1:=H.d1
  have c0:=H.c0
  have ha:=H.cs _ (ru hj0)
  have hb:eH ds.length ch j<=200:=by
   unfold eH
   split
   .have:=H.cs _ (ru (l:=ch) (i:=j+1) (by assumption));exact %[a<=200,b<=100,a<b|aP d1 this]
   .have:=H.cs _ (ru (l:=ch) (i:=0) %[0<a,b<a|(aP hj0)]);exact %[a+b<=200,b<=100,a<b|aP d1 this]
  refine zv (FZ (RF:=RF) (n:=n) (v2:=v2) (pre:=pre) H hp l (acc++[BM ds p (ch.getD j 0) (eH ds.length ch j)]) (some (ae j)) (some (ae (eH ds.length ch j))) (λy hy=>hj y (.tail _ hy)) (by rw[aao];show acc.length+1+l.length<=_;exact %[a+1+b<=1000,a+(b+1)<=1000|aP hl])) λu5 u6 ih=>?_
  refine ⟨u5,u6,?_⟩
  erw[aa6]
  refine bI (σ':=⟨[some (.bor (ds.map ae)),some (.bor (ch.map ae)),v2,some (ae p),some (.own pre.length),some (ae j),some (ae (eH ds.length ch j))],pre++[(acc++[BM ds p (ch.getD j 0) (eH ds.length ch j)]).map ae]⟩) ?_ ?_
  .refine au (a7 (x:=ae (eH ds.length ch j)) (nn (p:=decide (j+1<ch.length)) (aJ (bh (x:=ae (j+1)) (y:=ae ch.length) (ag (x:=ae j) (y:=ae 1) rfl rfl dP) (aC rfl (af rfl ao) (ix (l:=ch) rfl %[a<=1000,a<=100|(aG c0)])) ?_)) ?_))
    (au ((uB (m:=pre.length) (xs:=acc.map ae) (x:=ae (BM ds p (ch.getD j 0) (eH ds.length ch j))) rfl ?_ ?_ (gv %[a<=1000,a+(b+1)<=1000|(aP hl)])).trans ?_) bH)
   .show some (decide (((j+1:Nat):Int)<((ch.length:Nat):Int)))=_
    congr 1
    exact decide_eq_decide.mpr (by omega)
   .by_cases hc:j+1<ch.length
    .erw[decide_eq_true hc]
     have e:eH ds.length ch j=ch.getD (j+1) 0:=if_pos hc
     erw[e]
     exact bL (x:=.bor (ch.map ae)) (y:=ae (j+1)) rfl (ag (x:=ae j) (y:=ae 1) rfl rfl dP) (wZ (l:=ch) rfl hc %[a<=1000,a<=100|(aG c0)])
    .erw[decide_eq_false hc]
     have e:eH ds.length ch j=ch.getD 0 0+ds.length:=if_neg hc
     erw[e]
     exact ag (bL (x:=.bor (ch.map ae)) (y:=ae 0) rfl rfl (wZ (l:=ch) rfl %[0<a,b<a|(aP hj0)] %[a<=1000,a<=100|(aG c0)])) (aC rfl (af rfl ao) (ix (l:=ds) rfl %[a<=1000,a<=100|(aG d1)])) dP
   .refine aC rfl (af (x:=.lst (((aai (eH ds.length ch j-ch.getD j 0)).map λk=>ds.getD ((p+(ch.getD j 0+k))%ds.length) 0).map ae)) ?_ ao) (MS rfl)
    have hi:wd RF (.GD (.idx (.var 1) (.var 5)) (.var 6)) ⟨[some (.bor (ds.map ae)),some (.bor (ch.map ae)),v2,some (ae p),some (.own pre.length),some (ae j),some (ae (eH ds.length ch j))],pre++[acc.map ae]⟩=some (((aai (eH ds.length ch j-ch.getD j 0)).map λk=>ch.getD j 0+k).map ae):=MU (bL (x:=.bor (ch.map ae)) (y:=ae j) rfl rfl (wZ (l:=ch) rfl hj0 %[a<=1000,a<=100|(aG c0)])) rfl %[a<=1000,b<=100,a<b|(aP d1 ha)] %[a<=1000,a<=200|(aG hb)]
    have hlr:(aai (eH ds.length ch j-ch.getD j 0)).length<=200:=by erw[aa0];exact %[a<=200,b<=200,qD 0 a b c|bJ hb rfl]
    refine (yC (g:=λx=>match x with|.int i=>ae (ds.getD ((p+i.toNat)%ds.length) 0)|_=>.none) hi (λx hx=>?_) (gv (by erw[aan ..];exact %[a<=1000,a<=200|aG hlr]))).trans ?_
    . (refine bz (ac2.mp hx) λy hy cc=>?_;obtain rfl:=cc)
      have hm:(p+y)%ds.length<ds.length:=adC _ %[0<a,1<=a|(aG d0)]
      show _=some (ae (ds.getD ((p+((y:Nat):Int).toNat)%ds.length) 0))
      erw[abE ..]
      exact bL (x:=.bor (ds.map ae)) (y:=ae ((p+y)%ds.length)) rfl (ag (x:=ae (p+y)) (y:=ae ds.length) (ag (x:=ae p) (y:=ae y) rfl rfl dP) (aC rfl (af rfl ao) (ix (l:=ds) rfl %[a<=1000,a<=100|(aG d1)])) (dA %[0<a,1<=a|(aG d0)] (p8 (e:=7) %[a<(qL 2 7),a<=100|(aG d1)] ⋯))) (wZ (l:=ds) rfl hm %[a<=1000,a<=100|(aG d1)])
    .erw[abH,abH,abH]
     congr 2
   .show (pre++[acc.map ae])[pre.length]?=_
    simp
   .show some ((⟨_,(pre++[acc.map ae]).set pre.length _⟩ :bj),none)=_
    erw[List.set_append_right _ _ (adJ _),alk ..,acf];rfl
  .erw[ih,aaI ..];rfl
theorem BO{RF:cQ}{n:Nat}{ds ch:List Nat}(H:XG ds ch):∀(l:List Nat) (acc:List (List Nat)) (os:List AV) (v3 v4 v5 v6:Option AV),(∀p∈l,p<=100)->os.length=acc.length->acc.length+l.length<=1000->∃u3 u4 u5 u6,
 jK (λx σ=>cg RF n QE (σ.put 3 x)) (l.map ae) ⟨[some (.bor (ds.map ae)),some (.bor (ch.map ae)),some (.own 0),v3,v4,v5,v6],os::acc.map λr=>r.map ae⟩=
  some (⟨[some (.bor (ds.map ae)),some (.bor (ch.map ae)),some (.own 0),u3,u4,u5,u6],(os++(aai l.length).map λi=>AV.own (acc.length+i+1))::(acc++l.map λp=>gx ds ch p).map λr=>r.map ae⟩,none)
 |[],acc,os,v3,v4,v5,v6,_,_,_=>⟨v3,v4,v5,v6,by show some _=some _;rw[ahc,abW];show some _=some ((⟨_,(os++[])::_⟩ :bj),none);erw[abW ..,rfl]⟩
 |p::l,acc,os,v3,v4,v5,v6,hp,ho,hl=>by
  have bq:(p::l).length=l.length+1:=rfl
  rw[bq]at hl
  have d1:=H.d1
  have c0:=H.c0
  refine zv (FZ (RF:=RF) (n:=n) (v2:=some (.own 0)) (pre:=os::acc.map λr=>r.map ae) H (hp p (.head _)) (aai ch.length) [] v5 v6 (λj hj=>abd.mp hj) (by rw[aa0];show 0+ch.length<=_;exact %[0+a<=1000,a<=100|aG c0])) λu5 u6 hi=>?_
  have pf:(os::acc.map λr=>r.map ae).length=acc.length+1:=by (erw[adY,aan ..,rfl])
  rw[pf,adK]at hi
  refine bU (BO (RF:=RF) (n:=n) H l (acc++[gx ds ch p]) (os++[.own (acc.length+1)]) (some (ae p)) (some (.own (acc.length+1))) u5 u6 (λy hy=>hp y (.tail _ hy)) (by rw[aao,aao,ho];rfl) (by rw[aao];show acc.length+1+l.length<=_;exact %[a+1+b<=1000,a+(b+1)<=1000|aP hl])) λw3 dQ=>bU dQ λw4 di=>bU di λw5 jP=>bU jP λw6 ih=>?_
  refine ⟨w3,w4,w5,w6,?_⟩
  erw[aa6]
  refine bI (σ':=⟨[some (.bor (ds.map ae)),some (.bor (ch.map ae)),some (.own 0),some (ae p),some (.own (acc.length+1)),u5,u6],(os++[.own (acc.length+1)])::(acc++[gx ds ch p]).map λr=>r.map ae⟩) ?_ ?_
  .refine au (σ':=⟨[some (.bor (ds.map ae)),some (.bor (ch.map ae)),some (.own 0),some (ae p),some (.own (acc.length+1)),v5,v6],(os::acc.map λr=>r.map ae)++[[].map ae]⟩) ?_ (au (mq (xs:=(aai ch.length).map ae) ((n9 (i:=(ch.length:Int)) (aC rfl (af rfl ao) (ix (l:=ch) rfl %[a<=1000,a<=100|(aG c0)])) (decide_eq_true %[aU ((qG (qL 2 20))>=(qC a)) ((qC a)>=(qL 2 20)),a<=100|(aG c0)])).trans (congrArg some (kX _))) hi) (au ((uB (m:=0) (xs:=os) (x:=.own (acc.length+1)) rfl rfl rfl (decide_eq_true ?_)).trans ?_) bH))
   .show some ((⟨_,_⟩ :bj),none)=_
    show some ((⟨[some (.bor (ds.map ae)),some (.bor (ch.map ae)),some (.own 0),some (ae p),some (.own (os::acc.map λr=>r.map ae).length),v5,v6],_⟩ :bj),none)=_
    erw[pf];rfl
   .have:aa7=16777216:=rfl
    exact %[a<=b,a=c,c+(d+1)<=1000,b=16777216|d4 ho hl this]
   .erw[acf];rfl
  .erw[ih]
   have e1:(os++[AV.own (acc.length+1)])++(aai l.length).map (λi=>AV.own ((acc++[gx ds ch p]).length+i+1))=os++(aai (p::l).length).map λi=>AV.own (acc.length+i+1):=by
    erw[bq,List.range_succ_eq_map,aa6,abH,aaI ..,aao]
    congr 1
    show AV.own (acc.length+1)::_=AV.own (acc.length+0+1)::_
    congr 1
    refine abG λi _=>congrArg AV.own ?_
    show acc.length+1+i+1=acc.length+(i+1)+1
    exact %[a+1+b+1=a+(b+1)+1|aP]
   erw[e1,aaI ..,aa6];rfl
theorem BP{os:List (List Nat)}{vars:List (Option AV)}:∀(l:List Nat),(∀i∈l,i<os.length)->(l.map λi=>AV.own (i+1)).mapM (iD ⟨vars,X::os.map λr=>r.map ae⟩ 3)=some (l.map λi=>AV.lst ((os.getD i []).map ae))
 |[],_=>rfl
 |i::l,h=>by
  have hi:=h i (.head _)
  have e:iD ⟨vars,X::os.map λr=>r.map ae⟩ 3 (.own (i+1))=some (.lst ((os.getD i []).map ae)):=by
   show ((X::os.map λr=>r.map ae)[i+1]?).bind (λxs=>(xs.mapM (iD ⟨vars,X::os.map λr=>r.map ae⟩ 2)).map AV.lst)=_
   erw[akZ,adR,abz hi]
   show ((os[i].map ae).mapM (iD ⟨vars,X::os.map λr=>r.map ae⟩ 2)).map AV.lst=_
   have:=wW (σ:=⟨vars,X::os.map λr=>r.map ae⟩) 1 os[i]
   simp only[aiO,abz hi,aiH]
   exact this
  erw[aa6,ad4,e,BP l λy hy=>h y (.tail _ hy)];rfl
noncomputable def XH:Spec:=aL uP λds=>aL uP λch=>aE (if 1<=ds.length/\ds.length<=100/\ch.length<=100/\∀c∈ch,c<ds.length then some (.lst ((aai ds.length).map λp=>.lst ((gx ds ch p).map ae))) else none)
theorem XI:bw prog w (d+1) P 225 XH:=bX cH.nil (yL P) (yT P) λxs res h=>by
 apply Bw (g:=ae) (λx y e=>iR e) h;clear h;intro ds _ h
 apply Bw (g:=ae) (λx y e=>iR e) h;clear h;intro ch _ h
 apply dw h;clear h;intro h
 refine dS h ?_
 clear h
 intro hs h
 obtain rfl:=aac h
 have H:XG ds ch:=⟨hs.1,hs.2.1,hs.2.2.1,hs.2.2.2⟩
 have d1:=H.d1
 refine bU (BO (RF:=fF []) (n:=0) H (aai ds.length) [] [] none none none none (λp hp=>by have:=abd.mp hp;exact %[a<=100,b<=100,a<b|aP d1 this]) rfl (by rw[aa0];show 0+_<=_;exact %[0+a<=1000,a<=100|aG d1])) λu3 dQ=>bU dQ λu4 di=>bU di λu5 jP=>bU jP λu6 hl=>?_
 refine ⟨0,cV (v:=.own 0) ?_ (au rfl (au (mq (xs:=(aai ds.length).map ae) ((n9 (i:=(ds.length:Int)) (aC rfl (af rfl ao) (ix (l:=ds) rfl %[a<=1000,a<=100|(aG d1)])) (decide_eq_true %[aU ((qG (qL 2 20))>=(qC a)) ((qC a)>=(qL 2 20)),a<=100|(aG d1)])).trans (congrArg some (kX _))) hl) (bM (eP rfl)))) ?_⟩
 .erw[aap ..]
  refine ⟨rfl,?_⟩
  show (cf 4 (.bor (ds.map ae))&&(cf 4 (.bor (ch.map ae))&&true))=true
  erw[iW ae (λx=>rfl) ds,iW ae (λx=>rfl) ch];rfl
 .erw[aa0,adK ..,adK ..]
  show (((aai ds.length).map λi=>AV.own (0+i+1)).mapM (iD _ 3)).map AV.lst=_
  have e0:((aai ds.length).map λi=>AV.own (0+i+1))=(aai ds.length).map λi=>AV.own (i+1):=abG λi _=>by erw[aeD ..,rfl]
  erw[e0,BP _ λi hi=>by rw[aan,aa0];exact abd.mp hi]
  show some (AV.lst _)=_
  congr 2
  refine abG λi hi=>?_
  have hi:=abd.mp hi
  simp[hi]
end
section
variable{prog:aas}{w:abI}{d:Nat}{P:abA}
noncomputable def a0(sl:List Nat)(f p:Nat):Nat:=(f+p)%sl.length
noncomputable def XJ(b:Bool)(h c:Nat):List Nat:=if b then [h,c] else [c,h]
noncomputable def rJ(n:Nat)(b:Bool)(h c:Nat):List Nat:=aar n 46++XJ b h c
noncomputable def mD(sl ls:List Nat)(f dr en p:Nat):List Nat:=
 rJ (sl.getD (a0 sl f p) 0) (decide ((dr+a0 sl f p)%2=0)) (uS ((en+a0 sl f p:Nat):Int)) (frm (ls.getD (a0 sl f p) 0) ((dr+5*a0 sl f p:Nat):Int))++oq ((en+p:Nat):Int)
noncomputable def MV(en:Nat):List Nat:=[13,46,10]++([eF (en:Int)]++([46]++jL ((en/16:Nat):Int)))
noncomputable def iY(sl ls:List Nat)(f dr en:Nat):List Nat:=((aai sl.length).map (mD sl ls f dr en)).flatten++MV en
noncomputable abbrev tM:cQ:=fF [(187,MB),(173,acY),(180,Qo)]
noncomputable abbrev XK:eW:=acC
theorem XM{l:List (aa9×Spec)}{x d:Nat}(hl:l.lookup 187=some MB)(h:97<=x/\x<=122):fF l (.ref 187) [iU x,ae d]=some (.str (wS [frm x (d:Int)])):=by
 show (l.lookup 187).bind (λS=>S [iU x,ae d])=_
 erw[hl,aa5 ..]
 show MB [.str (iw x),.int (d:Int)]=_
 simp only[MB,Mp,Bv,yZ]
 rw[if_pos ⟨rfl,h⟩];rfl
theorem dB{σ:bj}{a b:List Nat}(h:a.length+b.length<=100000):cR σ .Add (.str (wS a)) (.str (wS b))=some (.str (wS (a++b))):=
 (aco (decide_eq_true (by have:aa7=16777216:=rfl;erw[kW ..,kW ..];exact %[a+b<=c,a+b<=100000,c=16777216|bJ h this]))).trans (congrArg (λz=>some (AV.str z)) (uU _ _))
theorem ow{a b:List Nat}(h:a.length+b.length<=100000):yd .Add (.str (wS a)) (.str (wS b))=some (.str (wS (a++b))):=
 (FL (by have:aa7=16777216:=rfl;erw[kW ..,kW ..];exact %[a+b<=c,a+b<=100000,c=16777216|bJ h this])).trans (congrArg (λz=>some (AV.str z)) (uU _ _))
theorem MX{σ:bj}{n:Nat}(h:1<=n/\n<=1000):cR σ .Mult (.str ".") (ae n)=some (.str (wS (aar n 46))):=by
 show bn _ _=_
 refine (bl ?_).trans ?_
 .erw[aap ..]
  exact ⟨decide_eq_true %[aU (1>=(qC a)) ((qC a)>=4096),aU (1<=a) (a<=1000)|(aG h)],rfl⟩
 .erw[abE ..];rfl
theorem MY{σ:bj}{x:AV}{l:List Nat}(hx:σ.listOf x=some (l.map iU))(hi:i<l.length)(hl:l.length<=1000):nK σ x (ae i)=some (iU (l.getD i 0)):=by
 refine gL hx ⟨%[0>=(qC a)|(aG)],%[(qC a)>(qL 2 62),a<b,b<=1000|(aP hi hl)]⟩ ?_
 erw[abE ..]
 simp[hi]
structure fH (sl ls:List Nat):Prop where
 n0:1<=sl.length
 n1:sl.length<=100
 MZ:ls.length=sl.length
 ds:∀x∈sl,1<=x/\x<=100
 cs:∀c∈ls,97<=c/\c<=122
theorem kZ:(rJ n b h c).length=n+2:=by
 skip
 erw[aao,afa]
 cases b <;> rfl
theorem w0(H:fH sl ls)(hn:a0 sl f p<sl.length):(mD sl ls f dr en p).length<=104:=by
 skip
 erw[aao,kZ]
 have:=(H.ds _ (ru hn)).2
 have:=BF ((en+p:Nat):Int)
 omega
theorem w7{n f dr en:Nat}{sl ls:List Nat}(H:fH sl ls):∀(l acc:List Nat) (v6 v7 v8 v9:Option AV),acc.length+104*l.length<=50000->∃u6 u7 u8 u9,
 jK (λx σ=>cg tM n XK (σ.put 6 x)) (l.map ae) ⟨[some (.bor (sl.map ae)),some (.bor (ls.map iU)),some (ae f),some (ae dr),some (ae en),some (.str (wS acc)),v6,v7,v8,v9],[]⟩=
  some (⟨[some (.bor (sl.map ae)),some (.bor (ls.map iU)),some (ae f),some (ae dr),some (ae en),some (.str (wS (acc++(l.map (mD sl ls f dr en)).flatten))),u6,u7,u8,u9],[]⟩,none)
 |[],acc,v6,v7,v8,v9,_=>⟨v6,v7,v8,v9,by show some _=some _;(erw[ahc,aj6,abW ..,rfl])⟩
 |p::l,acc,v6,v7,v8,v9,hl=>by
  have bq:(p::l).length=l.length+1:=rfl
  rw[bq]at hl
  have n0:=H.n0
  have n1:=H.n1
  have MZ:=H.MZ
  have hn:a0 sl f p<sl.length:=adC _ %[0<a,1<=a|(aG n0)]
  have hr:=w0 (dr:=dr) (en:=en) H hn
  have hd:=H.ds _ (ru hn)
  have hc:=H.cs _ (ru (l:=ls) (i:=a0 sl f p) %[a<b,b=c,a<c|(bJ MZ hn)])
  have h3:=BF ((en+p:Nat):Int)
  have agF:mD sl ls f dr en p=rJ (sl.getD (a0 sl f p) 0) (decide ((dr+a0 sl f p)%2=0)) (uS ((en+a0 sl f p:Nat):Int)) (frm (ls.getD (a0 sl f p) 0) ((dr+5*a0 sl f p:Nat):Int))++oq ((en+p:Nat):Int):=rfl
  have hnt:a0 sl f p=(f+p)%sl.length:=rfl
  generalize a0 sl f p=nt at *
  have hmR:(acc++mD sl ls f dr en p).length+104*l.length<=50000:=by erw[aao];exact %[a+b+104*c<=50000,a+104*(c+1)<=50000,b<=104|bJ hl hr]
  refine bU (w7 (n:=n) (f:=f) (dr:=dr) (en:=en) H l (acc++mD sl ls f dr en p) (some (ae p)) (some (ae nt)) (some (.str (wS [frm (ls.getD nt 0) ((dr+5*nt:Nat):Int)]))) (some (.str (wS [uS ((en+nt:Nat):Int)]))) hmR) λu6 dQ=>bU dQ λu7 di=>bU di λu8 jP=>bU jP λu9 ih=>?_
  refine ⟨u6,u7,u8,u9,?_⟩
  erw[aa6]
  refine bI (σ':=⟨[some (.bor (sl.map ae)),some (.bor (ls.map iU)),some (ae f),some (ae dr),some (ae en),some (.str (wS (acc++mD sl ls f dr en p))),some (ae p),some (ae nt),some (.str (wS [frm (ls.getD nt 0) ((dr+5*nt:Nat):Int)])),some (.str (wS [uS ((en+nt:Nat):Int)]))],[]⟩) ?_ ?_
  .refine au (a7 (x:=ae nt) ?_) (au (a7 (x:=.str (wS [frm (ls.getD nt 0) ((dr+5*nt:Nat):Int)])) ?_) (au (a7 (x:=.str (wS [uS ((en+nt:Nat):Int)])) ?_)
    (au (iP (y:=.str (wS acc)) (x:=.str (wS (rJ (sl.getD nt 0) (decide ((dr+nt)%2=0)) (uS ((en+nt:Nat):Int)) (frm (ls.getD nt 0) ((dr+5*nt:Nat):Int))))) rfl ?_ (ow ?_)) (au ((iP (y:=.str (wS (acc++rJ (sl.getD nt 0) (decide ((dr+nt)%2=0)) (uS ((en+nt:Nat):Int)) (frm (ls.getD nt 0) ((dr+5*nt:Nat):Int))))) (x:=.str (wS (oq ((en+p:Nat):Int)))) rfl ?_ (ow ?_)).trans ?_) bH))))
   .erw[hnt]
    exact ag (x:=ae (f+p)) (y:=ae sl.length) (ag (x:=ae f) (y:=ae p) rfl rfl dP) (aC rfl (af rfl ao) (ix (l:=sl) rfl %[a<=1000,a<=100|(aG n1)])) (dA %[0<a,1<=a|(aG n0)] (p8 (e:=7) %[a<(qL 2 7),a<=100|(aG n1)] ⋯))
   .exact aC rfl (af (x:=iU (ls.getD nt 0)) (bL rfl rfl (MY (l:=ls) rfl %[a<b,b=c,a<c|(bJ MZ hn)] %[a<=1000,b<=100,a=b|(aP n1 MZ)])) (af (x:=ae (dr+5*nt)) (ag (x:=ae dr) (y:=ae (5*nt)) rfl (ag (x:=ae 5) (y:=ae nt) rfl rfl (BJ (by
     have b1:aae ((5:Nat):Int)=3:=rfl
     have b2:=bB (a:=nt) (k:=7) %[a<(qL 2 7),b<=100,a<b|(aP n1 hn)]
     exact %[a+b<=(qL 2 20),a=3,b<=7|aP b1 b2]))) dP) ao)) (cO (ys:=[iU (ls.getD nt 0),ae (dr+5*nt)]) rfl (XM rfl hc))
   .exact aC rfl (af (x:=ae (en+nt)) (ag (x:=ae en) (y:=ae nt) rfl rfl dP) ao) (cO (ys:=[ae (en+nt)]) rfl rfl)
   .refine ag (x:=.str (wS (aar (sl.getD nt 0) 46))) (y:=.str (wS (XJ (decide ((dr+nt)%2=0)) (uS ((en+nt:Nat):Int)) (frm (ls.getD nt 0) ((dr+5*nt:Nat):Int))))) (ag rfl (bL (x:=.bor (sl.map ae)) (y:=ae nt) rfl rfl (wZ (l:=sl) rfl hn %[a<=1000,a<=100|(aG n1)])) (MX %[aU (1<=a) (a<=1000),aU (1<=a) (a<=100)|(aG hd)])) (nn (p:=decide ((dr+nt)%2=0)) (aJ (bh (x:=ae ((dr+nt)%2)) (y:=ae 0) (ag (x:=ae (dr+nt)) (y:=ae 2) (ag (x:=ae dr) (y:=ae nt) rfl rfl dP) rfl (dA (b:=2) ⋯ (p8 (e:=2) ⋯ ⋯))) rfl DT)) ?_) (dB ?_)
    .cases decide ((dr+nt)%2=0)
     .exact ag (x:=.str (wS [frm (ls.getD nt 0) ((dr+5*nt:Nat):Int)])) (y:=.str (wS [uS ((en+nt:Nat):Int)])) rfl rfl (dB (by show 1+1<=_;decide))
     .exact ag (x:=.str (wS [uS ((en+nt:Nat):Int)])) (y:=.str (wS [frm (ls.getD nt 0) ((dr+5*nt:Nat):Int)])) rfl rfl (dB (by show 1+1<=_;decide))
    .have:=kZ (n:=sl.getD nt 0) (b:=decide ((dr+nt)%2=0)) (h:=uS ((en+nt:Nat):Int)) (c:=frm (ls.getD nt 0) ((dr+5*nt:Nat):Int))
     unfold rJ at this
     rw[aao]at this
     exact %[a+b<=100000,aU (1<=c) (c<=100),a+b=c+2|bJ hd this]
   .erw[kZ];exact %[a+(b+2)<=100000,a+104*(c+1)<=50000,aU (1<=b) (b<=100)|bJ hl hd]
   .exact bL rfl (ag (x:=ae (en+p)) (y:=.int 3) (ag (x:=ae en) (y:=ae p) rfl rfl dP) rfl (mo rfl)) (MK _)
   .erw[aao,kZ];exact %[a+(b+2)+c<=100000,a+104*(d+1)<=50000,c<=2,aU (1<=b) (b<=100)|d4 hl h3 hd]
   .erw[aaI ..,<-agF];rfl
  .erw[ih,aaI ..];rfl
end
section
variable{prog:aas}{w:abI}{d:Nat}{P:abA}
theorem vb{sl ls:List Nat}{f dr en:Nat}(H:fH sl ls):∀l:List Nat,((l.map (mD sl ls f dr en)).flatten).length<=104*l.length
 |[]=>ae7 _
 |p::l=>by
  have n0:=H.n0
  have hn:a0 sl f p<sl.length:=adC _ %[0<a,1<=a|(aG n0)]
  have:=w0 (dr:=dr) (en:=en) H hn
  have ih:=vb (f:=f) (dr:=dr) (en:=en) H l
  erw[aa6,aey,aao]
  show _<=104*(l.length+1)
  exact %[a+b<=104*(c+1),a<=104,b<=104*c|bJ this ih]
noncomputable def XN:Spec:=aL uP λsl=>aL FM λls=>aN λf=>aN λdr=>aN λen=>aE (if 1<=sl.length/\sl.length<=100/\ls.length=sl.length/\(∀x∈sl,1<=x/\x<=100)/\(∀c∈ls,97<=c/\c<=122) then some (.str (wS (iY sl ls f dr en))) else none)
theorem XO:bw prog w (d+2) P 213 XN:=bX (((cH.nil.cons MA).cons Xe).cons Xh) (Dy P) (DE P) λxs res h=>by
 apply Bw (g:=ae) (λx y e=>iR e) h;clear h;intro sl _ h
 apply Bw (g:=iU) (λx y e=>HQ e) h;clear h;intro ls _ h
 apply eC h;clear h;intro f _ h
 apply eC h;clear h;intro dr _ h
 apply eC h;clear h;intro en _ h
 apply dw h;clear h;intro h
 refine dS h ?_
 clear h
 intro hs h
 obtain rfl:=aac h
 have H:fH sl ls:=⟨hs.1,hs.2.1,hs.2.2.1,hs.2.2.2.1,hs.2.2.2.2⟩
 have n0:=H.n0
 have n1:=H.n1
 refine bU (w7 (n:=0) (f:=f) (dr:=dr) (en:=en) H (aai sl.length) [] none none none none (by rw[aa0];show 0+_<=_;exact %[0+104*a<=50000,a<=100|aG n1])) λu6 dQ=>bU dQ λu7 di=>bU di λu8 jP=>bU jP λu9 hl=>?_
 rw[adK]at hl
 have hR:=vb (f:=f) (dr:=dr) (en:=en) H (aai sl.length)
 rw[aa0]at hR
 have h4:=BG ((en/16:Nat):Int)
 have hm:iY sl ls f dr en=((aai sl.length).map (mD sl ls f dr en)).flatten++MV en:=rfl
 generalize ((aai sl.length).map (mD sl ls f dr en)).flatten=R at *
 refine ⟨0,cV (v:=.str (wS (iY sl ls f dr en))) ?_ (au (a7 (x:=.str (wS [])) rfl) (au (mq (xs:=(aai sl.length).map ae) ((n9 (i:=(sl.length:Int)) (aC rfl (af rfl ao) (ix (l:=sl) rfl %[a<=1000,a<=100|(aG n1)])) (decide_eq_true %[aU ((qG (qL 2 20))>=(qC a)) ((qC a)>=(qL 2 20)),a<=100|(aG n1)])).trans (congrArg some (kX _))) hl) (bM (eP (x:=.str (wS (iY sl ls f dr en))) ?_)))) rfl⟩
 .erw[aap ..]
  refine ⟨rfl,?_⟩
  show (cf 4 (.bor (sl.map ae))&&(cf 4 (.bor (ls.map iU))&&true))=true
  erw[iW ae (λx=>rfl) sl,iW iU (λx=>rfl) ls];rfl
 .have e:iY sl ls f dr en=(((R++[13,46,10])++[eF (en:Int)])++[46])++jL ((en/16:Nat):Int):=by
   erw[hm];unfold MV;simp only[aaI]
  erw[e]
  refine ag (x:=.str (wS ((((R++[13,46,10])++[eF (en:Int)])++[46])))) (y:=.str (wS (jL ((en/16:Nat):Int)))) (ag (x:=.str (wS ((R++[13,46,10])++[eF (en:Int)]))) (y:=.str (wS [46])) (ag (x:=.str (wS (R++[13,46,10]))) (y:=.str (wS [eF (en:Int)])) (ag (x:=.str (wS R)) (y:=.str (wS [13,46,10])) rfl rfl (dB ?_)) (aC rfl (af rfl ao) (cO (ys:=[ae en]) rfl rfl)) (dB ?_)) rfl (dB ?_)) (bL rfl (ag (x:=ae (en/16)) (y:=.int 4) (ag (x:=ae en) (y:=ae 16) rfl rfl (jI (b:=16) ⋯ (p8 (e:=5) ⋯ ⋯))) rfl (mo rfl)) (ML _)) (dB ?_)
  .show R.length+3<=_;exact %[a+3<=100000,b<=100,a<=104*b|aP n1 hR]
  .erw[aao];show R.length+3+1<=_;exact %[a+3<100000,b<=100,a<=104*b|aP n1 hR]
  .erw[aao,aao];show R.length+3+1+1<=_;exact %[a+3+1<100000,b<=100,a<=104*b|aP n1 hR]
  .erw[aao,aao,aao];show R.length+3+1+1+_<=_;exact %[a+3+1+1+b<=100000,c<=100,b<=2,a<=104*c|bJ n1 h4 hR]
end
section
noncomputable def cS:List Nat->List Nat
 |[]=>[]
 |c::l=>if c=13 then (match l with
    |[]=>[13,10]
    |e::r=>if e=10 then 13::10::cS r else 13::10::cS (e::r))
  else if c=10 then 13::10::cS l else c::cS l
noncomputable def eM:Bool->List Nat->List Nat
 |_,[]=>[]
 |b,c::l=>if b=true/\c=46 then 46::46::eM false l else c::eM (c==10) l
noncomputable def gy(l:List Str):List Nat:=(l.map λs=>s.cps.toList).flatten
theorem w8(BQ:List Str):(ag4 ⟨#[]⟩ BQ).cps.toList=gy BQ:=by
 have e:BQ=(BQ.map λs=>s.cps.toList).map wS:=by
  erw[abH]
  conv=>lhs;rw[<-ake BQ]
  exact abG λs V=>rfl
 conv=>lhs;rw[e,show (⟨#[]⟩ :Str)=wS [] from rfl,MI,DP]
 rfl
section
variable{l:List Nat}{r:Str}
theorem BR(hd:d<l.length)(ha:d<a):gy (if d<a then [⟨l.toArray.extract d a⟩] else [])=l[d]::gy (if d+1<a then [⟨l.toArray.extract (d+1) a⟩] else []):=by
 have ex:∀i j:Nat,(l.toArray.extract i j).toList=(l.drop i).take (j-i):=λi j=>by simp
 erw[if_pos ha]
 show (l.toArray.extract d a).toList++[]=_
 erw[abW ..,ex ..,ael hd,(show a-d=(a-(d+1))+1 by exact %[a=b+1,c<d,qD 0 a d c,qD 0 b d (c+1)|d4 ha rfl rfl]),List.take_succ_cons]
 congr 1
 split
 .show _=(l.toArray.extract (d+1) a).toList++[]
  erw[abW ..,ex ..,rfl]
 .rename_i h
  erw[(show a-(d+1)=0 by exact %[a=0,cu (b+1<c),qD 0 a c (b+1)|bJ h rfl]),aky];rfl
theorem BU(a b:List Str):gy (a++b)=gy a++gy b:=by unfold gy;erw[acf,alM,rfl]
theorem w9(hd:d<l.length)(hf:find d=find (d+1))(hb:∀a b,find d=some (a,b)->d<a):gy (gm find l.toArray r (n+1) d)=l[d]::gy (gm find l.toArray r (n+1) (d+1)):=by
 have hs:l.toArray.size=l.length:=by simp
 unfold gm
 rw[<-hf]
 cases h:find d with
 |some p=>
  obtain ⟨a,b⟩:=p
  have:=hb a b h
  show gy ((if d<a then [⟨l.toArray.extract d a⟩] else [])++_)=l[d]::gy ((if d+1<a then [⟨l.toArray.extract (d+1) a⟩] else [])++_)
  erw[BU ..,BU ..,BR hd this];rfl
 |none=>
  show gy (if d<l.toArray.size then [⟨l.toArray.extract d l.toArray.size⟩] else [])=l[d]::gy (if d+1<l.toArray.size then [⟨l.toArray.extract (d+1) l.toArray.size⟩] else [])
  exact BR hd %[a<b,a<c,b=c|(bJ hd hs)]
theorem BV(hf:find d=some (d,b)):gy (gm find l.toArray r (n+1) d)=r.cps.toList++gy (gm find l.toArray r n b):=by
 conv=>lhs;unfold gm
 erw[hf]
 show gy ((if d<d then _ else [])++(r::_))=_
 erw[if_neg (adP d)]
 rfl
theorem BW(hd:l.length<=d)(hf:find d=none):gy (gm find l.toArray r n d)=[]:=by
 cases n with
 |zero=>rfl
 |succ n=>
  unfold gm
  rw[hf]
  show gy (if d<l.toArray.size then _ else [])=[]
  erw[if_neg (by simp;exact %[a<=b,a<=b|aP hd])];rfl
theorem k5(hd:d<l.length):l.toArray.getD d 0=l[d]:=by simp[Array.getD,hd]
theorem QF(r:List Nat):cS (10::r)=13::10::cS r:=by
 conv=>lhs;unfold cS
 exact (if_neg ⋯).trans (if_pos rfl)
theorem HV(r:List Nat):cS (13::10::r)=13::10::cS r:=by
 conv=>lhs;unfold cS
 exact (if_pos rfl).trans (if_pos rfl)
theorem QG(r:List Nat)(h:e≠10):cS (13::e::r)=13::10::cS (e::r):=by
 conv=>lhs;unfold cS
 exact (if_pos rfl).trans (if_neg h)
theorem XQ(r:List Nat)(h:¬(c=10\/c=13)):cS (c::r)=c::cS r:=by
 conv=>lhs;unfold cS
 exact (if_neg λq=>h (.inr q)).trans (if_neg λq=>h (.inl q))
theorem M0:l.toArray.size=l.length:=rfl
theorem QH(bA:d<l.length):jF l.toArray d=if l[d]=10\/l[d]=13 then some (d,ml l.toArray d) else jF l.toArray (d+1):=by
 show (ew l.toArray (l.length+1-d) d).map _=_
 erw[(show l.length+1-d=(l.length+1-(d+1))+1 by exact %[a=b+1,c<d,qD 0 a (d+1) c,qD 0 b (d+1) (c+1)|d4 bA rfl rfl])]
 show (if d ≥ l.length then none else if l.toArray.getD d 0=10\/l.toArray.getD d 0=13 then some d else ew l.toArray (l.length+1-(d+1)) (d+1)).map _=_
 erw[if_neg (amk.mpr bA),k5 bA]
 split <;> rfl
theorem QI(m:Nat):∀(n d:Nat),l.length<=m+d->l.length<n+d->d<=l.length->gy (gm (jF l.toArray) l.toArray ⟨#[13,10]⟩ n d)=cS (l.drop d):=by
 induction m with
 |zero=>
  intro n d hm hn hd
  obtain rfl:d=l.length:=aik hd (aeD d▸hm)
  erw[aiR]
  refine BW (adJ _) ?_
  show (ew l.toArray (l.length+1-l.length) l.length).map _=none
  erw[(show l.length+1-l.length=0+1 by exact %[a=0+1,qD 0 a (b+1) b|aP rfl])]
  show (if l.length ≥ l.length then none else _:Option Nat).map _=none
  erw[if_pos (adJ _)];rfl
 |succ m ih=>
  intro n d hm hn hd
  by_cases he:d=l.length
  .exact ih n d (by erw[he];exact ai8 _ _) hn hd
  have bA:d<l.length:=aml hd he
  cases n with
  |zero=>rw[aeD]at hn;exact absurd bA (ai4 hn)
  |succ n=>
  have EX:l.length<=m+(d+1):=ahF m d▸hm
  have Ip:l.length<n+(d+1):=ahF n d▸hn
  have e0:=ael bA
  have i1:=ih n (d+1) EX Ip bA
  have hf:=QH bA
  by_cases hc:l[d]=10\/l[d]=13
  .rw[if_pos hc]at hf
   have vw:∀b,ml l.toArray d=b->gy (gm (jF l.toArray) l.toArray ⟨#[13,10]⟩ (n+1) d)=13::10::gy (gm (jF l.toArray) l.toArray ⟨#[13,10]⟩ n b):=λb q=>BV (q▸hf)
   have ne:ml l.toArray d=(if l[d]=13/\d+1<l.length/\l.toArray.getD (d+1) 0=10 then d+2 else d+1):=by unfold ml;erw[k5 bA];rfl
   erw[e0]
   rcases hc with hc|hc
   .refine (vw _ (ne.trans (if_neg λq=>absurd (hc.symm.trans q.1) ⋯))).trans ?_
    erw[i1,hc,QF ..,rfl]
   .by_cases h2:d+1<l.length
    .rw[k5 h2]at ne
     have e1:=ael h2
     by_cases h3:l[d+1]=10
     .refine (vw _ (ne.trans (if_pos ⟨hc,h2,h3⟩))).trans ?_
      erw[ih n (d+2) (ahl EX) (agU Ip) h2,e1,hc,h3,HV ..,rfl]
     .refine (vw _ (ne.trans (if_neg λq=>h3 q.2.2))).trans ?_
      erw[i1,e1,hc,QG _ h3,rfl]
    .refine (vw _ (ne.trans (if_neg λq=>h2 q.2.1))).trans ?_
     erw[i1,aiX (ajH.mp h2),hc];rfl
  .rw[if_neg hc]at hf
   erw[w9 bA hf λa b h=>by rw[hf]at h;exact (rm h).1,ih (n+1) (d+1) EX (alj n (d+1)▸agU Ip) bA,e0,XQ _ hc,rfl]
theorem QJ(bA:d<l.length):fC l.toArray (l.toArray.size+1-d) d=if iu l.toArray d=true/\l[d]=46 then some (d,d+1) else fC l.toArray (l.toArray.size+1-(d+1)) (d+1):=by
 erw[M0,(show l.length+1-d=(l.length+1-(d+1))+1 by exact %[a=b+1,c<d,qD 0 a (d+1) c,qD 0 b (d+1) (c+1)|d4 bA rfl rfl])]
 show (if iu l.toArray d=true/\d<l.length/\l.toArray.getD d 0=46 then _ else _)=_
 erw[k5 bA]
 by_cases hq:iu l.toArray d=true/\l[d]=46
 .exact (if_pos ⟨hq.1,bA,hq.2⟩).trans (if_pos hq).symm
 .exact (if_neg λq=>hq ⟨q.1,q.2.2⟩).trans (if_neg hq).symm
theorem QK(m:Nat):∀(n d:Nat),l.length<=m+d->l.length<n+d->d<=l.length->gy (gm (λd=>fC l.toArray (l.toArray.size+1-d) d) l.toArray ⟨#[46,46]⟩ n d)=eM (iu l.toArray d) (l.drop d):=by
 induction m with
 |zero=>
  intro n d hm hn hd
  obtain rfl:d=l.length:=aik hd (aeD d▸hm)
  erw[aiR]
  refine (BW (adJ _) ?_).trans (by cases iu l.toArray l.length <;> rfl)
  show fC l.toArray (l.length+1-l.length) l.length=none
  erw[(show l.length+1-l.length=0+1 by exact %[a=0+1,qD 0 a (b+1) b|aP rfl])]
  exact if_neg λq=>adP _ (show l.length<l.length from q.2.1)
 |succ m ih=>
  intro n d hm hn hd
  by_cases he:d=l.length
  .exact ih n d (by erw[he];exact ai8 _ _) hn hd
  have bA:d<l.length:=aml hd he
  cases n with
  |zero=>rw[aeD]at hn;exact absurd bA (ai4 hn)
  |succ n=>
  have EX:l.length<=m+(d+1):=ahF m d▸hm
  have Ip:l.length<n+(d+1):=ahF n d▸hn
  have hf:=QJ bA
  have hbg:iu l.toArray (d+1)=(l[d]==10):=by
   show (d+1==0||l.toArray.getD d 0==10)=_
   erw[k5 bA]
   rfl
  erw[ael bA]
  by_cases hc:iu l.toArray d=true/\l[d]=46
  .rw[if_pos hc]at hf
   erw[BV (find:=λd=>fC l.toArray (l.toArray.size+1-d) d) hf,ih n (d+1) EX Ip bA,hbg,hc.2]
   conv=>rhs;unfold eM
   exact (if_pos ⟨hc.1,rfl⟩).symm
  .rw[if_neg hc]at hf
   erw[w9 (find:=λd=>fC l.toArray (l.toArray.size+1-d) d) bA hf λa b h=>(kO (hf.symm.trans h)).1,ih (n+1) (d+1) EX (alj n (d+1)▸agU Ip) bA,hbg]
   conv=>rhs;unfold eM
   exact (if_neg hc).symm
theorem HW(l:List Nat):yx (wS l)=wS (cS l):=by
 have h:(yx (wS l)).cps.toList=cS l:=by
  skip
  erw[w8 ..,(show ((wS l).cps.size+1)=l.length+1 by show l.toArray.size+1=_;simp)]
  exact QI l.length (l.length+1) 0 (adJ _) (afm _) (ae7 _)
 exact Str.ext' (ahv.mp h)
theorem HX(l:List Nat):HG (wS l)=wS (eM true l):=by
 have h:(HG (wS l)).cps.toList=eM true l:=by
  skip
  erw[w8 ..,(show ((wS l).cps.size+1)=l.length+1 by show l.toArray.size+1=_;simp)]
  exact QK l.length (l.length+1) 0 (adJ _) (afm _) (ae7 _)
 exact Str.ext' (ahv.mp h)
end
end
noncomputable abbrev dL:List Nat:=[13,10]
noncomputable def dl:List Nat->List Nat
 |[]=>[]
 |c::l=>if c=46 then 46::46::l else c::l
noncomputable def k6(e:List Nat):Prop:=e=[10]\/e=[13]\/e=[13,10]
theorem pM:∀(a rest:List Nat),(∀c∈a,c≠10/\c≠13)->cS (a++rest)=a++cS rest
 |[],rest,_=>rfl
 |c::a,rest,h=>by
  have hc:=h c (.head _)
  erw[adS]
  conv=>lhs;unfold cS
  erw[if_neg hc.2,if_neg hc.1,pM a rest λx hx=>h x (.tail _ hx)];rfl
theorem M1(he:k6 e)(hr:rest.head?≠some 10):cS (e++rest)=13::10::cS rest:=by
 rcases he with rfl|rfl|rfl
 .show cS (10::rest)=_
  conv=>lhs;unfold cS
  erw[if_neg ⋯,if_pos rfl,rfl]
 .show cS (13::rest)=_
  conv=>lhs;unfold cS
  erw[if_pos rfl]
  cases rest with
  |nil=>rfl
  |cons x r=>
   show (if x=10 then _ else _)=_
   erw[if_neg (λq=>hr (by erw[q];rfl)),rfl]
 .show cS (13::10::rest)=_
  conv=>lhs;unfold cS
  erw[if_pos rfl]
  show (if 10=10 then _ else _)=_
  erw[if_pos rfl,rfl]
theorem lJ(c:Nat)(l:List Nat):dl (c::l)=if c=46 then 46::46::l else c::l:=rfl
theorem fb(b:Bool)(c:Nat)(l:List Nat):eM b (c::l)=if b=true/\c=46 then 46::46::eM false l else c::eM (c==10) l:=by
 conv=>lhs;unfold eM
theorem M2:∀(a rest:List Nat),(∀c∈a,c≠10)->eM false (a++13::10::rest)=a++13::10::eM true rest
 |[],rest,_=>by
  show eM false (13::10::rest)=_
  erw[fb ..,if_neg ⋯,fb ..,if_neg ⋯];rfl
 |c::a,rest,h=>by
  have hc:=h c (.head _)
  erw[adS]
  conv=>lhs;unfold eM
  erw[if_neg (λq=>by cases q.1),(show (c==10)=false from beq_eq_false_iff_ne.mpr hc),M2 a rest λx hx=>h x (.tail _ hx)];rfl
theorem F1:∀(a:List Nat),(∀c∈a,c≠10)->eM false a=a
 |[],_=>rfl
 |c::a,h=>by
  have hc:=h c (.head _)
  erw[fb ..,if_neg (λq=>by cases q.1),(show (c==10)=false from beq_eq_false_iff_ne.mpr hc),F1 a λx hx=>h x (.tail _ hx),rfl]
theorem XR(a rest:List Nat)(h:∀c∈a,c≠10):eM true (a++13::10::rest)=dl a++13::10::eM true rest:=by
 cases a with
 |nil=>
  show eM true (13::10::rest)=_
  erw[fb ..,if_neg ⋯,fb ..,if_neg ⋯];rfl
 |cons c a=>
  have hc:=h c (.head _)
  have ha:=M2 a rest λx hx=>h x (.tail _ hx)
  erw[adS]
  conv=>lhs;unfold eM
  erw[lJ ..]
  by_cases DU:c=46
  .erw[if_pos ⟨rfl,DU⟩,if_pos DU,ha];rfl
  .erw[if_neg (λq=>DU q.2),if_neg DU,(show (c==10)=false from beq_eq_false_iff_ne.mpr hc),ha];rfl
theorem QL(a:List Nat)(h:∀c∈a,c≠10):eM true a=dl a:=by
 cases a with
 |nil=>rfl
 |cons c a=>
  have hc:=h c (.head _)
  have ha:=F1 a λx hx=>h x (.tail _ hx)
  erw[fb ..,lJ ..]
  by_cases DU:c=46
  .erw[if_pos ⟨rfl,DU⟩,if_pos DU,ha,rfl]
  .erw[if_neg (λq=>DU q.2),if_neg DU,(show (c==10)=false from beq_eq_false_iff_ne.mpr hc),ha,rfl]
theorem BX(h:c<173\/65279<c):dJ c=true:=by
 unfold dJ;erw[Xi h];rfl
noncomputable def Iq(c:Nat):Prop:=c≠10/\c≠13
theorem F2(k:Int):k6 (oq k):=by
 unfold oq k6
 split
 .exact .inl rfl
 .split
  .exact .inr (.inl rfl)
  .exact .inr (.inr rfl)
theorem QM(k:Int):jL k=[]\/k6 (jL k):=by
 unfold jL k6
 split
 .exact .inl rfl
 .split
  .exact .inr (.inl rfl)
  .split
   .exact .inr (.inr (.inl rfl))
   .exact .inr (.inr (.inr rfl))
theorem M3(k:Int):(jL k=[])↔k.fmod 4=0:=by
 unfold jL
 by_cases h:k.fmod 4=0
 .rw[if_pos h];simp[h]
 .erw[if_neg h]
  refine ⟨λq=>?_,λq=>absurd q h⟩
  split at q
  .cases q
  .split at q <;> cases q
structure agG (f:Nat):Prop where
 keep:dJ f=true
 ok:Iq f
theorem pN(d:Int):dJ (uS d)=false/\Iq (uS d)/\uS d≠46:=by
 have h:=Xj d
 have hb:(cG.all λi=>decide (173<=i))=true:=⋯
 have:=of_decide_eq_true (aaG.mp hb _ (ah2.mp h))
 refine ⟨by unfold dJ;erw[h];rfl,⟨%[cu (a=10),173>=(qC a)|(aG this)],%[cu (a=13),173>=(qC a)|(aG this)]⟩,%[cu (a=46),173>=(qC a)|(aG this)]⟩
theorem eI(YG:Option Nat)(b:Nat)(l:List Nat):fO YG (b::l)=if b/64%2=1 then fO (some (YG.getD 0*64+b%64)) l else (YG.getD 0*64+b%64)::fO none l:=rfl
theorem d64{y:Nat}(h:64<=y)(k:y<128):y/64%2=1:=congrArg (· % 2) (Nat.div_eq_of_lt_le (k:=1) h k)
theorem m64{y:Nat}(h:64<=y)(k:y<128):y%64=y-64:=(Nat.mod_eq_sub_mod h).trans (agC (Nat.sub_lt_left_of_lt_add h k))
theorem oz(h:b<64):fO none (b::l)=b::fO none l:=by
 erw[eI ..,if_neg (by erw[ah9 h];decide)]
 exact congrArg (· ::fO none l) ((aeD _).trans (agC h))
theorem BZ(n:Nat)(l:List Nat):fO none (aar n 46++l)=aar n 46++fO none l:=by
 induction n with
 |zero=>rfl
 |succ n ih=>erw[ahC,adS,oz ⋯,ih];rfl
theorem QN(h:64<=c/\c<128):fO none (c::13::l)=(13+64*(c-64))::fO none l:=by
 erw[eI ..,if_pos (d64 h.1 h.2),eI ..,if_neg ⋯]
 show ((0*64+c%64)*64+13%64)::_=_
 refine rwG (m64 h.1 h.2) (congrArg (· ::fO none l) ?_)
 exact (congrArg (λx=>x*64+13) (aeD (c-64))).trans ((aeU ..).trans (congrArg (13+·) (ad2 ..)))
theorem F3(b:Nat)(l:List Nat):fO none (b::46::l)=dz b++fO none l:=by
 unfold dz
 rw[eI]
 by_cases h:b/64%2=1
 . (rw[if_pos h];rw[if_pos h];erw[eI ..,if_neg ⋯])
   show ((0*64+b%64)*64+46%64)::_=(b%64*64+46)::_
   erw[aeD (b%64),rfl]
 .erw[if_neg h,if_neg h]
  show (0*64+b%64)::fO none (46::l)=(b%64)::46::fO none l
  erw[oz ⋯,(show 0*64+b%64=b%64 by exact %[0*64+a=a|aG]),rfl]
theorem B3(h:c=46\/c=13\/c=10):dy c=c:=by unfold dy;erw[FK h];rfl
theorem oA:∀(n:Nat) (l:List Nat),l.length<=n->(cS l).length<=2*l.length
 |_,[],_=>ae7 _
 |0,c::l,h=>absurd h (by simp)
 |n+1,c::l,h=>by
  have h:l.length<=n:=by simpa using h
  have ih:=oA n l h
  conv=>lhs;unfold cS
  by_cases h1:c=13
  .erw[if_pos h1]
   cases l with
   |nil=>exact adJ 2
   |cons e r=>
    show (if e=10 then _ else _:List Nat).length<=_
    have hr:=oA n r (by have:(e::r).length=r.length+1:=rfl;exact %[a<=b,c<=b,c=a+1|bJ h this])
    have e1:(e::r).length=r.length+1:=rfl
    have e2:(c::e::r).length=r.length+2:=rfl
    by_cases h2:e=10
    .erw[if_pos h2];show (cS r).length+1+1<=_;exact %[a+1<2*b,a<=2*c,b=c+2|bJ hr e2]
    .erw[if_neg h2];show (cS (e::r)).length+1+1<=_;exact %[a+1<2*b,a<=2*c,c=d+1,b=d+2|d4 ih e1 e2]
  .erw[if_neg h1]
   by_cases h2:c=10
   .erw[if_pos h2];show (cS l).length+1+1<=2*(l.length+1);exact %[a+1<2*(b+1),a<=2*b|aP ih]
   .erw[if_neg h2];show (cS l).length+1<=2*(l.length+1);exact %[a<2*(b+1),a<=2*b|aP ih]
theorem vd:∀(b:Bool) (l:List Nat),(eM b l).length<=2*l.length
 |b,[]=>by unfold eM;exact ae7 _
 |b,c::l=>by
  erw[fb ..]
  split
  .have:=vd false l;show (eM false l).length+1+1<=2*(l.length+1);exact %[a+1<2*(b+1),a<=2*b|aP this]
  .have:=vd (c==10) l;show (eM (c==10) l).length+1<=2*(l.length+1);exact %[a<2*(b+1),a<=2*b|aP this]
noncomputable def Cq(r:List (List Nat×List Nat)):List Nat:=(r.map λp=>p.1++p.2).flatten
noncomputable def HY:List (List Nat×List Nat)->Prop
 |[]=>True
 |(a,e)::r=>(∀c∈a,Iq c)/\(e=[]/\r=[]\/k6 e)/\(Cq r).head?≠some 10/\HY r
noncomputable def sR(r:List (List Nat×List Nat)):List (List Nat×List Nat):=r.map λp=>(dl p.1,if p.2=[] then [] else dL)
noncomputable def XS(t:List Nat):List Nat:=eM true (cS t)
theorem dC(a e:List Nat)(r:List (List Nat×List Nat)):Cq ((a,e)::r)=a++(e++Cq r):=by
 show (a++e)++_=_
 erw[aaI ..];rfl
theorem ve:∀r:List (List Nat×List Nat),HY r->XS (Cq r)=Cq (sR r)
 |[],_=>rfl
 |(a,e)::r,h=>by
  obtain ⟨ha,he,hh,hr⟩:=h
  have YJ:∀c∈a,c≠10:=λc hc=>(ha c hc).1
  have e0:sR ((a,e)::r)=(dl a,if e=[] then [] else dL)::sR r:=rfl
  rw[e0,dC,dC]
  unfold XS
  rcases he with ⟨he,XT⟩ | he
  .subst he;subst XT
   rw[if_pos rfl]
   show eM true (cS (a++[]))=dl a++[]
   have:=pM a [] ha
   rw[this]
   show eM true (a++[])=_
   rw[abW,abW,QL a YJ]
  .have cW:e≠[]:=by rcases he with h|h|h <;> rw[h] <;> simp
   rw[if_neg cW,pM a _ ha,M1 he hh,XR a _ YJ]
   have:=ve r hr
   unfold XS at this
   rw[this];rfl
theorem M4:k6 dL:=.inr (.inr rfl)
theorem ac8(h:∀c∈a,Iq c):∀c∈dl a,Iq c:=λc hc=>by
 cases a with
 |nil=>exact h c hc
 |cons x a=>
  rw[lJ]at hc
  split at hc
  .cases hc with
   |head=>exact ⟨⋯,⋯⟩
   |tail _ hc=>cases hc with
    |head=>exact ⟨⋯,⋯⟩
    |tail _ hc=>exact h c (.tail _ hc)
  .exact h c hc
theorem QO:∀r:List (List Nat×List Nat),HY r->(Cq (sR r)).head?≠some 10
 |[],_=>⋯
 |(a,e)::r,h=>by
  obtain ⟨ha,he,hh,hr⟩:=h
  have e0:sR ((a,e)::r)=(dl a,if e=[] then [] else dL)::sR r:=rfl
  erw[e0,dC ..]
  cases a with
  |nil=>
   show ((if e=[] then [] else dL)++Cq (sR r)).head?≠_
   split
   .rename_i q
    rcases he with ⟨_,XT⟩ | he
    .subst XT;decide
    .rcases he with h|h|h <;> rw[h]at q <;> cases q
   .show some 13≠some 10
    decide
  |cons x a=>
   have hx:=(ha x (.head _)).1
   erw[lJ ..]
   split
   .show some 46≠some 10
    decide
   .show some x≠some 10
    intro q;exact hx (aac q)
theorem M5:∀r:List (List Nat×List Nat),HY r->HY (sR r)
 |[],_=>trivial
 |(a,e)::r,h=>by
  obtain ⟨ha,he,hh,hr⟩:=h
  refine ⟨ac8 ha,?_,QO r hr,M5 r hr⟩
  rcases he with ⟨he,XT⟩ | he
  .exact .inl ⟨if_pos he,by erw[XT];rfl⟩
  .exact .inr (by erw[if_neg (by rcases he with h|h|h <;> rw[h] <;> simp)];exact M4)
noncomputable def QP(R:Nat->Nat->List Nat)(n b k:Nat)(E:Nat->List Nat)(e1 e2 e3:List Nat):List (List Nat×List Nat):=
 (aai n).map (λp=>(R k p,E p))++[([],e1),(aar (1+k) 46,e2),([b,46],e3)]
noncomputable def rR(sl ls:List Nat)(f dr en k p:Nat):List Nat:=rJ (sl.getD (a0 sl f p) 0+k) (decide ((dr+a0 sl f p)%2=0)) (uS ((en+a0 sl f p:Nat):Int)) (frm (ls.getD (a0 sl f p) 0) ((dr+5*a0 sl f p:Nat):Int))
theorem F4(a b:List (List Nat×List Nat)):Cq (a++b)=Cq a++Cq b:=by
 unfold Cq
 (rw[acf];erw[alM,rfl])
theorem M6(sl ls:List Nat)(f dr en:Nat):iY sl ls f dr en=Cq (QP (rR sl ls f dr en) sl.length (eF (en:Int)) 0 (λp=>oq ((en+p:Nat):Int)) [13] [10] (jL ((en/16:Nat):Int))):=by
 skip
 erw[F4 ..]
 skip
 have key:∀{a b c d:List Nat},a=b->c=d->a++c=b++d:=λh1 h2=>by (erw[h1,h2,rfl])
 refine key ?_ ?_
 .show _=(((aai sl.length).map λp=>(rR sl ls f dr en 0 p,oq ((en+p:Nat):Int))).map λp=>p.1++p.2).flatten
  erw[abH];rfl
 .erw[dC ..,dC ..,dC ..]
  show _=[]++([13]++(aar 1 46++([10]++([eF (en:Int),46]++(jL _++[])))))
  erw[abW ..];rfl
theorem M7(n:Nat)(r:List Nat):dl (aar (n+1) 46++r)=aar (n+1+1) 46++r:=by
 erw[ahC,adS,lJ ..,if_pos rfl];rfl
theorem QQ(h:1<=n):dl (rJ n b x y)=rJ (n+1) b x y:=by
 obtain ⟨m,rfl⟩ :∃m,n=m+1:=⟨n-1,%[a=b+1,1<=a,qD 0 b a (1)|(aP h rfl)]⟩
 exact M7 m _
theorem M8{R:Nat->Nat->List Nat}{n b k:Nat}{E:Nat->List Nat}{e1 e2 e3:List Nat}(hR:∀p,p<n->dl (R k p)=R (k+1) p)(hb:b≠46)(hE:∀p,E p≠[])(h1:e1≠[])(h2:e2≠[]):
 sR (QP R n b k E e1 e2 e3)=QP R n b (k+1) (λ_=>dL) dL dL (if e3=[] then [] else dL):=by
 unfold QP sR
 (rw[acf];erw[abH])
 congr 1
 .refine abG λp hp=>?_
  show (dl (R k p),if E p=[] then [] else dL)=_
  erw[hR p (abd.mp hp),if_neg (hE p),rfl]
 .have e0:dl (aar (1+k) 46)=aar (1+(k+1)) 46:=by
   have:=M7 k []
   rw[abW,abW]at this
   erw[aeU 1 k,this,aeU 1 (k+1),rfl]
  have e4:dl [b,46]=[b,46]:=by (erw[lJ ..,if_neg hb,rfl])
  show [(dl [],if e1=[] then [] else dL),(dl (aar (1+k) 46),if e2=[] then [] else dL),(dl [b,46],if e3=[] then [] else dL)]=_
  erw[if_neg h1,if_neg h2,e0,e4];rfl
theorem F5{t:List (List Nat×List Nat)}(ht:HY t)(hh:(Cq t).head?≠some 10):∀l:List (List Nat×List Nat),(∀p∈l,(∀c∈p.1,Iq c)/\k6 p.2/\p.1≠[])->HY (l++t)/\(Cq (l++t)).head?≠some 10
 |[],_=>⟨ht,hh⟩
 |(a,e)::l,h=>by
  have ih:=F5 ht hh l λp hp=>h p (.tail _ hp)
  have h0:=h (a,e) (.head _)
  refine ⟨⟨h0.1,.inr h0.2.1,ih.2,ih.1⟩,?_⟩
  show (Cq ((a,e)::(l++t))).head?≠some 10
  erw[dC ..]
  cases a with
  |nil=>exact absurd rfl h0.2.2
  |cons x a=>
   show some x≠some 10
   intro q
   exact (h0.1 x (.head _)).1 (aac q)
theorem M9:Iq 46:=⟨⋯,⋯⟩
theorem XU{R:Nat->Nat->List Nat}{n b:Nat}{E:Nat->List Nat}{e1 e2 e3:List Nat}(hR:∀p,p<n->(∀c∈R 0 p,Iq c)/\R 0 p≠[])(hE:∀p,k6 (E p))(h1:e1=[13])(h2:k6 e2)(h3:e3=[]\/k6 e3)(hb:Iq b):HY (QP R n b 0 E e1 e2 e3):=by
 have t3:HY [([b,46],e3)]:=by
  refine ⟨λc hc=>?_,?_,⋯,trivial⟩
  .cases hc with
   |head=>exact hb
   |tail _ hc=>cases hc with
    |head=>exact M9
    |tail _ hc=>cases hc
  .rcases h3 with h|h
   .exact .inl ⟨h,rfl⟩
   .exact .inr h
 have t2:HY [(aar (1+0) 46,e2),([b,46],e3)]:=by
  refine ⟨λc hc=>?_,.inr h2,?_,t3⟩
  .erw[(ahL.mp hc).2];exact M9
  .show some b≠some 10
   intro q;exact hb.1 (aac q)
 have t1:HY [([],e1),(aar (1+0) 46,e2),([b,46],e3)]:=by
  refine ⟨λc hc=>(by cases hc),.inr (h1▸.inr (.inl rfl)),?_,t2⟩
  show some 46≠some 10
  decide
 refine (F5 t1 ?_ _ λp hp=>?_).1
 .erw[dC ..,h1]
  show some 13≠some 10
  decide
 . (refine bz (ac2.mp hp) λx hx cc=>?_;obtain rfl:=cc)
   have:=hR x (abd.mp hx)
   exact ⟨this.1,hE x,this.2⟩
theorem fI(a b:List Nat):df (a++b)=df a++df b:=by
 unfold df
 (rw[List.filter_append];erw[acf,rfl])
theorem xa:∀l:List (List Nat),df l.flatten=(l.map df).flatten
 |[]=>rfl
 |x::l=>by (erw[aey,fI ..,xa l]);rfl
theorem pO{a:List Nat}(h:∀c∈a,dJ c=true/\dy c=c):df a=a:=by
 unfold df
 rw[List.filter_eq_self.mpr λc hc=>(h c hc).1]
 conv=>rhs;rw[<-ake a]
 exact abG λc hc=>(h c hc).2
theorem y5(h:c=46\/c=13\/c=10):dJ c=true/\dy c=c:=⟨BX %[cz (a<173) (65279<a),cz (a=46) (cz (a=13) (a=10))|(aG h)],B3 h⟩
theorem B4(n:Nat):df (aar n 46)=aar n 46:=pO λc hc=>by erw[(ahL.mp hc).2];exact y5 (.inl rfl)
theorem y6:df dL=dL:=pO λc hc=>y5 (by simp at hc;exact %[cz (a=46) (cz (a=13) (a=10)),cz (a=13) (a=10)|aG hc])
theorem xc(d:Int):dy (eF d)=eF d:=by unfold dy;erw[BD ..];rfl
theorem Nb(d:Int):dJ (eF d)=true:=by unfold dJ;erw[Xk ..];rfl
theorem Nc(d:Int):df [eF d,46]=[eF d,46]:=pO λc hc=>by
 cases hc with
 |head=>exact ⟨Nb d,xc d⟩
 |tail _ hc=>cases hc with
  |head=>exact y5 (.inl rfl)
  |tail _ hc=>cases hc
theorem s5(h:97<=c/\c<=122):∃k,k<26/\c=97+k:=⟨c-97,%[a<26,aU (97<=b) (b<=122),qD 0 a b (97)|(aP h rfl)],%[a=97+b,aU (97<=a) (a<=122),qD 0 b a (97)|(aP h rfl)]⟩
theorem Nf(h:97<=c/\c<=122)(d:Int):dJ (frm c d)=true:=by
 obtain ⟨k,hk,rfl⟩:=s5 h
 have:=wV hk d
 exact BX %[cz (a<173) (65279<a),cz (aU (a<173) (65<=a)) (65279<a)|(aG this)]
theorem vf(h:97<=c/\c<=122)(d:Int):dy (frm c d)=c:=by
 obtain ⟨k,hk,rfl⟩:=s5 h
 unfold dy
 rw[BA hk];rfl
theorem QR(h:97<=c/\c<=122)(d:Int):Iq (frm c d):=by
 obtain ⟨k,hk,rfl⟩:=s5 h
 have:=wV hk d
 exact ⟨%[cu (a=10),cz (aU (a<173) (65<=a)) (65279<a)|(aG this)],%[cu (a=13),cz (aU (a<173) (65<=a)) (65279<a)|(aG this)]⟩
theorem y7(d:Int):Iq (eF d)/\eF d≠46:=by
 have hr:=bx d (m:=16) ⋯
 have h1:=eE (l:=cJ) (p:=λi=>decide (100<=i)) ⋯ hr.1 hr.2
 have h1:=of_decide_eq_true h1
 have e:((eF d:Nat):Int)=DJ cJ (d.fmod 16):=aeM (by show 0<=DJ cJ (d.fmod 16);exact %[0>=a,100>=a|fK h1])
 refine ⟨⟨?_,?_⟩,?_⟩ <;> (first|exact %[cu (a=10),100>=a,(qC a)==a|N9 h1 e]|exact %[cu (a=13),100>=a,(qC a)==a|N9 h1 e]|exact %[cu (a=46),100>=a,(qC a)==a|N9 h1 e])
theorem Ng(h:97<=c/\c<=122){n:Nat}{b:Bool}{d e:Int}:df (rJ n b (uS d) (frm c e))=aar n 46++[c]:=by
 skip
 erw[fI ..,B4 ..]
 congr 1
 have hk:=(pN d).1
 have hf:=Nf h e
 skip
 cases b
 .show ([frm c e,uS d].filter dJ).map dy=_
  erw[aga,if_pos hf,aga,if_neg (by rw[hk];decide)]
  show [dy (frm c e)]=_
  erw[vf h ..,rfl]
 .show ([uS d,frm c e].filter dJ).map dy=_
  erw[aga,if_neg (by rw[hk];decide),aga,if_pos hf]
  show [dy (frm c e)]=_
  erw[vf h ..,rfl]
noncomputable def vg(c:Nat):Prop:=dJ c=true->iT (iw c)=iw (dy c)
theorem s6(h:c=46\/c=13\/c=10):vg c:=λ_=>by (erw[FK h,B3 h,rfl])
theorem Nh(d:Int):vg (eF d):=λ_=>by (erw[BD ..,xc ..,rfl])
theorem Ni(h:97<=c/\c<=122)(d:Int):vg (frm c d):=λ_=>by
 erw[vf h ..]
 (refine bz (s5 h) λk hk cc=>?_;obtain rfl:=cc)
 exact BA hk d
theorem Nj(d:Int):vg (uS d):=λq=>by rw[(pN d).1]at q;cases q
theorem B5(hx:x∈rJ n b h c):x=46\/x=h\/x=c:=by
 unfold rJ XJ at hx
 rcases abQ.mp hx with hx|hx
 .exact .inl (ahL.mp hx).2
 .cases b
  .simp at hx;exact %[cz (a=46) (cz (a=b) (a=c)),cz (a=c) (a=b)|bJ hx]
  .simp at hx;exact %[cz (a=46) (cz (a=b) (a=c)),cz (a=b) (a=c)|bJ hx]
section
noncomputable def oH(en:Nat):List Nat:=if jL ((en/16:Nat):Int)=[] then [] else dL
noncomputable def HZ(sl ls:List Nat)(f dr en k:Nat):List (List Nat×List Nat):=QP (rR sl ls f dr en) sl.length (eF (en:Int)) k (λ_=>dL) dL dL (oH en)
noncomputable def gM(sl ls:List Nat)(f dr en k:Nat):List Nat:=Cq (HZ sl ls f dr en k)
section
variable{sl ls:List Nat}{f dr en:Nat}
theorem y8(H:fH sl ls)(p:Nat):a0 sl f p<sl.length:=adC _ (by have:=H.n0;exact %[0<a,1<=a|aG this])
theorem k7(H:fH sl ls)(p:Nat):97<=ls.getD (a0 sl f p) 0/\ls.getD (a0 sl f p) 0<=122:=H.cs _ (ru (Nat.lt_of_lt_of_eq (y8 (f:=f) H p) H.MZ.symm))
theorem y9(H:fH sl ls)(p:Nat):1<=sl.getD (a0 sl f p) 0/\sl.getD (a0 sl f p) 0<=100:=H.ds _ (ru (y8 H p))
theorem Uc(H:fH sl ls)(k p:Nat):dl (rR sl ls f dr en k p)=rR sl ls f dr en (k+1) p:=QQ (by have:=(y9 (f:=f) H p).1;exact %[1<=a+b,1<=a|aP this])
theorem ac9(H:fH sl ls)(k p:Nat):(∀c∈rR sl ls f dr en k p,Iq c)/\rR sl ls f dr en k p≠[]:=by
 refine ⟨λc hc=>?_,λq=>?_⟩
 .rcases B5 hc with rfl|rfl|rfl
  .exact M9
  .exact (pN _).2.1
  .exact QR (k7 H p) _
 .have:=congrArg ag9 q
  unfold rR at this
  rw[kZ]at this
  cases this
theorem QS(k:Int):oq k≠[]:=by rcases F2 k with h|h|h <;> erw[h] <;> simp
theorem Nk:dL≠[]:=by simp
theorem Ud(H:fH sl ls):sR (QP (rR sl ls f dr en) sl.length (eF (en:Int)) 0 (λp=>oq ((en+p:Nat):Int)) [13] [10] (jL ((en/16:Nat):Int)))=HZ sl ls f dr en 1:=
 M8 (λp _=>Uc H 0 p) (y7 _).2 (λp=>QS _) ⋯ ⋯
theorem ok0(H:fH sl ls):HY (QP (rR sl ls f dr en) sl.length (eF (en:Int)) 0 (λp=>oq ((en+p:Nat):Int)) [13] [10] (jL ((en/16:Nat):Int))):=
 XU (λp _=>ac9 H 0 p) (λp=>F2 _) rfl (.inl rfl) (QM _) (y7 _).1
theorem Ue(H:fH sl ls)(k:Nat):sR (HZ sl ls f dr en k)=HZ sl ls f dr en (k+1):=by
 skip
 erw[M8 (λp _=>Uc H k p) (y7 _).2 (λp=>Nk) Nk Nk]
 congr 1
 unfold oH
 by_cases h:jL ((en/16:Nat):Int)=[]
 .rw[if_pos h];rfl
 .erw[if_neg h];rfl
theorem okK(H:fH sl ls):∀k,HY (HZ sl ls f dr en (k+1))
 |0=>Ud (dr:=dr) (en:=en) (f:=f) H▸M5 _ (ok0 H)
 |k+1=>Ue (dr:=dr) (en:=en) (f:=f) H (k+1)▸M5 _ (okK H k)
theorem B6(H:fH sl ls):XS (iY sl ls f dr en)=gM sl ls f dr en 1:=by
 erw[M6 ..,ve _ (ok0 H),Ud H];rfl
theorem B7(H:fH sl ls)(k:Nat):XS (gM sl ls f dr en (k+1))=gM sl ls f dr en (k+2):=by
 skip
 erw[ve _ (okK H k),Ue H ..,rfl]
noncomputable def oB(sl ls:List Nat)(f en k:Nat):List Nat:=
 ((aai sl.length).map λp=>aar (sl.getD (a0 sl f p) 0+k) 46++([ls.getD (a0 sl f p) 0]++dL)).flatten++(dL++(aar (1+k) 46++(dL++([eF (en:Int),46]++oH en))))
theorem QT:df (oH en)=oH en:=by
 unfold oH
 split
 .rfl
 .exact y6
theorem B8(k:Nat):gM sl ls f dr en k=((aai sl.length).map λp=>rR sl ls f dr en k p++dL).flatten++(dL++(aar (1+k) 46++(dL++([eF (en:Int),46]++oH en)))):=by
 unfold gM HZ QP
 (rw[F4];erw[dC ..,dC ..,dC ..])
 have key:∀{a b c d:List Nat},a=b->c=d->a++c=b++d:=λh1 h2=>by (erw[h1,h2,rfl])
 refine key ?_ ?_
 .show (((aai sl.length).map λp=>(rR sl ls f dr en k p,dL)).map λp=>p.1++p.2).flatten=_
  erw[abH];rfl
 .show []++(dL++(_++(dL++(_++(oH en++[])))))=_
  erw[abW ..];rfl
theorem H0(H:fH sl ls)(k:Nat):df (gM sl ls f dr en k)=oB sl ls f en k:=by
 erw[B8 ..,fI ..,fI ..,fI ..,fI ..,fI ..,y6,B4 ..,Nc ..,QT,xa ..,abH]
 skip
 congr 2
 refine abG λp _=>?_
 show df (rR sl ls f dr en k p++dL)=_
 erw[fI ..,y6]
 skip
 erw[Ng (k7 H p),aaI ..,rfl]
theorem H1(H:fH sl ls)(k:Nat):∀c∈gM sl ls f dr en k,vg c:=by
 have hn:∀c∈dL,vg c:=λc hc=>s6 (by simp at hc;exact %[cz (a=46) (cz (a=13) (a=10)),cz (a=13) (a=10)|aG hc])
 intro c hc
 rw[B8]at hc
 rcases abQ.mp hc with hc|hc
 .obtain ⟨l,hl,hc⟩:=List.mem_flatten.mp hc
  obtain ⟨p,_,rfl⟩:=ac2.mp hl
  rcases abQ.mp hc with hc|hc
  .rcases B5 hc with rfl|rfl|rfl
   .exact s6 (.inl rfl)
   .exact Nj _
   .exact Ni (k7 H p) _
  .exact hn c hc
 rcases abQ.mp hc with hc|hc
 .exact hn c hc
 rcases abQ.mp hc with hc|hc
 .rw[(ahL.mp hc).2];exact s6 (.inl rfl)
 rcases abQ.mp hc with hc|hc
 .exact hn c hc
 rcases abQ.mp hc with hc|hc
 .cases hc with
  |head=>exact Nh _
  |tail _ hc=>cases hc with
   |head=>exact s6 (.inl rfl)
   |tail _ hc=>cases hc
 .unfold oH at hc
  split at hc
  .cases hc
  .exact hn c hc
end
theorem XV(en:Nat):fO none (oH en)=oH en:=by
 unfold oH
 split
 .rfl
 .rfl
noncomputable def F6(sl ls:List Nat)(f en k:Nat):List Nat:=
 ((aai sl.length).map λp=>aar (sl.getD (a0 sl f p) 0+k) 46++[13+64*(ls.getD (a0 sl f p) 0-64),10]).flatten++(dL++(aar (1+k) 46++(dL++(dz (eF (en:Int))++oH en))))
theorem H2{sl ls:List Nat}{f en k:Nat}(H:fH sl ls):fO none (oB sl ls f en k)=F6 sl ls f en k:=by
 have hnl:∀l,fO none (dL++l)=dL++fO none l:=λl=>by
  show fO none (13::10::l)=_
  erw[oz ⋯,oz ⋯];rfl
 unfold oB F6
 have tail:fO none (dL++(aar (1+k) 46++(dL++([eF (en:Int),46]++oH en))))=dL++(aar (1+k) 46++(dL++(dz (eF (en:Int))++oH en))):=by
  rw[hnl,BZ,hnl]
  show _++(_++(_++fO none (eF (en:Int)::46::oH en)))=_
  rw[F3,XV]
 generalize dL++(aar (1+k) 46++(dL++([eF (en:Int),46]++oH en)))=T at *
 generalize dL++(aar (1+k) 46++(dL++(dz (eF (en:Int))++oH en)))=T' at *
 induction aai sl.length with
 |nil=>exact tail
 |cons p l ih=>
  have hc:=k7 (f:=f) H p
  erw[aa6,aey,aa6,aey]
  have e:∀X,fO none ((aar (sl.getD (a0 sl f p) 0+k) 46++([ls.getD (a0 sl f p) 0]++dL))++X)=(aar (sl.getD (a0 sl f p) 0+k) 46++[13+64*(ls.getD (a0 sl f p) 0-64),10])++fO none X:=λX=>by
   erw[aaI ..,BZ ..,aaI ..]
   show _++fO none (ls.getD (a0 sl f p) 0::13::10::X)=_
   erw[QN %[aU (64<=a) (a<128),aU (97<=a) (a<=122)|(aG hc)],oz ⋯,aaI ..];rfl
  erw[aaI _ _ T,e ..,ih,aaI _ _ T',rfl]
theorem Nm(m k:Nat)(l:List Nat):cP k (aar m 46++l)=cP (k+m) l:=by
 induction m generalizing k with
 |zero=>rfl
 |succ m ih=>
  erw[ahC,adS]
  show (if 46=46 then cP (k+1) (aar m 46++l) else _)=_
  erw[if_pos rfl,ih ..]
  congr 1;exact %[a+1+b=a+(b+1)|aP]
theorem vh:∀(l:List Nat) (k:Nat),(∀n∈l,n=46\/¬(63<n/\n%64=13))->cP k l=[]
 |[],_,_=>rfl
 |n::l,k,h=>by
  show (if n=46 then cP (k+1) l else if 63<n/\n%64=13 then (n/64,k)::cP 0 l else cP k l)=[]
  have h':=λk=>vh l k λy hy=>h y (.tail _ hy)
  rcases h n (.head _) with q|q
  .erw[if_pos q];exact h' _
  .erw[if_neg q]
   split <;> exact h' _
theorem H3(h:1<=x)(l:List Nat):cP k ((13+64*x)::10::l)=(x,k)::cP 0 l:=by
 show (if 13+64*x=46 then _ else if 63<13+64*x/\(13+64*x)%64=13 then ((13+64*x)/64,k)::cP 0 (10::l) else _)=_
 erw[if_neg %[cu (13+64*a=46),1<=a|(aG h)],if_pos ⟨aaO (by decide:63<13+64*1) (al5 (aeL 64 h) 13),aiD 13 64 x⟩,(show (13+64*x)/64=x by exact %[a=b,qD 1 a (13+64*b) (64)|aP rfl])]
 rfl
theorem H4{sl ls:List Nat}{f en k:Nat}(H:fH sl ls):cP 0 (F6 sl ls f en k)=(aai sl.length).map λp=>(ls.getD (a0 sl f p) 0-64,sl.getD (a0 sl f p) 0+k):=by
 unfold F6
 have tail:cP 0 (dL++(aar (1+k) 46++(dL++(dz (eF (en:Int))++oH en))))=[]:=by
  refine vh _ _ λn hn=>?_
  have hl:∀n∈dL,n=46\/¬(63<n/\n%64=13):=λn hn=>by simp at hn;exact %[cz (a=46) (cu (aU (63<a) (b=13))),cz (a=13) (a=10)|aP hn]
  rcases abQ.mp hn with hn|hn
  .exact hl n hn
  rcases abQ.mp hn with hn|hn
  .exact .inl (ahL.mp hn).2
  rcases abQ.mp hn with hn|hn
  .exact hl n hn
  rcases abQ.mp hn with hn|hn
  .unfold dz at hn
   split at hn
   .simp at hn
    exact .inr λq=>by have e:=q.2;rw[hn,aeU,Nat.add_mul_mod_self_right]at e;exact absurd e ⋯
   .simp at hn;exact %[cz (a=46) (cu (aU (63<a) (b=13))),cz (a=c) (a=46),qD 2 c d (64)|d4 hn rfl]
  .unfold oH at hn
   split at hn
   .cases hn
   .exact hl n hn
 generalize dL++(aar (1+k) 46++(dL++(dz (eF (en:Int))++oH en)))=T at *
 induction aai sl.length with
 |nil=>exact tail
 |cons p l ih=>
  have hc:=k7 (f:=f) H p
  erw[aa6,aey,aa6,aaI ..]
  have e:∀X,cP 0 ((aar (sl.getD (a0 sl f p) 0+k) 46++[13+64*(ls.getD (a0 sl f p) 0-64),10])++X)=(ls.getD (a0 sl f p) 0-64,sl.getD (a0 sl f p) 0+k)::cP 0 X:=λX=>by
   erw[aaI ..,Nm ..,aeD ..]
   exact H3 %[1<=a,aU (97<=b) (b<=122),qD 0 a b (64)|(aP hc rfl)] X
  erw[e ..,ih,rfl]
end
theorem DV{α:Type}{c c':Nat->Nat->Option Bool}(h:∀i j,c i j=c' i j):∀t:KasT α,tD c t=tD c' t:=λt=>by
 have:c=c':=funext λi=>funext λj=>h i j
 erw[this,rfl]
noncomputable def QU(n f:Nat):List (Nat×Nat):=(aai n).map λp=>((f+p)%n,0)
noncomputable def F7(n f:Nat):Bool:=match tD (kA ((QU n f).map cI)) (ai0 n) with
 |some p=>p.toList==(aai n).map λi=>(i+n-f)%n
 |none=>false
theorem agJ:((aai 5).all λf=>F7 5 f)=true:=∅
theorem agK:((aai 7).all λf=>F7 7 f)=true:=∅
theorem QV{n f x:Nat}{g:Nat->Nat}(i j:Nat):kA (((aai n).map λp=>(x+(f+p)%n,g ((f+p)%n))).map cI) i j=kA ((QU n f).map cI) i j:=by
 have a:∀(h:Nat->Nat×Nat) (i:Nat),(((aai n).map h).map cI)[i]?=if i<n then some (cI (h i)) else none:=λh i=>by
  erw[adR,adR]
  by_cases hi:i<n
  .erw[af5 hi,if_pos hi];rfl
  .erw[List.getElem?_eq_none (by rw[aa0];exact %[a<=b,cu (b<a)|aP hi]),if_neg hi];rfl
 unfold kA QU
 (rw[a];erw[a ..,a ..,a ..])
 by_cases hi:i<n
 .by_cases hj:j<n
  .erw[if_pos hi,if_pos hj,if_pos hi,if_pos hj]
   show (if ((x+(f+i)%n:Nat):Int)=((x+(f+j)%n:Nat):Int) then none else some (decide (((x+(f+i)%n:Nat):Int)<((x+(f+j)%n:Nat):Int))))=(if (((f+i)%n:Nat):Int)=(((f+j)%n:Nat):Int) then none else some (decide ((((f+i)%n:Nat):Int)<(((f+j)%n:Nat):Int))))
   generalize (f+i)%n=u
   generalize (f+j)%n=v
   by_cases huv:u=v
   .subst huv
    erw[if_pos rfl,if_pos rfl,rfl]
   .erw[if_neg %[cu ((qC (a+b))==(qC (a+c))),cu (b=c)|(bJ huv)],if_neg %[cu ((qC a)==(qC b)),cu (a=b)|(aP huv)]]
    congr 1
    exact decide_eq_decide.mpr (ag1.trans (Nat.add_lt_add_iff_left.trans ag1.symm))
  .erw[if_neg hj,if_neg hj,if_pos hi,if_pos hi];rfl
 .erw[if_neg hi,if_neg hi];rfl
theorem QW{n f:Nat}(hn:n=5\/n=7)(hf:f<n):F7 n f=true:=by
 rcases hn with rfl|rfl
 .exact aaG.mp agJ f (abd.mpr hf)
 .exact aaG.mp agK f (abd.mpr hf)
theorem QX{n f x:Nat}{g:Nat->Nat}(hn:n=5\/n=7)(hf:f<n):HU ((aai n).map λp=>(x+(f+p)%n,g ((f+p)%n)))=some ((aai n).map λi=>(x+i,g i)):=by
 have hl:((aai n).map λp=>(x+(f+p)%n,g ((f+p)%n))).length=n:=by (erw[aan ..,aa0,rfl])
 have hr:=QW hn hf
 unfold F7 at hr
 unfold HU
 rw[if_pos (by rw[hl];exact %[aU (2<=a) (a<64),cz (a=5) (a=7)|aG hn]),hl,DV QV]
 generalize tD (kA ((QU n f).map cI)) (ai0 n)=o at *
 cases o with
 |none=>cases hr
 |some p=>
  have hp:p.toList=(aai n).map λi=>(i+n-f)%n:=eq_of_beq hr
  erw[aa5 ..,hp]
  have bA:∀i,(i+n-f)%n<n:=λi=>adC _ %[0<a,b<a|(aP hf)]
  rw[if_pos (aaG.mpr λi hi=>by
   (refine bz (ac2.mp hi) λj _ cc=>?_;obtain rfl:=cc)
   exact decide_eq_true (bA j)),abH]
  congr 1
  refine abG λi hi=>?_
  have hi:=abd.mp hi
  have e:(f+(i+n-f)%n)%n=i:=(Nat.add_mod_mod ..).trans (rwG (Nat.add_sub_of_le (abq (afo hf) (ai8 n i))) ((Nat.add_mod_right ..).trans (agC hi)))
  show ((aai n).map λp=>(x+(f+p)%n,g ((f+p)%n))).getD ((i+n-f)%n) (0,0)=_
  erw[aix,adR,af5 (bA i)]
  show (x+(f+(i+n-f)%n)%n,g ((f+(i+n-f)%n)%n))=_
  erw[e,rfl]
noncomputable def bE(s m t:Nat):Nat:=m+s*(1+t)
noncomputable def ct(s mk:Nat):List Nat:=(aai s).filter λn=>mk/2^n%2==1
noncomputable def iy(s m t o:Nat):List Nat:=(bf s m s o).map (· +t)
noncomputable def lK(s m t o:Nat):Bool:=(bf s m s o).length==s&&((bf s m s o).all (λx=>decide (1<=x/\x<=2))&&((iy s m t o).sum==bE s m t&&
 (aai s).all λn=>(bE s m t*n+o)/s+((bf s m s o).getD n 0+t)==(bE s m t*(n+1)+o)/s))
noncomputable def F8(s mk:Nat):List Nat:=(ct s mk).map λn=>6*(s-1-n)%11
noncomputable def xN(s mk:Nat):Nat:=32*((ct s mk).map λn=>64^(s-n)).sum
noncomputable def YK(s mk:Nat):Nat:=(F8 s mk).foldl max 0
noncomputable def B9(s mk:Nat):List Nat:=(aai (1+YK s mk)).map λb=>if (F8 s mk).contains b then 1 else 0
noncomputable def za(s mk:Nat):Bool:=(nv (F8 s mk)).max?==some (YK s mk:Int)&&(dg 1 (xN s mk%2047) (aae ((xN s mk%2047:Nat):Int))==B9 s mk&&decide (YK s mk<=10))
noncomputable def XW(s mk:Nat):Bool:=(ct s mk).all (λc=>decide (c<s))&&(Nat.blt 0 (ct s mk).length&&(decide ((ct s mk).length<=s)&&(aai (ct s mk).length).all λj=>decide ((ct s mk).getD j 0<=eH s (ct s mk) j)))
noncomputable def lR(T s n:Nat):Nat:=(s-T*n%s)%s
noncomputable def QY(s m:Nat)(ch:List Nat)(r:Nat):Nat:=((ch.map (lR m s)).filter λb=>decide (b<=r)).length%ch.length
noncomputable def Uf(s m:Nat)(ch:List Nat)(r:Nat):List Nat:=(aai ch.length).map λj=>(m*eH s ch j+r)/s-(m*ch.getD j 0+r)/s
noncomputable def Ir(s m mk:Nat):Bool:=((aai s).all λr=>(aai r).all λr'=>!(QY s m (ct s mk) r==QY s m (ct s mk) r')||Uf s m (ct s mk) r==Uf s m (ct s mk) r')&&
 (aai (ct s mk).length).all λc=>(aai s).any λr=>QY s m (ct s mk) r==c
theorem XX:([5,7].all λs=>(aai (s-1)).all λm=>[1,2].all λt=>(aai s).all λo=>lK s (m+1) t o)=true:=∅
theorem ada:([5,7].all λs=>(aai (2^s-1)).all λmk=>za s (mk+1)&&XW s (mk+1))=true:=∅
theorem XY:((aai 4).all λm=>(aai 31).all λmk=>Ir 5 (m+1) (mk+1))=true:=∅
theorem QZ:((aai 127).all λmk=>Ir 7 1 (mk+1))=true:=∅
theorem Q0:((aai 127).all λmk=>Ir 7 2 (mk+1))=true:=∅
theorem Q5:((aai 127).all λmk=>Ir 7 3 (mk+1))=true:=∅
theorem Q6:((aai 127).all λmk=>Ir 7 4 (mk+1))=true:=∅
theorem Q7:((aai 127).all λmk=>Ir 7 5 (mk+1))=true:=∅
theorem Q8:((aai 127).all λmk=>Ir 7 6 (mk+1))=true:=∅
section
structure dM (s m t o mk:Nat):Prop where
 hs:s=5\/s=7
 m0:1<=m
 m1:m<s
 ht:t=1\/t=2
 ho:o<s
 k0:1<=mk
 k1:mk<2^s
section
variable{s m t o mk:Nat}
theorem dM.s3(C:dM s m t o mk):s<2^3:=by
 have:=C.hs
 exact %[a<(qL 2 3),cz (a=5) (a=7)|aG this]
theorem F9(h:s=5\/s=7):s∈[5,7]:=by rcases h with rfl|rfl <;> simp
theorem dM.scale(C:dM s m t o mk):lK s m t o=true:=by
 have h:=aaG.mp XX s (F9 C.hs)
 have h:=aaG.mp h (m-1) (abd.mpr (agf C.m0 C.m1))
 have h:=aaG.mp h t (by rcases C.ht with h|h <;> erw[h] <;> simp)
 have h:=aaG.mp h o (abd.mpr C.ho)
 rwa [agb C.m0]at h
theorem dM.bits(C:dM s m t o mk):za s mk=true/\XW s mk=true:=by
 have h:=aaG.mp ada s (F9 C.hs)
 have h:=aaG.mp h (mk-1) (abd.mpr (agf C.k0 C.k1))
 rw[agb C.k0,aap]at h
 exact h
theorem dM.kind(C:dM s m t o mk):Ir s m mk=true:=by
 have e:=agb C.k0
 have m0:=C.m0
 have m1:=C.m1
 have k1:=C.k1
 have k0:=C.k0
 rcases C.hs with h|h
 .subst h
  have h:=aaG.mp XY (m-1) (abd.mpr (agf m0 m1))
  have h:=aaG.mp h (mk-1) (abd.mpr (agf k0 k1))
  rwa [e,agb m0]at h
 .subst h
  have f:∀{M:Nat},((aai 127).all λmk=>Ir 7 M (mk+1))=true->Ir 7 M mk=true:=λ{M} h=>by
   have h:=aaG.mp h (mk-1) (abd.mpr (agf k0 k1))
   rwa [e]at h
  rcases ((by decide:∀m,m<7->1<=m->m=1\/m=2\/m=3\/m=4\/m=5\/m=6) m m1 m0) with h|h|h|h|h|h <;> erw[h]
  .exact f QZ
  .exact f Q0
  .exact f Q5
  .exact f Q6
  .exact f Q7
  .exact f Q8
theorem dM.sp(C:dM s m t o mk):0<s:=by have:=C.ho;exact %[0<a,b<a|aP this]
theorem dM.pP(C:dM s m t o mk):(bf s m s o).length=s:=by
 have h:=C.scale
 unfold lK at h
 rw[aap]at h
 exact eq_of_beq h.1
theorem dM.XZ(C:dM s m t o mk):∀x∈bf s m s o,1<=x/\x<=2:=λx hx=>by
 have h:=C.scale
 unfold lK at h
 rw[aap,aap]at h
 exact of_decide_eq_true (aaG.mp h.2.1 x hx)
theorem dM.X0(C:dM s m t o mk):(iy s m t o).sum=bE s m t:=by
 have h:=C.scale
 unfold lK at h
 rw[aap,aap,aap]at h
 exact eq_of_beq h.2.2.1
theorem dM.zb(C:dM s m t o mk):(iy s m t o).length=s:=by unfold iy;erw[aan ..,C.pP,rfl]
theorem dM.X1(C:dM s m t o mk)(hn:n<s):(iy s m t o).getD n 0=(bf s m s o).getD n 0+t:=by
 skip
 have:=C.pP
 erw[aix,adR,aix,abz %[a<b,a<c,b=c|(bJ hn this)]]
 rfl
theorem dM.Ga(C:dM s m t o mk)(hn:n<s):(bE s m t*n+o)/s+(iy s m t o).getD n 0=(bE s m t*(n+1)+o)/s:=by
 erw[C.X1 hn]
 have h:=C.scale
 unfold lK at h
 rw[aap,aap,aap]at h
 exact eq_of_beq (aaG.mp h.2.2.2 n (abd.mpr hn))
theorem pQ(T q n:Nat)(hs:0<s):(T*(n+s*q)+o)/s=(T*n+o)/s+T*q:=by
 erw[(show T*(n+s*q)+o=(T*n+o)+s*(T*q) by rw[ad9,ajR];exact %[a*b+c*(a*d)+e=a*b+e+c*(a*d)|Cj]),alL _ _ hs,rfl]
theorem dM.Nn(C:dM s m t o mk)(j:Nat):(bE s m t*j+o)/s+(iy s m t o).getD (j%s) 0=(bE s m t*(j+1)+o)/s:=by
 have hs:=C.sp
 have h:=C.Ga (adC j hs)
 have e:j=j%s+s*(j/s):=(aij j s).symm
 generalize j%s=n at *
 generalize j/s=q at *
 subst e
 erw[pQ _ q n hs,(show n+s*q+1=(n+1)+s*q by exact %[a+b*c+1=a+1+b*c|bJ]),pQ _ q (n+1) hs]
 exact %[a+b*c+d=e+b*c,a+d=e|Cj h]
theorem dM.adb(C:dM s m t o mk)(x:Nat):∀k,(bE s m t*x+o)/s+((aai k).map λi=>(iy s m t o).getD ((x+i)%s) 0).sum=(bE s m t*(x+k)+o)/s
 |0=>rfl
 |k+1=>by
  have ih:=C.adb x k
  have h:=C.Nn (x+k)
  erw[amW,acf,amV]
  show _+(_+((iy s m t o).getD ((x+k)%s) 0+0))=_
  erw[(show x+(k+1)=x+k+1 by exact %[a+(b+1)=a+b+1|aP])]
  exact %[a+(b+(c+0))=d,a+b=e,e+c=d|Cj ih h]
theorem dM.gap(C:dM s m t o mk)(p:Nat)(vL:a<=b):BM (iy s m t o) p a b+(bE s m t*(p+a)+o)/s=(bE s m t*(p+b)+o)/s:=by
 have h:=C.adb (p+a) (b-a)
 unfold BM
 rw[C.zb]
 rw[show p+a+(b-a)=p+b by exact %[a+b+c=a+d,b<=d,qD 0 c d b|d4 vL rfl]]at h
 rw[<-h,aeU]
 congr 2
 exact abG λi _=>by rw[ahg]
noncomputable abbrev gA(s m o n:Nat):Nat:=(m*n+o)%s
theorem Gb(hs:0<s)(p a:Nat):(bE s m t*(p+a)+o)/s=(m*a+gA s m o p)/s+(m*p+o)/s+(1+t)*(p+a):=by
 skip
 have e:=aij (m*p+o) s
 have e1:(m+s*(1+t))*(p+a)+o=(m*a+gA s m o p)+s*((m*p+o)/s+(1+t)*(p+a)):=by
  erw[ahu ..,af3 ..,ad9 m ..,ad9 s ..]
  generalize s*((1+t)*(p+a))=z
  generalize s*((m*p+o)/s)=y at *
  show m*p+m*a+z+o=m*a+(m*p+o)%s+(y+z)
  exact %[a*b+a*c+d+e=a*c+f+(g+d),f+g=a*b+e|q70 e]
 erw[e1,alL _ _ hs,ahg ..,rfl]
theorem dM.Ug(C:dM s m t o mk)(p:Nat)(vL:a<=b):BM (iy s m t o) p a b=((m*b+gA s m o p)/s-(m*a+gA s m o p)/s)+(1+t)*(b-a):=by
 have h:=C.gap p vL
 have hs:=C.sp
 rw[Gb hs,Gb hs]at h
 have hm:(m*a+gA s m o p)/s<=(m*b+gA s m o p)/s:=Nat.div_le_div_right (Nat.add_le_add_right (aeL m vL) _)
 have e:(1+t)*(p+b)=(1+t)*(p+a)+(1+t)*(b-a):=by erw[<-ad9 ..];congr 1;exact %[a+b=a+c+d,c<=b,qD 0 d b c|d4 vL rfl]
 rw[e]at h
 generalize (1+t)*(b-a)=x at *
 generalize (1+t)*(p+a)=y at *
 exact %[a=b+c,d<=e,a+(d+f+g)=e+f+(g+c),qD 0 b e d|q70 hm h rfl]
theorem dM.oC(C:dM s m t o mk):(∀c∈ct s mk,c<s)/\0<(ct s mk).length/\(ct s mk).length<=s/\∀j,j<(ct s mk).length->(ct s mk).getD j 0<=eH s (ct s mk) j:=by
 have h:=C.bits.2
 unfold XW at h
 rw[aap,aap,aap]at h
 refine ⟨λc hc=>of_decide_eq_true (aaG.mp h.1 c hc),?_,of_decide_eq_true h.2.2.1,λj hj=>of_decide_eq_true (aaG.mp h.2.2.2 j (abd.mpr hj))⟩
 have:=h.2.1
 exact ahi this
theorem dM.shape(C:dM s m t o mk)(p q:Nat)(h:Uf s m (ct s mk) (gA s m o p)=Uf s m (ct s mk) (gA s m o q)):gx (iy s m t o) (ct s mk) p=gx (iy s m t o) (ct s mk) q:=by
 skip
 have hk:=amq.mp h
 skip
 refine abG λj hj=>?_
 have:=hk j hj
 have vL:=C.oC.2.2.2 j (abd.mp hj)
 erw[C.zb,C.Ug p vL,C.Ug q vL,this,rfl]
theorem Q9(n:Nat):(bE s m t*n)%s=(m*n)%s:=by
 skip
 erw[ahu ..,af3 ..,aiD ..,rfl]
theorem Ri(n:Nat):lR (bE s m t) s n=lR m s n:=by unfold lR;erw[Q9 ..,rfl]
theorem Rk(n:Nat):(bE s m t*n+o)%s=gA s m o n:=by
 skip
 erw[(show (m+s*(1+t))*n+o=(m*n+o)+s*((1+t)*n) by rw[ahu,af3];exact %[a*b+c*((1+d)*b)+e=a*b+e+c*((1+d)*b)|Cj]),aiD ..,rfl]
end
end
section
noncomputable def rK(q:Nat->Nat->Bool):List Nat->List Nat->List Nat
 |[],acc=>acc
 |n::l,acc=>rK q l (if acc.any (q n) then acc else acc++[n])
theorem pR{f:Nat->Nat}:∀(l acc:List Nat),(acc.map f).Nodup->(∀x,x∈(rK (λn n'=>f n==f n') l acc).map f↔x∈acc.map f\/x∈l.map f)/\((rK (λn n'=>f n==f n') l acc).map f).Nodup
 |[],acc,h=>⟨λx=>by show x∈acc.map f↔_;simp,h⟩
 |n::l,acc,h=>by
  show (∀x,x∈(rK _ l (if acc.any (λn'=>f n==f n') then acc else acc++[n])).map f↔_)/\((rK _ l (if acc.any (λn'=>f n==f n') then acc else acc++[n])).map f).Nodup
  by_cases hc:acc.any (λn'=>f n==f n')=true
  .erw[if_pos hc]
   refine bY (pR (f:=f) l acc h) λh1 h2=>?_
   refine ⟨λx=>?_,h2⟩
   refine bz (ah4.mp hc) λy hy e=>?_
   have e:=eq_of_beq e
   (rw[h1 x];erw[aa6];rw[abk])
   constructor
   .rintro (q|q)
    .exact .inl q
    .exact .inr (.inr q)
   .rintro (q|q|q)
    .exact .inl q
    .exact .inl (ac2.mpr ⟨y,hy,by (erw[q,e,rfl])⟩)
    .exact .inr q
  .erw[if_neg hc]
   have hn:f n∉acc.map f:=λq=>hc (by
    refine bz (ac2.mp q) λy hy e=>?_
    exact ah4.mpr ⟨y,hy,by erw[e];exact beq_self_eq_true _⟩)
   have hd:((acc++[n]).map f).Nodup:=by
    erw[acf]
    refine adX.mpr ⟨h,by simp,λa ha b hb=>?_⟩
    have hb:b=f n:=by simpa using hb
    intro q
    exact hn (by (erw[<-hb,<-q]);exact ha)
   refine bY (pR (f:=f) l (acc++[n]) hd) λh1 h2=>?_
   refine ⟨λx=>?_,h2⟩
   (rw[h1 x];erw[acf];rw[abQ];erw[aa6];rw[abk];erw[aa6];rw[abk];erw[ahc])
   constructor
   .rintro ((q|q|q)|q)
    .exact .inl q
    .exact .inr (.inl q)
    .cases q
    .exact .inr (.inr q)
   .rintro (q|q|q)
    .exact .inl (.inl q)
    .exact .inl (.inr (.inl q))
    .exact .inr q
theorem DW{l:List Nat}{k:Nat}(hd:l.Nodup)(h:∀x,x∈l↔x<k):eh (nv l)=nv (aai k):=by
 have hp:l.Perm (aai k):=(List.perm_ext_iff_of_nodup hd List.nodup_range).mpr λx=>by rw[h x,abd]
 refine List.Perm.eq_of_pairwise (le:=(· <=·)) (λa b _ _ h1 h2=>Int.le_antisymm h1 h2) (ip _) ?_ ((kF _).trans (hp.map _))
 refine amo.mpr (List.Pairwise.imp (λ{a b} h=>?_) List.pairwise_lt_range)
 exact ajT.mpr (afo h)
theorem adc:([5,7].all λs=>(aai (s-1)).all λm=>(aai s).all λo=>(aai s).all λr=>(aai s).any λp=>((m+1)*p+o)%s==r)=true:=∅
section
variable{s m t o mk:Nat}
noncomputable abbrev eJ(s m o mk n:Nat):Nat:=QY s m (ct s mk) (gA s m o n)
theorem dM.Np(C:dM s m t o mk){r r':Nat}(h1:r<s)(h2:r'<s)(h:QY s m (ct s mk) r=QY s m (ct s mk) r'):Uf s m (ct s mk) r=Uf s m (ct s mk) r':=by
 have hk:=C.kind
 unfold Ir at hk
 rw[aap]at hk
 have key:∀a b,a<s->b<a->QY s m (ct s mk) a=QY s m (ct s mk) b->Uf s m (ct s mk) a=Uf s m (ct s mk) b:=λa b ha hb e=>by
  have:=aaG.mp (aaG.mp hk.1 a (abd.mpr ha)) b (abd.mpr hb)
  rw[e,beq_self_eq_true]at this
  exact eq_of_beq this
 rcases Nat.lt_trichotomy r r' with q|q|q
 .exact (key r' r h2 q h.symm).symm
 .erw[q,rfl]
 .exact key r r' h1 q h
theorem dM.Nq(C:dM s m t o mk)(n:Nat):gA s m o n<s:=adC _ C.sp
theorem dM.kinds(C:dM s m t o mk):eh (nv ((rK (λn n'=>eJ s m o mk n==eJ s m o mk n'&&gx (iy s m t o) (ct s mk) n==gx (iy s m t o) (ct s mk) n') (aai s) []).map (eJ s m o mk)))=nv (aai (ct s mk).length):=by
 have hq:(λn n'=>eJ s m o mk n==eJ s m o mk n'&&gx (iy s m t o) (ct s mk) n==gx (iy s m t o) (ct s mk) n')=λn n'=>eJ s m o mk n==eJ s m o mk n':=funext λn=>funext λn'=>by
  by_cases h:eJ s m o mk n=eJ s m o mk n'
  .have:=C.shape n n' (C.Np (C.Nq n) (C.Nq n') h)
   erw[h,this,beq_self_eq_true ..,beq_self_eq_true ..];rfl
  .erw[beq_eq_false_iff_ne.mpr h];rfl
 erw[hq]
 refine bY (pR (f:=eJ s m o mk) (aai s) [] (by simp)) λh1 h2=>?_
 refine DW h2 λx=>?_
 rw[h1 x]
 have hk:=C.kind
 unfold Ir at hk
 rw[aap]at hk
 constructor
 .rintro (q|q)
  .cases q
  . (refine bz (ac2.mp q) λn _ cc=>?_;obtain rfl:=cc)
    exact adC _ C.oC.2.1
 .intro hx
  refine bz (ah4.mp (aaG.mp hk.2 x (abd.mpr hx))) λr hr e=>?_
  have hc:=aaG.mp adc s (F9 C.hs)
  have hc:=aaG.mp hc (m-1) (abd.mpr (agf C.m0 C.m1))
  have hc:=aaG.mp hc o (abd.mpr C.ho)
  refine bz (ah4.mp (aaG.mp hc r hr)) λp hp e2=>?_
  rw[show m-1+1=m by have:=C.m0;exact %[a+1=b,1<=b,qD 0 a b (1)|aP this rfl]]at e2
  refine .inr (ac2.mpr ⟨p,hp,?_⟩)
  show QY s m (ct s mk) ((m*p+o)%s)=x
  erw[eq_of_beq e2]
  exact eq_of_beq e
end
end
section
noncomputable abbrev tL:cQ:=fF [(166,MJ),(199,My),(180,Qo),(73,idF),(206,Xz),(213,XN),(97,Mx),(194,MG),(220,XD),(59,Mv),(52,Mt),(225,XH)]
section
variable{RF:cQ}{σ:bj}
theorem vp(hl:σ.vars.length=34)(hi:i<34):aA RF (.var i) (σ.push x)=aA RF (.var i) σ:=by
 show (σ.vars++[some x])[i]?.getD none=σ.vars[i]?.getD none
 erw[adk %[a<b,b=34,a<34|(aP hl hi)],rfl]
theorem vn(hl:σ.vars.length=34):aA RF (.var 34) (σ.push x)=some x:=by
 show (σ.vars++[some x])[34]?.getD none=some x
 erw[agH %[a<=34,a=34|(aG hl)],hl];rfl
theorem vn2(hl:σ.vars.length=34):aA RF (.var 35) ((σ.push x).push y)=some y:=by
 show ((σ.vars++[some x])++[some y])[35]?.getD none=some y
 erw[agH (by rw[aao];show σ.vars.length+1<=35;exact %[a<35,a=34|aG hl]),aao,hl];rfl
theorem vn1(hl:σ.vars.length=34):aA RF (.var 34) ((σ.push x).push y)=some x:=by
 show ((σ.vars++[some x])++[some y])[34]?.getD none=some x
 erw[adk (by rw[aao];show 34<σ.vars.length+1;exact %[34<a+1,a=34|aG hl]),agH %[a<=34,a=34|(aG hl)],hl];rfl
theorem rv(h:b<=a):cR σ .Sub (ae a) (ae b)=some (ae (a-b)):=k_sub.trans (congrArg (λi=>some (AV.int i)) %[(qC a)-(qC b)==(qC c),b<=a,qD 0 c a b|(bJ h rfl)])
theorem lL{e:IE}{it:II}{l:List Nat}{g:Nat->AV}(hi:wd RF it σ=some (l.map ae))(h:∀k∈l,aA RF e (σ.push (ae k))=some (g k))(hl:l.length<=1000):aA RF (.comp e it .nil) σ=some (.lst (l.map g)):=by
 have hs:decide ((l.map ae).length<=aa7)=true:=gv hl
 refine (yC (g:=λx=>match x with|.int i=>g i.toNat|_=>.none) hi (λx hx=>?_) hs).trans ?_
 . (refine bz (ac2.mp hx) λk hk cc=>?_;obtain rfl:=cc)
   refine (h k hk).trans ?_
   show _=some (g ((k:Int)).toNat)
   erw[abE ..,rfl]
 .erw[abH]
  congr 2
theorem fJ{hi:IE}{n:Nat}(h:aA RF hi σ=some (ae n))(hn:n<=1000):wd RF (.ku hi) σ=some ((aai n).map ae):=(yD h (decide_eq_true %[aU ((qG (qL 2 20))>=(qC a)) ((qC a)>=(qL 2 20)),a<=1000|(aG hn)])).trans (congrArg some (kX n))
theorem vi{hi:IE}{n:Nat}(h:aA RF hi σ=some (ae n))(hn:n<=1000):vz RF (.ku hi) σ=some ((aai n).map ae):=fJ h hn
end
section
variable{σ:bj}{h0 h1 h2 h3 h4 s:Nat}
noncomputable abbrev eK(h0 h1 h2 h3 h4:Nat):AV:=.lst [ae h0,ae h1,ae h2,ae h3,ae h4]
noncomputable def sN(h0:Nat):Nat:=if h0%2=0 then 5 else 7
noncomputable def mN(h0 s:Nat):Nat:=1+h0/10%10%(s-1)
noncomputable def tN(h0:Nat):Nat:=1+h0/100%2
noncomputable def bN(h0:Nat):Nat:=97+h0/1000%100%20
noncomputable def mkN(h2 s:Nat):Nat:=1+h2%1000%(2^s-1)
noncomputable def oK(s b:Nat):List Nat:=(aai s).map λn=>b+n
theorem s57(h0:Nat):sN h0=5\/sN h0=7:=by unfold sN;split <;> simp
theorem eN(n:Nat)(h:n<2^100):n<2^8000:=p8 h ⋯
theorem hp(H:aA tL (.var 1) σ=some (eK h0 h1 h2 h3 h4))(k:Nat)(hk:([ae h0,ae h1,ae h2,ae h3,ae h4]:List AV)[k]?=some x)(h5:k<5):aA tL (.idx (.var 1) (.int k)) σ=some x:=
 bL H rfl (gL rfl ⟨%[0>=(qC a)|(aG)],%[(qC a)>(qL 2 62),a<5|(aG h5)]⟩ (by erw[abE ..];exact hk))
theorem e2(H:aA tL (.var 1) σ=some (eK h0 h1 h2 h3 h4)):aA tL (.idx (.tup (.cons (.int 5) (.cons (.int 7) .nil))) (.bin .Mod (.idx (.var 1) (.int 0)) (.int 2))) σ=some (ae (sN h0)):=by
 refine bL (x:=.tup [ae 5,ae 7]) (y:=ae (h0%2)) rfl (ag (x:=ae h0) (y:=ae 2) (hp H 0 rfl ⋯) rfl (dA (b:=2) ⋯ (eN 2 ⋯))) (Bf ⟨%[0>=(qC a)|(aG)],%[(qC a)>(qL 2 62),qD 2 a b (2)|(aP rfl)]⟩ ?_)
 erw[abE ..]
 unfold sN
 rcases aht h0 with h|h <;> rw[h] <;> rfl
theorem e3(H:aA tL (.var 1) σ=some (eK h0 h1 h2 h3 h4))(h:aA tL (.var 2) σ=some (ae s))(hs:s=5\/s=7):aA tL TX σ=some (ae (mN h0 s)):=
 ag (x:=ae 1) (y:=ae (h0/10%10%(s-1))) rfl (ag (x:=ae (h0/10%10)) (y:=ae (s-1)) (ag (x:=ae (h0/10)) (y:=ae 10) (ag (x:=ae h0) (y:=ae 10) (hp H 0 rfl ⋯) rfl (jI (b:=10) ⋯ (eN 10 ⋯))) rfl (dA (b:=10) ⋯ (eN 10 ⋯))) (ag (x:=ae s) (y:=ae 1) h rfl (rv %[1<=a,cz (a=5) (a=7)|(aG hs)])) (dA %[0<a,cz (b=5) (b=7),qD 0 a b (1)|(aP hs rfl)] (eN _ %[a<(qL 2 100),cz (b=5) (b=7),qD 0 a b (1)|(aP hs rfl)]))) dP
theorem e4(H:aA tL (.var 1) σ=some (eK h0 h1 h2 h3 h4)):aA tL (.bin .Add (.int 1) (.bin .Mod (.bin .FloorDiv (.idx (.var 1) (.int 0)) (.int 100)) (.int 2))) σ=some (ae (tN h0)):=
 ag (x:=ae 1) (y:=ae (h0/100%2)) rfl (ag (x:=ae (h0/100)) (y:=ae 2) (ag (x:=ae h0) (y:=ae 100) (hp H 0 rfl ⋯) rfl (jI (b:=100) ⋯ (eN 100 ⋯))) rfl (dA (b:=2) ⋯ (eN 2 ⋯))) dP
theorem e6(hl:σ.vars.length=34)(H:aA tL (.var 1) σ=some (eK h0 h1 h2 h3 h4))(h:aA tL (.var 2) σ=some (ae s))(hs:s=5\/s=7):
 aA tL TJ σ=some (.lst ((oK s (bN h0)).map iU)):=by
 refine (lL (g:=λk=>iU (bN h0+k)) (fJ h %[a<=1000,cz (a=5) (a=7)|(aG hs)]) (λk hk=>?_) (by erw[aa0];exact %[a<=1000,cz (a=5) (a=7)|aG hs])).trans (by unfold oK;erw[abH];rfl)
 have hk:=abd.mp hk
 have H':aA tL (.var 1) (σ.push (ae k))=some (eK h0 h1 h2 h3 h4):=(vp hl ⋯).trans H
 refine (aC rfl (af (x:=ae (bN h0+k)) (ag (x:=ae (bN h0)) (y:=ae k) (ag (x:=ae 97) (y:=ae (h0/1000%100%20)) rfl (ag (x:=ae (h0/1000%100)) (y:=ae 20) (ag (x:=ae (h0/1000)) (y:=ae 100) (ag (x:=ae h0) (y:=ae 1000) (hp H' 0 rfl ⋯) rfl (jI (b:=1000) ⋯ (eN 1000 ⋯))) rfl (dA (b:=100) ⋯ (eN 100 ⋯))) rfl (dA (b:=20) ⋯ (eN 20 ⋯))) dP) (vn hl) dP) ao) (wK ?_)).trans ?_
 .erw[aap ..]
  skip
  exact ⟨decide_eq_true %[0>=(qC (97+a+b))|(aP)],decide_eq_true %[(qC (97+a+b))>=1114111,cz (c=5) (c=7),b<c,qD 2 a d (20)|(d4 hs hk rfl)]⟩
 .erw[abE ..,rfl]
theorem e7(H:aA tL (.var 1) σ=some (eK h0 h1 h2 h3 h4)):aA tL (.bin .Sub (.idx (.var 1) (.int 1)) (.bin .Mult (.int 5) (.bin .Pow (.int 10) (.int 11)))) σ=some (.int ((h1:Int)-500000000000)):=
 ag (x:=ae h1) (y:=.int 500000000000) (hp H 1 rfl ⋯) (ag (x:=ae 5) (y:=ae (10^11)) rfl (ag (x:=ae 10) (y:=ae 11) rfl rfl (Ub ⋯)) ((BJ (by decide+kernel)).trans rfl)) k_sub
theorem adf(h:aA tL (.var 2) σ=some (ae s))(hs:s=5\/s=7):aA tL (.bin .Sub (.bin .Pow (.int 2) (.var 2)) (.int 1)) σ=some (ae (2^s-1)):=
 ag (x:=ae (2^s)) (y:=ae 1) (ag (x:=ae 2) (y:=ae s) rfl h (pL %[a<=5000,cz (a=5) (a=7)|(aG hs)])) rfl (rv (adT s))
theorem e8(H:aA tL (.var 1) σ=some (eK h0 h1 h2 h3 h4))(h:aA tL (.var 2) σ=some (ae s))(hs:s=5\/s=7):aA tL TY σ=some (ae (mkN h2 s)):=
 ag (x:=ae 1) (y:=ae (h2%1000%(2^s-1))) rfl (ag (x:=ae (h2%1000)) (y:=ae (2^s-1)) (ag (x:=ae h2) (y:=ae 1000) (hp H 2 rfl ⋯) rfl (dA (b:=1000) ⋯ (eN 1000 ⋯))) (adf h hs) (dA (by rcases hs with h|h <;> erw[h] <;> decide) (eN _ (by rcases hs with h|h <;> erw[h] <;> decide)))) dP
theorem e9{mk:Nat}(hl:σ.vars.length=34)(h:aA tL (.var 2) σ=some (ae s))(hs:s=5\/s=7)(h8:aA tL (.var 8) σ=some (ae mk)):
 aA tL T1 σ=some (.lst ((ct s mk).map ae)):=by
 refine (FX (p:=λn=>mk/2^n%2==1) (f:=λn=>n) (fJ h %[a<=1000,cz (a=5) (a=7)|(aG hs)]) (λk hk=>?_) (λk hk=>vn hl) (by erw[aa0];exact %[a<=1000,cz (a=5) (a=7)|aG hs])).trans ?_
 .refine (jw (p:=decide (mk/2^k%2=1)) (aJ (bh (x:=ae (mk/2^k%2)) (y:=ae 1) (ag (x:=ae (mk/2^k)) (y:=ae 1) (ag (x:=ae mk) (y:=ae k) ((vp hl ⋯).trans h8) (vn hl) ((Tr (decide_eq_true %[0>=(qC a)|(aG)])).trans (congrArg (λi=>some (AV.int i)) (om mk k)))) rfl (ac6.trans (by erw[ajI ..,rfl]))) rfl DT)) λ_=>pH).trans ?_
  erw[agy ..];rfl
 .erw[List.map_id' ..];rfl
end
end
section
noncomputable def vY(s b:Nat)(ch:List Nat):List Nat:=(aai s).map λn=>if ch.contains n then b+n-32 else b+n
noncomputable def zc(s b:Nat):List Nat:=(aai s).map λn=>b+n-64
noncomputable def hN(v:Nat)(l:List Nat):Nat:=l.foldl (λv c=>v*64+c) v
noncomputable def wN(s b:Nat)(ch:List Nat):Nat:=hN 0 ((vY s b ch).map (· % 64))*64+13
noncomputable def inL(s:Nat)(ch:List Nat):List Nat:=(aai s).map λn=>if ch.contains n then 1 else 0
theorem adg:([5,7].all λs=>(aai (2^s-1)).all λmk=>xN s (mk+1)==2048*hN 0 (inL s (ct s (mk+1))))=true:=∅
theorem Cb:∀(ws:List Nat) (v:Nat) (l:List Nat),(∀c∈ws,c/64%2=1)->fO (some v) (ws++l)=fO (some (hN v (ws.map (· % 64)))) l
 |[],v,l,_=>rfl
 |c::ws,v,l,h=>by
  erw[adS,eI ..,if_pos (h c (.head _))]
  exact Cb ws _ l λy hy=>h y (.tail _ hy)
theorem Cd{ws:List Nat}(l:List Nat)(h:∀c∈ws,c/64%2=1)(h0:ws≠[]):fO none (ws++l)=fO (some (hN 0 (ws.map (· % 64)))) l:=by
 cases ws with
 |nil=>exact absurd rfl h0
 |cons c ws=>
  erw[adS,eI ..,if_pos (h c (.head _))]
  exact Cb ws _ l λy hy=>h y (.tail _ hy)
section
variable{s b:Nat}{ch:List Nat}
theorem Nr{p:Prop} [Decidable p]{y:Nat}(h:97<=y)(k:y<123):(if p then y-32 else y)/64%2=1/\y-64=(if p then y-32 else y)%64+32*(if p then 1 else 0):=by
 by_cases q:p
 .have h1:64<=y-32/\y-32<128:=⟨abq ⋯ (Nat.sub_le_sub_right h 32),adZ (Nat.sub_le ..) (aeT k ⋯)⟩
  refine rwG (if_pos q) (rwG (if_pos q) ⟨d64 h1.1 h1.2,rwG (m64 h1.1 h1.2) ((Nat.exists_eq_add_of_le' h).elim λz e=>?_)⟩)
  erw[e,rfl]
 .exact rwG (if_neg q) (rwG (if_neg q) ⟨d64 (abq ⋯ h) (aeT k ⋯),(m64 (abq ⋯ h) (aeT k ⋯)).symm⟩)
theorem Nt(hb:97<=b)(hs:b+s<=123):∀c∈vY s b ch,c/64%2=1:=λc hc=>
 bU (ac2.mp hc) λn h=>h.2▸(Nr (abq hb (ag5 ..)) (aaO (al4 (abd.mp h.1) b) hs)).1
theorem Uh(h:0<s):vY s b ch≠[]:=λq=>ai3 h (aa0.symm.trans (aan ..).symm |>.trans (congrArg ag9 q))
theorem H5(hb:97<=b)(hs:b+s<=123)(h0:0<s)(code:Nat):fO none (vY s b ch++[13,code,46])=wN s b ch::dz code:=by
 erw[Cd _ (Nt hb hs) (Uh h0),eI ..,if_neg ⋯,F3 ..]
 show (hN 0 _*64+13%64)::(dz code++[])=_
 erw[abW ..];rfl
theorem H6(hb:97<=b)(hs:b+s<=123)(h0:0<s):fO none (vY s b ch)=[]:=by
 have:=Cd [] (Nt (ch:=ch) hb hs) (Uh h0)
 rw[abW]at this
 erw[this];rfl
theorem Nu:∀(l:List Nat) (v:Nat),hN v l=dF 6 l.reverse+64^l.length*v
 |[],v=>by show v=0+1*v;exact %[a=0+1*a|aG]
 |c::l,v=>by
  show hN (v*64+c) l=_
  erw[Nu l ..,ahW,fE ..,ae3,adY,ahe ..]
  have e:2^(6*l.length)=64^l.length:=Nat.pow_mul 2 6 l.length
  erw[e]
  show _=dF 6 l.reverse+64^l.length*(c+2^6*0)+_
  generalize 64^l.length=z
  erw[ad9 ..,agS ..,ait ..,af3 ..,ad2 v 64]
  exact %[a+(b*(64*c)+b*d)=a+b*d+b*(64*c)|d4]
theorem Nv(f g h:Nat->Nat):∀(l:List Nat) (A B:Nat),(∀n∈l,f n=g n+32*h n)->hN (A+32*B) (l.map f)=hN A (l.map g)+32*hN B (l.map h)
 |[],A,B,_=>rfl
 |n::l,A,B,hh=>by
  have e:=hh n (.head _)
  show hN ((A+32*B)*64+f n) (l.map f)=hN (A*64+g n) (l.map g)+32*hN (B*64+h n) (l.map h)
  erw[<-Nv f g h l _ _ λy hy=>hh y (.tail _ hy)]
  congr 1
  exact %[(a+32*b)*64+c=a*64+d+32*(b*64+e),c=d+32*e|Cj e]
theorem Gc(hb:97<=b)(hs:b+s<=123):dF 6 (13::(zc s b).reverse)=wN s b ch+2048*hN 0 (inL s ch):=by
 have h:=Nv (λn=>b+n-64) (λn=>(if ch.contains n then b+n-32 else b+n)%64) (λn=>if ch.contains n then 1 else 0) (aai s) 0 0 λn hn=>(Nr (abq hb (ag5 ..)) (aaO (al4 (abd.mp hn) b) hs)).2
 have h1:=Nu (zc s b) 0
 rw[agS,ait]at h1
 show 13+2^6*dF 6 (zc s b).reverse=_
 erw[<-h1]
 have h2:hN 0 (zc s b)=hN 0 ((vY s b ch).map (· % 64))+32*hN 0 (inL s ch):=by
  skip
  erw[abH]
  exact h
 erw[h2]
 skip
 exact %[13+(qL 2 6)*(a+32*b)=a*64+13+2048*b|aP]
end
theorem dM.agM{s m t o mk:Nat}(C:dM s m t o mk):xN s mk=2048*hN 0 (inL s (ct s mk)):=by
 have h:=aaG.mp adg s (F9 C.hs)
 have h:=aaG.mp h (mk-1) (abd.mpr (agf C.k0 C.k1))
 rw[agb C.k0]at h
 exact eq_of_beq h
theorem Nw(W X:Nat):W%2047<=W+X/\(W+X-W%2047)%2047=X%2047:=⟨abq (Nat.mod_le ..) (ag5 ..),by
 have e:=ai9 W 2047
 exact rwG (show W+X-W%2047=2047*(W/2047)+X by exact %[a=2047*b+c,2047*b+d=e,qD 0 a (e+c) d|Cj e rfl]) (akv ..)⟩
end
section
section
variable{σ:bj}{h0 h1 h2 h3 h4 s b:Nat}{ch:List Nat}
theorem Rl(l:List Nat)(i:Nat):(l.map λ(n:Nat)=>(n:Int)).any (· ==(i:Int))=l.contains i:=by
 induction l with
 |nil=>rfl
 |cons x l ih=>
  erw[aa6,akR,ih,List.contains_cons]
  congr 1
  rw[ahG,beq_iff_eq,beq_iff_eq]
  exact Int.ofNat_inj.trans ⟨Eq.symm,Eq.symm⟩
theorem k_in{x:AV}{l:List Nat}{i:Nat}(hx:σ.listOf x=some (l.map ae)):rx σ .In (ae i) x=some (l.contains i):=by
 show ((σ.listOf x).bind bp).map (λl=>l.any (· ==(i:Int)))=_
 erw[hx,aa5 ..,fG ..,<-Rl ..];rfl
theorem e10(hl:σ.vars.length=34)(h:aA tL (.var 2) σ=some (ae s))(hs:s=5\/s=7)(hb:97<=b/\b+s<=123)(h6:aA tL (.var 6) σ=some (.lst ((oK s b).map iU)))(h9:aA tL (.var 9) σ=some (.lst (ch.map ae))):
 aA tL acI σ=some (.str (wS (vY s b ch))):=by
 refine yy (x:=.str (wS [])) (xs:=[.lst (((aai s).map λn=>[if ch.contains n then b+n-32 else b+n]).map λr=>AV.str (wS r))]) rfl (af ?_ ao) ((Xm (rows:=(aai s).map λn=>[if ch.contains n then b+n-32 else b+n]) rfl ?_).trans ?_)
 .erw[abH]
  refine lL (fJ h %[a<=1000,aU (97<=b) (b+a<=123)|(aP hb)]) (λk hk=>?_) (by erw[aa0];exact %[a<=1000,aU (97<=b) (b+a<=123)|aP hb])
  have hk:=abd.mp hk
  have hi:aA tL (.idx (.var 6) (.var 34)) (σ.push (ae k))=some (iU (b+k)):=by
   have e:=MY (σ:=σ.push (ae k)) (x:=.lst ((oK s b).map iU)) (l:=oK s b) (i:=k) rfl (by unfold oK;erw[aan ..,aa0];exact hk) (by unfold oK;erw[aan ..,aa0];exact %[a<=1000,aU (97<=b) (b+a<=123)|aP hb])
   have e2:(oK s b).getD k 0=b+k:=by unfold oK;simp[hk]
   rw[e2]at e
   exact bL ((vp hl ⋯).trans h6) (vn hl) e
  refine nn (p:=ch.contains k) (aJ (bh (vn hl) ((vp hl ⋯).trans h9) (k_in rfl))) ?_
  show _=some (AV.str (wS [if ch.contains k then b+k-32 else b+k]))
  cases ch.contains k
  .exact hi
  .refine (aC rfl (af (x:=ae (b+k-32)) (ag (x:=ae (b+k)) (y:=ae 32) (aC rfl (af hi ao) (Fy rfl)) rfl (rv %[32<=a+b,aU (97<=a) (a+c<=123)|(bJ hb)])) ao) (wK ?_)).trans ?_
   .erw[aap ..]
    exact ⟨decide_eq_true %[0>=(qC a)|(aG)],decide_eq_true %[(qC a)>=1114111,aU (97<=b) (b+c<=123),d<c,qD 0 a (b+d) (32)|(d4 hb hk rfl)]⟩
   .erw[abE ..];rfl
 .erw[abH,aan ..,aa0]
  show ((aai s).map λn=>1).sum+s*0<=_
  rcases hs with h|h <;> erw[h] <;> decide
 .erw[DP ..,BE ..];rfl
theorem Nx(d:Int):eF d<=65280:=by
 have hr:=bx d (m:=16) ⋯
 have h1:=of_decide_eq_true (eE (l:=cJ) (p:=λi=>decide (0<=i/\i<=65280)) ⋯ hr.1 hr.2)
 have e:((eF d:Nat):Int)=DJ cJ (d.fmod 16):=aeM (by show 0<=DJ cJ (d.fmod 16);exact %[0>=a,aU (0>=a) (a>=65280)|fK h1])
 exact %[a<=65280,aU (0>=a) (a>=65280),(qC a)==a|N9 h1 e]
theorem Ce{x:IE}{n:Nat}(h:aA tL x σ=some (ae n)):aA tL (.call (.glob "_law_beside" (.obj (.ref 180))) (.cons x .nil)) σ=some (.str (wS [eF (n:Int)])):=
 aC rfl (af h ao) (cO (ys:=[ae n]) rfl rfl)
theorem e11(H:aA tL (.var 1) σ=some (eK h0 h1 h2 h3 h4)):aA tL TW σ=some (ae (eF (h4:Int))):=
 aC rfl (af (Ce (hp H 4 rfl ⋯)) ao) (Fy rfl)
theorem vj{x:IE}{t:List Nat}(h:aA tL x σ=some (.str (wS t)))(hl:t.length<=100000):aA tL (.call (.glob "_law_numbers" (.obj (.ref 199))) (.cons x .nil)) σ=some (.lst ((fO none t).map ae)):=
 aC rfl (af h ao) (cO (ys:=[.str (wS t)]) rfl (by
  show My [.str (wS t)]=_
  simp only[My,Bv,yZ]
  rw[if_pos (by show t.length<_;exact %[a<(qL 2 20),a<=100000|aG hl])]))
theorem Ny:(vY s b ch).length=s:=by unfold vY;erw[aan ..,aa0,rfl]
theorem e12{c:Nat}(hs:s=5\/s=7)(hb:97<=b/\b+s<=123)(hc:c<=65280)(YJ:aA tL (.var 10) σ=some (.str (wS (vY s b ch))))(h11:aA tL (.var 11) σ=some (ae c)):
 aA tL TR σ=some (.lst ((wN s b ch::dz c).map ae)):=by
 have hw:=Ny (s:=s) (b:=b) (ch:=ch)
 have hn:=H5 (ch:=ch) hb.1 hb.2 %[0<a,cz (a=5) (a=7)|(aG hs)] c
 have e:vY s b ch++[13,c,46]=((vY s b ch++[13])++[c])++[46]:=by simp only[aaI];rfl
 rw[e]at hn
 refine (vj (t:=((vY s b ch++[13])++[c])++[46]) (ag (x:=.str (wS ((vY s b ch++[13])++[c]))) (y:=.str (wS [46])) (ag (x:=.str (wS (vY s b ch++[13]))) (y:=.str (wS [c])) (ag (x:=.str (wS (vY s b ch))) (y:=.str (wS [13])) YJ rfl (dB ?_)) ((aC rfl (af h11 ao) (wK ?_)).trans ?_) (dB ?_)) rfl (dB ?_)) ?_).trans (by erw[hn,rfl])
 .erw[hw];show s+1<=_;exact %[a<100000,aU (97<=b) (b+a<=123)|aP hb]
 .erw[aap ..]
  exact ⟨decide_eq_true %[0>=(qC a)|(aG)],decide_eq_true %[(qC a)>=1114111,a<=65280|(aG hc)]⟩
 .erw[abE ..,rfl]
 .erw[aao,hw];show s+1+1<=_;exact %[a+1<100000,aU (97<=b) (b+a<=123)|aP hb]
 .erw[aao,aao,hw];show s+1+1+1<=_;exact %[a+1+1<100000,aU (97<=b) (b+a<=123)|aP hb]
 .erw[aao,aao,aao,hw];show s+1+1+1<=_;exact %[a+1+1<100000,aU (97<=b) (b+a<=123)|aP hb]
theorem Nz{x:AV}{xs:List AV}:xs.length<=2->cB (x::xs) (some 1) none none=xs:=λh=>by
 match xs,h with
 |[],_=>kernel_rfl
 |[a],_=>kernel_rfl
 |[a,b],_=>kernel_rfl
theorem H7(c:Nat):(dz c).length<=2:=by unfold dz;split <;> simp
theorem f12{c:Nat}(hs:s=5\/s=7)(hb:97<=b/\b+s<=123)(YJ:aA tL (.var 10) σ=some (.str (wS (vY s b ch))))(h11:aA tL (.var 11) σ=some (ae c))(hc:c<=65280)(h12:aA tL (.var 12) σ=some (.lst ((wN s b ch::dz c).map ae))):
 iZ tL acF σ=some false:=by
 have hL:=H7 c
 have hw:=Ny (s:=s) (b:=b) (ch:=ch)
 have hm:aA tL (.bin .Mod (.var 11) (.int 64)) σ=some (ae (c%64)):=ag (y:=ae 64) h11 rfl (dA (b:=64) ⋯ (eN 64 ⋯))
 refine WZ (wJ (p:=false) (q:=false) (aJ (bh (x:=.lst ((dz c).map ae)) (y:=.lst ((dz c).map ae)) ?_ ?_ (ot rfl rfl))) λ_=>wJ (p:=false) (q:=false) (aJ (bh (x:=.lst ([].map ae)) (y:=.lst ([].map ae)) ?_ (nq ao rfl) (ot rfl rfl))) λ_=>LV)
 .refine (Du (x:=.lst ((wN s b ch::dz c).map ae)) (y:=.int 1) (z:=.none) (u:=.none) (v:=.none) h12 rfl rfl rfl (uV (t:=none) (l:=some 1) (u:=none) rfl rfl rfl rfl ⋯ ?_)).trans ?_
  .have:aa7=16777216:=rfl
   erw[aan ..,adY];exact %[a<b,a<=2,b=16777216|aP hL this]
  .erw[aa6,Nz (by rw[aan];exact hL),rfl]
 .refine nn (p:=decide (c/64%2=1)) (aJ (bh (x:=ae (c/64%2)) (y:=ae 1) (ag (x:=ae (c/64)) (y:=ae 2) (ag (y:=ae 64) h11 rfl (jI (b:=64) ⋯ (eN 64 ⋯))) rfl (dA (b:=2) ⋯ (eN 2 ⋯))) rfl DT)) ?_
  unfold dz
  by_cases hq:c/64%2=1
  .rw[decide_eq_true hq,if_pos hq]
   refine nq (af (x:=ae (c%64*64+46)) (ag (x:=ae (c%64*64)) (y:=ae 46) (ag (y:=ae 64) hm rfl (BJ ?_)) rfl dP) ao) rfl
   have b1:aae ((64:Nat):Int)=7:=rfl
   have b2:=bB (a:=c%64) (k:=6) %[a<(qL 2 6),qD 2 a b (64)|(aP rfl)]
   exact %[a+b<=(qL 2 20),b=7,a<=6|aP b1 b2]
  .erw[decide_eq_false hq,if_neg hq]
   exact nq (af hm (af (x:=ae 46) rfl ao)) rfl
 .have:=vj YJ (by erw[hw];exact %[a<=100000,aU (97<=b) (b+a<=123)|aP hb])
  rw[H6 hb.1 hb.2 %[0<a,cz (a=5) (a=7)|(aG hs)]]at this
  exact this
end
end
section
section
variable{RF:cQ}{σ:bj}{h0 h1 h2 h3 h4 s m t o mk b:Nat}{ch:List Nat}
theorem jB{α:Type}{f g:α->AV}{e:IE}{it:II}{l:List α}(hi:wd RF it σ=some (l.map f))(h:∀a∈l,aA RF e (σ.push (f a))=some (g a))(hl:l.length<=1000):aA RF (.comp e it .nil) σ=some (.lst (l.map g)):=by
 refine yB hi (ys:=l.map g) ?_ (decide_eq_true ?_)
 .clear hi hl
  induction l with
  |nil=>rfl
  |cons a l ih=>
   erw[aa6,aa6]
   show ((aA RF e (σ.push (f a))).map some).bind _=_
   erw[h a (.head _)]
   show (dI _ (l.map f)).map (g a::·)=_
   erw[ih λy hy=>h y (.tail _ hy)];rfl
 .have:aa7=16777216:=rfl
  erw[aan ..];exact %[a<=b,a<=1000,b=16777216|aP hl this]
theorem s7{x y:IE}{a c:Int}(hx:aA tL x σ=some (.int a))(hy:aA tL y σ=some (.int c))(h:eG a c):aA tL (.call (.glob "int_divmod" (.obj (.ref 73))) (.cons x (.cons y .nil))) σ=some (.tup [.int (a.fdiv c),.int (a.fmod c)]):=
 aC rfl (af hx (af hy ao)) (cO (ys:=[.int a,.int c]) rfl (QA rfl h))
theorem NA{x y:IE}{a c:Nat}(hx:aA tL x σ=some (ae a))(hy:aA tL y σ=some (ae c))(h:eG (a:Int) (c:Int)):aA tL (.call (.glob "int_divmod" (.obj (.ref 73))) (.cons x (.cons y .nil))) σ=some (.tup [ae (a/c),ae (a%c)]):=
 (s7 hx hy h).trans (by (erw[fD ..,gp ..]);rfl)
theorem NB{x:IE}{u v:AV}(h:aA RF x σ=some (.tup [u,v])):aA RF (.idx x (.int 1)) σ=some v:=bL h rfl (Bf ⋯ rfl)
theorem adh{x:IE}{u v:AV}(h:aA RF x σ=some (.tup [u,v])):aA RF (.idx x (.int 0)) σ=some u:=bL h rfl (Bf ⋯ rfl)
theorem Cg{a:Nat}(h:a<2^60):eG (a:Int) ((2047:Nat):Int):=by
 have b1:aae ((2047:Nat):Int)=11:=by decide+kernel
 have b2:=bB h
 exact ⟨⋯,%[a<=14*b,b=11,a<=60|(aP b1 b2)],%[a<=4500,a=11|(aG b1)]⟩
theorem Ui(hb:97<=b/\b+s<=123):∀d∈13::(zc s b).reverse,d<2^6:=λd hd=>by
 cases hd with
 |head=>decide
 |tail _ hd=>
  obtain ⟨n,hn,rfl⟩:=ac2.mp (aj0.mp hd)
  have:=abd.mp hn
  show b+n-64<64
  exact %[a<64,aU (97<=b) (b+c<=123),d<c,qD 0 a (b+d) (64)|d4 hb this rfl]
theorem Gd(hs:s=5\/s=7)(hb:97<=b/\b+s<=123):dF 6 (13::(zc s b).reverse)<2^60:=by
 have h:=yY 6 (Ui (s:=s) hb)
 refine aaO h (jA ?_)
 erw[adY,ae3]
 skip
 erw[aan ..,aa0]
 exact %[6*(a+1)<=60,cz (a=5) (a=7)|aG hs]
theorem adi(hs:s=5\/s=7)(hb:97<=b/\b+s<=123):wN s b ch<2^60:=by
 have h:=Gd hs hb
 rw[Gc (ch:=ch) hb.1 hb.2]at h
 exact %[a<(qL 2 60),a+2048*b<(qL 2 60)|aP h]
theorem e13{c:Nat}(hs:s=5\/s=7)(hb:97<=b/\b+s<=123)(h12:aA tL (.var 12) σ=some (.lst ((wN s b ch::dz c).map ae))):
 aA tL T4 σ=some (ae (wN s b ch%2047)):=
 NB (NA (a:=wN s b ch) (c:=2047) (bL h12 rfl (gL rfl ⋯ rfl)) rfl (Cg (adi hs hb)))
theorem e14{O:Int}(h2:aA tL (.var 2) σ=some (ae s))(hs:s=5\/s=7)(h3:aA tL (.var 3) σ=some (ae m))(h7:aA tL (.var 7) σ=some (.int O)):
 aA tL T5 σ=some (.lst ((bf s m s (O.fmod s).toNat).map ae)):=
 aC rfl (af h2 (af h3 (af h7 ao))) (cO (ys:=[ae s,ae m,.int O]) rfl (by
  show (if _ then _ else none)=_
  exact if_pos %[aU (1<=a) (a<=100),cz (a=5) (a=7)|(aG hs)]))
theorem k8:∀l:List Nat,(l.map ae).mapM uP=some l
 |[]=>rfl
 |c::l=>by (erw[aa6,ad4,k8 l]);rfl
theorem Ge:∀l:List Nat,(l.map iU).mapM FM=some l
 |[]=>rfl
 |c::l=>by (erw[aa6,ad4,Ge l]);rfl
theorem Ch(k:Nat):∀l:List Nat,(l.map iU).mapM (lM σ k)=some (l.map iU)
 |[]=>rfl
 |z::l=>by
  erw[aa6,ad4,Ch k l]
  cases k <;> rfl
theorem k9(l:List Nat):lM σ 3 (.lst (l.map ae))=some (.bor (l.map ae)):=by
 show ((l.map ae).mapM (lM σ 2)).map AV.bor=_
 erw[pK ..];rfl
theorem NC(l:List Nat):lM σ 3 (.lst (l.map iU))=some (.bor (l.map iU)):=by
 show ((l.map iU).mapM (lM σ 2)).map AV.bor=_
 erw[Ch ..];rfl
theorem X2:(oK s b).length=s:=by unfold oK;erw[aan ..,aa0,rfl]
theorem dM.mao(C:dM s m t o mk)(hb:97<=b/\b+s<=123):fH (bf s m s o) (oK s b):=by
 have hs:=C.hs
 have hl:=C.pP
 refine ⟨%[1<=a,cz (b=5) (b=7),a=b|(aP hs hl)],%[a<=100,aU (97<=b) (b+c<=123),a=c|(bJ hb hl)],by (erw[X2,hl,rfl]),λx hx=>?_,λc hc=>?_⟩
 .have:=C.XZ x hx;exact %[aU (1<=a) (a<=100),aU (1<=a) (a<=2)|aG this]
 . (refine bz (ac2.mp hc) λn hn cc=>?_;obtain rfl:=cc)
   have:=abd.mp hn
   exact %[aU (97<=a+b) (a+b<=122),aU (97<=a) (a+c<=123),b<c|bJ hb this]
theorem Y4{sl ls:List Nat}{f dr:Nat}{x y z:IE}(K:fH sl ls)(h14:aA tL (.var 14) σ=some (.lst (sl.map ae)))(h6:aA tL (.var 6) σ=some (.lst (ls.map iU)))(hx:aA tL x σ=some (ae f))(hy:aA tL y σ=some (ae dr))(hz:aA tL z σ=some (ae h4)):
 aA tL (.call (.glob "_law_mail" (.obj (.ref 213))) (.cons (.var 14) (.cons (.var 6) (.cons x (.cons y (.cons z .nil)))))) σ=some (.str (wS (iY sl ls f dr h4))):=by
 refine aC rfl (af h14 (af h6 (af hx (af hy (af hz ao))))) (cO (ys:=[.bor (sl.map ae),.bor (ls.map iU),ae f,ae dr,ae h4]) ?_ ?_)
 .erw[ad4,k9 ..,ad4,NC ..];rfl
 .show ((sl.map ae).mapM uP).bind _=_
  erw[k8 ..,aa5 ..]
  show ((ls.map iU).mapM FM).bind _=_
  erw[Ge ..,aa5 ..]
  exact if_pos ⟨K.n0,K.n1,K.MZ,K.ds,K.cs⟩
theorem Ci{sl ls:List Nat}{f dr en:Nat}(K:fH sl ls):(iY sl ls f dr en).length<=104*sl.length+8:=by
 have hR:=vb (f:=f) (dr:=dr) (en:=en) K (aai sl.length)
 rw[aa0]at hR
 have h4:=BG ((en/16:Nat):Int)
 skip
 erw[aao,aao,aao,aao]
 show _+(3+(1+(1+_)))<=_
 exact %[a+(3+(1+(1+b)))<=104*c+8,a<=104*c,b<=2|bJ hR h4]
theorem zf(l:List Nat):(XS l).length<=4*l.length:=by
 have h1:=oA l.length l (adJ _)
 have h2:=vd true (cS l)
 skip
 exact %[a<=4*b,c<=2*b,a<=2*c|bJ h1 h2]
theorem vk{x:IE}{l:List Nat}(h:aA tL x σ=some (.str (wS l)))(hl:l.length<=100000):aA tL (.call (.glob "quotedata" (.obj (.ref 97))) (.cons x .nil)) σ=some (.str (wS (XS l))):=
 aC rfl (af h ao) (cO (ys:=[.str (wS l)]) rfl (by
  have h1:=oA l.length l (adJ _)
  show Mx [.str (wS l)]=_
  simp only[Mx,Bv,yZ]
  (rw[HW];erw[if_pos ⟨by show l.length<=_;exact %[a<=1000000,a<=100000|aG hl],by show (cS l).length<=_;exact %[a<=1000000,b<=100000,a<=2*b|aP hl h1]⟩,HX ..]);rfl))
theorem ND{x:IE}{l:List Nat}(h:aA tL x σ=some (.str (wS l)))(hl:l.length<=100000)(hg:∀c∈l,vg c):aA tL (.call (.glob "_law_prepared" (.obj (.ref 194))) (.cons x .nil)) σ=some (.str (wS (df l))):=
 aC rfl (af h ao) (cO (ys:=[.str (wS l)]) rfl (by
  show MG [.str (wS l)]=_
  simp only[MG,Bv,yZ,kW]
  rw[if_pos ⟨%[a<=(qL 2 20),a<=100000|(aG hl)],hg⟩]))
theorem NE(l:List Nat):(df l).length<=l.length:=by
 skip
 erw[aan ..]
 exact ajc _ _
theorem zg:∀(l:List Nat) (c:Option Nat),(fO c l).length<=l.length
 |[],_=>by show 0<=_;exact %[0<=a|aG]
 |x::l,c=>by
  erw[eI ..]
  split
  .have:=zg l (some (c.getD 0*64+x%64));show _<=l.length+1;exact %[a<=b+1,a<=b|aP this]
  .have:=zg l none;show (fO none l).length+1<=l.length+1;exact %[a<b+1,a<=b|aP this]
theorem NF{x:IE}{l:List Nat}{ps:List (Nat×Nat)}(h:aA tL x σ=some (.lst (l.map ae)))(hl:l.length<=100000)(hp:HU (cP 0 l)=some ps):aA tL (.call (.glob "_law_rows" (.obj (.ref 220))) (.cons x .nil)) σ=some (.lst (ps.map kY)):=by
 refine aC rfl (af h ao) (cO (ys:=[.bor (l.map ae)]) ?_ ?_)
 .erw[ad4,k9 ..];rfl
 .show ((l.map ae).mapM uP).bind _=_
  erw[k8 ..,aa5 ..]
  show (if _ then _ else none)=_
  erw[if_pos %[a<=(qL 2 20),a<=100000|(aG hl)],hp];rfl
noncomputable def H8(s m t o b:Nat):List (Nat×Nat):=(aai s).map λi=>(b-64+i,(bf s m s o).getD i 0+t)
theorem dM.rows(C:dM s m t o mk)(hb:97<=b/\b+s<=123){f en:Nat}(hf:f<s):HU (cP 0 (fO none (oB (bf s m s o) (oK s b) f en t)))=some (H8 s m t o b):=by
 have K:=C.mao hb
 erw[H2 K,H4 K]
 have hl:=C.pP
 have e:((aai (bf s m s o).length).map λp=>((oK s b).getD (a0 (bf s m s o) f p) 0-64,(bf s m s o).getD (a0 (bf s m s o) f p) 0+t))=(aai s).map λp=>(b-64+(f+p)%s,(bf s m s o).getD ((f+p)%s) 0+t):=by
  erw[hl]
  refine abG λp _=>?_
  unfold a0
  rw[hl]
  have bA:(f+p)%s<s:=adC _ %[0<a,b<a|(aP hf)]
  generalize (f+p)%s=n at *
  have:(oK s b).getD n 0=b+n:=by unfold oK;simp[bA]
  rw[this]
  congr 1
  exact %[a=b+c,aU (97<=d) (d+e<=123),qD 0 a (d+c) (64),qD 0 b d (64)|Cj hb rfl rfl]
 erw[e,QX C.hs hf (x:=b-64) (g:=λi=>(bf s m s o).getD i 0+t)];rfl
theorem vm(l:List Nat):(aai l.length).map (λi=>l.getD i 0)=l:=by
 refine amB (by (erw[aan ..,aa0,rfl])) λi h1 h2=>?_
 simp[h2]
theorem e18(C:dM s m t o mk)(hl:σ.vars.length=34)(h:aA tL (.var 17) σ=some (.lst ((H8 s m t o b).map kY))):aA tL (.comp (.idx (.var 34) (.int 1)) (.exp (.var 17)) .nil) σ=some (.lst ((iy s m t o).map ae)):=by
 have hs:=C.hs
 refine (jB (f:=kY) (g:=λp=>ae p.2) (l:=H8 s m t o b) (fV h rfl) (λp hp=>bL (vn hl) rfl (gL rfl ⋯ rfl)) (by unfold H8;erw[aan ..,aa0];exact %[a<=1000,cz (a=5) (a=7)|aG hs])).trans ?_
 congr 2
 have e:iy s m t o=(aai s).map λi=>(bf s m s o).getD i 0+t:=by
  have h0:=vm (bf s m s o)
  unfold iy
  conv=>lhs;rw[<-h0,C.pP,abH]
  rfl
 erw[e]
 skip
 erw[abH,abH];rfl
theorem e19(C:dM s m t o mk)(h:aA tL (.var 18) σ=some (.lst ((iy s m t o).map ae))):aA tL (.call (.glob "sum" (.obj (.builtin "sum"))) (.cons (.var 18) .nil)) σ=some (ae (bE s m t)):=
 (aC rfl (af h ao) (MS rfl)).trans (by erw[C.X0,rfl])
end
end
section
section
variable{σ:bj}{h0 h1 h2 h3 h4 s m t o mk b:Nat}
theorem H9{f:Nat->AV}(hs:s=5\/s=7):cB ((aai s).map f) none none (some (-1))=((aai s).map f).reverse:=by
 rcases hs with h|h <;> subst h <;> kernel_rfl
theorem adj(hb:97<=b):(aai s).map (λi=>b-64+i)=zc s b:=by
 skip
 exact abG λn _=>%[a+b=c,97<=d,qD 0 a d (64),qD 0 c (d+b) (64)|(d4 hb rfl rfl)]
theorem e20(C:dM s m t o mk)(hb:97<=b/\b+s<=123)(hl:σ.vars.length=34)(h:aA tL (.var 17) σ=some (.lst ((H8 s m t o b).map kY))):
 aA tL TK σ=some (ae (dF 6 (13::(zc s b).reverse))):=by
 have hs:=C.hs
 have hc:aA tL (.comp (.idx (.var 34) (.int 0)) (.exp (.var 17)) .nil) σ=some (.lst ((aai s).map λi=>ae (b-64+i))):=by
  refine (jB (f:=kY) (g:=λp=>ae p.1) (l:=H8 s m t o b) (fV h rfl) (λp hp=>bL (vn hl) rfl (gL rfl ⋯ rfl)) (by unfold H8;erw[aan ..,aa0];exact %[a<=1000,aU (97<=b) (b+a<=123)|aP hb])).trans ?_
  skip
  erw[abH];rfl
 have hr:((aai s).map λi=>ae (b-64+i)).reverse=(zc s b).reverse.map ae:=by
  erw[aj1,<-adj hb.1,abH];rfl
 refine aC rfl (af (x:=.lst ((13::(zc s b).reverse).map ae)) (ag (x:=.lst ([13].map ae)) (y:=.lst ((zc s b).reverse.map ae)) (nq (af rfl ao) rfl) ((Du (x:=.lst ((aai s).map λi=>ae (b-64+i))) (y:=.none) (z:=.none) (u:=.int (-1)) (v:=.none) hc rfl rfl (uA rfl) (uV (l:=none) (u:=none) (t:=some (-1)) rfl rfl rfl rfl ⋯ ?_)).trans ?_) ((Ts (xs:=[13].map ae) (ys:=(zc s b).reverse.map ae) rfl rfl ?_).trans rfl)) (af rfl ao)) (cO (ys:=[.bor ((13::(zc s b).reverse).map ae),.int 6]) ?_ ?_)
 .have:aa7=16777216:=rfl
  erw[aan ..,aa0];exact %[a<=b,aU (97<=c) (c+a<=123),b=16777216|bJ hb this]
 .erw[H9 hs,hr,rfl]
 .have:aa7=16777216:=rfl
  skip
  refine decide_eq_true ?_
  erw[aan ..,aan ..,ae3,aan ..,aa0]
  show 1+s<=_
  exact %[1+a<=b,aU (97<=c) (c+a<=123),b=16777216|bJ hb this]
 .erw[ad4,k9 ..];rfl
 .have bq:(13::(zc s b).reverse).length=s+1:=by
   erw[adY,ae3];unfold zc;erw[aan ..,aa0,rfl]
  exact FN (n:=6) ⋯ ⋯ (by erw[bq];exact %[a+1<16,cz (a=5) (a=7)|aG hs]) (Ui hb)
theorem e21(C:dM s m t o mk)(hb:97<=b/\b+s<=123)(h20:aA tL (.var 20) σ=some (ae (dF 6 (13::(zc s b).reverse))))(h13:aA tL (.var 13) σ=some (ae (wN s b (ct s mk)%2047))):
 aA tL TP σ=some (.lst ((B9 s mk).map ae)):=by
 have bA:=Gd C.hs hb
 rw[Gc (ch:=ct s mk) hb.1 hb.2,<-C.agM]at h20 bA
 have hm:=Nw (wN s b (ct s mk)) (xN s mk)
 generalize wN s b (ct s mk)=W at *
 have hB:=C.bits.1
 unfold za at hB
 rw[aap,aap]at hB
 have hd:=eq_of_beq hB.2.1
 have hx:xN s mk%2047<2^11:=aeT (adC _ ⋯) ⋯
 refine aC rfl (af (x:=ae (xN s mk%2047)) ((NB (NA (a:=W+xN s mk-W%2047) (c:=2047) (ag h20 h13 (rv hm.1)) rfl (Cg %[a<(qL 2 60),b+c<(qL 2 60),qD 0 a (b+c) d|(d4 bA rfl)]))).trans (by erw[hm.2,rfl])) (af rfl ao)) (cO (ys:=[ae (xN s mk%2047),.int 1]) rfl ?_)
 have agO:=bB hx
 refine (FT (a:=xN s mk%2047) (n:=1) ⋯ ⋯ %[a<(qL 2 16),a<=11|(aG agO)]).trans ?_
 erw[amm ..,Nat.div_one ..,hd,rfl]
theorem vo(C:dM s m t o mk):(ct s mk).length<=7:=abq C.oC.2.2.1 (Nat.le_of_lt_succ C.s3)
theorem e22(C:dM s m t o mk)(hl:σ.vars.length=34)(h2:aA tL (.var 2) σ=some (ae s))(h9:aA tL (.var 9) σ=some (.lst ((ct s mk).map ae))):
 aA tL T2 σ=some (.lst ((F8 s mk).map ae)):=by
 have hs:=C.hs
 refine (jB (f:=ae) (g:=λn=>ae (6*(s-1-n)%11)) (l:=ct s mk) (fV h9 rfl) (λn hn=>?_) (by have:=vo C;exact %[a<=1000,a<=7|aG this])).trans (by unfold F8;erw[abH];rfl)
 have hn:=C.oC.1 n hn
 refine ag (x:=ae (6*(s-1-n))) (y:=ae 11) (ag (x:=ae 6) (y:=ae (s-1-n)) rfl (ag (x:=ae (s-1)) (y:=ae n) (ag (x:=ae s) (y:=ae 1) ((vp hl ⋯).trans h2) rfl (rv %[1<=a,b<a|(aP hn)])) (vn hl) (rv %[a<=b,a<c,qD 0 b c (1)|(bJ hn rfl)])) (BJ ?_)) rfl (dA (b:=11) ⋯ (eN 11 ⋯))
 have b1:aae ((6:Nat):Int)=3:=rfl
 have b2:=bB (a:=s-1-n) (k:=3) %[a<(qL 2 3),cz (b=5) (b=7),qD 0 c b (1),qD 0 a c d|(d4 hs rfl rfl)]
 exact %[a+b<=(qL 2 20),a=3,b<=3|aP b1 b2]
theorem f22(C:dM s m t o mk)(hl:σ.vars.length=34)(h21:aA tL (.var 21) σ=some (.lst ((B9 s mk).map ae)))(h22:aA tL (.var 22) σ=some (.lst ((F8 s mk).map ae))):
 iZ tL TQ σ=some false:=by
 have hB:=C.bits.1
 unfold za at hB
 rw[aap,aap]at hB
 have hM:=eq_of_beq hB.1
 have jj:=of_decide_eq_true hB.2.2
 refine aJ (bh h21 (y:=.lst ((B9 s mk).map ae)) ((lL (l:=aai (1+YK s mk)) (g:=λk=>ae (if (F8 s mk).contains k then 1 else 0)) (fJ (n:=1+YK s mk) (ag (x:=ae 1) (y:=ae (YK s mk)) rfl (aC rfl (af h22 ao) ?_) dP) %[1+a<=1000,a<=10|(aG jj)]) (λk hk=>?_) (by erw[aa0];exact %[1+a<=1000,a<=10|aG jj])).trans (by unfold B9;erw[abH];rfl)) (ot rfl rfl))
 .show ((bp ((F8 s mk).map ae)).bind λl=>l.max?).map AV.int=_
  erw[fG ..,aa5 ..,hM];rfl
 .refine nn (p:=(F8 s mk).contains k) (aJ (bh (vn hl) ((vp hl ⋯).trans h22) (k_in rfl))) ?_
  show _=some (ae (if (F8 s mk).contains k then 1 else 0))
  cases (F8 s mk).contains k <;> rfl
noncomputable def uN:Nat:=10^20
noncomputable def qI(s m t o:Nat)(Q:Int)(n:Nat):Int:=Q+(((bE s m t*n+o)/s:Nat):Int)
theorem e23:aA tL (.bin .Pow (.int 10) (.int 20)) σ=some (ae uN):=ag (x:=ae 10) (y:=ae 20) rfl rfl (MQ (by decide+kernel))
theorem Rm{O Q:Int}(hs:0<s)(hO:O=s*Q+o)(n:Nat):((((bE s m t:Nat):Int)*n+O)*uN).fdiv ((s*uN:Nat):Int)=qI s m t o Q n/\((((bE s m t:Nat):Int)*n+O)*uN).fmod ((s*uN:Nat):Int)=((gA s m o n*uN:Nat):Int):=by
 have hu:0<uN:=akh ⋯
 have hr:(bE s m t*n+o)%s=gA s m o n:=Rk n
 have hd:=aij (bE s m t*n+o) s
 have bA:gA s m o n<s:=adC _ hs
 unfold qI
 rw[hr]at hd
 generalize (bE s m t*n+o)/s=q at *
 generalize bE s m t=T at *
 generalize gA s m o n=r at *
 refine eZ ?_ (ad0 _) (ag1.mpr (ais bA hu))
 generalize uN=u at *
 have e:((T:Int)*n+O)=(Q+q)*s+r:=by
  rw[hO]
  have:((T*n+o:Nat):Int)=((r+s*q:Nat):Int):=congrArg _ hd.symm
  rw[agp,aeb,agp,aeb]at this
  rw[ahR,ah0 Q,ah0 (q:Int)]
  exact %[(qC a)*(qC b)+((qC c)*a+(qC d))==(qC c)*a+(qC c)*(qC e)+(qC f),f+c*e=a*b+d|q61 hd]
 rw[e,aeb,aeb,ahR,ag2]
end
end
section
section
variable{σ:bj}{h0 h1 h2 h3 h4 s m t o mk b:Nat}{O Q:Int}
theorem cp{a:Int}{k:Nat}(h:a.natAbs<2^k):aae a<=k:=by
 erw[<-iX a]
 exact bB h
theorem xd:uN<2^67:=by decide+kernel
theorem Iu{p q:Nat}{i j:Int}(a:aae i<=p)(b:aae j<=q)(h:p+q<=2^20):cR σ .Mult (.int i) (.int j)=some (.int (i*j)):=LW (decide_eq_true (abq (ajz a b) h))
theorem nmB{p q i j:Nat}(a:aae (i:Int)<=p)(b:aae (j:Int)<=q)(h:p+q<=2^20):cR σ .Mult (ae i) (ae j)=some (ae (i*j)):=BJ (abq (ajz a b) h)
theorem lf{a b:Int}{p q r:Nat}(h:a.natAbs<2^p)(k:b.natAbs<2^q)(e:p+q=r):(a*b).natAbs<2^r:=by
 subst e
 exact rwG (akK ..) (rwG (af6 ..) (amT h k))
theorem NK{a b:Int}{p:Nat}(h:a.natAbs<2^p)(k:b.natAbs<2^p):(a+b).natAbs<2^(p+1):=
 rwG (ahe ..) (rwG (Nat.mul_two _) (adZ (Int.natAbs_add_le ..) (Nat.add_lt_add h k)))
theorem Rn(hs:s=5\/s=7):60<=aae ((s*uN:Nat):Int)/\aae ((s*uN:Nat):Int)<=100/\0<s*uN:=by
 rcases hs with rfl|rfl <;> decide+kernel
theorem zh(C:dM s m t o mk):bE s m t<64:=by
 have h1:=C.hs
 have h2:=C.m1
 have h3:=C.ht
 skip
 rcases h1 with h|h <;> rcases h3 with h'|h' <;> subst h <;> subst h' <;> (first|exact %[a+5*(1+1)<64,a<5|aG h2]|exact %[a+5*(1+2)<64,a<5|aG h2]|exact %[a+7*(1+1)<64,a<7|aG h2]|exact %[a+7*(1+2)<64,a<7|aG h2])
theorem Uj(hs:s=5\/s=7){x y:IE}(hx:aA tL x σ=some (ae s))(hy:aA tL y σ=some (ae uN)):aA tL (.bin .Mult x y) σ=some (ae (s*uN)):=
 ag hx hy (nmB (bB (a:=s) (k:=3) %[a<(qL 2 3),cz (a=5) (a=7)|(aG hs)]) (bB xd) ⋯)
theorem NM(hs:s=5\/s=7){a:Int}(ha:a.natAbs<2^700):eG a ((s*uN:Nat):Int):=by
 have b:=Rn hs
 have c:=cp ha
 exact ⟨Int.ofNat_ne_zero.mpr (ai3 b.2.2),abq c (abq (by decide:700<=14*60) (aeL 14 b.1)),abq b.2.1 ⋯⟩
noncomputable def Gf(s m t o:Nat)(Q:Int)(n:Nat):AV:=.tup [.int (qI s m t o Q n),ae (gA s m o n*uN)]
theorem e24(C:dM s m t o mk)(hl:σ.vars.length=34)(hO:O=s*Q+o)(YL:O.natAbs<2^60)(h2:aA tL (.var 2) σ=some (ae s))(h7:aA tL (.var 7) σ=some (.int O))(X3:aA tL (.var 19) σ=some (ae (bE s m t)))(h23:aA tL (.var 23) σ=some (ae uN)):
 aA tL TN σ=some (.lst ((aai s).map (Gf s m t o Q))):=by
 have hs:=C.hs
 refine lL (fJ h2 %[a<=1000,cz (a=5) (a=7)|(aG hs)]) (λn hn=>?_) (by erw[aa0];exact %[a<=1000,cz (a=5) (a=7)|aG hs])
 have hn:=abd.mp hn
 have t6:(bE s m t:Int).natAbs<2^6:=zh C
 have n3:(n:Int).natAbs<2^3:=aeT hn C.s3
 have hA:=NK (aaO (lf t6 n3 (by decide:6+3=9)) (jA ⋯)) YL
 have ht:=Rm (m:=m) (t:=t) C.sp hO n
 refine (s7 (a:=(((bE s m t:Nat):Int)*n+O)*uN) (c:=((s*uN:Nat):Int)) (ag (x:=.int (((bE s m t:Nat):Int)*n+O)) (y:=ae uN) (ag (x:=.int (((bE s m t:Nat):Int)*n)) (y:=.int O) (ag (x:=ae (bE s m t)) (y:=ae n) ((vp hl ⋯).trans X3) (vn hl) (Iu (cp t6) (cp n3) ⋯)) ((vp hl ⋯).trans h7) gK) ((vp hl ⋯).trans h23) (Iu (cp hA) (bB xd) ⋯)) (Uj hs ((vp hl ⋯).trans h2) ((vp hl ⋯).trans h23)) (NM hs (aaO (lf hA (b:=uN) xd (by decide:61+67=128)) (jA ⋯)))).trans ?_
 erw[ht.1,ht.2];rfl
theorem agQ(C:dM s m t o mk)(Q:Int):qI s m t o Q s=qI s m t o Q 0+((bE s m t:Nat):Int):=by
 have hs:=C.sp
 unfold qI
 have:=pQ (o:=o) (s:=s) (bE s m t) 1 0 hs
 rw[aeD,agz,agz]at this
 rw[this,agS]
 exact %[a+(qC (a+b))==a+(qC a)+(qC b)|Gq]
theorem e25(C:dM s m t o mk)(hl:σ.vars.length=34)(YM:aA tL (.var 24) σ=some (.lst ((aai s).map (Gf s m t o Q))))(X3:aA tL (.var 19) σ=some (ae (bE s m t))):
 aA tL TU σ=some (.lst ((aai (s+1)).map λn=>.int (qI s m t o Q n))):=by
 have hs:=C.hs
 have h00:aA tL (.idx (.var 24) (.int 0)) σ=some (Gf s m t o Q 0):=bL YM rfl (gL rfl ⋯ (by
  show ((aai s).map (Gf s m t o Q))[0]?=_
  erw[adR,af5 C.sp];rfl))
 refine (ag (jB (f:=Gf s m t o Q) (g:=λn=>.int (qI s m t o Q n)) (l:=aai s) (fV YM rfl) (λn hn=>adh (vn hl)) (by erw[aa0];exact %[a<=1000,cz (a=5) (a=7)|aG hs])) (nq (af (x:=.int (qI s m t o Q 0+((bE s m t:Nat):Int))) (ag (adh h00) X3 gK) ao) rfl) (Ts rfl rfl ?_)).trans ?_
 .have:aa7=16777216:=rfl
  refine decide_eq_true ?_
  erw[aan ..,aa0]
  show s+1<=_
  exact %[a<b,cz (a=5) (a=7),b=16777216|aP hs this]
 .erw[amW,acf,<-agQ C ..];rfl
theorem f25(C:dM s m t o mk)(hl:σ.vars.length=34)(h2:aA tL (.var 2) σ=some (ae s))(h25:aA tL (.var 25) σ=some (.lst ((aai (s+1)).map λn=>.int (qI s m t o Q n))))(h18:aA tL (.var 18) σ=some (.lst ((iy s m t o).map ae))):
 iZ tL TV σ=some false:=by
 have hs:=C.hs
 have hg:∀n,n<s+1->∀τ:bj,nK τ (.lst ((aai (s+1)).map λn=>.int (qI s m t o Q n))) (ae n)=some (.int (qI s m t o Q n)):=λn hn τ=>gL rfl ⟨%[0>=(qC a)|(aG)],%[(qC a)>(qL 2 62),cz (b=5) (b=7),a<b+1|(aP hs hn)]⟩ (by
  erw[abE ..,adR,af5 hn];rfl)
 have e:(iy s m t o).map ae=(aai s).map λn=>ae ((iy s m t o).getD n 0):=by
  have:=vm (iy s m t o)
  rw[C.zb]at this
  conv=>lhs;rw[<-this,abH]
  rfl
 refine aJ (bh (x:=.lst ((iy s m t o).map ae)) ?_ h18 (ot rfl rfl))
 erw[e]
 refine lL (fJ h2 %[a<=1000,cz (a=5) (a=7)|(aG hs)]) (λn hn=>?_) (by erw[aa0];exact %[a<=1000,cz (a=5) (a=7)|aG hs])
 have hn:=abd.mp hn
 refine (ag (bL ((vp hl ⋯).trans h25) (ag (x:=ae n) (y:=ae 1) (vn hl) rfl dP) (hg (n+1) %[a+1<b+1,a<b|(aP hn)] _)) (bL ((vp hl ⋯).trans h25) (vn hl) (hg n %[a<b+1,a<b|(aP hn)] _)) k_sub).trans (congrArg (λi=>some (AV.int i)) ?_)
 have:=C.Ga hn
 skip
 exact %[a+(qC a)-(a+(qC b))==(qC c),b+c=a|q31 this]
theorem X4(hs:0<s)(n:Nat):(-((bE s m t:Nat):Int)*n*uN).fmod ((s*uN:Nat):Int)=((lR m s n*uN:Nat):Int):=by
 have hu:0<uN:=akh ⋯
 rw[<-Ri (t:=t)]
 unfold lR
 have hd:=aij (bE s m t*n) s
 have bA:=adC (bE s m t*n) hs
 have e0: -((bE s m t:Nat):Int)*n= -((bE s m t*n:Nat):Int):=by rw[aeb,aiJ]
 rw[e0]
 generalize bE s m t*n=x at *
 have key:∃q:Int, -(x:Int)=q*s+(((s-x%s)%s:Nat):Int)/\(s-x%s)%s<s:=by
  by_cases h:x%s=0
  .refine ⟨-((x/s:Nat):Int),?_,adC _ hs⟩
   erw[h,Nat.sub_zero ..,Nat.mod_self ..,aiJ ..]
   exact %[(qG (qC a))==(qG ((qC c)*(qC b)))+(qC (0)),d+b*c=a,d=0|d4 hd h]
  .refine ⟨-((x/s:Nat):Int)-1,?_,adC _ hs⟩
   erw[agC (Nat.sub_lt hs (Nat.pos_of_ne_zero h)),alN ..,aiJ ..,agW ..]
   exact %[(qG (qC a))==(qG ((qC b)*(qC c)))-(qC c)+(qC d),e+c*b=a,e<c,qD 0 d c e|Cj hd bA rfl]
 obtain ⟨q,h1,h2⟩:=key
 refine (eZ (q:=q) ?_ (ad0 _) (ag1.mpr (ais h2 hu))).2
 rw[h1,aeb,aeb,ahR,ag2]
theorem e26(C:dM s m t o mk)(hl:σ.vars.length=34)(h2:aA tL (.var 2) σ=some (ae s))(h9:aA tL (.var 9) σ=some (.lst ((ct s mk).map ae)))(X3:aA tL (.var 19) σ=some (ae (bE s m t)))(h23:aA tL (.var 23) σ=some (ae uN)):
 aA tL TL σ=some (.lst (((ct s mk).map λn=>lR m s n*uN).map ae)):=by
 have hs:=C.hs
 refine (jB (f:=ae) (g:=λn=>ae (lR m s n*uN)) (l:=ct s mk) (fV h9 rfl) (λn hn=>?_) (by have:=vo C;exact %[a<=1000,a<=7|aG this])).trans (by erw[abH];rfl)
 have hn:=C.oC.1 n hn
 have t6:(-(bE s m t:Int)).natAbs<2^6:=rwG (ank ..) (zh C)
 have n3:(n:Int).natAbs<2^3:=aeT hn C.s3
 have hA:=lf t6 n3 (by decide:6+3=9)
 exact (NB (s7 (a:= -((bE s m t:Nat):Int)*n*uN) (c:=((s*uN:Nat):Int)) (ag (x:=.int (-((bE s m t:Nat):Int)*n)) (y:=ae uN) (ag (x:=.int (-((bE s m t:Nat):Int))) (y:=ae n) (uA ((vp hl ⋯).trans X3)) (vn hl) (Iu (cp t6) (cp n3) ⋯)) ((vp hl ⋯).trans h23) (Iu (cp hA) (bB xd) ⋯)) (Uj hs ((vp hl ⋯).trans h2) ((vp hl ⋯).trans h23)) (NM hs (aaO (lf hA (b:=uN) xd (by decide:9+67=76)) (jA ⋯))))).trans (congrArg (λi=>some (AV.int i)) (X4 C.sp n))
end
end
section
section
variable{σ:bj}{h0 h1 h2 h3 h4 s m t o mk b:Nat}{O Q:Int}
theorem Uk:0<uN:=akh ⋯
theorem X5{u:Nat}(hu:0<u)(ch:List Nat)(r:Nat):(((ch.map λn=>lR m s n*u).filter λx=>decide (x<=r*u)).map λx=>x).length=((ch.map (lR m s)).filter λb=>decide (b<=r)).length:=by
 erw[aan ..,amZ,aan ..,amZ,aan ..]
 congr 2
 funext n
 exact decide_eq_decide.mpr ⟨λq=>Nat.le_of_mul_le_mul_right q hu,λq=>aeP u q⟩
theorem e27(C:dM s m t o mk)(hl:σ.vars.length=34)(h9:aA tL (.var 9) σ=some (.lst ((ct s mk).map ae)))(YM:aA tL (.var 24) σ=some (.lst ((aai s).map (Gf s m t o Q))))(h26:aA tL (.var 26) σ=some (.lst (((ct s mk).map λn=>lR m s n*uN).map ae))):
 aA tL TD σ=some (.lst ((aai s).map λn=>ae (eJ s m o mk n))):=by
 have hs:=C.hs
 have hc:=vo C
 refine jB (f:=Gf s m t o Q) (g:=λn=>ae (eJ s m o mk n)) (l:=aai s) (fV YM rfl) (λn hn=>?_) (by erw[aa0];exact %[a<=1000,cz (a=5) (a=7)|aG hs])
 have Cm:aA tL (.comp (.var 35) (.exp (.var 26)) (.cons (.val (.cmp .LtE (.var 35) (.idx (.var 34) (.int 1)))) .nil)) (σ.push (Gf s m t o Q n))=some (.lst (((((ct s mk).map λn=>lR m s n*uN).filter λx=>decide (x<=gA s m o n*uN)).map λx=>x).map ae)):=by
  refine FX (fV ((vp hl ⋯).trans h26) rfl) (λk hk=>?_) (λk hk=>vn2 hl) (by erw[aan ..];exact %[a<=1000,a<=7|aG hc])
  refine (jw (p:=decide (k<=gA s m o n*uN)) (aJ (bh (x:=ae k) (y:=ae (gA s m o n*uN)) (vn2 hl) (NB (vn1 hl)) ?_)) λ_=>pH).trans (by erw[agy ..,rfl])
  show some (decide ((k:Int)<=((gA s m o n*uN:Nat):Int)))=_
  congr 1
  exact decide_eq_decide.mpr ajT
 have jj:((((ct s mk).map λn=>lR m s n*uN).filter λx=>decide (x<=gA s m o n*uN)).map λx=>x).length<=7:=by
  erw[aan ..]
  refine abq (ajc _ _) ?_
  erw[aan ..];exact hc
 refine (ag (aC rfl (af Cm ao) (ix rfl %[a<=1000,a<=7|(aG jj)])) (aC rfl (af ((vp hl ⋯).trans h9) ao) (ix rfl %[a<=1000,a<=7|(aG hc)])) (dA C.oC.2.1 (eN _ %[a<(qL 2 100),a<=7|(aG hc)]))).trans ?_
 erw[X5 (u:=uN) Uk ..];rfl
theorem e28(C:dM s m t o mk)(h9:aA tL (.var 9) σ=some (.lst ((ct s mk).map ae)))(h18:aA tL (.var 18) σ=some (.lst ((iy s m t o).map ae))):
 aA tL (.call (.glob "_law_shapes" (.obj (.ref 225))) (.cons (.var 18) (.cons (.var 9) .nil))) σ=some (.lst ((aai s).map λp=>.lst ((gx (iy s m t o) (ct s mk) p).map ae))):=by
 have hs:=C.hs
 have hc:=vo C
 refine aC rfl (af h18 (af h9 ao)) (cO (ys:=[.bor ((iy s m t o).map ae),.bor ((ct s mk).map ae)]) ?_ ?_)
 .erw[ad4,k9 ..,ad4,k9 ..];rfl
 .show (((iy s m t o).map ae).mapM uP).bind _=_
  erw[k8 ..,aa5 ..]
  show (((ct s mk).map ae).mapM uP).bind _=_
  erw[k8 ..,aa5 ..]
  show (if _ then _ else none)=_
  erw[C.zb]
  exact if_pos ⟨C.sp,%[a<=100,cz (a=5) (a=7)|(aG hs)],%[a<=100,a<=7|(aG hc)],C.oC.1⟩
noncomputable def DX(k:Nat->Nat)(sh:Nat->List Nat)(n:Nat):AV:=.lst [ae (k n),.lst ((sh n).map ae)]
noncomputable abbrev X6:eW:=TE
noncomputable def pI(k:Nat->Nat)(sh:Nat->List Nat)(n:Nat):Int×List Int:=((k n:Int),nv (sh n))
theorem Gg(k:Nat->Nat)(sh:Nat->List Nat)(n:Nat):f0 (DX k sh n)=some (pI k sh n):=by
 show (bp ((sh n).map ae)).map (λl=>((k n:Int),l))=_
 erw[fG ..];rfl
theorem vq(k:Nat->Nat)(sh:Nat->List Nat):∀l:List Nat,ky (l.map (DX k sh))=some (l.map (pI k sh))
 |[]=>rfl
 |n::l=>by
  erw[aa6]
  show (f0 (DX k sh n)).bind (λp=>(ky (l.map (DX k sh))).map (p::·))=_
  erw[Gg ..,aa5 ..,vq k sh l];rfl
theorem Gi:∀{a b:List Nat},nv a=nv b->a=b
 |[],[],_=>rfl
 |[],_::_,h=>by cases h
 |_::_,[],h=>by cases h
 |x::a,y::b,h=>by
  have h:=ajd h
  erw[Gi h.2,ama h.1,rfl]
theorem X7(k:Nat->Nat)(sh:Nat->List Nat)(n n':Nat):(pI k sh n'==pI k sh n)=(k n==k n'&&sh n==sh n'):=by
 (rw[ahG];rw[beq_iff_eq];erw[aap ..];rw[beq_iff_eq];rw[beq_iff_eq])
 constructor
 .intro h
  have h:=Prod.mk.inj h
  exact ⟨(ama h.1).symm,(Gi h.2).symm⟩
 .rintro ⟨h1,h2⟩
  unfold pI
  rw[h1,h2]
theorem X8(k:Nat->Nat)(sh:Nat->List Nat)(n:Nat)(l:List Nat){σ:bj}{x:AV}(hx:σ.listOf x=some (l.map (DX k sh))):rx σ .NotIn (DX k sh n) x=some (!l.any λn'=>k n==k n'&&sh n==sh n'):=by
 show (sP σ (DX k sh n) x).map (!·)=_
 unfold sP
 (rw[Gg];erw[aa5 ..,hx,aa5 ..,vq ..])
 show some (!((l.map (pI k sh)).any (· ==pI k sh n)))=_
 erw[List.any_map]
 congr 3
 funext n'
 exact X7 k sh n n'
theorem zi{k:Nat->Nat}{sh:Nat->List Nat}{N:Nat}(hN:N<=100){r0 r1 r2 r3 r4 r6 r7 r8 r9 DY DZ D0 D1 Ro NN Gj D2 D3 D4 D5 D6 D7 D8 D9 Eg Eh Ei Ej r32 Gk:Option AV}{n:Nat}:∀(l acc:List Nat) (r5:Option AV),(∀i∈l,i<N)->acc.length+l.length<=1000->∃u5,
 jK (λx σ=>cg tL n X6 (σ.put 5 x)) (l.map ae) ⟨r0::r1::r2::r3::r4::r5::r6::r7::r8::r9::DY::DZ::D0::D1::Ro::NN::Gj::D2::D3::D4::D5::D6::D7::D8::D9::Eg::Eh::some (.lst ((aai N).map λn=>ae (k n)))::some (.lst ((aai N).map λp=>.lst ((sh p).map ae)))::some (.own 0)::Ei::Ej::r32::Gk::[],[acc.map (DX k sh)]⟩=
  some (⟨r0::r1::r2::r3::r4::u5::r6::r7::r8::r9::DY::DZ::D0::D1::Ro::NN::Gj::D2::D3::D4::D5::D6::D7::D8::D9::Eg::Eh::some (.lst ((aai N).map λn=>ae (k n)))::some (.lst ((aai N).map λp=>.lst ((sh p).map ae)))::some (.own 0)::Ei::Ej::r32::Gk::[],[(rK (λn n'=>k n==k n'&&sh n==sh n') l acc).map (DX k sh)]⟩,none)
 |[],acc,r5,_,_=>⟨r5,rfl⟩
 |i::l,acc,r5,hi,hl=>by
  have bq:(i::l).length=l.length+1:=rfl
  rw[bq]at hl
  have hi0:=hi i (.head _)
  have cL:aa7=16777216:=rfl
  have hv:∀own:List (List AV),aA tL (.lst (.cons (.idx (.var 27) (.var 5)) (.cons (.idx (.var 28) (.var 5)) .nil))) ⟨r0::r1::r2::r3::r4::some (ae i)::r6::r7::r8::r9::DY::DZ::D0::D1::Ro::NN::Gj::D2::D3::D4::D5::D6::D7::D8::D9::Eg::Eh::some (.lst ((aai N).map λn=>ae (k n)))::some (.lst ((aai N).map λp=>.lst ((sh p).map ae)))::some (.own 0)::Ei::Ej::r32::Gk::[],own⟩=some (DX k sh i):=λown=>
   nq (af (x:=ae (k i)) (bL rfl rfl (gL rfl ⟨%[0>=(qC a)|(aG)],%[(qC a)>(qL 2 62),b<=100,a<b|(aP hN hi0)]⟩ (by
    erw[abE ..,adR,af5 hi0];rfl))) (af (x:=.lst ((sh i).map ae)) (bL rfl rfl (gL rfl ⟨%[0>=(qC a)|(aG)],%[(qC a)>(qL 2 62),b<=100,a<b|(aP hN hi0)]⟩ (by
    erw[abE ..,adR,af5 hi0];rfl))) ao)) rfl
  have hq:=X8 k sh i acc (σ:=⟨r0::r1::r2::r3::r4::some (ae i)::r6::r7::r8::r9::DY::DZ::D0::D1::Ro::NN::Gj::D2::D3::D4::D5::D6::D7::D8::D9::Eg::Eh::some (.lst ((aai N).map λn=>ae (k n)))::some (.lst ((aai N).map λp=>.lst ((sh p).map ae)))::some (.own 0)::Ei::Ej::r32::Gk::[],[acc.map (DX k sh)]⟩) (x:=.own 0) rfl
  have hr:rK (λn n'=>k n==k n'&&sh n==sh n') (i::l) acc=rK (λn n'=>k n==k n'&&sh n==sh n') l (if acc.any (λn'=>k i==k n'&&sh i==sh n') then acc else acc++[i]):=rfl
  erw[hr,aa6]
  by_cases hc:acc.any (λn'=>k i==k n'&&sh i==sh n')=true
  .erw[if_pos hc]
   rw[hc]at hq
   obtain ⟨u5,ih⟩:=zi (n:=n) hN l acc (some (ae i)) (λy hy=>hi y (.tail _ hy)) %[a+b<=1000,a+(b+1)<=1000|(aP hl)]
   exact ⟨u5,bI (au (dv (p:=false) (aJ (bh (hv _) rfl hq)) bH) bH) ih⟩
  .erw[if_neg hc]
   rw[eq_false_of_ne_true hc]at hq
   obtain ⟨u5,ih⟩:=zi (n:=n) hN l (acc++[i]) (some (ae i)) (λy hy=>hi y (.tail _ hy)) (by rw[aao];show acc.length+1+l.length<=_;exact %[a+1+b<=1000,a+(b+1)<=1000|aP hl])
   refine ⟨u5,bI (au (dv (p:=true) (aJ (bh (hv _) rfl hq)) (au ((uB (m:=0) (xs:=acc.map (DX k sh)) rfl (hv _) rfl (decide_eq_true (by erw[aan ..];exact %[a<=b,a+(c+1)<=1000,b=16777216|bJ hl cL]))).trans ?_) bH)) bH) ih⟩
   erw[acf];rfl
theorem f29(C:dM s m t o mk)(hl:σ.vars.length=34)(h9:aA tL (.var 9) σ=some (.lst ((ct s mk).map ae))){l:List Nat}(h29:aA tL (.var 29) σ=some (.own 0))(ho:σ.own[0]?=some (l.map (DX (eJ s m o mk) (gx (iy s m t o) (ct s mk)))))(hll:l.length<60)(hk:eh (nv (l.map (eJ s m o mk)))=nv (aai (ct s mk).length)):
 iZ tL TF σ=some false:=by
 have hc:=vo C
 refine aJ (bh (x:=.lst ((aai (ct s mk).length).map ae)) (y:=.lst ((aai (ct s mk).length).map ae)) ?_ (lL (fJ (aC rfl (af h9 ao) (ix rfl %[a<=1000,a<=7|(aG hc)])) %[a<=1000,a<=7|(aG hc)]) (λn hn=>vn hl) (by erw[aa0];exact %[a<=1000,a<=7|aG hc])) (ot rfl rfl))
 refine aC rfl (af (jB (f:=DX (eJ s m o mk) (gx (iy s m t o) (ct s mk))) (g:=λn=>ae (eJ s m o mk n)) (l:=l) (fV h29 ho) (λn hn=>bL (vn hl) rfl (gL rfl ⋯ rfl)) %[a<=1000,a<60|(aG hll)]) ao) ?_
 show tE (l.map λn=>ae (eJ s m o mk n))=_
 have e:(l.map λn=>ae (eJ s m o mk n))=(l.map (eJ s m o mk)).map ae:=by erw[abH];rfl
 unfold tE
 rw[e,fG]
 show bn (decide ((nv (l.map (eJ s m o mk))).length<64)) (.lst ((eh (nv (l.map (eJ s m o mk)))).map AV.int))=_
 erw[hk]
 refine (bl (decide_eq_true (by (erw[aan ..,aan ..]);exact %[a<64,a<60|aG hll]))).trans ?_
 erw[abH];rfl
theorem zj(q:Nat->Nat->Bool):∀l acc:List Nat,(rK q l acc).length<=acc.length+l.length
 |[],acc=>adJ _
 |n::l,acc=>by
  show (rK q l (if acc.any (q n)=true then acc else acc++[n])).length<=acc.length+(l.length+1)
  by_cases h:acc.any (q n)=true
  .erw[if_pos h]
   have:=zj q l acc
   exact %[a<=b+(c+1),a<=b+c|bJ this]
  .erw[if_neg h]
   have:=zj q l (acc++[n])
   rw[aao]at this
   have e:[n].length=1:=rfl
   exact %[a<=b+(c+1),a<=b+d+c,d=1|d4 this e]
end
end
section
section
variable{σ:bj}{h0 h1 h2 h3 h4 s m t o mk b:Nat}{O Q:Int}
noncomputable def F0:Nat:=2^4202-2^60
noncomputable def G0:Nat:=2^4200+2^2100-1
noncomputable def Rp(x:Nat):Int:=((x%2*2:Nat):Int)-1
noncomputable def X9(h2 T:Nat):Int:=((F0/T:Nat):Int)*Rp (h2/1000)
noncomputable def Ul(h2 h3 s:Nat):Int:=((G0/s*2^(h3%2):Nat):Int)*Rp (h2/10^4)
theorem NP(x:Nat):Rp x=1\/Rp x= -1:=(aht x).elim (λh=>.inr (congrArg (λr=>((r*2:Nat):Int)-1) h)) (λh=>.inl (congrArg (λr=>((r*2:Nat):Int)-1) h))
theorem NQ(f x:Nat):((f:Int)*Rp x).natAbs=f:=(akK ..).trans (((NP x).elim (congrArg λr=>f*amr r) (congrArg λr=>f*amr r)).trans (agz f))
theorem Rq{a:Int}{k:Nat}(h:2^k<=a.natAbs):k<aae a:=by
 erw[<-iX a]
 have:=lI a.natAbs
 exact (Nat.pow_lt_pow_iff_right ⋯).mp (adZ h this)
theorem Um:F0<2^4202:=by
 unfold F0
 have:=adT 60
 have:=adT 4202
 generalize 2^4202=x at *
 generalize 2^60=y at *
 omega
theorem Yb:2^4200<=G0/\G0<2^4201:=by
 unfold G0
 have h1:=adT 2100
 have h2:2^2100<=2^4200:=jA ⋯
 have h3:2^4201=2*2^4200:=by rw[ahe,ad2]
 generalize 2^4201=x at *
 generalize 2^4200=y at *
 generalize 2^2100=z at *
 exact %[aU (a<=b) (b<c),c=2*a,0<d,d<=a,qD 0 b (a+d) (1)|d4 h3 h1 h2 rfl]
theorem adl(h2 T:Nat):(X9 h2 T).natAbs<2^4202:=by
 unfold X9
 exact rwG (NQ ..) (adZ (ail F0 T) Um)
theorem Gl(x:Nat):aae (Rp x)=1:=(NP x).elim (λe=>rwG e rfl) (λe=>rwG e rfl)
theorem adn(hs:s=5\/s=7)(h3:Nat):2^4000<=G0/s*2^(h3%2)/\G0/s*2^(h3%2)<2^4202:=by
 have hs0:0<s:=%[0<a,cz (a=5) (a=7)|(aG hs)]
 have e3:2^4000*s<=2^4000*8:=aeL _ %[a<=8,cz (a=5) (a=7)|(aG hs)]
 have e1:2^4003=2^4000*8:=af6 2 4000 3
 have a1:=(alz hs0).mpr (abq (abq (e1▸e3) (jA ⋯)) Yb.1)
 have a4:1<=2^(h3%2)/\2^(h3%2)<=2:=(aht h3).elim (λh=>rwG h ⋯) (λh=>rwG h ⋯)
 have a2:=ais (adZ (ail G0 s) Yb.2) (show 0<2 by decide)
 have a3:2^4202=2^4201*2:=ahe ..
 exact ⟨abq a1 (alb _ a4.1),rwG a3 (adZ (aeL _ a4.2) a2)⟩
theorem agT(hs:s=5\/s=7)(h2 h3:Nat):2^4000<=(Ul h2 h3 s).natAbs/\(Ul h2 h3 s).natAbs<2^4202:=by
 unfold Ul
 exact rwG (NQ ..) (adn hs h3)
theorem Un{x:IE}{n:Nat}(h:aA tL x σ=some (ae n)):aA tL (.bin .Sub (.bin .Mult (.bin .Mod x (.int 2)) (.int 2)) (.int 1)) σ=some (.int (Rp n)):=
 ag (x:=ae (n%2*2)) (y:=.int 1) (ag (x:=ae (n%2)) (y:=ae 2) (ag (y:=ae 2) h rfl (dA (b:=2) ⋯ (eN 2 ⋯))) rfl (nmB (bB (a:=n%2) (k:=1) (adC _ ⋯)) (show aae ((2:Nat):Int)<=2 from adJ _) ⋯)) rfl k_sub
theorem e30(C:dM s m t o mk)(H:aA tL (.var 1) σ=some (eK h0 h1 h2 h3 h4))(X3:aA tL (.var 19) σ=some (ae (bE s m t))):
 aA tL TH σ=some (.int (X9 h2 (bE s m t))):=by
 have hT:=zh C
 exact ag (x:=ae (F0/bE s m t)) (y:=.int (Rp (h2/1000))) (ag (x:=ae F0) (y:=ae (bE s m t)) (ag (x:=ae (2^4202)) (y:=ae (2^60)) (ag (x:=ae 2) (y:=ae 4202) rfl rfl (pL ⋯)) (ag (x:=ae 2) (y:=ae 60) rfl rfl (pL ⋯)) (rv (jA ⋯))) X3 (jI (aaO C.m0 (ag5 ..)) (eN _ (aeT hT ⋯)))) (Un (ag (x:=ae h2) (y:=ae 1000) (hp H 2 rfl ⋯) rfl (jI (b:=1000) ⋯ (eN 1000 ⋯)))) (Iu (bB (adZ (ail _ _) Um)) (afr (Gl _)) ⋯)
theorem e31(hs:s=5\/s=7)(H:aA tL (.var 1) σ=some (eK h0 h1 h2 h3 h4))(hS:aA tL (.var 2) σ=some (ae s)):
 aA tL acH σ=some (.int (Ul h2 h3 s)):=by
 have hw:=Xx (p:=4) ⋯
 have h1:=adT 2100
 refine ag (x:=ae (G0/s*2^(h3%2))) (y:=.int (Rp (h2/10^4))) (ag (x:=ae (G0/s)) (y:=ae (2^(h3%2))) (ag (x:=ae G0) (y:=ae s) (ag (x:=ae (2^4200+2^2100)) (y:=ae 1) (ag (ag (x:=ae 2) (y:=ae 4200) rfl rfl (pL ⋯)) (ag (x:=ae 2) (y:=ae 2100) rfl rfl (pL ⋯)) dP) rfl (rv ?_)) hS (jI %[0<a,cz (a=5) (a=7)|(aG hs)] (eN _ %[a<(qL 2 100),cz (a=5) (a=7)|(aG hs)]))) (ag (x:=ae 2) (y:=ae (h3%2)) rfl (ag (x:=ae h3) (y:=ae 2) (hp H 3 rfl ⋯) rfl (dA (b:=2) ⋯ (eN 2 ⋯))) (pL %[a<=5000,qD 2 a b (2)|(aP rfl)])) (nmB (bB (adZ (ail _ _) Yb.2)) (MR _) (abq (al5 (Nat.succ_le_succ (afo (adC _ (by decide:0<2)))) _) (by decide:4201+(2+1)<=2^20)))) (Un (ag (x:=ae h2) (y:=ae (10^4)) (hp H 2 rfl ⋯) (ag (x:=ae 10) (y:=ae 4) rfl rfl (Ub ⋯)) (jI hw.1 hw.2))) (Iu (bB (adn hs h3).2) (afr (Gl _)) ⋯)
 exact abq h1 (ai8 ..)
theorem Yc{A c q r:Int}(h:A=q*c+r)(hr:0<=r/\r<c\/c<r/\r<=0):A.fdiv c=q/\A.fmod c=r:=by
 rcases hr with hr|hr
 .exact eZ h hr.1 hr.2
 .have h1:=eZ (A:= -A) (b:= -c) (q:=q) (r:= -r) (by (erw[h,akl ..]);exact %[(qG (a*b+c))==(qG (a*b))+(qG c)|YY]) %[0>=(qG a),aU (b>a) (a>=0)|(Yq hr)] %[(qG a)>(qG b),aU (b>a) (a>=0)|(Yq hr)]
  have e1:A.fdiv c=q:=by erw[<-am0 ..];exact h1.1
  refine ⟨e1,?_⟩
  erw[alv ..,e1,h,ah0 ..];exact %[a*b+c-a*b==c|YY]
theorem NR(C:dM s m t o mk)(hO:O=s*Q+o){T F G:Int}(hG:G≠0):(((T*s*F+O)*G).fdiv ((s:Int)*G)=Q+T*F)/\((T*s*F+O)*G).fmod ((s:Int)*G)=o*G:=by
 have hs:=C.sp
 have ho:=C.ho
 refine Yc ?_ ?_
 .erw[hO,<-ag2 ..,<-ahR ..]
  congr 1
  erw[ahR ..,ah0 Q ..,ag2 T F ..,ah0 F ..,<-ag2 T ..]
  exact %[a*(qC a)*b+((qC a)*c+(qC b))==(qC a)*c+a*(qC a)*b+(qC b)|q23]
 .by_cases h:0<G
  .exact .inl ⟨aiA %[0>=(qC a)|(aG)] %[0>=a,0>a|(fK h)],akA %[(qC a)>(qC b),a<b|(aP ho)] h⟩
  .have h':0 < -G:=%[0>(qG a),cu (a==0),cu (0>a)|(fK hG h)]
   refine .inr ⟨?_,?_⟩
   .have:=akA (show (o:Int)<s by exact %[(qC a)>(qC b),a<b|aP ho]) h'
    rw[akl,akl]at this
    exact %[(qC a)*a>(qC b)*a,(qG ((qC b)*a))>(qG ((qC a)*a))|Gq this]
   .have:=aiA (show 0<=(o:Int) by exact %[0>=(qC a)|aG]) (ajU h')
    rw[akl]at this
    exact %[(qC a)*a>=0,0>=(qG ((qC a)*a))|N9 this]
theorem ne0{G:Int}(h:2^4000<=G.natAbs):G≠0:=λq=>adP 0 (aaO (adT 4000) (abq h (afr (congrArg amr q))))
theorem f31(C:dM s m t o mk)(hl:σ.vars.length=34)(hO:O=s*Q+o)(YL:O.natAbs<2^60)(v2:aA tL (.var 2) σ=some (ae s))(v7:aA tL (.var 7) σ=some (.int O))(v19:aA tL (.var 19) σ=some (ae (bE s m t)))(v23:aA tL (.var 23) σ=some (ae uN))(v24:aA tL (.var 24) σ=some (.lst ((aai s).map (Gf s m t o Q))))(v25:aA tL (.var 25) σ=some (.lst ((aai (s+1)).map λn=>.int (qI s m t o Q n))))
(v30:aA tL (.var 30) σ=some (.int (X9 h2 (bE s m t))))(v31:aA tL (.var 31) σ=some (.int (Ul h2 h3 s))):
 iZ tL acG σ=some false:=by
 have hs:=C.hs
 have hsp:=C.sp
 have hT:=zh C
 have hF:=adl h2 (bE s m t)
 have hGb:=agT hs h2 h3
 have ho:=C.ho
 generalize X9 h2 (bE s m t)=F at *
 generalize Ul h2 h3 s=G at *
 have hG0:=ne0 hGb.1
 have hq0:qI s m t o Q 0=Q:=by
  unfold qI
  erw[agS ..,aeD ..,ah9 ho]
  exact ai6 Q
 have XT:gA s m o 0=o:=by
  show (m*0+o)%s=o
  erw[agS ..,aeD ..,agC ho,rfl]
 have zp:=NR C (T:=((bE s m t:Nat):Int)) (F:=F) hO hG0
 have s3:(s:Int).natAbs<2^3:=C.s3
 have t6:(bE s m t:Int).natAbs<2^6:=hT
 have nTs:=lf t6 s3 (by decide:6+3=9)
 have nA:=NK (lf nTs hF (by decide:9+4202=4211)) (aaO YL (jA ⋯))
 have bF:=cp hF
 have bG:=cp hGb.2
 have bT:=cp t6
 have bS:=cp s3
 have bAG:=cp (lf nA hGb.2 (by decide:4212+4202=8414))
 have bB1:=Rq (rwG (akK ..) (abq hGb.1 (Nat.le_mul_of_pos_left _ hsp)):2^4000<=((s:Int)*G).natAbs)
 have bB2:=cp (lf s3 hGb.2 (by decide:3+4202=4205))
 have cL:eG ((((bE s m t:Nat):Int)*(s:Int)*F+O)*G) ((s:Int)*G):=⟨Int.mul_ne_zero %[cu ((qC a)==0),0<a|(aG hsp)] hG0,%[a<=14*b,a<=8414,4000<b|(aP bAG bB1)],%[a<=4500,a<=4205|(aG bB2)]⟩
 have bo:=bB (aaO (amT (aeT ho s3) xd) (by decide:2^3*2^67<=2^70))
 have key:((((o*uN:Nat):Int))*G).fdiv ((uN:Nat):Int)=(o:Int)*G:=(eZ (q:=(o:Int)*G) (r:=0) ((congrArg (· * G) (aeb o uN)).trans ((Int.mul_right_comm ..).trans (ai6 _).symm)) (Int.le_refl 0) (Int.natCast_pos.mpr Uk)).1
 have h00:aA tL (.idx (.var 24) (.int 0)) σ=some (Gf s m t o Q 0):=bL v24 rfl (gL rfl ⋯ (by
  show ((aai s).map (Gf s m t o Q))[0]?=_
  erw[adR ..,af5 hsp,rfl]))
 have h25:aA tL (.idx (.var 25) (.int 0)) σ=some (.int Q):=(bL v25 rfl (gL rfl ⋯ (by
  show ((aai (s+1)).map λn=>AV.int (qI s m t o Q n))[0]?=_
  erw[adR ..,af5 (Nat.succ_pos _),rfl]))).trans (congrArg (λi=>some (AV.int i)) hq0)
 have YM:aA tL (.idx (.idx (.var 24) (.int 0)) (.int 1)) σ=some (ae (o*uN)):=(NB h00).trans (rwG XT rfl)
 exact aJ (bh (x:=.tup [.int (Q+((bE s m t:Nat):Int)*F),.int ((o:Int)*G)]) (y:=.tup [.int (Q+((bE s m t:Nat):Int)*F),.int ((o:Int)*G)]) ((s7 (a:=(((bE s m t:Nat):Int)*(s:Int)*F+O)*G) (c:=(s:Int)*G) (ag (ag (ag (ag v19 v2 (Iu bT bS ⋯)) v30 (Iu (cp nTs) bF ⋯)) v7 gK) v31 (Iu (cp nA) bG ⋯)) (ag v2 v31 (Iu bS bG ⋯)) cL).trans (rwG zp.1 (rwG zp.2 rfl))) (jv (af (ag h25 (ag v19 v30 (Iu bT bF ⋯)) gK) (af ((ag (ag YM v31 (Iu bo bG ⋯)) v23 (LX ∅)).trans (rwG key rfl)) ao)) rfl) QC)
end
end
section
section
variable{σ:bj}{h0 h1 h2 h3 h4 s m t o mk b:Nat}{O Q:Int}
noncomputable abbrev Yd:eW:=acJ
noncomputable def Iv(sl ls:List Nat)(f k p:Nat):List Nat:=aar (sl.getD (a0 sl f p) 0+k) 46++([ls.getD (a0 sl f p) 0]++dL)
theorem Gm{sl ls:List Nat}{f k p:Nat}(K:fH sl ls)(hk:k<=100):(Iv sl ls f k p).length<=203:=by
 have h:=y9 (f:=f) K p
 skip
 erw[aao,afa]
 show _+3<=_
 exact %[a+b+3<=203,b<=100,aU (1<=a) (a<=100)|aP hk h]
theorem Gn{n f:Nat}{sl ls:List Nat}(K:fH sl ls)(hs:s=5\/s=7)(hl:sl.length=s)(hf:f=h3%10%s)(ht:t<=100){r0 r3 r7 r8 r9 DY DZ D0 D1 NN Gj D2 D3 D4 D5 D6 D7 D8 D9 Eg Eh Rr Rs Rt Ei Ej:Option AV}{own:List (List AV)}:∀(l acc:List Nat) (r5 Gk:Option AV),acc.length+203*l.length<=50000->∃u5 u33,
 jK (λx σ=>cg tL n Yd (σ.put 33 x)) (l.map ae) ⟨r0::some (eK h0 h1 h2 h3 h4)::some (ae s)::r3::some (ae t)::r5::some (.lst (ls.map iU))::r7::r8::r9::DY::DZ::D0::D1::some (.lst (sl.map ae))::NN::Gj::D2::D3::D4::D5::D6::D7::D8::D9::Eg::Eh::Rr::Rs::Rt::Ei::Ej::some (.str (wS acc))::Gk::[],own⟩=
  some (⟨r0::some (eK h0 h1 h2 h3 h4)::some (ae s)::r3::some (ae t)::u5::some (.lst (ls.map iU))::r7::r8::r9::DY::DZ::D0::D1::some (.lst (sl.map ae))::NN::Gj::D2::D3::D4::D5::D6::D7::D8::D9::Eg::Eh::Rr::Rs::Rt::Ei::Ej::some (.str (wS (acc++(l.map (Iv sl ls f t)).flatten)))::u33::[],own⟩,none)
 |[],acc,r5,Gk,_=>⟨r5,Gk,by show some _=some _;(erw[ahc,aj6,abW ..,rfl])⟩
 |p::l,acc,r5,Gk,jj=>by
  have bq:(p::l).length=l.length+1:=rfl
  rw[bq]at jj
  have pf:=Gm (f:=f) (p:=p) K ht
  have hn:a0 sl f p<sl.length:=y8 K p
  have zo:=y9 (f:=f) K p
  have MZ:=K.MZ
  have adp:a0 sl f p=(h3%10+p)%s:=by
   unfold a0
   rw[hl,hf,Nat.mod_add_mod]
  refine zv (Gn (n:=n) (r0:=r0) (r3:=r3) (r7:=r7) (r8:=r8) (r9:=r9) (DY:=DY) (DZ:=DZ) (D0:=D0) (D1:=D1) (NN:=NN) (Gj:=Gj) (D2:=D2) (D3:=D3) (D4:=D4) (D5:=D5) (D6:=D6) (D7:=D7) (D8:=D8) (D9:=D9) (Eg:=Eg) (Eh:=Eh) (Rr:=Rr) (Rs:=Rs) (Rt:=Rt) (Ei:=Ei) (Ej:=Ej) (own:=own) K hs hl hf ht l (acc++Iv sl ls f t p) (some (ae (a0 sl f p))) (some (ae p)) (by rw[aao];exact %[a+b+203*c<=50000,a+203*(c+1)<=50000,b<=203|bJ jj pf])) λu5 u33 ih=>?_
  refine ⟨u5,u33,?_⟩
  erw[aa6]
  refine bI (au (a7 (x:=ae (a0 sl f p)) ?_) (au (iP (y:=.str (wS acc)) (x:=.str (wS (Iv sl ls f t p))) (r:=.str (wS (acc++Iv sl ls f t p))) rfl ?_ (ow %[a+b<=100000,a+203*(c+1)<=50000,b<=203|(bJ jj pf)])) bH)) ?_
  .erw[adp]
   exact ag (x:=ae (h3%10+p)) (y:=ae s) (ag (x:=ae (h3%10)) (y:=ae p) (ag (x:=ae h3) (y:=ae 10) (hp rfl 3 rfl ⋯) rfl (dA (b:=10) ⋯ (eN 10 ⋯))) rfl dP) rfl (dA %[0<a,b=a,c<b|(bJ hl hn)] (eN _ %[a<(qL 2 100),cz (a=5) (a=7)|(aG hs)]))
  .have e:Iv sl ls f t p=(aar (sl.getD (a0 sl f p) 0+t) 46++[ls.getD (a0 sl f p) 0])++dL:=by unfold Iv;erw[aaI ..,rfl]
   rw[e]at pf ⊢
   rw[aao]at pf
   refine ag (x:=.str (wS (aar (sl.getD (a0 sl f p) 0+t) 46++[ls.getD (a0 sl f p) 0]))) (y:=.str (wS dL)) (ag (x:=.str (wS (aar (sl.getD (a0 sl f p) 0+t) 46))) (y:=.str (wS [ls.getD (a0 sl f p) 0])) (ag (y:=ae (sl.getD (a0 sl f p) 0+t)) rfl (ag (x:=ae (sl.getD (a0 sl f p) 0)) (y:=ae t) (bL (x:=.lst (sl.map ae)) (y:=ae (a0 sl f p)) rfl rfl (wZ (l:=sl) rfl hn %[a<=1000,cz (b=5) (b=7),a=b|(aP hs hl)])) rfl dP) (MX %[aU (1<=a+b) (a+b<=1000),b<=100,aU (1<=a) (a<=100)|(aP ht zo)])) (bL (x:=.lst (ls.map iU)) (y:=ae (a0 sl f p)) rfl rfl (MY (l:=ls) rfl %[a<b,a<c,b=c|(bJ hn MZ)] %[a<=1000,cz (b=5) (b=7),c=b,a=c|(bJ hs hl MZ)])) (dB ?_)) rfl (dB %[a+b<=100000,a+b<=203|(aP pf)])
   rw[aao]at pf
   exact %[a+b<=100000,a+b+c<=203|bJ pf]
  . (erw[aa6,aey];rw[<-aaI])
    exact ih
noncomputable def zk(t c:Nat):List Nat:=dL++(aar (1+t) 46++(dL++[c,46]))
theorem agX(H:aA tL (.var 1) σ=some (eK h0 h1 h2 h3 h4))(v4:aA tL (.var 4) σ=some (ae t))(ht:t<=100):
 aA tL TG σ=some (.str (wS (zk t (eF (h4:Int))))):=by
 have e:zk t (eF (h4:Int))=(((dL++aar (1+t) 46)++dL)++[eF (h4:Int)])++[46]:=by unfold zk;simp only[aaI];rfl
 erw[e]
 have hl:(dL++aar (1+t) 46).length<=103:=by
  erw[aao,afa]
  show 2+_<=_
  exact %[2+(1+a)<=103,a<=100|aG ht]
 refine ag (x:=.str (wS (((dL++aar (1+t) 46)++dL)++[eF (h4:Int)]))) (y:=.str (wS [46])) (ag (x:=.str (wS ((dL++aar (1+t) 46)++dL))) (y:=.str (wS [eF (h4:Int)])) (ag (x:=.str (wS (dL++aar (1+t) 46))) (y:=.str (wS dL)) (ag (x:=.str (wS dL)) (y:=.str (wS (aar (1+t) 46))) rfl (ag (y:=ae (1+t)) rfl (ag (x:=ae 1) (y:=ae t) rfl v4 dP) (MX %[aU (1<=1+a) (1+a<=1000),a<=100|(aG ht)])) (dB ?_)) rfl (dB ?_)) (Ce (hp H 4 rfl ⋯)) (dB ?_)) rfl (dB ?_)
 .erw[afa];show 2+_<=_;exact %[2+(1+a)<=100000,a<=100|aG ht]
 .show _+2<=_;exact %[a+2<=100000,a<=103|aG hl]
 .erw[aao];show _+2+1<=_;exact %[a+2<100000,a<=103|aG hl]
 .erw[aao,aao];show _+2+1+1<=_;exact %[a+2+1<100000,a<=103|aG hl]
theorem adq(en:Nat):oH en=if en/16%4=0 then [] else dL:=by
 unfold oH
 have h:=M3 ((en/16:Nat):Int)
 have e:((en/16:Nat):Int).fmod 4=((en/16%4:Nat):Int):=gp (en/16) 4
 rw[e]at h
 by_cases q:en/16%4=0
 .rw[if_pos q,if_pos (h.mpr %[(qC a)==0,a=0|(aG q)])]
 .erw[if_neg q,if_neg (λz=>q (by have:=h.mp z;exact %[a=0,(qC a)==0|aG this])),rfl]
theorem agY{T:List Nat}(H:aA tL (.var 1) σ=some (eK h0 h1 h2 h3 h4))(v15:aA tL (.var 15) σ=some (.str (wS (T++oH h4))))(v32:aA tL (.var 32) σ=some (.str (wS T)))(hT:T.length<=90000):
 aA tL (.cmp .Eq (.var 15) TS) σ=some (.bool true):=by
 refine bh v15 (nn (p:=!decide (h4/16%4=0)) (aJ (bh (x:=ae (h4/16%4)) (y:=ae 0) (ag (x:=ae (h4/16)) (y:=ae 4) (ag (x:=ae h4) (y:=ae 16) (hp H 4 rfl ⋯) rfl (jI (b:=16) ⋯ (eN 16 ⋯))) rfl (dA (b:=4) ⋯ (eN 4 ⋯))) rfl ac7)) (x:=.str (wS (T++oH h4))) ?_) ?_
 .erw[adq ..]
  by_cases q:h4/16%4=0
  .erw[decide_eq_true q,if_pos q,abW ..]
   exact v32
  .erw[decide_eq_false q,if_neg q]
   exact ag (y:=.str (wS dL)) v32 rfl (dB (by show _+2<=_;exact %[a+2<=100000,a<=90000|aG hT]))
 .show some ((wS (T++oH h4))==(wS (T++oH h4)))=some true
  erw[beq_self_eq_true ..,rfl]
theorem Ru{sl ls:List Nat}{f k:Nat}:oB sl ls f h4 k=(((aai sl.length).map (Iv sl ls f k)).flatten++zk k (eF (h4:Int)))++oH h4:=by
 unfold oB zk Iv
 simp only[aaI]
end
end
section
set_option exponentiation.threshold 200
theorem aT{RF:cQ}{n:Nat}{S:IS}{B:eW}{σ σ1:bj}{v:AV}(h:CV RF n S σ=some (σ1,none))(hb:∃σ',cg RF n B σ1=some (σ',some v)):∃σ',cg RF n (.cons S B) σ=some (σ',some v):=by
 refine bU hb λσ' e=>?_
 exact ⟨σ',au h e⟩
noncomputable abbrev adr:eW:=.cons (.asg 15 (.call (.glob "quotedata" (.obj (.ref 97))) (.cons (.var 15) .nil))) .nil
theorem Ye{n:Nat}{sl ls:List Nat}{f dr en t:Nat}(K:fH sl ls)(hl:sl.length<=7)(ht:t=1\/t=2){r0 r1 r2 r3 r4 r5 r6 r7 r8 r9 DY DZ D0 D1 Ro Gj D2 D3 D4 D5 D6 D7 D8 D9 Eg Eh Rr Rs Rt Ei Ej r32 Gk:Option AV}{own:List (List AV)}:∃u16,
 jK (λx σ=>cg tL n adr (σ.put 16 x)) ((aai t).map ae) ⟨r0::r1::r2::r3::r4::r5::r6::r7::r8::r9::DY::DZ::D0::D1::Ro::some (.str (wS (iY sl ls f dr en)))::Gj::D2::D3::D4::D5::D6::D7::D8::D9::Eg::Eh::Rr::Rs::Rt::Ei::Ej::r32::Gk::[],own⟩=
  some (⟨r0::r1::r2::r3::r4::r5::r6::r7::r8::r9::DY::DZ::D0::D1::Ro::some (.str (wS (gM sl ls f dr en t)))::u16::D2::D3::D4::D5::D6::D7::D8::D9::Eg::Eh::Rr::Rs::Rt::Ei::Ej::r32::Gk::[],own⟩,none):=by
 have h0:=Ci (f:=f) (dr:=dr) (en:=en) K
 have e1:=B6 (f:=f) (dr:=dr) (en:=en) K
 have h1:=zf (iY sl ls f dr en)
 have e2:=B7 (f:=f) (dr:=dr) (en:=en) K 0
 rw[e1]at h1
 rcases ht with h|h <;> subst h
 .exact ⟨some (ae 0),bI (au (a7 (x:=.str (wS (gM sl ls f dr en 1))) ((vk rfl %[a<=100000,b<=7,a<=104*b+8|(aP hl h0)]).trans (by erw[e1,rfl]))) bH) rfl⟩
 .exact ⟨some (ae 1),bI (au (a7 (x:=.str (wS (gM sl ls f dr en 1))) ((vk rfl %[a<=100000,b<=7,a<=104*b+8|(aP hl h0)]).trans (by erw[e1,rfl]))) bH) (bI (au (a7 (x:=.str (wS (gM sl ls f dr en 2))) ((vk rfl %[a<=100000,b<=7,c<=104*b+8,a<=4*c|(bJ hl h0 h1)]).trans (by erw[e2,rfl]))) bH) rfl)⟩
theorem NS{sl ls:List Nat}{f dr en t:Nat}(K:fH sl ls)(hl:sl.length<=7)(ht:t=1\/t=2):(gM sl ls f dr en t).length<=20000:=by
 have h0:=Ci (f:=f) (dr:=dr) (en:=en) K
 have h1:=zf (iY sl ls f dr en)
 rw[B6 K]at h1
 have h2:=zf (gM sl ls f dr en 1)
 rw[B7 K 0,show 0+2=2 from rfl]at h2
 rcases ht with h|h <;> subst h <;> (first|exact %[a<=20000,b<=7,c<=104*b+8,a<=4*c|bJ hl h0 h1]|exact %[a<=20000,b<=7,c<=104*b+8,d<=4*c,a<=4*d|d4 hl h0 h1 h2])
end
section
set_option maxHeartbeats 4000000
set_option exponentiation.threshold 200
theorem Yg{zs:List Int}(hzl:zs.length<=2^20):∃σ',cg tL 0 T6 ⟨some (.bor (zs.map .int))::none::none::none::none::none::none::none::none::none::none::none::none::none::none::none::none::none::none::none::none::none::none::none::none::none::none::none::none::none::none::none::none::none::[],[]⟩=some (σ',some (.bool true)):=by
 refine bz (uZ (gu zs 0)) λh0 x0 b0=>?_
 refine bz (uZ (gu zs 1)) λh1 x1 b1=>?_
 refine bz (uZ (gu zs 2)) λh2 x2 b2=>?_
 refine bz (uZ (gu zs 3)) λh3 x3 b3=>?_
 refine bz (uZ (gu zs 4)) λh4 x4 b4=>?_
 have ads:tL (.ref 166) [.bor (zs.map .int)]=some (eK h0 h1 h2 h3 h4):=by
  show MJ [.bor (zs.map .int)]=_
  simp only[MJ,agt,yZ,du,aa5]
  (rw[if_pos hzl];erw[x0,x1,x2,x3,x4]);rfl
 have hs:=s57 h0
 have YL:((h1:Int)-500000000000).natAbs<2^60:=by omega
 have hO:(h1:Int)-500000000000=(sN h0:Nat)*(((h1:Int)-500000000000).fdiv (sN h0:Nat))+((((h1:Int)-500000000000).fmod (sN h0:Nat)).toNat:Int):=by
  have hr:=bx ((h1:Int)-500000000000) (m:=((sN h0:Nat):Int)) %[0>(qC a),cz (a=5) (a=7)|(aG hs)]
  erw[aeM hr.1]
  exact (alB _ _).symm
 have zt:97<=bN h0/\bN h0+sN h0<=123:=by unfold bN;exact %[aU (97<=97+a) (97+a+b<=123),cz (b=5) (b=7),qD 2 a c (20)|bJ hs rfl]
 have C:dM (sN h0) (mN h0 (sN h0)) (tN h0) (((h1:Int)-500000000000).fmod (sN h0:Nat)).toNat (mkN h2 (sN h0)):=by
  have hr:=bx ((h1:Int)-500000000000) (m:=((sN h0:Nat):Int)) %[0>(qC a),cz (a=5) (a=7)|(aG hs)]
  refine ⟨hs,?_,?_,?_,%[a<b,aU (0>=a) (a>(qC b)),qD 4 a a (0)|(Gq hr rfl)],?_,?_⟩
  .unfold mN;exact %[1<=1+a|aG]
  .unfold mN
   have:h0/10%10%(sN h0-1)<sN h0-1:=adC _ %[0<a,cz (b=5) (b=7),qD 0 a b (1)|(aP hs rfl)]
   exact %[1+a<b,a<c,qD 0 c b (1)|bJ this rfl]
  .unfold tN;exact %[cz (1+a=1) (1+a=2),qD 2 a b (2)|aP rfl]
  .unfold mkN;exact %[1<=1+a|aG]
  .unfold mkN
   have:0<2^sN h0-1:=by rcases hs with h|h <;> rw[h] <;> decide
   have:h2%1000%(2^sN h0-1)<2^sN h0-1:=adC _ this
   exact %[1+a<b,a<c,qD 0 c b (1)|bJ this rfl]
 generalize hS:sN h0=s at *
 generalize hM:mN h0 s=m at *
 generalize hT:tN h0=t at *
 generalize hB:bN h0=b at *
 generalize hMk:mkN h2 s=mk at *
 generalize hOo:(h1:Int)-500000000000=O at *
 generalize hQ:O.fdiv (s:Int)=Q at *
 generalize ho:(O.fmod (s:Int)).toNat=o at *
 have K:=C.mao zt
 have Xq:=C.pP
 have hf:h3%10%s<s:=adC _ C.sp
 have Yh:=C.ht
 have NU:=NS (f:=h3%10%s) (dr:=h3/10) (en:=h4) K %[a<=7,cz (b=5) (b=7),a=b|(aP hs Xq)] Yh
 have vJ:=H0 (f:=h3%10%s) (dr:=h3/10) (en:=h4) K t
 have pf:=NE (gM (bf s m s o) (oK s b) (h3%10%s) (h3/10) h4 t)
 rw[vJ]at pf
 skip
 refine aT (a7 (x:=eK h0 h1 h2 h3 h4) (aC rfl (af (x:=.bor (zs.map .int)) rfl ao) (cO (ys:=[.bor (zs.map .int)]) QB ads))) ?_
 refine aT (a7 (x:=ae s) ((e2 (h0:=h0) (h1:=h1) (h2:=h2) (h3:=h3) (h4:=h4) rfl).trans (by erw[hS,rfl]))) ?_
 refine aT (a7 (x:=ae m) ((e3 (h0:=h0) (h1:=h1) (h2:=h2) (h3:=h3) (h4:=h4) rfl rfl hs).trans (by erw[hM,rfl]))) ?_
 refine aT (a7 (x:=ae t) ((e4 (h0:=h0) (h1:=h1) (h2:=h2) (h3:=h3) (h4:=h4) rfl).trans (by erw[hT,rfl]))) ?_
 dsimp only[bj.put,afg,aff]
 refine aT (a7 (x:=.lst ((oK s b).map iU)) ((e6 (h0:=h0) (h1:=h1) (h2:=h2) (h3:=h3) (h4:=h4) rfl rfl rfl hs).trans (by erw[hB,rfl]))) ?_
 refine aT (a7 (x:=.int O) ((e7 (h0:=h0) (h1:=h1) (h2:=h2) (h3:=h3) (h4:=h4) rfl).trans (by erw[hOo,rfl]))) ?_
 refine aT (a7 (x:=ae mk) ((e8 (h0:=h0) (h1:=h1) (h2:=h2) (h3:=h3) (h4:=h4) rfl rfl hs).trans (by erw[hMk,rfl]))) ?_
 refine aT (a7 (x:=.lst ((ct s mk).map ae)) (e9 rfl rfl hs rfl)) ?_
 dsimp only[bj.put,afg,aff]
 refine aT (a7 (x:=.str (wS (vY s b (ct s mk)))) (e10 rfl rfl hs zt rfl rfl)) ?_
 refine aT (a7 (x:=ae (eF (h4:Int))) (e11 (h0:=h0) (h1:=h1) (h2:=h2) (h3:=h3) (h4:=h4) rfl)) ?_
 refine aT (a7 (x:=.lst ((wN s b (ct s mk)::dz (eF (h4:Int))).map ae)) (e12 hs zt (Nx _) rfl rfl)) ?_
 refine aT (dv (p:=false) (f12 hs zt rfl rfl (Nx _) rfl) bH) ?_
 refine aT (a7 (x:=ae (wN s b (ct s mk)%2047)) (e13 (c:=eF (h4:Int)) hs zt rfl)) ?_
 dsimp only[bj.put,afg,aff]
 refine aT (a7 (x:=.lst ((bf s m s o).map ae)) ((e14 (m:=m) (O:=O) rfl hs rfl rfl).trans (by erw[ho,rfl]))) ?_
 refine aT (a7 (x:=.str (wS (iY (bf s m s o) (oK s b) (h3%10%s) (h3/10) h4))) (Y4 K rfl rfl (ag (x:=ae (h3%10)) (y:=ae s) (ag (x:=ae h3) (y:=ae 10) (hp (h0:=h0) (h1:=h1) (h2:=h2) (h3:=h3) (h4:=h4) rfl 3 rfl ⋯) rfl (dA (b:=10) ⋯ (eN 10 ⋯))) rfl (dA C.sp (eN _ %[a<(qL 2 100),aU (97<=b) (b+a<=123)|(aP zt)]))) (ag (x:=ae h3) (y:=ae 10) (hp (h0:=h0) (h1:=h1) (h2:=h2) (h3:=h3) (h4:=h4) rfl 3 rfl ⋯) rfl (jI (b:=10) ⋯ (eN 10 ⋯))) (hp (h0:=h0) (h1:=h1) (h2:=h2) (h3:=h3) (h4:=h4) rfl 4 rfl ⋯))) ?_
 refine bU (Ye (n:=0) (f:=h3%10%s) (dr:=h3/10) (en:=h4) K %[a<=7,cz (b=5) (b=7),a=b|(aP hs Xq)] Yh (r0:=some (.bor (zs.map .int))) (r1:=some (eK h0 h1 h2 h3 h4)) (r2:=some (ae s)) (r3:=some (ae m)) (r4:=some (ae t)) (r5:=none) (r6:=some (.lst ((oK s b).map iU))) (r7:=some (.int O)) (r8:=some (ae mk)) (r9:=some (.lst ((ct s mk).map ae))) (DY:=some (.str (wS (vY s b (ct s mk))))) (DZ:=some (ae (eF (h4:Int)))) (D0:=some (.lst ((wN s b (ct s mk)::dz (eF (h4:Int))).map ae))) (D1:=some (ae (wN s b (ct s mk)%2047))) (Ro:=some (.lst ((bf s m s o).map ae))) (Gj:=none) (D2:=none) (D3:=none) (D4:=none) (D5:=none) (D6:=none) (D7:=none) (D8:=none) (D9:=none) (Eg:=none) (Eh:=none) (Rr:=none) (Rs:=none) (Rt:=none) (Ei:=none) (Ej:=none) (r32:=none) (Gk:=none) (own:=[])) λu16 hq=>?_
 refine aT (mq (vi (n:=t) rfl %[a<=1000,cz (a=1) (a=2)|(aG Yh)]) hq) ?_
 refine aT (a7 (x:=.str (wS (oB (bf s m s o) (oK s b) (h3%10%s) h4 t))) ((ND rfl %[a<=100000,a<=20000|(aG NU)] (H1 K t)).trans (by erw[vJ,rfl]))) ?_
 refine aT (a7 (x:=.lst ((H8 s m t o b).map kY)) (NF (vj rfl %[a<=100000,b<=20000,a<=b|(aP NU pf)]) (abq (zg _ _) %[a<=100000,b<=20000,a<=b|(aP NU pf)]) (C.rows zt hf))) ?_
 dsimp only[bj.put,afg,aff]
 refine aT (dv (p:=false) (aJ (bh (x:=ae s) (y:=ae s) ((aC rfl (af rfl ao) (Fz (xs:=(H8 s m t o b).map kY) rfl (decide_eq_true ?_))).trans ?_) rfl (ac7.trans (by erw[decide_eq_true rfl];rfl)))) bH) ?_
 .unfold H8;erw[aan ..,aan ..,aa0];exact %[(qC a)>(qL 2 62),aU (97<=b) (b+a<=123)|aP zt]
 .unfold H8;erw[aan ..,aan ..,aa0];rfl
 refine aT (a7 (x:=.lst ((iy s m t o).map ae)) (e18 (b:=b) C rfl rfl)) ?_
 refine aT (a7 (x:=ae (bE s m t)) (e19 C rfl)) ?_
 refine aT (a7 (x:=ae (dF 6 (13::(zc s b).reverse))) (e20 C zt rfl rfl)) ?_
 refine aT (a7 (x:=.lst ((B9 s mk).map ae)) (e21 C zt rfl rfl)) ?_
 dsimp only[bj.put,afg,aff]
 refine aT (a7 (x:=.lst ((F8 s mk).map ae)) (e22 C rfl rfl rfl)) ?_
 refine aT (dv (p:=false) (f22 C rfl rfl rfl) bH) ?_
 refine aT (a7 (x:=ae uN) e23) ?_
 refine aT (a7 (x:=.lst ((aai s).map (Gf s m t o Q))) (e24 C rfl hO YL rfl rfl rfl rfl)) ?_
 refine aT (a7 (x:=.lst ((aai (s+1)).map λn=>.int (qI s m t o Q n))) (e25 C rfl rfl rfl)) ?_
 dsimp only[bj.put,afg,aff]
 refine aT (dv (p:=false) (f25 (Q:=Q) C rfl rfl rfl rfl) bH) ?_
 refine aT (a7 (x:=.lst (((ct s mk).map λn=>lR m s n*uN).map ae)) (e26 C rfl rfl rfl rfl rfl)) ?_
 refine aT (a7 (x:=.lst ((aai s).map λn=>ae (eJ s m o mk n))) (e27 (Q:=Q) C rfl rfl rfl rfl)) ?_
 refine aT (a7 (x:=.lst ((aai s).map λp=>.lst ((gx (iy s m t o) (ct s mk) p).map ae))) (e28 C rfl rfl)) ?_
 dsimp only[bj.put,afg,aff]
 refine aT (S:=.own 29) rfl ?_
 dsimp only[bj.put,afg,aff]
 obtain ⟨u5,hki⟩:=zi (n:=0) (k:=eJ s m o mk) (sh:=gx (iy s m t o) (ct s mk)) (N:=s) %[a<=100,aU (97<=b) (b+a<=123)|(aP zt)] (aai s) [] none (λi hi=>abd.mp hi) (by erw[aa0];show 0+s<=_;exact %[0+a<=1000,aU (97<=b) (b+a<=123)|aP zt])
  (r0:=some (.bor (zs.map .int))) (r1:=some (eK h0 h1 h2 h3 h4)) (r2:=some (ae s)) (r3:=some (ae m)) (r4:=some (ae t)) (r6:=some (.lst ((oK s b).map iU))) (r7:=some (.int O)) (r8:=some (ae mk)) (r9:=some (.lst ((ct s mk).map ae))) (DY:=some (.str (wS (vY s b (ct s mk))))) (DZ:=some (ae (eF (h4:Int)))) (D0:=some (.lst ((wN s b (ct s mk)::dz (eF (h4:Int))).map ae))) (D1:=some (ae (wN s b (ct s mk)%2047))) (Ro:=some (.lst ((bf s m s o).map ae)))
  (NN:=some (.str (wS (oB (bf s m s o) (oK s b) (h3%10%s) h4 t)))) (Gj:=u16) (D2:=some (.lst ((H8 s m t o b).map kY))) (D3:=some (.lst ((iy s m t o).map ae))) (D4:=some (ae (bE s m t))) (D5:=some (ae (dF 6 (13::(zc s b).reverse)))) (D6:=some (.lst ((B9 s mk).map ae))) (D7:=some (.lst ((F8 s mk).map ae))) (D8:=some (ae uN)) (D9:=some (.lst ((aai s).map (Gf s m t o Q)))) (Eg:=some (.lst ((aai (s+1)).map λn=>.int (qI s m t o Q n)))) (Eh:=some (.lst (((ct s mk).map λn=>lR m s n*uN).map ae))) (Ei:=none) (Ej:=none) (r32:=none) (Gk:=none)
 refine aT (mq (vi (n:=s) rfl %[a<=1000,aU (97<=b) (b+a<=123)|(aP zt)]) hki) ?_
 have hkn:=C.kinds
 have hrl:=zj (λn n'=>eJ s m o mk n==eJ s m o mk n'&&gx (iy s m t o) (ct s mk) n==gx (iy s m t o) (ct s mk) n') (aai s) []
 rw[aa0]at hrl
 refine aT (dv (p:=false) (f29 C rfl rfl rfl rfl (by have e:([]:List Nat).length=0:=rfl;exact %[a<60,aU (97<=b) (b+c<=123),a<=d+c,d=0|d4 zt hrl e]) hkn) bH) ?_
 refine aT (a7 (x:=.int (X9 h2 (bE s m t))) (e30 (h0:=h0) (h1:=h1) (h2:=h2) (h3:=h3) (h4:=h4) C rfl rfl)) ?_
 refine aT (a7 (x:=.int (Ul h2 h3 s)) (e31 (h0:=h0) (h1:=h1) (h2:=h2) (h3:=h3) (h4:=h4) hs rfl rfl)) ?_
 dsimp only[bj.put,afg,aff]
 refine aT (dv (p:=false) (f31 (h2:=h2) (h3:=h3) (Q:=Q) C rfl hO YL rfl rfl rfl rfl rfl rfl rfl rfl) bH) ?_
 refine aT (a7 (x:=.str (wS [])) rfl) ?_
 dsimp only[bj.put,afg,aff]
 have hR:(((aai s).map (Iv (bf s m s o) (oK s b) (h3%10%s) t)).flatten).length<=203*7:=by
  have:∀l:List Nat,((l.map (Iv (bf s m s o) (oK s b) (h3%10%s) t)).flatten).length<=203*l.length:=λl=>by
   induction l with
   |nil=>exact ae7 _
   |cons p l ih=>
    have:=Gm (f:=h3%10%s) (k:=t) (p:=p) K %[a<=100,cz (a=1) (a=2)|(aG Yh)]
    erw[aa6,aey,aao,adY]
    exact %[a+b<=203*(c+1),b<=203*c,a<=203|bJ ih this]
  have:=this (aai s)
  rw[aa0]at this
  exact %[a<=203*7,cz (b=5) (b=7),a<=203*b|aP hs this]
 obtain ⟨w5,w33,hpg⟩:=Gn (n:=0) (h0:=h0) (h1:=h1) (h2:=h2) (h3:=h3) (h4:=h4) (s:=s) (t:=t) (f:=h3%10%s) K hs Xq rfl %[a<=100,cz (a=1) (a=2)|(aG Yh)] (aai s) [] u5 none (by erw[aa0];show 0+_<=_;exact %[0+203*a<=50000,aU (97<=b) (b+a<=123)|aP zt])
  (r0:=some (.bor (zs.map .int))) (r3:=some (ae m)) (r7:=some (.int O)) (r8:=some (ae mk)) (r9:=some (.lst ((ct s mk).map ae))) (DY:=some (.str (wS (vY s b (ct s mk))))) (DZ:=some (ae (eF (h4:Int)))) (D0:=some (.lst ((wN s b (ct s mk)::dz (eF (h4:Int))).map ae))) (D1:=some (ae (wN s b (ct s mk)%2047)))
  (NN:=some (.str (wS (oB (bf s m s o) (oK s b) (h3%10%s) h4 t)))) (Gj:=u16) (D2:=some (.lst ((H8 s m t o b).map kY))) (D3:=some (.lst ((iy s m t o).map ae))) (D4:=some (ae (bE s m t))) (D5:=some (ae (dF 6 (13::(zc s b).reverse)))) (D6:=some (.lst ((B9 s mk).map ae))) (D7:=some (.lst ((F8 s mk).map ae))) (D8:=some (ae uN)) (D9:=some (.lst ((aai s).map (Gf s m t o Q)))) (Eg:=some (.lst ((aai (s+1)).map λn=>.int (qI s m t o Q n)))) (Eh:=some (.lst (((ct s mk).map λn=>lR m s n*uN).map ae)))
  (Rr:=some (.lst ((aai s).map λn=>ae (eJ s m o mk n)))) (Rs:=some (.lst ((aai s).map λp=>.lst ((gx (iy s m t o) (ct s mk) p).map ae)))) (Rt:=some (.own 0)) (Ei:=some (.int (X9 h2 (bE s m t)))) (Ej:=some (.int (Ul h2 h3 s))) (own:=[(rK (λn n'=>eJ s m o mk n==eJ s m o mk n'&&gx (iy s m t o) (ct s mk) n==gx (iy s m t o) (ct s mk) n') (aai s) []).map (DX (eJ s m o mk) (gx (iy s m t o) (ct s mk)))])
 rw[adK]at hpg
 refine aT (mq (vi (n:=s) rfl %[a<=1000,aU (97<=b) (b+a<=123)|(aP zt)]) hpg) ?_
 have hpe:=Ru (h4:=h4) (sl:=bf s m s o) (ls:=oK s b) (f:=h3%10%s) (k:=t)
 rw[Xq]at hpe
 have hEl:(zk t (eF (h4:Int))).length<=200:=by
  skip
  erw[aao,aao,aao,afa]
  show 2+(_+(2+2))<=_
  exact %[2+(1+a+(2+2))<=200,cz (a=1) (a=2)|aG Yh]
 generalize ((aai s).map (Iv (bf s m s o) (oK s b) (h3%10%s) t)).flatten=R at *
 refine aT (iP (y:=.str (wS R)) (x:=.str (wS (zk t (eF (h4:Int))))) (r:=.str (wS (R++zk t (eF (h4:Int))))) rfl (agX (h0:=h0) (h1:=h1) (h2:=h2) (h3:=h3) (h4:=h4) rfl rfl %[a<=100,cz (a=1) (a=2)|(aG Yh)]) (ow %[a+b<=100000,b<=200,a<=203*7|(aP hEl hR)])) ?_
 erw[hpe]
 exact ⟨_,bM (eP (agY (h0:=h0) (h1:=h1) (h2:=h2) (h3:=h3) (h4:=h4) (T:=R++zk t (eF (h4:Int))) rfl rfl rfl (by erw[aao];exact %[a+b<=90000,b<=200,a<=203*7|aP hEl hR])))⟩
end
section
variable{prog:aas}{w:abI}{d:Nat}{P:abA}
noncomputable def agZ:Spec:=aZ λzs=>aE (if zs.length<=2^20 then some (.bool true) else none)
theorem bw.m6(h:bw prog w (d+1) P a S):bw prog w (d+7) P a S:=h.more.more.more.more.more.more
theorem bw.m5(h:bw prog w (d+2) P a S):bw prog w (d+7) P a S:=h.more.more.more.more.more
theorem adt:cH prog w (d+7) P [(166,MJ),(199,My),(180,Qo),(73,idF),(206,Xz),(213,XN),(97,Mx),(194,MG),(220,XD),(59,Mv),(52,Mt),(225,XH)]:=
 .cons Xn.m6 (.cons Xd.m5 (.cons MA.m6 (.cons ac5 (.cons XA.m6 (.cons XO.m5 (.cons Xb.m6 (.cons Xl.m5 (.cons XE.m6 (.cons Mw.m6 (.cons Mu.m6 (.cons XI.m6 cH.nil)))))))))))
theorem Yi:bw prog w (d+8) P 230 agZ:=bX adt (acA P) (acK P) λxs res h=>by
 apply Mr h;clear h;intro zs _ h
 apply dw h;clear h;intro h
 refine dS h ?_
 clear h
 intro hl h
 obtain rfl:=aac h
 refine bU (Yg hl) λσ' hs=>?_
 refine ⟨0,cV (v:=.bool true) ?_ hs rfl⟩
 erw[aap ..]
 refine ⟨rfl,?_⟩
 show ((zs.map AV.int).all (cf 3)&&true)=true
 erw[agy ..,aiY]
 exact aaG.mpr λz V=>rfl
end
noncomputable def Go(w:abI)(h:adF):Prop:=∀b o,(jh pw w.params).get? b=some o->h.get? b=some o
theorem Gp(hx:x.isFreed=true)(h:ajX ⟨o.set! i x,l⟩ a=some y):ajX ⟨o,l⟩ a=some y:=by
 refine bY (alY.mp h) λe1 e2=>?_
 refine alY.mpr ⟨?_,e2⟩
 have e1:(o.set! i x)[a]?=some y:=e1
 show o[a]?=some y
 rw[Array.set!_eq_setIfInBounds,Array.getElem?_setIfInBounds]at e1
 split at e1
 .split at e1
  .cases e1
   rw[hx]at e2
   exact fT e2.symm
  .exact aq e1
 .exact e1
theorem adu(P:abA):KS (ey P) (jh pw P):=λa o h=>Gp rfl (Gp rfl h)
theorem adv(P:abA):(jh pw P).get? 47=some (ji #[]):=∅
theorem adw(P:abA):(jh pw P).get? 54=some (ji #[]):=∅
theorem adx(P:abA):(ey P).get? 47=none:=∅
theorem ady(P:abA):(ey P).get? 54=none:=∅
theorem Yj(P:abA):(jh pw P).isNs 3=true:=∅
theorem Yk(P:abA):(jh pw P).nsMap 3 (adQ "law")=some (.ref 230):=∅
theorem Yl{h:adF}{a:aa9}{m m':Str->Option aaq}(x:h.Ns a m)(y:h.Ns a m'):m=m':=x.eq_nsMap.trans y.eq_nsMap.symm
theorem Rv{w:abI}{h:adF}{mg:Str->Option aaq}{fa:aa9}(Y:Go w h)(hn:h.Ns 3 mg)(hm:mg (adQ "law")=some (.ref fa)):fa=230:=by
 have:=Yl hn ((Heap.Ns.of_isNs (Yj w.params)).keeps Y)
 rw[this,Yk]at hm
 cases hm;rfl
noncomputable def zm(h:adF)(c b:aa9):Bool:=(h.get? c).any λo=>(YF o.cls).any λn=>(L5 o.data).any λvs=>n=="code"&&(vs[11]?:Option aaq).any λu=>(L4 u).any λx=>x==b
theorem vr(e:zm h c b=true):amM h b:=by
 refine eB e λo ho e=>eB e λn hc e=>eB e λvs hd e=>fk e λe1 e=>eB e λu hu e=>eB e λx hx e=>?_
 rw[eq_of_beq e1]at hc
 rw[sZ hx,eq_of_beq e]at hu
 exact ⟨c,o,vs,ho,uE hc,s4 hd,hu⟩
theorem Ym(P:abA):zm (jh pw P) 51 47=true:=∅
theorem Yn(P:abA):zm (jh pw P) 58 54=true:=∅
theorem gO(k:∀a o,h.get? a=some o->h'.get? a=some o)(x:amM h b):amM h' b:=by
 obtain ⟨c,o,vs,h1,h2⟩:=x
 exact ⟨c,o,vs,k _ _ h1,h2⟩
theorem Yo(Y:Go w h)(k:aW ⟨dT [],aX⟩ h h'):OldK h h':=by
 have adz:∀b o,h.get? b=some o->asItWas h h' b o:=λb o e=>by
  rcases k b o e with ⟨sl,h1,h2⟩ | ⟨h1,_,t,ht,hP,c,_,h3,_⟩
  .rw[h2 (by intro q;cases q)]at h1
   exact .inl h1
  .subst h1
   refine .inr (.inl ⟨?_,rfl,#[],t.item c,rfl,?_⟩)
   .simp only[aX,abk,adH,or_false]at ht
    rcases ht with rfl|rfl
    .erw[<-hP];exact gO Y (vr (Ym w.params))
    .erw[<-hP];exact gO Y (vr (Yn w.params))
   .erw[h3,aiu,rfl]
 refine ⟨adz,λb o e=>?_⟩
 rcases k b o e with ⟨sl,h1,_⟩ | ⟨_,_,t,_,_,c,_,h3,_⟩
 .exact ⟨_,h1⟩
 .exact ⟨_,h3⟩
theorem Ek{R:WRecords}{cl:Str->Option aa9}{h:adF}{n:Nat}{g:Gh}{zs:List Int}:∀{vs:List aaq} {as:List aa9},alV R cl h vs (zs.map .int) as->ak n g (zs.map .int) vs:=by
 induction zs with
 |nil=>
  intro vs as hr
  obtain rfl:=ahP.mp (show vs.length=0 from hr.length)
  exact .nil
 |cons z zs ih=>
  intro vs as hr
  cases vs with
  |nil=>exact nomatch (show 0=_+1 from hr.length)
  |cons v vs=>
   (refine bU hr.cons_inv λd dQ=>?_;refine bU dQ λds' di=>?_;refine bU di λa jP=>?_;refine bU jP λb oF=>?_;have e:=oF.1;have h1:=oF.2.2.1;have h2:=oF.2.2.2;clear oF jP di dQ)
   refine bY (ajd (show ajn z::zs.map .int=d::ds' from e)) λe1 e2=>?_
   (refine bz (readsW_int_inv (e1▸h1)) λt cc _=>?_;obtain rfl:=cc)
   exact .cons (.int _ _) (ih (e2▸h2))
theorem Rw{zs:List Int}(h:aka [] (ajk.row.pre) {args:=[.list (zs.map .int)]}=true):zs.length<=63:=by
 have h:aka [] (.and (.not (.lt (.lit (.int 63)) (.len (.arg 0)))) (.lit (.bool true))) {args:=[.list (zs.map .int)]}=true:=h
 have e1:aiS [] (.lt (.lit (.int 63)) (.len (.arg 0))) {args:=[.list (zs.map .int)]}=some (.bool (decide ((63:Int)<((zs.map ajn).length:Nat)))):=rfl
 have e:aiS [] (.and (.not (.lt (.lit (.int 63)) (.len (.arg 0)))) (.lit (.bool true))) {args:=[.list (zs.map .int)]}=some (.bool (!decide ((63:Int)<((zs.map ajn).length:Nat)))):=by
  have e2:aiS [] (.not (.lt (.lit (.int 63)) (.len (.arg 0)))) {args:=[.list (zs.map .int)]}=some (.bool (!decide ((63:Int)<((zs.map ajn).length:Nat)))):=by (rw[aiS];erw[e1,rfl])
  (rw[aiS];erw[e2])
  cases (decide ((63:Int)<((zs.map ajn).length:Nat))) <;> rfl
 unfold aka at h
 rw[e]at h
 by_cases q:(63:Int)<((zs.map ajn).length:Nat)
 .rw[decide_eq_true q]at h;exact fT h
 .rw[aan]at q;exact %[a<=63,cu (63>(qC a))|aG q]
noncomputable abbrev Iw:=ajk
theorem Rx(vJ:Iw.row.claim.pre args=true):∃zs:List Int,args=[.list (zs.map .int)]/\zs.length<=63:=by
 refine bY (pre_splitW (r:=Iw.row.toRowW) vJ) λh1 h2=>?_
 have h1:WShape.hasAll [] args [.list .int]=true:=h1
 (refine Ib (hasAllW_cons h1) λd r iB h3 h4=>?_;obtain rfl:=iB)
 have:=hasAllW_nil h4
 subst this
 (refine bz (hasW_list h3) λxs cc h5=>?_;obtain rfl:=cc)
 (refine bU (items_int h5) λzs dQ=>?_;have cc:=dQ;clear dQ;obtain rfl:=cc)
 exact ⟨zs,rfl,Rw h2⟩
theorem Ia:Iw.row.claim.post args (.bool true) args=true:=by
 show (WShape.has [] (.bool true) .bool&&aka [] (.eq .res (.lit (.bool true))) {args:=args,res:=some (.bool true),after:=args})=true
 exact (aap _ _).mpr ⟨by simp[WShape.has,WShape.arms],by
  have e:aiS [] (.eq .res (.lit (.bool true))) {args:=args,res:=some (WData.bool true),after:=args}=some (.bool true):=by
   rw[aiS]
   exact congrArg (λb=>some (WData.bool b)) (same_self ..)
  unfold aka
  rw[e]⟩
theorem Uo{p:CB->Prop}(a:p aX[0])(b:p aX[1]):∀t∈aX,p t:=λt ht=>(abk.mp ht).elim (λe=>e▸a) λh=>(abF.mp h)▸b
theorem NV{R:WRecords}{cl:Str->Option aa9}{h:adF}{ds:List WData}{vals:List aaq}{as:List aa9}{G:List aaq->Prop}(r:alV R cl h vals [.list ds] as)(k:∀a vs as',h.IsList a vs->alV R cl h vs.toList ds as'->G [.ref a]):G vals:=by
 cases vals with
 |nil=>exact nomatch (show 0=1 from r.length)
 |cons v vs=>
  obtain rfl:=ahP.mp (show vs.length=0 from amA r.length)
  (refine bU r.cons_inv λd dQ=>?_;refine bU dQ λds' di=>?_;refine bU di λa jP=>?_;refine bU jP λb oF=>?_;have e:=oF.1;have h1:=oF.2.2.1;have h2:=oF.2.2.2;clear oF jP di dQ)
  refine bY (ajd e) λe1 e2=>?_
  (refine bU (readsW_list_inv (e1▸h1)) λl dQ=>?_;refine bU dQ λxs di=>?_;refine bU di λas' jP=>?_;have Za:=jP.1;have h3:=jP.2.1;have h4:=jP.2.2.1;clear jP di dQ;obtain rfl:=Za)
  exact k l xs as' h3 h4
theorem Ry{h:adF}{a:aa9}{xs:Array aaq}(hl:h.IsList a xs)(h1:h.get? 47=some (ji #[]))(h2:h.get? 54=some (ji #[])):a∉iG []:=λq=>by
 obtain ⟨o,e1,e2,_⟩:=hl
 have no:∀b,h.get? b=some (ji #[])->a≠b:=λb hb e=>by
  rw[e,hb]at e1
  rw[<-aac e1]at e2
  exact nomatch e2
 have q:a∈[47,54]:=q
 exact (abk.mp q).elim (no _ h1) λq=>no _ h2 (abF.mp q)
theorem ag0{w:abI}{s:aaD}{mg:Str->Option aaq}{cl:Str->Option aa9}{mean:ExcName->Option aaq}{fa:aa9}{args:List WData}{vals:List aaq}{as:List aa9}(Y:Go w s.heap)(hn:s.heap.Ns 3 mg)(hm:mg (adQ "law")=some (.ref fa))(hg:s.gens=#[])
(vJ:Iw.row.claim.pre args=true)(hrd:alV Iw.row.records cl s.heap vals args as):
 abJ (abD Iw.row.prog w) callerA (call (.ref fa) vals) (λv s'=>GoodWG Iw.row.claim cl mean args s (.ok (.ret v)) s') (λe s'=>GoodWG Iw.row.claim cl mean args s (.error e) s') s:=by
 have:=Rv Y hn hm
 subst this
 (refine bz (Rx vJ) λzs cc hl=>?_;obtain rfl:=cc)
 have Vp:=(Yi (prog:=Iw.row.prog) (w:=w) (d:=0) (P:=w.params)).con [.bor (zs.map .int)] (.bool true) (by
  show (bp (zs.map AV.int)).bind (λzs=>if zs.length<=2^20 then some (AV.bool true) else none)=_
  erw[du ..,aa5 ..,if_pos %[a<=(qL 2 20),a<=63|(aG hl)],rfl])
 have t1:=Y _ _ (adv w.params)
 have t2:=Y _ _ (adw w.params)
 refine NV (G:=λvals=>abJ (abD Iw.row.prog w) callerA (call (.ref 230) vals) (λv s'=>GoodWG Iw.row.claim cl mean _ s (.ok (.ret v)) s') (λe s'=>GoodWG Iw.row.claim cl mean _ s (.error e) s') s) hrd λa vs as' hL hr=>?_
 obtain ⟨o,e1,e2,n,e3⟩:=id hL
 refine Vp.2 [] callerA s _ _ _ ⟨rfl,rfl,⋯,⋯⟩ (λa o h=>Y a o (adu w.params a o h)) trivial ⟨Uo (adx _) (ady _),Uo (.inl t1) (.inl t2)⟩ (.cons (.bor (dN.mpr ⟨⟨adH,Ry hL t1 t2⟩,e1⟩) e2 (e3.trans (by erw[Array.toArray_toList,rfl])) (Ek hr)) .nil) λv s' k hs hv=>?_
 apply RelV.lU hv
 exact ⟨.inl ⟨_,.bool true,[],rfl,λV=>rfl,.bool true,Ia,λV=>⟨.nil,λa ha=>absurd ha adH⟩⟩,Yo Y k,hs.os,.of_eq (hs.gens.trans hg)⟩
end Mine.Internal
end
section
open PySem PySem.W PyProof.Rows PySem.W.Fast
section
set_option tactic.hygienic true
namespace Mine
noncomputable def adA(p:aas):PySem.W.OpenLaw:={prog:=p,name:=adQ "law",about:=[adQ "int_divmod"],foot:=11,most:=some 63,bound:=none,writes:=false}
noncomputable def hdSaid(p:aas):Bool:=(adA p).wellSaid
lay_quick Mine.hdSaid
theorem Rz:hdSaid pw=true:=(congrFun te17709894492609887856 pw).trans (by kernel_rfl:tw17709894492609887856 pw=true)
end Mine
end
end
end
end
open Mine Mine.Internal PySem PySem.W PyProof.Rows PySem.W.Fast
theorem PySem.Challenge.cw_uc0040_02_holds : PySem.Challenge.rw_uc0040_02.Holds := by
 w_on
 refine PySem.W.holds_law (show PySem.W.OpenLaw.wellSaid PySem.Challenge.rw_uc0040_02=true from Rz) λ ak1=>?_
 refine holds_open (q:=hdQ pw) (loose:=sK pw) (Xt:=UY) (XP:=λ V V=>True) (Yf:=λ s=>s.heap) (Ya:=λ w=>jh pw w.params) (YP:=Go) (N:=20000) OB (λ w s e b o h=>by rw [e];exact h) (λ w h h' x k b o e=>k b o (x b o e))
  (λ s e=>trivial) (λ V V V V V=>trivial) (by rfl) (by rfl) (by rfl) (λ s e=>recFacts_nil rfl) (by rfl) (by first | assumption | decide+kernel) (by decide+kernel) ⟨rfl,rfl,rfl,rfl,rfl,by decide+kernel⟩ ?hw ?hc
 case hw=>w_witness2
 intro w yu s₁ mg mb G Y fa o pm cd doc dV kV ho hd hcd hD hmg hg args vals as vJ ak2 hrd hwl hlo
 exact ag0 Y G.T.g hmg hg vJ hrd
