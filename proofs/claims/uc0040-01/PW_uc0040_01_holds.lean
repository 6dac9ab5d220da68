import PyProof.Rows.All
import Wide.All
import OpenK.AllK
import Wide.FinOn
import Lean
import KE.KStopIter
import KE.KRevIter
import KE.KDictIter
import KE.KNest
import PyProof.FactsAll.str_5
import PySem.Challenge.RW_uc0040_01
set_option Elab.async false
set_option genSizeOf false
set_option genCtorIdx false
set_option genInjectivity false
set_option linter.all false
set_option maxRecDepth 1000000
set_option maxHeartbeats 0
set_option tactic.hygienic false
noncomputable section
open Option.some renaming inj→aam
open PySem.Builtin.Int renaming intBits→aan
open List renaming length_append→aao,length_map→aar,replicate→aau,mem_cons→aaB,getElem?_eq_getElem→aaF,append_assoc→aaH,not_mem_nil→aaP,mem_singleton→aaU,map_cons→aaX,getElem?_eq_some_iff→aaZ,map_append→aa6,append_nil→abg,mem_append→abC,range→abD,getElem?_append_left→acO,all_eq_true→acP,nil_append→acQ,mem_of_getElem?→acR,mem_map_of_mem→acV,cons_append→acX,length_cons→ada,mem_map→adb,map_map→ade,nodup_cons→adf,nodup_append→adj,getElem?_map→adk,lookup_cons→adl,mem_cons_of_mem→ado,length_replicate→adp,drop_eq_getElem_cons→adr,mapM_cons→adu,toArray→adE,filter_cons→adY,mem_append_left→ad4,length_nil→aec,length_take→aem,map_congr_left→aeo,mem_append_right→aev,length→ae3,forIn_cons→ae6,length_drop→ae9,getElem_mem→afa,mem_range→afj,replicate_succ→afm,getElem?_toArray→afv,map_nil→afG,getElem?_of_mem→afJ,forall_mem_cons→afK,take_of_length_le→afT,mem_replicate→af4,mem_filter→age,all_cons→agm,length_reverse→agn,length_eq_zero_iff→ago,length_filter_le→agC,length_range→agE,flatten_cons→agF,filter_eq_self→agR,filterMap_cons→agS,map_replicate→ag0,size_toArray→aha,drop_drop→ahb,contains_iff_mem→ahk,perm_middle→ahn,lookup→aht,getElem?_set_ne→ahu,mem_filterMap→ahL,getElem?_append_right→ahM,filter_append→ahN,reverse_cons→ahS,getElem?_inj→ahT,drop_length→ah2,zipWith→ah9,getElem?_set_self→aia,drop_eq_nil_of_le→aib,all_map→aic,take_append_drop→aii,singleton_append→aij,length_singleton→aik,take_zero→aiv,mem_of_mem_take→aiw,sum_cons→aiJ,zip_cons_cons→aiM,mem_cons_self→aiN,push_toArray→ai0,map_id'→ai1,any_eq_true→ajd,filter_nil→ajr,dropLast_concat_getLast→ajs,drop_zero→ajE,getElem?_eq_none_iff→ajR,filterMap_cons_some→aj2,getElem?_singleton→aj7,sum_replicate_nat→akd,filter_eq_nil_iff→ake,filterMap_append→ako,set_append_left→aky,mem_of_mem_drop→akz,map_id→akA,take_succ_cons→akJ,getElem?_range→akK,pairwise_cons→ak1,foldl→ak2,find?_toArray→ak3,mem_reverse→alr,map_reverse→als,cons_ne_nil→alu,of_mem_zip→alM,map_const'→alN,find?_cons→alO,forIn_nil→alU,drop_left→alV
open PySem renaming Program→aaq,Value→aas,Shared→aav,wpAny_bind→aaI,sizeLine→aaW,Params→abe,Addr→abh,World→acb,wpAny→acn,model→acr,Expr→acU,Heap→ac2,wpAny_pure→ac3,compEnvC→adh,treeTable→adi,Around→adn,OsState→ads,FuncData→aei,wpAny_execs_nil→aew,wpAny_execs_cons→aeN,DictEntry→aeS,wpAny_Call_method_lateS→afe,wpAny_Return_some→aft,wpAny_assign_Name→afP,wpAny_Assign_Name→afQ,NameKind→afX,Operator→agc,wpAny_of_eq→agz,Stmt→agH,wpAny_storeName_local→agK,builtinLookup_eq_fast→agL,Flow→agT,Code→ag3,swappedStores→ag8,intKind→ag9,wpAny_list_append_plain→ahd,swapsWith→ahe,holding→ahl,wpAny_newObj_type→aho,wpAny_Expr_any→ahp,subDict→ahr,wpAny_Name→ahz,typeIs_str→ahA,wpAny_holding→ahD,wpAny_storeName_cell→ahE,wpAny_loadName_local→ahF,wpAny_field→ahG,Scope→ahH,typeLookup_type→ahO,wpAny_loadName_free→ahQ,wpAny_setField→ahY,wpAny_BinOp→ah7,comprehension→aid,GenState→ain,wpAny_call→aix,sysModules→aiy,standAt→aiz,call_meets→aiA,callWith_type→aiB,execs→aiF,wpAny_isTrue_Compare1→aiG,wpAny_AugAssign_Name→aiO,binaryOp→aiP,codeAny→aiW,Builtin→aiZ,wpAny_loadName_cell→ai2,behindInMarks→ai9,Comprehension→ajb,slot_listiter_next→ajf,closureFor→ajg,step→ajt,slot_list_getitem→aju,storeName→ajI,pyIter→ajJ,dictSet→ajK,dictPut→ajL,compareOp→ajM,assign→ajN,Arguments→ajO,interactive→ajX,dictDisplay→ajY,Fin→ajZ,wpAny_seqItems→akf,typeIs_int→akg,isSubtype_type→akh,wpAny_comprehension_free→akC,assignInOrder→akD,wpAny_callSpecial?_slot→akO,updateSeq→akQ,cellsFrom→akR,wpAny_Assign_Subscript→ak4,type_list_append→ak5,truthy→ak6,newList→ak7,findBy→ak8,codeAny_compStart_list→ak9,codeAny_compLoop_tests→ala,exec_Assign_Name_used→alh,evalPairs→ali,wpAny_If→alA,starEach→alB,sliceBounds→alC,lookup_relabel_local→alD,isCodeTable→alE,compPost→alF,bindName→alG,IsRangeIter→alI,wpAny_isTrue_BoolOp→alP,wpAny_isTrue_value→alY,wpAny_getItem_list→alZ,wpAny_Constant_str→al0
open Bool renaming and_eq_true→aaQ,false_eq_true→aeh,not_eq_true'→aeM,or_eq_true→afr,false_ne_true→afE,or_eq_false_iff→afL,and_false→afM,eq_iff_iff→agv,and_true→agy,and_eq_true_iff→ahw,not_eq_true→alz,true_and→al9
open Option renaming bind_some→aaT,bind_eq_some_iff→adD,getD_some→afu,isSome_iff_exists→afC,or_eq_some_iff→ahc,map_eq_some_iff→ah0,map_some→ah4,none_or→aih,isNone_iff_eq_none→ajz,none→aka,isSome_some→akx,or_none→alp,bind→al5
open Int renaming toNat_natCast→aaV,natCast_nonneg→ac9,natAbs_natCast→ae8,toNat_of_nonneg→afn,natCast_mul→afs,sub_nonneg_of_le→agl,eq_ofNat_of_zero_le→agr,one_mul→ags,natCast_add→agx,mul_assoc→ahv,mul_one→ahy,ofNat_lt→ahK,sub_pos_of_lt→ahX,neg_mul→aiE,fmod_def→ai8,toNat→ajo,neg_fdiv_neg→ajp,natCast_pow→ajC,not_lt→ajS,natAbs_neg→ajT,mul_nonneg→ajU,fmod_eq_emod_of_nonneg→ajV,fdiv_eq_ediv_of_nonneg→ajW,add_assoc→aj8,zero_mul→akp,zero_add→akq,mul_zero→akr,mul_comm→aks,le_of_eq→akt,fmod_nonneg_of_pos→aku,add_zero→akv,mul_add→akL,add_mul→akM,not_le→alf,fmod_lt_of_pos→alg,zero_le_ofNat→alv,sub_neg_of_lt→alw,mul_left_comm→alx,emod_eq_of_lt→aly,mul_neg_one→alW,add_nonneg→al8
open Nat renaming lt_of_lt_of_le→aaY,ne_of_lt→acS,le_trans→acW,pow_le_pow_right→acY,lt_of_le_of_lt→acZ,le_refl→ac1,mul_comm→ac8,two_pow_pos→adc,lt_irrefl→adg,div_lt_iff_lt_mul→adq,zero_le→adV,mul_add→ad5,mod_lt→aeb,mod_two_eq_zero_or_one→aed,pow_add→aef,mul_le_mul_right→aeg,mul_le_mul_left→aet,le_of_lt→ae4,add_comm→ae5,zero_add→ae7,lt_succ_self→afc,lt_trans→afk,pow_succ→afU,shiftLeft_eq→af0,succ_mul→agg,mul_one→agk,le_of_eq→agt,mul_assoc→agA,add_assoc→agB,mul_zero→agO,div_add_mod'→agP,ble→agQ,succ_add_eq_add_succ→agU,le_add_left→agY,sub_add_cancel→ag4,add_sub_cancel_left→ag6,le_of_ble_eq_true→ahm,add_mul→ahx,le_antisymm→ahC,add_zero→ahJ,eq_zero_or_pos→ahP,shiftRight_eq_div_pow→ahR,lt_succ_of_lt→ahU,lt_succ_of_le→ahV,log2_lt→ahW,and_or_distrib_right→ahZ,mod_eq_of_lt→ah5,div_eq_of_lt→ah6,lt_asymm→aif,ble_eq_true_of_le→aip,succ_eq_add_one→aiH,add_sub_cancel'→aiI,not_lt→aiR,and_one_is_mod→aiT,pow_zero→ai6,mul_left_comm→ai7,testBit_zero→ajk,le_add_right→ajl,and_two_pow_sub_one_eq_mod→ajm,min_eq_left→ajA,div_add_mod→ajB,not_le→ajP,mul_lt_mul_of_pos_left→ajQ,shiftLeft_and_distrib→aj1,pow_succ'→aj5,pow_lt_pow_iff_right→aj6,le_mul_of_pos_right→akb,and_or_distrib_left→akc,zero_mul→akk,succ_add→akl,ne_of_gt→akm,div_div_eq_div_mul→akn,or_zero→akI,lt_mul_div_succ→akZ,div_mul_le_self→ak0,lt_of_le_of_ne→ale,le_of_not_lt→alL,testBit_and→alQ,not_lt_zero→alR,mul_add_mod→alS,mul_add_div→alT,mul_le_mul→al6,add_le_add→al7
open PySem.Builtin renaming bitNot→acp,bitAnd→ac6,bitOr→agd,bitXor→agD
open PySem.Heap renaming get?_push_of_some→act,lt_size→acD,get?_push_size→acT,SameBut→aeJ,get?_update_other→afR,size_push→af3,get?_update_self→af7,get?_none_of_le→agJ,mk→agM,get?→aja,get?_some_iff→akW
open PySem.Calls renaming spliced_cons→ac0,evalArgs_plain→ac4,spliced_nil→adt,callWith_builtin→aee,callWith_function→afN,call_function_entry→ait,Name_function_global→ajy
open PySem.Str renaming ofString→ac5,ext'→ai3,length→akj
open PySem.NameKind renaming free→adA,cell→agb
open Array renaming getElem?_modify→aep,getElem?_append_right→afO,toList_inj→afW,getElem?_eq_some_iff→agI,ext_getElem?→agW,empty_append→aiK,getElem?_append_left→ajD,getElem?_push→akB,size_extract→akN
open PySem.Txt renaming lower→aeX,join→agp,split→agw
open PySem.W renaming SharedT→afb,topRun→ag1,behindTheImports→ail,segRunT→aiC,piece_app→aiX,piecesOf→ajv,fnMade→aki,ReadsAllW→akT
open PySem.Heap.FunFrames renaming mem→afd,cons→amg
open PyProof.Rows renaming Call_Name→afi,subscriptTail→ajc,Subscript_→ajq,StrsAre→aj9,evalArgs_nil3→akY
open PySem.Heap.SameBut renaming update→aga
open List.Perm renaming nodup_iff→agf,append_left→ag7
open List.Sublist renaming refl→agq,nodup→ajH
open PySem.pyHashByItsType renaming reduced→agG
open ForInStep renaming yield→agN
open PySem.Value renaming isInt→agX,ref→ahh,none→ahi
open PySem.Obj renaming data_mapFields→ag2,mapFields→ahs,isFreed_of_fields→aim,mapSeq→aiQ,mapDictKeys→ajw,mapSeq_push_plain→akw,cls_mapFields→alk
open PySem.Builtin.Str renaming strKind→ahf,occurrences→ahq
open Except renaming ok→ahg
open PySem.Sre renaming forSearch→ahB
open PUnit renaming unit→ahI
open PySem.W.WTm renaming value→ah3,holds→ajh
open PySem.F renaming slot_str_split→aie,args_str_split_2→ai4,plainAttrs_list→aji,entry_str_split→ajj,plainAttrs_str→ajx,slot_int_bit_length→akX,slot_list_reverse→alm
open PySem.Challenge renaming rw_uc0040_01→aio,pw_uc0040_01→al4
open PySem.W.WData renaming int→ais
open Pure renaming pure→aiD
open PySem.Builtin.List renaming listFitsIndex→aiL,listTooLong→aiY
open List.Pairwise renaming imp_of_mem→aiU
open Classical renaming byContradiction→aje
open List.cons renaming inj→ajn
open PySem.Builtin.Re renaming reTurnSteps→aj0
open PySem.Sre.M renaming runFor→aj3,admitted→alH
open PySem.Sem renaming wrap_wrap→aj4
open PySem.W.SL renaming s12411053484034534018x21→akE,s12171344214640291687x10→akF,s10220274742760427390x26→akG,s6511155373996960695x17→akS,s3642769012341782148x3→alb,s1438033511350832697x5→alc,s658472552662922059x5→alj
open PySem.StrLaws renaming strSub_toList→akH
open PySem.Shared renaming mk→akU
open PySem.Expr renaming Name→aln
open Prod.mk renaming injEq→alo
open Nat.succ renaming inj→alq
open PySem.Heap.IsSliceOf renaming new→amf
section
namespace Mine.Internal
section
set_option tactic.hygienic true
universe u v
@[elab_as_elim] theorem rwG{α:Sort u}{a b:α}{P:α->Prop}(h:a=b)(k:P b):P a:=h▸k
@[elab_as_elim] theorem rwB{α:Sort u}{a b:α}{P:α->Prop}(h:a=b)(k:P a):P b:=h▸k
theorem cL{α:Sort u}{p:α->Prop}{G:Prop}(h:∃x,p x)(k:∀x,p x->G):G:=h.elim k
theorem bF {α:Sort u} {a b:α->Prop} {G:Prop}(h:∃x,a x∧b x)(k:∀x,a x->b x->G):G:=h.elim λ x h=>k x h.1 h.2
theorem IB {α:Sort u} {β:Sort v} {a b c:α->β->Prop} {G:Prop}(h:∃x y,a x y∧b x y∧c x y)(k:∀x y,a x y->b x y->c x y->G):G:=h.elim λ x h=>h.elim λ y h=>k x y h.1 h.2.1 h.2.2
theorem z8 {α:Sort u} {β:Sort v} {a b c d:α->β->Prop} {G:Prop}(h:∃x y,a x y∧b x y∧c x y∧d x y)(k:∀x y,a x y->b x y->c x y->d x y->G):G:=h.elim λ x h=>h.elim λ y h=>k x y h.1 h.2.1 h.2.2.1 h.2.2.2
theorem Yc {α:Sort u} {a b c:α->Prop} {G:Prop}(h:∃x,a x∧b x∧c x)(k:∀x,a x->b x->c x->G):G:=h.elim λ x h=>k x h.1 h.2.1 h.2.2
theorem Yd {α:Sort u} {β:Sort v} {a:α->β->Prop} {G:Prop}(h:∃x y,a x y)(k:∀x y,a x y->G):G:=h.elim λ x h=>h.elim λ y h=>k x y h
theorem Ye {a b c G:Prop}(h:a∧b∧c)(k:a->b->c->G):G:=k h.1 h.2.1 h.2.2
theorem NW {α:Sort u} {c G:Prop} {a b:α->Prop}(h:c∧∃x,a x∧b x)(k:c->∀x,a x->b x->G):G:=h.2.elim λ x p=>k h.1 x p.1 p.2
theorem gY{a b G:Prop}(h:a∧b)(k:a->b->G):G:=k h.1 h.2
end
end Mine.Internal
end
section
section
namespace Mine.Internal.Ar
inductive T where
 | v (i:Nat) | k (n:Nat) | l (b n:Nat) | c (t:T) | g (t:T) | a (x y:T) | s (x y:T) | m (x y:T)
inductive P where
 | l (z:Bool) (x y:T) | e (z:Bool) (x y:T) | j (z:Bool) (p q:P) | no (p:P) | fl | d (f:Nat) (x p q:T)
noncomputable abbrev at'{α:Type}(d:α)(l:List α):Nat->α:=l.rec (λ V=>d) λ x V f i=>i.rec x λ j V=>f j
noncomputable abbrev nz(a:List Nat)(b:List Int)(t:T):Nat×Int:=
 t.rec (λ i=>(at' 0 a i,at' 0 b i)) (λ n=>(n,n)) (λ k n=>(k ^ n,(k:Int) ^ n)) (λ V t=>(0,(t.1:Nat))) (λ V t=>(0, - t.2))
  (λ V V x y=>(x.1+y.1,x.2+y.2)) (λ V V x y=>(0,x.2 - y.2)) λ V V x y=>(x.1 * y.1,x.2 * y.2)
noncomputable abbrev opd(f:Nat)(x p q:Nat)(z:Int):Prop:=f.rec (x=p - q) λ f V=>f.rec (x=p / q) λ f V=>f.rec (x=p % q) λ f V=>f.rec (x=min p q) λ V V=>x=z.toNat
noncomputable abbrev pn(a:List Nat)(b:List Int)(p:P):Prop:=
 p.rec (λ z x y=>z.rec ((nz a b x).1≤(nz a b y).1) ((nz a b x).2≤(nz a b y).2)) (λ z x y=>z.rec ((nz a b x).1=(nz a b y).1) ((nz a b x).2=(nz a b y).2))
  (λ z V V p q=>z.rec (p∨q) (p∧q)) (λ V p=>¬p) False λ f x p q=>opd f (nz a b x).1 (nz a b p).1 (nz a b q).1 (nz a b p).2
noncomputable abbrev dn(a:List Nat)(b:List Int)(g:P)(l:List P):Prop:=l.rec (pn a b g) λ h V r=>pn a b h->r
noncomputable abbrev Po:=List (List Int×Int)
noncomputable def md(e:Int->Int):List Int->Int
 | []=>1
 | i::m=>e i * md e m
noncomputable def pd(e:Int->Int):Po->Int
 | []=>0
 | t::p=>t.2 * md e t.1+pd e p
noncomputable def put(m:List Int)(c:Int)(p:Po):Po:=if c=0 then p else (m,c)::p
noncomputable def ins(m:List Int)(c:Int):Po->Po
 | []=>put m c []
 | t::p=>if m=t.1 then put m (c+t.2) p else t::ins m c p
noncomputable def mJ(s:Int)(p q:Po):Po:=p.foldr (λ t q=>ins t.1 (s * t.2) q) q
noncomputable def mi(i:Int):List Int->List Int
 | []=>[i]
 | j::m=>if i≤j then i::j::m else j::mi i m
noncomputable def mm(m n:List Int):List Int:=m.foldr mi n
noncomputable def Yg(m:List Int)(c:Int)(p q:Po):Po:=p.foldr (λ t q=>ins (mm m t.1) (c * t.2) q) q
noncomputable def T1(p q:Po):Po:=p.foldr (λ t r=>Yg t.1 t.2 q r) []
noncomputable def tp:T->Po×Po
 | .v i=>([([.ofNat i],1)],[([.negSucc i],1)])
 | .k n=>([([],n)],[([],n)])
 | .l k n=>([([],(k ^ n:Nat))],[([],(k ^ n:Nat))])
 | .c t=>([],(tp t).1)
 | .g t=>([],mJ (-1) (tp t).2 [])
 | .a x y=>(mJ 1 (tp x).1 (tp y).1,mJ 1 (tp x).2 (tp y).2)
 | .s x y=>([],mJ (-1) (tp y).2 (tp x).2)
 | .m x y=>(T1 (tp x).1 (tp y).1,T1 (tp x).2 (tp y).2)
noncomputable def Ex(z:Bool)(x y:T):Po:=bif z then mJ (-1) (tp x).2 (tp y).2 else mJ (-1) (tp x).1 (tp y).1
noncomputable def Rp:P->Bool->List Po->(List Po->Bool)->Bool
 | .l z x y,t,G,k=>bif t then k (Ex z x y::G) else k (mJ (-1) (Ex z x y) [([], -1)]::G)
 | .e z x y,t,G,k=>bif t then k (Ex z x y::Ex z y x::G) else k (mJ 1 (Ex z x y) [([], -1)]::G)&&k (mJ 1 (Ex z y x) [([], -1)]::G)
 | .j z p q,t,G,k=>bif z==t then Rp p t G λ G=>Rp q t G k else Rp p t G k&&Rp q t G k
 | .no p,t,G,k=>Rp p (!t) G k
 | .fl,t,G,k=>t||k G
 | .d _ _ _ _,_,G,k=>k G
noncomputable def pre:P->P
 | .d f x p q=>match f with
   | 0=>.j false (.e false (.a x q) p) (.j true (.e false x (.k 0)) (.l false p q))
   | 1=>.j true (.l false (.m x q) p) (.j false (.e false q (.k 0)) (.l false (.a p (.k 1)) (.a (.m x q) q)))
   | 2=>.j false (.e false q (.k 0)) (.l false (.a x (.k 1)) q)
   | 3=>.j false (.j true (.e false x p) (.l false p q)) (.j true (.e false x q) (.l false q p))
   | _=>.j false (.e true (.c x) p) (.j true (.e false x (.k 0)) (.l true p (.k 0)))
 | p=>p
noncomputable def CY(m:List Int):Po->Int
 | []=>0
 | t::p=>if m=t.1 then t.2 else CY m p
noncomputable def even(m:List Int):Bool:=m.all fun
 | .ofNat _=>true
 | _=>false
noncomputable def Yh(m:List Int)(G:List Po):List Po:=(bif even m then [[(m,1)]] else [])++G.filter λ p=>decide (0 < CY m p)
noncomputable def adv(m:List Int)(G:List Po):List Po:=G.filter λ p=>decide (CY m p < 0)
noncomputable def Yb(m:List Int)(G:List Po):List Po:=
 (G.filter λ p=>CY m p==0)++(Yh m G).flatMap λ p=>(adv m G).map λ q=>mJ (CY m p) q (mJ (-CY m q) p [])
noncomputable def bad:Po->Bool
 | []=>false
 | t::p=>t.1.isEmpty&&p.isEmpty&&decide (t.2 < 0)
noncomputable def Yi(G:List Po):List Int:=(G.flatMap λ p=>(p.map (·.1)).filter λ m=>!m.isEmpty).headD []
noncomputable def fm:Nat->List Po->Bool
 | 0,_=>false
 | n+1,G=>G.any bad||fm n (Yb (Yi G) G)
noncomputable def T2(k:List Po->Bool):List P->List Po->Bool
 | [],G=>k G
 | h::r,G=>Rp (pre h) true G (T2 k r)
noncomputable def xQ(hs:List P)(g:P):Bool:=T2 (λ G=>Rp g false G (fm 12)) hs []
@[elab_as_elim] theorem T4{α:Type}{P:α->Prop}{c:Prop} [d:Decidable c]{a b:α}(h:c->P a)(k:¬c->P b):P (if c then a else b):=
  match d with
  | isTrue q=>h q
  | isFalse q=>k q
theorem fF{a b:Bool}{G:Prop}(h:(a&&b)=true)(k:a=true->b=true->G):G:=gY ((aaQ a b).mp h) k
section
variable{e:Int->Int}
theorem IC(m:List Int)(c:Int)(p:Po):pd e (put m c p)=c * md e m+pd e p:=
 T4 (P:=λ q=>pd e q=_) (λ h=>h▸rwG (akp _) (akq _).symm) λ V=>rfl
theorem IG(m:List Int)(c:Int)(p:Po):pd e (ins m c p)=c * md e m+pd e p:=
 p.rec (IC m c []) λ t p ih=>T4 (P:=λ q=>pd e q=_) (λ h=>(IC ..).trans (rwG (akM ..) (rwG h (aj8 ..))))
  λ V=>(congrArg (t.2 * md e t.1+·) ih).trans (Int.add_left_comm ..)
theorem lz(s:Int)(p q:Po):pd e (mJ s p q)=s * pd e p+pd e q:=
 p.rec (rwG (akr s) (akq _).symm) λ t p ih=>(IG ..).trans (rwG ih (rwG (ahv ..) ((aj8 ..).symm.trans (congrArg (· +pd e q) (akL ..).symm))))
theorem Yj(i:Int)(m:List Int):md e (mi i m)=e i * md e m:=
 m.rec rfl λ j m ih=>T4 (P:=λ q=>md e q=_) (λ V=>rfl) λ V=>(congrArg (e j * ·) ih).trans (alx ..)
theorem Yk(m n:List Int):md e (mm m n)=md e m * md e n:=
 m.rec (ags _).symm λ i m ih=>(Yj i _).trans ((congrArg _ ih).trans (ahv ..).symm)
theorem NX(m:List Int)(c:Int)(p q:Po):pd e (Yg m c p q)=c * md e m * pd e p+pd e q:=
 p.rec (rwG (akr _) (akq _).symm) λ t p ih=>(IG ..).trans (rwG ih (rwG (Yk ..) ((aj8 ..).symm.trans (congrArg (· +pd e q)
  (((congrArg (· +_) ((ahv ..).trans ((congrArg (c * ·) (alx ..)).trans (ahv ..).symm))).trans (akL ..).symm))))))
theorem Ey(p q:Po):pd e (T1 p q)=pd e p * pd e q:=
 p.rec (akp _).symm λ t p ih=>(NX ..).trans ((congrArg _ ih).trans (akM ..).symm)
end
noncomputable def en(a:List Nat)(b:List Int):Int->Int
 | .ofNat i=>(at' 0 a i:Nat)
 | .negSucc i=>at' 0 b i
theorem Yl(x:Int):1 * (x * 1)+0=x:=rwG (akv _) (rwG (ags _) (ahy x))
theorem IH(x:Int):x * 1+0=x:=rwG (akv _) (ahy x)
section
variable{a:List Nat}{b:List Int}
theorem IJ(p q:Po):pd (en a b) (mJ (-1) p q)=pd (en a b) q - pd (en a b) p:=(lz ..).trans (rwG (aiE ..) (rwG (ags _) (Int.add_comm ..)))
theorem Ez(t:T):pd (en a b) (tp t).1=(nz a b t).1∧pd (en a b) (tp t).2=(nz a b t).2:=
 t.rec (λ i=>⟨Yl _,Yl _⟩) (λ n=>⟨IH _,IH _⟩) (λ k n=>⟨IH _,(IH _).trans (ajC ..)⟩) (λ t h=>⟨rfl,h.1⟩)
  (λ t h=>⟨rfl,(IJ ..).trans (rwG h.2 (Int.zero_sub _))⟩)
  (λ x y h k=>⟨(lz ..).trans (rwG (ags _) (rwG h.1 (rwG k.1 rfl))),(lz ..).trans (rwG (ags _) (rwG h.2 (rwG k.2 rfl)))⟩)
  (λ x y h k=>⟨rfl,(IJ ..).trans (rwG h.2 (rwG k.2 rfl))⟩)
  (λ x y h k=>⟨(Ey ..).trans (rwG h.1 (rwG k.1 rfl)),(Ey ..).trans (rwG h.2 (rwG k.2 rfl))⟩)
theorem NY(m:List Int):even m=true->0≤md (en a b) m:=
 m.rec (λ V=>alv 1) λ i m ih h=>fF h λ h k=>ajU (by
  cases i with
  | ofNat i=>exact ac9 _
  | negSucc i=>exact nomatch h) (ih k)
noncomputable def Al(a:List Nat)(b:List Int)(G:List Po):Prop:=∀p∈G,0≤pd (en a b) p
theorem Al.cons{p:Po}{G:List Po}(h:0≤pd (en a b) p)(k:Al a b G):Al a b (p::G):=afK.mpr ⟨h,k⟩
theorem EA{m:List Int}{G:List Po}(h:Al a b G)(p:Po)(hp:p∈Yh m G):0≤CY m p∧0≤pd (en a b) p:=by
 refine (abC.mp hp).elim (λ hp=>?_) λ hp=>gY (age.mp hp) λ h1 h2=>⟨Int.le_of_lt (of_decide_eq_true h2),h p h1⟩
 revert hp
 cases he:even m with
 | false=>exact λ hp=>nomatch hp
 | true=>exact λ hp=>aaU.mp hp▸⟨Int.le_trans (alv 1) (akt (if_pos rfl).symm),rwG (show pd (en a b) [(m,1)]=md (en a b) m from (akv _).trans (ags _)) (NY m he)⟩
theorem NZ{m:List Int}{G:List Po}(h:Al a b G):Al a b (Yb m G):=λ r hr=>
 (abC.mp hr).elim (λ hr=>h r (age.mp hr).1) λ hr=>cL (List.mem_flatMap.mp hr) λ p hp=>cL (adb.mp hp.2) λ q hq=>
  gY (age.mp hq.1) λ h1 h2=>hq.2▸rwG (lz ..) (al8 (ajU (EA h p hp.1).1 (h q h1)) (rwG (lz ..)
   (al8 (ajU (Int.neg_nonneg_of_nonpos (Int.le_of_lt (of_decide_eq_true h2))) (EA h p hp.1).2) (Int.le_refl 0))))
theorem T5(p:Po)(h:bad p=true)(k:0≤pd (en a b) p):False:=
 match p,h,k with
 | [],h,_=>nomatch h
 | (i::m,c)::p,h,_=>nomatch h
 | ([],c)::t::p,h,_=>nomatch h
 | [([],c)],h,k=>alf.mpr (of_decide_eq_true h) (rwB (IH c) k)
theorem Ym(n:Nat):∀G:List Po,fm n G=true->Al a b G->False:=
 n.rec (λ V h V=>nomatch h) λ n ih G h k=>((afr _ _).mp h).elim (λ h=>cL (ajd.mp h) λ p hp=>T5 p hp.2 (k p hp.1)) λ h=>ih _ h (NZ k)
theorem oV(z:Bool)(x y:T):pd (en a b) (Ex z x y)=bif z then (nz a b y).2 - (nz a b x).2 else (nz a b y).1 - (nz a b x).1:=by
 cases z with
 | true=>exact (IJ ..).trans (rwG (Ez x).2 (rwG (Ez y).2 rfl))
 | false=>exact (IJ ..).trans (rwG (Ez x).1 (rwG (Ez y).1 rfl))
theorem T6(z:Bool)(x y:T)(h:pd (en a b) (Ex z x y) < 0):0≤pd (en a b) (mJ (-1) (Ex z x y) [([], -1)]):=
 rwG (IJ ..) (agl (show pd (en a b) (Ex z x y)≤ -1 * 1+0 from Int.le_sub_one_of_lt h))
theorem IK(z:Bool)(x y:T)(h:0 < pd (en a b) (Ex z x y)):0≤pd (en a b) (mJ 1 (Ex z x y) [([], -1)]):=
 rwG (lz ..) (rwG (ags _) (agl (show (1:Int)≤_ from h)))
theorem IL(p:P):∀(t:Bool) (G:List Po) (k:List Po->Bool),Rp p t G k=true->Al a b G->(bif t then pn a b p else ¬pn a b p)->(∀G',Al a b G'->k G'=true->False)->False:=
 p.rec (λ z x y t G k h hg hp K=>by
  cases t with
  | true=>exact K _ (hg.cons (rwG (oV z x y) (by cases z with
    | true=>exact agl hp
    | false=>exact agl (Int.ofNat_le.mpr hp)))) h
  | false=>exact K _ (hg.cons (T6 _ _ _ (rwG (oV z x y) (by cases z with
    | true=>exact alw (alf.mp hp)
    | false=>exact alw (ahK.mpr (ajP.mp hp)))))) h)
  (λ z x y t G k h hg hp K=>by
   cases t with
   | true=>
     refine K _ ((hg.cons (rwG (oV z y x) ?_)).cons (rwG (oV z x y) ?_)) h <;> cases z with
     | true=>exact agl (by first | exact akt hp | exact akt hp.symm)
     | false=>exact agl (Int.ofNat_le.mpr (by first | exact agt hp | exact agt hp.symm))
   | false=>
     refine fF h λ h1 h2=>?_
     have q:0 < pd (en a b) (Ex z x y)∨0 < pd (en a b) (Ex z y x):=by
      refine rwG (oV z x y) (rwG (oV z y x) ?_)
      cases z with
      | true=>exact (Int.lt_or_gt_of_ne hp).imp ahX ahX
      | false=>exact (Nat.lt_or_gt_of_ne hp).imp (λ h=>ahX (ahK.mpr h)) λ h=>ahX (ahK.mpr h)
     exact q.elim (λ q=>K _ (hg.cons (IK _ _ _ q)) h1) λ q=>K _ (hg.cons (IK _ _ _ q)) h2)
  (λ z p q hp hq t G k h hg hh K=>by
   cases z <;> cases t
   · exact hp _ _ _ h hg (λ h=>hh (.inl h)) λ G' T7 h'=>hq _ _ _ h' T7 (λ h=>hh (.inr h)) K
   · exact fF h λ h1 h2=>hh.elim (λ hh=>hp _ _ _ h1 hg hh K) λ hh=>hq _ _ _ h2 hg hh K
   · exact fF h λ h1 h2=>hp _ _ _ h1 hg (λ h3=>hq _ _ _ h2 hg (λ h4=>hh ⟨h3,h4⟩) K) K
   · exact hp _ _ _ h hg hh.1 λ G' T7 h'=>hq _ _ _ h' T7 hh.2 K)
  (λ p hp t G k h hg hh K=>hp _ _ _ h hg (by
   cases t with
   | true=>exact hh
   | false=>exact Classical.not_not.mp hh) K)
  (λ t G k h hg hp K=>by
   cases t with
   | true=>exact hp
   | false=>exact K _ hg h)
  λ V V V V V G k h hg hp K=>K _ hg h
theorem adw{x p q:Nat}(h:x=p / q):x * q≤p∧(q=0∨p+1≤x * q+q):=h▸⟨ak0 ..,(ahP _).imp_right Nat.lt_div_mul_add⟩
theorem adx{x p q:Nat}(h:x=p % q):q=0∨x+1≤q:=h▸(ahP _).imp_right (aeb _)
theorem ady{x p q:Nat}(h:x=min p q):(x=p∧p≤q)∨(x=q∧q≤p):=h▸(Nat.le_total p q).imp (λ h=>⟨ajA h,h⟩) λ h=>⟨Nat.min_eq_right h,h⟩
theorem T8(p:P)(h:pn a b p):pn a b (pre p):=by
 cases p with
 | d f x p q=>
   match f,h with
   | 0,h=>exact (Nat.le_total (nz a b p).1 (nz a b q).1).symm.imp (λ k=>(congrArg (· +_) h).trans (ag4 k)) λ k=>⟨h.trans (Nat.sub_eq_zero_of_le k),k⟩
   | 1,h=>exact adw h
   | 2,h=>exact adx h
   | 3,h=>exact ady h
   | n+4,h=>exact (Int.le_total 0 (nz a b p).2).imp (λ k=>(congrArg _ h).trans (afn k)) λ k=>⟨h.trans (Int.toNat_of_nonpos k),k⟩
 | _=>exact h
theorem N0{g:P}{k:List Po->Bool}(K:∀G,Al a b G->k G=true->pn a b g)(hs:List P):∀G,T2 k hs G=true->Al a b G->dn a b g hs:=
 hs.rec (λ G h hg=>K _ hg h) λ p r ih G h hg hp=>aje λ hn=>IL (pre p) true _ _ h hg (T8 p hp) λ G' T7 h'=>hn (ih _ h' T7)
theorem zX{hs:List P}{g:P}(h:xQ hs g=true):dn a b g hs:=
 N0 (λ G hg h=>aje λ hn=>IL g false _ _ h hg hn λ V hg h=>Ym 12 _ h hg) hs _ h λ V m=>nomatch m
end
end Mine.Internal.Ar
namespace Mine.Internal
open Ar
noncomputable abbrev qa:=T.v 0
noncomputable abbrev qb:=T.v 1
noncomputable abbrev qc:=T.v 2
noncomputable abbrev qd:=T.v 3
noncomputable abbrev qe:=T.v 4
noncomputable abbrev qf:=T.v 5
noncomputable abbrev qg:=T.v 6
noncomputable abbrev qh:=T.v 7
noncomputable abbrev qi:=T.v 8
noncomputable abbrev qj:=T.v 9
noncomputable abbrev qk:=T.k
noncomputable abbrev qL:=T.l
noncomputable abbrev qC:=T.c
noncomputable abbrev qG:=T.g
noncomputable abbrev qA:=T.a
noncomputable abbrev qS:=T.s
noncomputable abbrev qM:=T.m
noncomputable abbrev qle:=P.l false
noncomputable abbrev qlt(x y:T):=P.l false (T.a x (T.k 1)) y
noncomputable abbrev qeq:=P.e false
noncomputable abbrev Qle:=P.l true
noncomputable abbrev Qlt(x y:T):=P.l true (T.a x (T.k 1)) y
noncomputable abbrev Qeq:=P.e true
noncomputable abbrev bG:=P.j true
noncomputable abbrev ud:=P.j false
noncomputable abbrev cY:=P.no
noncomputable abbrev qD:=P.d
theorem Rq(p:List P)(g:P)(h:xQ p g=true):dn [] [] g p:=zX h
theorem fZ(p:List P)(g:P)(h:xQ p g=true){i:Int}:dn [] [i] g p:=zX h
theorem q02(p:List P)(g:P)(h:xQ p g=true){i j:Int}:dn [] [i,j] g p:=zX h
theorem q03(p:List P)(g:P)(h:xQ p g=true){i j k:Int}:dn [] [i,j,k] g p:=zX h
theorem q04(p:List P)(g:P)(h:xQ p g=true){i j k l:Int}:dn [] [i,j,k,l] g p:=zX h
theorem aV(p:List P)(g:P)(h:xQ p g=true){x:Nat}:dn [x] [] g p:=zX h
theorem T9(p:List P)(g:P)(h:xQ p g=true){x:Nat}{i:Int}:dn [x] [i] g p:=zX h
theorem q12(p:List P)(g:P)(h:xQ p g=true){x:Nat}{i j:Int}:dn [x] [i,j] g p:=zX h
theorem aU(p:List P)(g:P)(h:xQ p g=true){x y:Nat}:dn [x,y] [] g p:=zX h
theorem IM(p:List P)(g:P)(h:xQ p g=true){x y:Nat}{i:Int}:dn [x,y] [i] g p:=zX h
theorem cf(p:List P)(g:P)(h:xQ p g=true){x y z:Nat}:dn [x,y,z] [] g p:=zX h
theorem dQ(p:List P)(g:P)(h:xQ p g=true){x y z u:Nat}:dn [x,y,z,u] [] g p:=zX h
theorem rU(p:List P)(g:P)(h:xQ p g=true){x y z u v:Nat}:dn [x,y,z,u,v] [] g p:=zX h
theorem IP(p:List P)(g:P)(h:xQ p g=true){x y z u v w:Nat}:dn [x,y,z,u,v,w] [] g p:=zX h
theorem q80(p:List P)(g:P)(h:xQ p g=true){x y z u v w s t:Nat}:dn [x,y,z,u,v,w,s,t] [] g p:=zX h
theorem q90(p:List P)(g:P)(h:xQ p g=true){x y z u v w s t r:Nat}:dn [x,y,z,u,v,w,s,t,r] [] g p:=zX h
theorem IQ(p:List P)(g:P)(h:xQ p g=true){x y z u v w s t r o:Nat}:dn [x,y,z,u,v,w,s,t,r,o] [] g p:=zX h
theorem Yn(p:List P)(g:P)(h:xQ p g=true){x y z u v w s t r o x1 x2 x3 x4 x5:Nat}:dn [x,y,z,u,v,w,s,t,r,o,x1,x2,x3,x4,x5] [] g p:=zX h
end Mine.Internal
end
end
section
set_option compiler.extract_closed false
namespace Mine.Internal
def mNd (k:Lean.Name) (a:Array Lean.Syntax):Lean.Syntax:=.node .none k a
def mTk:String→Lean.Syntax:=.atom .none
def mAp (f:Lean.Name) (a:Array Lean.Syntax):Lean.Syntax:=mNd `Lean.Parser.Term.app #[Lean.mkIdent f,mNd `null a]
def mEx (e:Array Lean.Syntax):Lean.Syntax:=mNd `Lean.Parser.Tactic.exact e
def mLg:Nat→Lean.Syntax→Lean.Syntax
 | 0,t=>t
 | n+1,t=>match ["+","-","*","≤","<","=","⊆","⊂","=="].zip [``qA,``qS,``qM,``qle,``qlt,``qeq,``Qle,``Qlt,``Qeq]|>.lookup t[1].getAtomVal with
  | some x=>mAp x #[mLg n t[0],mLg n t[2]]
  | none=>match t with
   | .ident _ _ (.str .anonymous s) _=>if s.length==1&&s<"k" then Lean.mkIdent (.str `Mine.Internal ("q"++s)) else t
   | .node i k a=>if k==`num then mAp ``qk #[t] else if k==`Lean.Parser.Term.paren then mLg n a[1]! else .node i k (a.map fun x=>if x.isOfKind `num then x else mLg n x)
   | t=>t
def mBt (t:Lean.Syntax):Lean.Syntax:=mNd `Lean.Parser.Term.byTactic #[mTk "by",mNd `Lean.Parser.Tactic.tacticSeq #[mNd `Lean.Parser.Tactic.tacticSeq1Indented #[mNd `null #[t]]]]
def mKr:Lean.Syntax:=mBt (mNd `tacticKernel_rfl #[mTk "kernel_rfl"])
end Mine.Internal
end
section
open Mine.Internal
set_option compiler.extract_closed false
local macro_rules (kind:=«term∅»)
 | s=>if s.isMissing then Lean.Macro.throwUnsupported else pure mKr
local macro_rules (kind:=Lean.Parser.Term.omission)
 | s=>if s.isMissing then Lean.Macro.throwUnsupported else pure (mBt (mNd `Lean.Parser.Tactic.decide #[mTk "decide",mNd `Lean.Parser.Tactic.optConfig #[mNd `null #[]]]))
local macro_rules (kind:=«term%[_|_]»)
 | s=>let f:=s[3];let b:=f.isOfKind `Lean.Parser.Term.paren;let e:=if b then f[1] else f
  match s[1].getSepArgs.toList.map (mLg 40),e.getId.hasMacroScopes with
  | g::h,false=>let r:=mNd `Lean.Parser.Term.app #[if e.isIdent then e else e[0],mNd `null (#[mNd `«term[_]» #[mTk "[",mNd `null (Lean.Syntax.SepArray.ofElems (sep:=",") h.toArray).1,mTk "]"],g,mKr]++e[1].getArgs)];pure (if b then mBt (mEx #[mTk "exact",r]) else r)
  | _,_=>Lean.Macro.throwUnsupported
local macro_rules (kind:=Lean.Parser.Tactic.tacticErw___)
 | s=>pure (s[2][1].getSepArgs.foldl (fun t r=>let q:=if r[1].getId==`rfl then mEx #[mTk "exact",r[1]] else mNd `Lean.Parser.Tactic.refine #[mTk "refine",mAp (if r[0].getNumArgs==0 then ``rwG else ``rwB) #[r[1],mNd `Lean.Parser.Term.syntheticHole #[mTk "?",mNd `Lean.Parser.Term.hole #[mTk "_"]]]];if t.isMissing then q else mNd `Lean.Parser.Tactic.«tactic_<;>_» #[t,mTk "<;>",q]) .missing)
section
open PySem PySem.W PyProof.Rows
section
namespace Mine.Internal
noncomputable abbrev Pr:=Sem aas×Sem aas
noncomputable def kc(d:abh)(run:List Pr):Sem Unit:=do
 let sub ←ahl [.ref d] (ahr run)
 (ahl [.ref d,.ref sub] (mergeMapping d (.ref sub) false)).onRaise λ x=>do let _ ←ahl [.ref d,x] (runValue (.builtin "proto.let_go" {}))
noncomputable def iY:List (List Pr)->abh->Sem Unit
 | [],_=>pure ()
 | c::cs,d=>do kc d c;iY cs d
section
variable(f:(Option (Sem aas)×Sem aas)->(Option abh×List Pr)->Sem (ForInStep (Option abh×List Pr)))
noncomputable def dK(p:Pr):Option (Sem aas)×Sem aas:=(some p.1,p.2)
theorem jq(hf:∀(p:Pr) (m:Option abh) (run:List Pr),run.length+1 < 17->f (dK p) (m,run)=pure (.yield (m,run++[p]))):
 ∀(items rest run:List Pr) (m:Option abh),run.length+items.length < 17->forIn ((items++rest).map dK) (m,run) f=forIn (rest.map dK) (m,run++items) f
 | [],rest,run,m,_=>by simp
 | p::items,rest,run,m,h=>by
   erw [acX,aaX,ae6 ..,hf p m run (by simp at h;exact %[a+1<17,a+(b+1)<17|aU h]),pure_bind ..]
   have:=jq hf items rest (run++[p]) m (by simp at h ⊢;exact %[a+1+b<17,a+(b+1)<17|aU h])
   simpa using this
theorem CZ(hf:∀(p:Pr) (m:Option abh) (run:List Pr),run.length+1 < 17->f (dK p) (m,run)=pure (.yield (m,run++[p])))
(hs:∀(p:Pr) (d:abh) (run:List Pr),run.length+1=17->f (dK p) (some d,run)=(do kc d (run++[p]);pure (.yield (some d,[]))))
(c rest:List Pr)(d:abh)(h:c.length=17):forIn ((c++rest).map dK) (some d,[]) f=(do kc d c;forIn (rest.map dK) (some d,[]) f):=by
 obtain ⟨items,p,rfl⟩ :∃items p,c=items++[p]:=by
  have hc:c≠[]:=by intro e;rw [e] at h;simp at h
  exact ⟨c.dropLast,c.getLast hc,(ajs hc).symm⟩
 have hl:items.length=16:=by simpa using h
 erw [aaH ..,jq f hf items ([p]++rest) [] (some d) (by simp;exact %[a<17,a=16|aV hl])]
 simp only [acQ,acX,aaX,ae6]
 rw [hs p d items %[a+1=17,a=16|(aV hl)]]
 simp only [bind_assoc,pure_bind]
theorem z9(hf:∀(p:Pr) (m:Option abh) (run:List Pr),run.length+1 < 17->f (dK p) (m,run)=pure (.yield (m,run++[p])))
(hn:∀(p:Pr) (run:List Pr),run.length+1=17->f (dK p) (none,run)=(do let d ←ahr (run++[p]);pure (.yield (some d,[]))))
(c rest:List Pr)(h:c.length=17):forIn ((c++rest).map dK) (none,[]) f=(do let d ←ahr c;forIn (rest.map dK) (some d,[]) f):=by
 obtain ⟨items,p,rfl⟩ :∃items p,c=items++[p]:=by
  have hc:c≠[]:=by intro e;rw [e] at h;simp at h
  exact ⟨c.dropLast,c.getLast hc,(ajs hc).symm⟩
 have hl:items.length=16:=by simpa using h
 erw [aaH ..,jq f hf items ([p]++rest) [] none (by simp;exact %[a<17,a=16|aV hl])]
 simp only [acQ,acX,aaX,ae6]
 rw [hn p items %[a+1=17,a=16|(aV hl)]]
 simp only [bind_assoc,pure_bind]
theorem wN(hf:∀(p:Pr) (m:Option abh) (run:List Pr),run.length+1 < 17->f (dK p) (m,run)=pure (.yield (m,run++[p])))
(hs:∀(p:Pr) (d:abh) (run:List Pr),run.length+1=17->f (dK p) (some d,run)=(do kc d (run++[p]);pure (.yield (some d,[]))))(last:List Pr)(hl:last.length < 17)(d:abh):
 ∀(cs:List (List Pr)),(∀c∈cs,c.length=17)->forIn ((cs.flatten++last).map dK) (some d,[]) f=(do iY cs d;pure (some d,last))
 | [],_=>by
   have:=jq f hf last [] [] (some d) (by simpa using hl)
   simp only [abg,acQ,afG,alU] at this
   simp only [List.flatten_nil,acQ,iY,pure_bind]
   exact this
 | c::cs,h=>by
   erw [agF,aaH ..,CZ f hf hs c _ d (h c (.head _)),wN hf hs last hl d cs (λ c' Aa=>h c' (.tail _ Aa))]
   simp only [iY,bind_assoc]
end
theorem IR(c0:List Pr)(cs:List (List Pr))(last:List Pr)(h0:c0.length=17)(h:∀c∈cs,c.length=17)(hl:last.length < 17)(cM:last≠[]):
 ajY ((c0++(cs.flatten++last)).map dK)=(do let d ←ahr c0;iY cs d;kc d last;pure (.ref d)):=by
 unfold ajY
 dsimp only
 rw [z9 _ (λ p m run h=>?_) (λ p run h=>?_) c0 _ h0]
 · have e:last.isEmpty=false:=by cases last <;> simp_all
   simp only [bind_assoc]
   congr 1
   funext d
   rw [wN _ (λ p m run h=>?_) (λ p d run h=>?_) last hl d cs h]
   · simp only [bind_assoc,pure_bind,e,aeh,if_false,kc]
   · have cM:((run++[(p.1,p.2)]).length==17)=false:=by simp;exact %[cY (a=16),a+1<17|aV h]
     simp only [dK,cM,aeh,if_false]
   · have cM:((run++[(p.1,p.2)]).length==17)=true:=by simp;exact %[a=16,a+1=17|aV h]
     have hm:(run++[(p.1,p.2)]).isEmpty=false:=by cases run <;> rfl
     simp only [dK,cM,hm,if_true,aeh,if_false,kc,bind_assoc,pure_bind]
 · have cM:((run++[(p.1,p.2)]).length==17)=false:=by simp;exact %[cY (a=16),a+1<17|aV h]
   simp only [dK,cM,aeh,if_false]
 · have cM:((run++[(p.1,p.2)]).length==17)=true:=by simp;exact %[a=16,a+1=17|aV h]
   have hm:(run++[(p.1,p.2)]).isEmpty=false:=by cases run <;> rfl
   simp only [dK,cM,hm,if_true,aeh,if_false,bind_assoc,pure_bind]
section
variable{p:aaq}{w:acb}{n₀:Nat}{ann:Option aas}{c:ag3}{q:Pos}{gd:Bool->Bool}{lv:List aas->List aas}
noncomputable def RT(p:aaq)(w:acb)(n₀:Nat)(ann:Option aas)(c:ag3)(q:Pos)(gd:Bool->Bool)(lv:List aas->List aas){α:Type}(n:Nat)(x:Sem α)(s:aav)(pos:Pos)(a:α)(s':aav)(Gv:Pos):Prop:=
 ∀(K:α->Sem Fin) (H:aas->Sem Fin) (N:Nat) (r:aav),ag1 adi p w n₀ ann N s' ⟨K a,c,Gv,[topFrame q]⟩=some r->ag1 adi p w n₀ ann (n+N) s ⟨x.wrap K H gd lv,c,pos,[topFrame q]⟩=some r
noncomputable abbrev C0(p:aaq)(w:acb)(n₀:Nat)(ann:Option aas)(c:ag3)(q:Pos){α:Type}(n:Nat)(x:Sem α)(s:aav)(pos:Pos)(a:α)(s':aav)(Gv:Pos):Prop:=
 ∀gd lv,RT p w n₀ ann c q gd lv n x s pos a s' Gv
theorem RT.Ua{α:Type}{res:α->agT}{x:Sem α}{n:Nat}{s s':aav}{a:α}{pos Gv:Pos}(adz:∀a',res a'=res a->a'=a)
(h:segRun adi p w n₀ ann 1 n s ⟨x.wrap (λ a=>.pure (.done (res a))) deadEnd gd lv,c,pos,[topFrame q]⟩=some (res a,s',c,Gv)):RT p w n₀ ann c q gd lv n x s pos a s' Gv:=by
 intro K H N r hN
 obtain ⟨a',ha,hk⟩:=seg_top (res:=res) (K':=K) (H':=H) (gd:=gd) (lv:=lv) (B:=[topFrame q]) rfl n s ⟨x.wrap (λ a=>.pure (.done (res a))) deadEnd gd lv,c,pos,[topFrame q]⟩
  ⟨x.wrap K H gd lv,c,pos,[topFrame q]⟩ _ _ _ _ ⟨rfl,rfl,.inl ⟨rfl,rfl,_,rfl,rfl⟩⟩ h
 obtain rfl:=adz a' ha
 exact hk N r hN
theorem RT.bind{α β:Type}{x:Sem α}{f:α->Sem β}{n m:Nat}{s s₁ s₂:aav}{pos p₁ Yo:Pos}{a:α}{b:β}(hx:RT p w n₀ ann c q gd lv n x s pos a s₁ p₁)(hf:RT p w n₀ ann c q gd lv m (f a) s₁ p₁ b s₂ Yo):
 RT p w n₀ ann c q gd lv (n+m) (x >>=f) s pos b s₂ Yo:=by
 intro K H N r hN
 erw [Sem.bind_eq_wrap' ..,aj4 ..,agB ..]
 exact hx (λ a=>(f a).wrap K H gd lv) H (m+N) r (hf K H N r hN)
theorem RT.pure{α:Type}{a:α}{s:aav}{pos:Pos}:RT p w n₀ ann c q gd lv 0 (aiD a:Sem α) s pos a s pos:=by
 intro K H N r hN
 erw [ae7 ..];exact hN
theorem RT.EB{s:aav}{pos p':Pos}:RT p w n₀ ann c q gd lv 1 (aiz p') s pos () s p':=by
 intro K H N r hN
 erw [ae5 ..]
 show ag1 adi p w n₀ ann (N+1) s ⟨.at p' λ x=>K x,c,pos,[topFrame q]⟩=some r
 skip
 exact hN
theorem RT.rule{s:aav}{pos:Pos}{tag:String}:RT p w n₀ ann c q gd lv 1 (PySem.rule tag) s pos () s pos:=by
 intro K H N r hN
 erw [ae5 ..]
 show ag1 adi p w n₀ ann (N+1) s ⟨.rule tag λ x=>K x,c,pos,[topFrame q]⟩=some r
 skip
 exact hN
theorem RT.load{s:aav}{pos:Pos}{a:abh}{o:Obj}{oW:Option aas}(h:s.heap.get? a=some o):RT p w n₀ ann c q gd lv 1 (loadPart a oW) s pos o s pos:=by
 intro K H N r hN
 erw [ae5 ..]
 show ag1 adi p w n₀ ann (N+1) s ⟨.load a oW λ x=>K x,c,pos,[topFrame q]⟩=some r
 skip
 obtain ⟨heap,gens,drawn,toks,os⟩:=s
 have h:heap.get? a=some o:=h
 show (match ajt (denote adi) p w ⟨heap,gens,drawn,toks,os⟩ ⟨.load a oW λ x=>K x,c,pos,[topFrame q]⟩ with | .go s' t'=>ag1 adi p w n₀ ann N s' t' | .halt _ _=>none)=_
 simp only [ajt,h]
 exact hN
theorem RT.update{s:aav}{pos:Pos}{a:abh}{o:Obj}{oW:Option aas}{f:Obj->Obj}(h:s.heap.get? a=some o)(ha:agQ n₀ a=true):RT p w n₀ ann c q gd lv 1 (updatePart a oW f) s pos () {s with heap:=s.heap.update a f} pos:=by
 intro K H N r hN
 erw [ae5 ..]
 show ag1 adi p w n₀ ann (N+1) s ⟨.update a oW f λ x=>K x,c,pos,[topFrame q]⟩=some r
 skip
 obtain ⟨heap,gens,drawn,toks,os⟩:=s
 have h:heap.get? a=some o:=h
 have ok:stepOk n₀ ann ⟨.update a oW f λ x=>K x,c,pos,[topFrame q]⟩=true:=by
  show (true&&(agQ n₀ a||a==mainNs||a==cStatics||ann==some (.ref a)))=true
  erw [ha];rfl
 show (match stepOk n₀ ann ⟨.update a oW f λ x=>K x,c,pos,[topFrame q]⟩ with | false=>none | true=>match ajt (denote adi) p w ⟨heap,gens,drawn,toks,os⟩ ⟨.update a oW f λ x=>K x,c,pos,[topFrame q]⟩ with | .go s' t'=>ag1 adi p w n₀ ann N s' t' | .halt _ _=>none)=_
 erw [ok]
 simp only [ajt,h,akx,if_true]
 exact hN
theorem RT.alloc{s:aav}{pos:Pos}{o:Obj}:RT p w n₀ ann c q gd lv 1 (PySem.alloc o) s pos s.heap.objs.size {s with heap:=s.heap.push o} pos:=by
 intro K H N r hN
 erw [ae5 ..]
 show ag1 adi p w n₀ ann (N+1) s ⟨.alloc o λ x=>K x,c,pos,[topFrame q]⟩=some r
 skip
 obtain ⟨heap,gens,drawn,toks,os⟩:=s
 exact hN
theorem RT.fresh{s:aav}{pos:Pos}:RT p w n₀ ann c q gd lv 1 PySem.fresh s pos s.toks {s with toks:=s.toks+1} pos:=by
 intro K H N r hN
 erw [ae5 ..]
 show ag1 adi p w n₀ ann (N+1) s ⟨.fresh λ x=>K x,c,pos,[topFrame q]⟩=some r
 skip
 obtain ⟨heap,gens,drawn,toks,os⟩:=s
 exact hN
theorem RT.keep{α:Type}{x:Sem α}{n:Nat}{s s₁:aav}{pos p₁:Pos}{a:α}{vs:List aas}(h:RT p w n₀ ann c q gd (λ l=>lv (vs++l)) n x s pos a s₁ p₁):RT p w n₀ ann c q gd lv n (x.keep vs) s pos a s₁ p₁:=by
 intro K H N r hN
 erw [Sem.keep_eq_wrap ..,aj4 ..]
 exact h K H N r hN
theorem RT.onRaise{α:Type}{x:Sem α}{n:Nat}{s s₁:aav}{pos p₁:Pos}{a:α}{h:aas->Sem Unit}(hx:RT p w n₀ ann c q gd lv n x s pos a s₁ p₁):RT p w n₀ ann c q gd lv n (x.onRaise h) s pos a s₁ p₁:=by
 intro K H N r hN
 erw [Sem.onRaise_eq_wrap ..,aj4 ..]
 exact hx K _ N r hN
theorem C0.holding{α:Type}{x:Sem α}{n:Nat}{s s₁:aav}{pos p₁:Pos}{a:α}{vs:List aas}(h:C0 p w n₀ ann c q n x s pos a s₁ p₁):RT p w n₀ ann c q gd lv n (ahl vs x) s pos a s₁ p₁:=by
 unfold ahl
 split
 · exact h gd lv
 · exact RT.keep (h gd _)
theorem RT.Yp{env:Env}{st:agH}{rest:List agH}{n N:Nat}{s s' r:aav}{pos p':Pos}(h:RT p w n₀ ann c q id id n (exec st env) s pos .next s' p')
(k:ag1 adi p w n₀ ann N s' (restOf rest env c p' [topFrame q])=some r):ag1 adi p w n₀ ann (n+N) s (restOf (st::rest) env c pos [topFrame q])=some r:=by
 unfold restOf
 rw [execs_cons_wrap]
 exact h (λ f=>match f with | .next=>(aiF rest env).wrap doneF (leaveH env) id id | f=>doneF f) (leaveH env) N r k
end
end Mine.Internal
namespace Mine.Internal
theorem Gw{env:Env}{id:Str}{Ub p p1:Pos}{ks:List (Option acU)}{vs:List acU}:exec (.Assign [.Name id Ub] (.Dict ks vs p) p1) env=
 (do aiz p1
     let v ←(do aiz p;ajY ((evalEachOpt ks env).zip ((evalEach vs env).map λ v=>do let x ←v;aiz p;pure x)):Sem aas)
     let sw ←ag8 [.Name id Ub] (.Dict ks vs p) env
     assignStores env v sw ((assignEach [.Name id Ub] env).map (·.2))):=by
 rfl
end Mine.Internal
end
end
section
open PySem PySem.W PyProof.Rows
namespace Mine
open Internal
section
noncomputable def EC(x:Int):Int:=
 let h:Int:=x.natAbs % (2 ^ 61 - 1:Nat)
 let h:=if x < 0 then -h else h
 if h== -1 then -2 else h
noncomputable def ED(b:Bool)(p:aaq)(w:acb)(i:Int)(t:Tok)(heap:ac2)(gens:Array ain)(drawn:Drawn)(toks:Nat)(os:ads)(bd:List agH)(env:Env)(pos q:Pos)(n₀:Nat)(ann:Option aas)(gd:Bool->Bool)(lv:List aas->List aas)(K:Int->Sem ajZ)(H:aas->Sem ajZ)(N:Nat):Option aav:=
 ag1 adi p (w.withFollow "special-get-raises" b) n₀ ann (N+5) ⟨heap,gens,drawn,toks,os⟩ ⟨(pyHash (.int i t)).wrap K H gd lv,.body bd env,pos,[topFrame q]⟩
noncomputable def EE(b:Bool)(p:aaq)(w:acb)(i:Int)(t:Tok)(heap:ac2)(gens:Array ain)(drawn:Drawn)(toks:Nat)(os:ads)(bd:List agH)(env:Env)(pos q:Pos)(n₀:Nat)(ann:Option aas)(gd:Bool->Bool)(lv:List aas->List aas)(K:Int->Sem ajZ)(H:aas->Sem ajZ)(N:Nat):Option aav:=
 ag1 adi p (w.withFollow "special-get-raises" b) n₀ ann N ⟨heap,gens,drawn,toks+1,os⟩ ⟨(agG (EC i)).wrap K H gd lv,.body bd env,pos,[topFrame q]⟩
noncomputable def hashLf:=ED false
noncomputable def hashLt:=ED true
noncomputable def hashRf:=EE false
noncomputable def hashRt:=EE true
lay_quick Mine.hashLf Mine.hashRf Mine.hashLt Mine.hashRt
open PySem.W.Fast
theorem Yq:hashLf=hashRf:=te6981947773493496021.trans ((by kernel_rfl:tw6981947773493496021=tw7451788088923894622).trans te7451788088923894622.symm)
theorem Ys:hashLt=hashRt:=te17006379713292907523.trans ((by kernel_rfl:tw17006379713292907523=tw8852667960343240741).trans te8852667960343240741.symm)
theorem C1(h:0≤x)(h2:x < 2 ^ 63):agG x=pure x:=by
 unfold agG
 have e1:(decide (-(2 ^ 63:Int)≤x)&&decide (x < 2 ^ 63))=true:=by simp;exact %[bG ((qG (9223372036854775808))⊆a) (a⊂9223372036854775808),0⊆a,a⊂(qL 2 63)|fZ h h2]
 have e2:(x== -1)=false:=by simp;exact %[cY (a==(qG (1))),0⊆a|fZ h]
 rw [if_pos e1]
 simp only [e2,aeh,if_false]
theorem IU(h:0≤x)(h2:x < 2 ^ 60):EC x=x:=by
 unfold EC
 have e:¬x < 0:=%[cY (a⊂0),0⊆a|(fZ h)]
 have e3:((x.natAbs:Int) % ((2 ^ 61 - 1:Nat):Int))=x:=by
  rw [Int.natAbs_of_nonneg h,aly h]
  have:((2 ^ 61 - 1:Nat):Int)=2305843009213693951:=⋯
  rw [this];exact %[a⊂2305843009213693951,a⊂(qL 2 60)|fZ h2]
 have e2:(x== -1)=false:=by simp;exact %[cY (a==(qG (1))),0⊆a|fZ h]
 simp only [e3,if_neg e,e2,aeh,if_false]
variable{p:aaq}{w:acb}{n₀:Nat}{ann:Option aas}{bd:List agH}{env:Env}{q:Pos}{gd:Bool->Bool}{lv:List aas->List aas}
theorem RT.hash(h:0≤i)(h2:i < 2 ^ 60):RT p w n₀ ann (.body bd env) q gd lv 5 (pyHash (.int i t)) s pos i {s with toks:=s.toks+1} pos:=by
 intro K H N r hN
 obtain ⟨heap,gens,drawn,toks,os⟩:=s
 erw [ae5 ..]
 have key:∀b,ag1 adi p (w.withFollow "special-get-raises" b) n₀ ann (N+5) ⟨heap,gens,drawn,toks,os⟩ ⟨(pyHash (.int i t)).wrap K H gd lv,.body bd env,pos,[topFrame q]⟩=
  ag1 adi p (w.withFollow "special-get-raises" b) n₀ ann N ⟨heap,gens,drawn,toks+1,os⟩ ⟨K i,.body bd env,pos,[topFrame q]⟩:=by
  intro b
  have hr:(agG (EC i)).wrap K H gd lv=K i:=by (erw [IU h h2,C1 h %[a⊂(qL 2 63),a⊂(qL 2 60)|(fZ h2)]]);rfl
  cases b
  · have:=congrFun (congrFun (congrFun (congrFun (congrFun (congrFun (congrFun (congrFun (congrFun (congrFun (congrFun (congrFun (congrFun (congrFun (congrFun (congrFun (congrFun (congrFun (congrFun (congrFun Yq p) w) i) t) heap) gens) drawn) toks) os) bd) env) pos) q) n₀) ann) gd) lv) K) H) N
    unfold hashLf hashRf ED EE at this
    rw [this,hr]
  · have:=congrFun (congrFun (congrFun (congrFun (congrFun (congrFun (congrFun (congrFun (congrFun (congrFun (congrFun (congrFun (congrFun (congrFun (congrFun (congrFun (congrFun (congrFun (congrFun (congrFun Ys p) w) i) t) heap) gens) drawn) toks) os) bd) env) pos) q) n₀) ann) gd) lv) K) H) N
    unfold hashLt hashRt ED EE at this
    rw [this,hr]
 have:=key (w.params.followText "special-get-raises")
 rw [World.withFollow_self] at this
 erw [this];exact hN
end
end Mine
end
section
open PySem PySem.W PyProof.Rows
namespace Mine.Internal
section
variable{p:aaq}{w:acb}{n₀:Nat}{ann:Option aas}{bd:List agH}{env:Env}{q:Pos}{gd:Bool->Bool}{lv:List aas->List aas}
theorem RT.cast{α:Type}{x:Sem α}{n m:Nat}{s s₁ s₂:aav}{pos p₁:Pos}{a:α}{c:ag3}(h:RT p w n₀ ann c q gd lv n x s pos a s₁ p₁)(e:n=m)(e2:s₁=s₂):RT p w n₀ ann c q gd lv m x s pos a s₂ p₁:=by
 subst e e2;exact h
noncomputable def aj(es:List aeS):Obj:={cls:=.type "dict",data:=.dict es.toArray es.length}
theorem Ab{es:List aeS}{h:Int}(hn:∀e∈es,e.hash≠h):placesWithHash es.toArray.size (λ i=>es.toArray[i]?.map (·.hash)) h=[]:=by
 unfold placesWithHash
 rw [ake]
 intro i hi
 rw [afj] at hi
 have:i < es.length:=by simpa using hi
 simp only [afv,aaF this,ah4,beq_iff_eq,Option.some.injEq]
 exact hn _ (afa this)
theorem RT.entries(h:s.heap.get? d=some (aj es)):RT p w n₀ ann c q gd lv 1 (dictEntries d oW) s pos es.toArray s pos:=by
 skip
 refine RT.bind (n:=1) (m:=0) (RT.load h) ?_
 exact RT.pure
theorem RT.Rr(h:s.heap.get? d=some (aj es)):RT p w n₀ ann c q gd lv 1 (dictEpoch d oW) s pos es.length s pos:=by
 skip
 refine RT.bind (n:=1) (m:=0) (RT.load h) ?_
 exact RT.pure
theorem RT.find{c:ag3}{s:aav}{pos:Pos}{d:abh}{es:List aeS}{i h:Int}{t:Tok}(hd:s.heap.get? d=some (aj es))(hn:∀e∈es,e.hash≠h):
 RT p w n₀ ann c q gd lv 1 (dictFind d (.int i t) h) s pos none s pos:=by
 skip
 refine C0.holding λ gd lv=>?_
 refine RT.bind (m:=0) (RT.entries hd) ?_
 skip
 erw [Ab hn]
 exact RT.pure
theorem Ac{h:ac2}{a:abh}{o:Obj}{f:Obj->Obj}(e:h.get? a=some o):h.update a f=h.update a (λ V=>f o):=by
 obtain ⟨objs,l⟩:=h
 have e':objs[a]?=some o:=by
  unfold aja at e
  skip
  split at e
  · cases e
  · exact e
 show agM (objs.modify a f) l=agM (objs.modify a λ V=>f o) l
 congr 1
 apply agW
 intro i
 erw [aep,aep]
 by_cases hi:a=i
 · subst hi;erw [if_pos rfl,if_pos rfl,e'];rfl
 · erw [if_neg hi,if_neg hi,rfl]
theorem iA{h:ac2}{a:abh}{o o':Obj}:(h.update a λ V=>o).update a (λ V=>o')=h.update a λ V=>o':=by
 obtain ⟨objs,l⟩:=h
 show agM ((objs.modify a λ V=>o).modify a λ V=>o') l=agM (objs.modify a λ V=>o') l
 congr 1
 apply agW
 intro i
 erw [aep,aep,aep]
 by_cases hi:a=i
 · subst hi;simp [Function.comp_def]
 · simp [hi]
theorem jr{h:ac2}{a:abh}{o o':Obj}(e:h.get? a=some o)(ho:o'.isFreed=false):(h.update a λ V=>o').get? a=some o':=by
 obtain ⟨objs,l⟩:=h
 have e':objs[a]?=some o:=by
  unfold aja at e
  skip
  split at e
  · cases e
  · exact e
 show (match (objs.modify a λ V=>o')[a]? with | some ⟨_,_,.freed,_⟩=>none | o=>o)=some o'
 erw [aep,if_pos rfl,e']
 obtain ⟨c,d,dt,sl⟩:=o'
 cases dt <;> first | rfl | cases ho
theorem mj{h:ac2}{a b:abh}{o':Obj}(cM:b≠a):(h.update a λ V=>o').get? b=h.get? b:=Heap.get?_update_ne _ _ _ _ cM
theorem xR:(ajw (·.push e)) (aj es)=aj (es++[e]):=by
 unfold aj ajw
 simp
theorem RT.put{c:ag3}{s:aav}{pos:Pos}{d:abh}{es:List aeS}{e:aeS}{oW:Option aas}(hd:s.heap.get? d=some (aj es))(hn:agQ n₀ d=true)(bY:es.length+1≤aaW):
 RT p w n₀ ann c q gd lv 3 (updateDictKeys d (·.push e) oW) s pos () {s with heap:=s.heap.update d λ V=>aj (es++[e])} pos:=by
 skip
 refine RT.bind (n:=1) (m:=2) (RT.load hd) ?_
 have hu:s.heap.update d (ajw (·.push e))=s.heap.update d λ V=>aj (es++[e]):=by (erw [Ac hd,xR,rfl])
 refine RT.bind (n:=1) (m:=1) (RT.update hd hn) ?_
 erw [hu]
 skip
 refine RT.bind (n:=1) (m:=0) (RT.load (o:=aj (es++[e])) (jr hd rfl)) ?_
 have:(aj (es++[e])).data.pastItsLine=none:=by
  show (if (es++[e]).toArray.size > aaW+1 then some "dict:memory" else none)=none
  rw [if_neg]
  simp;exact %[a≤b,a<b|aU bY]
 erw [this]
 exact RT.pure
theorem RT.dictPut(hd:s.heap.get? d=some (aj es))(hn:agQ n₀ d=true)(bY:es.length+1≤aaW)(hh:∀e∈es,e.hash≠h):
 RT p w n₀ ann c q gd lv 4 (ajL d h (.int i t) v) s pos () {s with heap:=s.heap.update d λ V=>aj (es++[⟨h,.int i t,v⟩])} pos:=by
 skip
 exact RT.bind (n:=1) (m:=3) (RT.find hd hh) (RT.put hd hn bY)
theorem RT.dictSet{v:aas}(hd:s.heap.get? d=some (aj es))(hn:agQ n₀ d=true)(bY:es.length+1≤aaW)(hh:∀e∈es,e.hash≠i)(h0:0≤i)(h1:i < 2 ^ 60):
 RT p w n₀ ann (.body bd env) q gd lv 10 (ajK d (.int i t) v) s pos () {s with heap:=s.heap.update d (λ V=>aj (es++[⟨i,.int i t,v⟩])),toks:=s.toks+1} pos:=by
 skip
 refine C0.holding λ gd lv=>?_
 refine RT.bind (n:=5) (m:=5) (RT.hash h0 h1) ?_
 skip
 refine C0.holding λ gd lv=>?_
 refine RT.bind (n:=1) (m:=4) (RT.find (s:={s with toks:=s.toks+1}) hd hh) ?_
 exact RT.bind (n:=1) (m:=3) RT.rule (RT.put (s:={s with toks:=s.toks+1}) hd hn bY)
noncomputable def jt(pv:Pos)(x:Int×Str):Pr:=(mkInt x.1,do let v ←mkText x.2;aiz pv;pure v)
noncomputable def Ad(t:Nat)(x:Int×Str):aeS:=⟨x.1,.int x.1 t,.str x.2 (t+1)⟩
noncomputable def aH:Nat->List (Int×Str)->List aeS
 | _,[]=>[]
 | t,x::r=>Ad t x::aH (t+3) r
theorem gA:∀(t:Nat) (l:List (Int×Str)),(aH t l).length=l.length
 | _,[]=>rfl
 | t,x::r=>by simp [aH,gA (t+3) r]
theorem ed:∀(t:Nat) (l:List (Int×Str)),(aH t l).map (·.hash)=l.map (·.1)
 | _,[]=>rfl
 | t,x::r=>by simp [aH,Ad,ed (t+3) r]
theorem RT.loop{d:abh}{pv:Pos}(f:Pr->PUnit->Sem (ForInStep PUnit))
(hf:f=λ kv V=>do let k ←kv.1;let v ←ahl [k] kv.2;ahl [k,v] (ajK d k v);aiD (.yield ⟨⟩))(hn:agQ n₀ d=true){h:ac2}{o:Obj}(ho:h.get? d=some o)(l:List (Int×Str)):
 ∀(es:List aeS) (s:aav),es.length+l.length≤aaW->(∀x∈l,0≤x.1∧x.1 < 2 ^ 60)->(es.map (·.hash)++l.map (·.1)).Nodup->
  RT p w n₀ ann (.body bd env) q gd lv (13 * l.length) (forIn (l.map (jt pv)) ahI f) {s with heap:=h.update d λ V=>aj es} pv ⟨⟩ {s with heap:=h.update d (λ V=>aj (es++aH s.toks l)),toks:=s.toks+3 * l.length} pv:=by
 induction l with
 | nil=>
   intro es s _ _ _
   rw [show es++aH s.toks []=es from abg es]
   exact RT.pure
 | cons x l ih=>
   intro es s bY hr rj
   rw [aaX,ae6]
   rw [ada] at bY
   have hx:=hr x (.head _)
   have Uc:∀e∈es,e.hash≠x.1:=by
    intro e he q
    rw [aaX,adj] at rj
    exact rj.2.2 e.hash (acV he) x.1 (.head _) q
   have ih:=ih (es++[Ad s.toks x]) {s with toks:=s.toks+3} (by rw [aao,aik];exact %[a+1+b≤c,a+(b+1)≤c|cf bY]) (λ y hy=>hr y (.tail _ hy)) (by
    rw [aa6,aaH];exact rj)
   have body:RT p w n₀ ann (.body bd env) q gd lv 13 (f (jt pv x) ahI) {s with heap:=h.update d λ V=>aj es,toks:=s.toks} pv (.yield ⟨⟩) {s with heap:=h.update d λ V=>aj (es++[Ad s.toks x]),toks:=s.toks+3} pv:=by
    subst hf
    skip
    refine RT.bind (n:=1) (m:=12) (s₁:={s with heap:=h.update d λ V=>aj es,toks:=s.toks+1}) (p₁:=pv) (a:=.int x.1 s.toks) (RT.bind (n:=1) (m:=0) RT.fresh RT.pure) ?_
    refine RT.bind (n:=2) (m:=10) (s₁:={s with heap:=h.update d λ V=>aj es,toks:=s.toks+2}) (p₁:=pv) (a:=.str x.2 (s.toks+1)) (C0.holding λ gd lv=>RT.bind (n:=1) (m:=1) (RT.bind (n:=1) (m:=0) RT.fresh RT.pure) (RT.bind (n:=1) (m:=0) RT.EB RT.pure)) ?_
    refine RT.bind (n:=10) (m:=0) (C0.holding λ gd lv=>RT.dictSet (es:=es) (jr ho rfl) hn %[a<b,a+(c+1)≤b|(cf bY)] Uc hx.1 hx.2) ?_
    refine (RT.pure).cast rfl ?_
    simp only [iA,Ad]
   refine (RT.bind (n:=13) (m:=13 * l.length) body ih).cast (by simp only [ada];exact %[13+13*a=13*(a+1)|aV]) ?_
   simp only [aH,aaH,acX,acQ,ada]
   congr 1
   exact %[a+3+3*b=a+3*(b+1)|aU]
theorem fG{h:ac2}{o o':Obj}:(h.push o).update h.objs.size (λ V=>o')=h.push o':=by
 obtain ⟨objs,l⟩:=h
 show agM ((objs.push o).modify objs.size λ V=>o') l=agM (objs.push o') l
 congr 1
 apply agW
 intro i
 erw [aep,akB,akB]
 by_cases hi:i=objs.size
 · subst hi;simp
 · have:objs.size≠i:=λ e=>hi e.symm
   simp [hi,this]
theorem RT.subDict{pv:Pos}{l:List (Int×Str)}{s:aav}(hl:15 < l.length)(bY:l.length≤aaW)(hr:∀x∈l,0≤x.1∧x.1 < 2 ^ 60)(rj:(l.map (·.1)).Nodup)(hn:agQ n₀ s.heap.objs.size=true):
 RT p w n₀ ann (.body bd env) q gd lv (13 * l.length+2) (ahr (l.map (jt pv))) s pv s.heap.objs.size {s with heap:=s.heap.push (aj (aH s.toks l)),toks:=s.toks+3 * l.length} pv:=by
 obtain ⟨heap,gens,drawn,toks,os⟩:=s
 skip
 refine (RT.bind (n:=1) (m:=13 * l.length+1) RT.alloc ?_).cast %[1+(13*a+1)=13*a+2|(aV)] rfl
 have e15:¬(l.map (jt pv)).length≤15:=by simpa using hl
 erw [if_neg e15]
 refine RT.bind (n:=13 * l.length+1) (m:=0) (a:=()) (C0.holding λ gd lv=>?_) RT.pure
 refine (RT.bind (n:=1) (m:=13 * l.length) RT.rule ?_).cast %[1+13*a=13*a+1|(aV)] rfl
 have hp:(heap.push {cls:=.type "dict",data:=.dict #[]})=((heap.push {cls:=.type "dict",data:=.dict #[]}).update heap.objs.size λ V=>aj []):=by
  erw [fG];rfl
 have:=RT.loop (p:=p) (w:=w) (n₀:=n₀) (ann:=ann) (bd:=bd) (env:=env) (q:=q) (gd:=gd) (lv:=lv) (d:=heap.objs.size) (pv:=pv) _ rfl hn (acT (o:={cls:=.type "dict",data:=.dict #[]}) heap rfl) l [] ⟨heap,gens,drawn,toks,os⟩ (by simpa using bY) hr (by simpa using rj)
 rw [fG] at this
 rw [fG,acQ] at this
 exact RT.bind (n:=13 * l.length) (m:=0) this RT.pure
theorem IV:isSubtype (.type "dict") (.type "dict")=pure true:=by erw [akh ..];kernel_rfl
theorem uf:typeLookup (.type "dict") "__iter__"=pure (some (.builtin "dict.__iter__")):=by (erw [ahO ..,agL]);kernel_rfl
theorem C2(t:Nat)(l:List (Int×Str)):∀e:aeS,e∈aH t l->∃u,e.key=.int e.hash u:=by
 induction l generalizing t with
 | nil=>exact λ e h=>absurd h aaP
 | cons x r ih=>exact λ e h=>(aaB.mp h).elim (λ q=>q▸⟨t,rfl⟩) (ih (t+3) e)
theorem RT.Yt{c:ag3}{d a:abh}{pv:Pos}(f:Nat->PUnit->Sem (ForInStep PUnit))(es sub:List aeS)(n:Nat)
(hf:f=λ i V=>do
  let es ←dictEntries a
  match es[i]? with
  | some e=>do
    ahl [e.key,e.val] (ajL d e.hash e.key e.val)
    let ep ←dictEpoch a
    if (ep !=n)=true then (do unsupported "dict.changed-during-merge";aiD (.yield ⟨⟩)) else aiD (.yield ⟨⟩)
  | _=>do unsupported "dict.changed-during-merge";aiD (.yield ⟨⟩))(hn:agQ n₀ d=true)(cM:a≠d)(IW:∀e∈sub,∃u,e.key=.int e.hash u)(hnl:n=sub.length)(bY:es.length+sub.length≤aaW)
(rj:(es.map (·.hash)++sub.map (·.hash)).Nodup){h:ac2}{s:aav}{o:Obj}(ho:h.get? d=some o)(ha:h.get? a=some (aj sub))(k:Nat):
 ∀i,i+k=sub.length->RT p w n₀ ann c q gd lv (6 * k) (forIn (List.range' i k) ahI f) {s with heap:=h.update d λ V=>aj (es++sub.take i)} pv ⟨⟩ {s with heap:=h.update d λ V=>aj (es++sub)} pv:=by
 induction k with
 | zero=>
   intro i hi
   rw [afT (show sub.length≤i from agt hi.symm)]
   exact RT.pure
 | succ k ih=>
   intro i hi
   rw [List.range'_succ,ae6]
   have bD:i < sub.length:=%[a<b,a+(c+1)=b|(cf hi)]
   obtain ⟨u,hu⟩:=IW _ (afa bD)
   have Yu:sub.take (i+1)=sub.take i++[sub[i]]:=List.take_succ_eq_append_getElem bD
   have ih:=ih (i+1) %[a+1+b=c,a+(b+1)=c|(cf hi)]
   have body:RT p w n₀ ann c q gd lv 6 (f i ahI) {s with heap:=h.update d λ V=>aj (es++sub.take i)} pv (.yield ⟨⟩) {s with heap:=h.update d λ V=>aj (es++sub.take (i+1))} pv:=by
    subst hf
    dsimp only
    refine RT.bind (n:=1) (m:=5) (RT.entries (es:=sub) ((mj cM).trans ha)) ?_
    have hg:sub.toArray[i]?=some sub[i]:=by rw [afv,aaF bD]
    rw [hg]
    dsimp only
    have Ud:∀e∈es++sub.take i,e.hash≠sub[i].hash:=by
     have IX:((es++sub).map (·.hash)).Nodup:=by rw [aa6];exact rj
     have hp:(es++sub.take i)++sub.drop i=es++sub:=by rw [aaH,aii]
     rw [←hp,aa6,adj] at IX
     intro e he
     refine IX.2.2 e.hash (acV he) _ (acV ?_)
     rw [adr bD]
     exact .head _
    have adB:RT p w n₀ ann c q gd lv 4 (ahl [sub[i].key,sub[i].val] (ajL d sub[i].hash sub[i].key sub[i].val)) {s with heap:=h.update d λ V=>aj (es++sub.take i)} pv () {s with heap:=h.update d λ V=>aj (es++sub.take (i+1))} pv:=by
     refine C0.holding λ gd lv=>?_
     have:=RT.dictPut (p:=p) (w:=w) (n₀:=n₀) (ann:=ann) (q:=q) (gd:=gd) (lv:=lv) (c:=c) (s:={s with heap:=h.update d λ V=>aj (es++sub.take i)}) (pos:=pv) (d:=d) (es:=es++sub.take i) (i:=sub[i].hash) (h:=sub[i].hash) (t:=u) (v:=sub[i].val) (jr ho rfl) hn (by simp;exact %[a+b<c,a+d≤c,e<d,qD 3 b e d|rU bY bD rfl]) Ud
     rw [←hu] at this
     refine this.cast rfl ?_
     simp only [iA,aaH,Yu]
    refine RT.bind (n:=4) (m:=1) adB ?_
    refine RT.bind (n:=1) (m:=0) (RT.Rr (es:=sub) ((mj cM).trans ha)) ?_
    have:(sub.length !=n)=false:=by subst hnl;simp
    rw [this]
    exact RT.pure
   exact (RT.bind (n:=6) (m:=6 * k) body ih).cast %[6+6*a=6*(a+1)|(aV)] rfl
theorem RT.merge{c:ag3}{d a:abh}{pv:Pos}{es sub:List aeS}{s:aav}(hd:s.heap.get? d=some (aj es))(ha:s.heap.get? a=some (aj sub))(hn:agQ n₀ d=true)(cM:a≠d)(hs:(a==aiy)=false)
(IW:∀e∈sub,∃u,e.key=.int e.hash u)(bY:es.length+sub.length≤aaW)(rj:(es.map (·.hash)++sub.map (·.hash)).Nodup)(he:es≠[]):
 RT p w n₀ ann c q gd lv (6 * sub.length+5) (mergeMapping d (.ref a) false) s pv () {s with heap:=s.heap.update d (λ V=>aj (es++sub))} pv:=by
 obtain ⟨heap,gens,drawn,toks,os⟩:=s
 skip
 refine (RT.bind (n:=1) (m:=6 * sub.length+4) (a:=true) (s₁:=⟨heap,gens,drawn,toks,os⟩) (p₁:=pv) ?_ ?_).cast %[1+(6*a+4)=6*a+5|(aV)] rfl
 · skip
   refine RT.bind (n:=1) (m:=0) (a:=.type "dict") (RT.bind (n:=1) (m:=0) (RT.load ha) RT.pure) ?_
   erw [IV];exact RT.pure
 erw [if_pos rfl]
 refine (RT.bind (n:=1) (m:=6 * sub.length+3) (a:=some (.builtin "dict.__iter__")) (s₁:=⟨heap,gens,drawn,toks,os⟩) (p₁:=pv) ?_ ?_).cast %[1+(6*a+3)=6*a+4|(aV)] rfl
 · skip
   refine RT.bind (n:=1) (m:=0) (a:=.type "dict") (RT.bind (n:=1) (m:=0) (RT.load ha) RT.pure) ?_
   erw [uf];exact RT.pure
 refine (RT.bind (n:=0) (m:=6 * sub.length+3) (a:=true) RT.pure ?_).cast %[0+(6*a+3)=6*a+3|(aV)] rfl
 · dsimp only
   rw [hs]
   simp only [aeh,if_false]
   refine (RT.bind (n:=1) (m:=6 * sub.length+2) (RT.entries (es:=es) hd) ?_).cast %[1+(6*a+2)=6*a+3|(aV)] rfl
   have e1:es.toArray.isEmpty=false:=by cases es <;> simp_all
   erw [e1]
   skip
   refine (RT.bind (n:=1) (m:=6 * sub.length+1) (RT.entries (es:=sub) ha) ?_).cast %[1+(6*a+1)=6*a+2|(aV)] rfl
   refine (RT.bind (n:=1) (m:=6 * sub.length) (RT.Rr (es:=sub) ha) ?_).cast %[1+6*a=6*a+1|(aV)] rfl
   have N1:heap=heap.update d λ V=>aj es:=by
    obtain ⟨objs,l⟩:=heap
    have e':objs[d]?=some (aj es):=by
     have hd:(agM objs l).get? d=some (aj es):=hd
     unfold aja at hd
     skip
     split at hd
     · cases hd
     · exact hd
    show agM objs l=agM (objs.modify d λ V=>aj es) l
    congr 1
    apply agW
    intro i
    erw [aep]
    by_cases hi:d=i
    · subst hi;erw [if_pos rfl,e'];rfl
    · erw [if_neg hi,rfl]
   have:=RT.Yt (p:=p) (w:=w) (n₀:=n₀) (ann:=ann) (q:=q) (gd:=gd) (lv:=lv) (c:=c) (d:=d) (a:=a) (pv:=pv) _ es sub sub.length rfl hn cM IW rfl bY rj (s:=⟨heap,gens,drawn,toks,os⟩) hd ha sub.length 0 (ae7 _)
   rw [aiv,abg,←N1] at this
   erw [aha,List.range_eq_range']
   exact RT.bind (n:=6 * sub.length) (m:=0) this RT.pure
end
section
variable{p:aaq}{w:acb}{n₀:Nat}{ann:Option aas}{bd:List agH}{env:Env}{q:Pos}{gd:Bool->Bool}{lv:List aas->List aas}
noncomputable def Gx:Nat->List (Int×Str)->List (aas×aas)
 | _,[]=>[]
 | t,x::r=>(.int x.1 t,.str x.2 (t+1))::Gx (t+2) r
noncomputable def eB:Nat->List (Int×Str)->List aeS
 | _,[]=>[]
 | t,x::r=>⟨x.1,.int x.1 t,.str x.2 (t+1)⟩::eB (t+2) r
theorem wO:∀(t:Nat) (l:List (Int×Str)),(eB t l).length=l.length
 | _,[]=>rfl
 | t,x::r=>by simp [eB,wO (t+2) r]
theorem ug:∀(t:Nat) (l:List (Int×Str)),(eB t l).map (·.hash)=l.map (·.1)
 | _,[]=>rfl
 | t,x::r=>by simp [eB,ug (t+2) r]
theorem Gy(t:Nat)(l:List (Int×Str)):∀e:aeS,e∈eB t l->∃u,e.key=.int e.hash u:=by
 induction l generalizing t with
 | nil=>exact λ e h=>absurd h aaP
 | cons x r ih=>exact λ e h=>(aaB.mp h).elim (λ q=>q▸⟨t,rfl⟩) (ih (t+2) e)
theorem RT.evalPairs:∀(gd:Bool->Bool) (lv:List aas->List aas) (l:List (Int×Str)) (s:aav),RT p w n₀ ann c q gd lv (3 * l.length) (ali (l.map (jt pv))) s pv (Gx s.toks l) {s with toks:=s.toks+2 * l.length} pv
 | gd,lv,[],s=>RT.pure
 | gd,lv,x::r,s=>by
   obtain ⟨heap,gens,drawn,toks,os⟩:=s
   skip
   have ih:∀gd lv,RT p w n₀ ann c q gd lv (3 * r.length) (ali (r.map (jt pv))) ⟨heap,gens,drawn,toks+2,os⟩ pv (Gx (toks+2) r) ⟨heap,gens,drawn,toks+2+2 * r.length,os⟩ pv:=λ gd lv=>RT.evalPairs gd lv r ⟨heap,gens,drawn,toks+2,os⟩
   refine (RT.bind (n:=1) (m:=2+3 * r.length) (s₁:=⟨heap,gens,drawn,toks+1,os⟩) (s₂:=⟨heap,gens,drawn,toks+2+2 * r.length,os⟩) (p₁:=pv) (a:=.int x.1 toks) (RT.bind (n:=1) (m:=0) RT.fresh RT.pure) ?_).cast (by simp only [ada];exact %[1+(2+3*a)=3*(a+1)|aV]) (by simp only [ada];congr 1;exact %[a+2+2*b=a+2*(b+1)|aU])
   refine (RT.bind (n:=2) (m:=3 * r.length) (s₁:=⟨heap,gens,drawn,toks+2,os⟩) (p₁:=pv) (a:=.str x.2 (toks+1)) (C0.holding λ gd lv=>RT.bind (n:=1) (m:=1) (RT.bind (n:=1) (m:=0) RT.fresh RT.pure) (RT.bind (n:=1) (m:=0) RT.EB RT.pure)) ?_)
   exact RT.bind (n:=3 * r.length) (m:=0) (C0.holding ih) RT.pure
theorem RT.Rs(f:aas×aas->PUnit->Sem (ForInStep PUnit))
(hf:f=λ kv V=>do ajK d kv.1 kv.2;aiD (.yield ⟨⟩))(hn:agQ n₀ d=true):
 ∀(l:List (Int×Str)) (t:Nat) (es:List aeS) (h:ac2) (s:aav),s.heap=(h.update d λ V=>aj es)->(∃o,h.get? d=some o)->es.length+l.length≤aaW->(∀x∈l,0≤x.1∧x.1 < 2 ^ 60)->
  (es.map (·.hash)++l.map (·.1)).Nodup->
  RT p w n₀ ann (.body bd env) q gd lv (10 * l.length) (forIn (Gx t l) ahI f) s pv ⟨⟩ {s with heap:=h.update d (λ V=>aj (es++eB t l)),toks:=s.toks+l.length} pv
 | [],t,es,h,s,hs,_,_,_,_=>by
   simp only [Gx,alU,eB,abg,aec,agO,ahJ]
   obtain ⟨heap,gens,drawn,toks,os⟩:=s
   simp only at hs
   subst hs
   exact RT.pure
 | x::l,t,es,h,s,hs,ho,bY,hr,rj=>by
   obtain ⟨o,ho⟩:=ho
   obtain ⟨heap,gens,drawn,toks,os⟩:=s
   simp only at hs
   subst hs
   (rw [Gx];erw [ae6 ..])
   simp only [ada] at bY
   have hx:=hr x (.head _)
   have Uc:∀e∈es,e.hash≠x.1:=by
    intro e he q
    rw [aaX,adj] at rj
    exact rj.2.2 e.hash (acV he) x.1 (.head _) q
   have ih:=RT.Rs (pv:=pv) f hf hn l (t+2) (es++[⟨x.1,.int x.1 t,.str x.2 (t+1)⟩]) h ⟨h.update d λ V=>aj (es++[⟨x.1,.int x.1 t,.str x.2 (t+1)⟩]),gens,drawn,toks+1,os⟩ rfl ⟨o,ho⟩ (by simp;exact %[a+1+b≤c,a+(b+1)≤c|cf bY]) (λ y hy=>hr y (.tail _ hy)) (by
    erw [aa6,aaH ..];exact rj)
   have body:RT p w n₀ ann (.body bd env) q gd lv 10 (f (.int x.1 t,.str x.2 (t+1)) ahI) ⟨h.update d λ V=>aj es,gens,drawn,toks,os⟩ pv (.yield ⟨⟩) ⟨h.update d λ V=>aj (es++[⟨x.1,.int x.1 t,.str x.2 (t+1)⟩]),gens,drawn,toks+1,os⟩ pv:=by
    subst hf
    have adC:(h.update d λ V=>aj es).get? d=some (aj es):=jr ho rfl
    have gi:=RT.dictSet (p:=p) (w:=w) (n₀:=n₀) (ann:=ann) (bd:=bd) (env:=env) (q:=q) (gd:=gd) (lv:=lv) (s:=⟨h.update d λ V=>aj es,gens,drawn,toks,os⟩) (pos:=pv) (d:=d) (es:=es) (i:=x.1) (t:=t) (v:=.str x.2 (t+1)) adC hn %[a<b,a+(c+1)≤b|(cf bY)] Uc hx.1 hx.2
    simp only [iA] at gi
    exact RT.bind (n:=10) (m:=0) gi RT.pure
   refine (RT.bind (n:=10) (m:=10 * l.length) body ih).cast (by simp only [ada];exact %[10+10*a=10*(a+1)|aV]) ?_
   simp only [eB,aaH,acX,acQ,ada]
   congr 1
   exact %[a+1+b=a+(b+1)|aU]
theorem RT.IY(hl:l.length≤15)(hr:∀x∈l,0≤x.1∧x.1 < 2 ^ 60)(rj:(l.map (·.1)).Nodup)(hn:agQ n₀ s.heap.objs.size=true):
 RT p w n₀ ann (.body bd env) q gd lv (13 * l.length+1) (ahr (l.map (jt pv))) s pv s.heap.objs.size {s with heap:=s.heap.push (aj (eB s.toks l)),toks:=s.toks+3 * l.length} pv:=by
 obtain ⟨heap,gens,drawn,toks,os⟩:=s
 skip
 refine (RT.bind (n:=1) (m:=13 * l.length) RT.alloc ?_).cast %[1+13*a=13*a+1|(aV)] rfl
 have e15:(l.map (jt pv)).length≤15:=by simpa using hl
 erw [if_pos e15]
 refine RT.bind (n:=13 * l.length) (m:=0) (a:=()) (C0.holding λ gd lv=>?_) RT.pure
 refine (RT.bind (n:=3 * l.length) (m:=10 * l.length) (RT.evalPairs gd lv l ⟨heap.push {cls:=.type "dict",data:=.dict #[]},gens,drawn,toks,os⟩) ?_).cast %[3*a+10*a=13*a|(aV)] rfl
 refine C0.holding λ gd lv=>?_
 have hp:(heap.push {cls:=.type "dict",data:=.dict #[]})=((heap.push {cls:=.type "dict",data:=.dict #[]}).update heap.objs.size λ V=>aj []):=by
  erw [fG];rfl
 have:=RT.Rs (p:=p) (w:=w) (n₀:=n₀) (ann:=ann) (bd:=bd) (env:=env) (q:=q) (gd:=gd) (lv:=lv) (d:=heap.objs.size) (pv:=pv) _ rfl hn l toks [] (heap.push {cls:=.type "dict",data:=.dict #[]}) ⟨heap.push {cls:=.type "dict",data:=.dict #[]},gens,drawn,toks+2 * l.length,os⟩ hp
  ⟨_,acT _ rfl⟩ (by simp [sizeLine_eq];exact %[a≤16777216,a≤15|aV hl]) hr (by simpa using rj)
 rw [fG,acQ] at this
 exact (RT.bind (n:=10 * l.length) (m:=0) this RT.pure).cast rfl (by congr 1;simp only;exact %[a+2*b+b=a+3*b|aU])
theorem RT.chunk{pv:Pos}{l:List (Int×Str)}{heap:ac2}{gens:Array ain}{drawn:Drawn}{toks:Nat}{os:ads}{d:abh}{es:List aeS}{Ae:List aeS}{k:Nat}
(C3:∀gd lv,RT p w n₀ ann (.body bd env) q gd lv k (ahr (l.map (jt pv))) ⟨heap,gens,drawn,toks,os⟩ pv heap.objs.size ⟨heap.push (aj Ae),gens,drawn,toks+3 * l.length,os⟩ pv)
(bc:Ae.length=l.length)(Yv:Ae.map (·.hash)=l.map (·.1))(IW:∀e∈Ae,∃u,e.key=.int e.hash u)
(hd:heap.get? d=some (aj es))(hn:agQ n₀ d=true)(hs:(heap.objs.size==aiy)=false)(bY:es.length+l.length≤aaW)(rj:(es.map (·.hash)++l.map (·.1)).Nodup)(he:es≠[]):
 RT p w n₀ ann (.body bd env) q gd lv (k+(6 * l.length+5)) (kc d (l.map (jt pv))) ⟨heap,gens,drawn,toks,os⟩ pv () ⟨(heap.push (aj Ae)).update d (λ V=>aj (es++Ae)),gens,drawn,toks+3 * l.length,os⟩ pv:=by
 skip
 have bD:d < heap.objs.size:=acD hd
 refine RT.bind (n:=k) (m:=6 * l.length+5) (C0.holding C3) ?_
 refine RT.onRaise (C0.holding λ gd lv=>?_)
 have:=RT.merge (p:=p) (w:=w) (n₀:=n₀) (ann:=ann) (q:=q) (gd:=gd) (lv:=lv) (c:=.body bd env) (d:=d) (a:=heap.objs.size) (pv:=pv) (es:=es) (sub:=Ae) (s:=⟨heap.push (aj Ae),gens,drawn,toks+3 * l.length,os⟩)
  (act _ hd) (acT _ rfl) hn (akm bD) hs IW (by erw [bc];exact bY) (by erw [Yv];exact rj) he
 rw [bc] at this
 exact this
noncomputable def HP(objs:Array Obj)(life:Life)(l:List Obj):ac2:=⟨objs++l.toArray,life⟩
theorem xS:(HP objs life l).push o=HP objs life (l++[o]):=by
 show agM ((objs++l.toArray).push o) life=agM (objs++(l++[o]).toArray) life
 congr 1
 apply Array.ext'
 simp
theorem lA:(HP objs life l).objs.size=objs.size+l.length:=by
 show (objs++l.toArray).size=_
 simp
theorem IZ(h:o.isFreed=false):(HP objs life (o::l)).get? objs.size=some o:=by
 show (match (objs++(o::l).toArray)[objs.size]? with | some ⟨_,_,.freed,_⟩=>none | o=>o)=some o
 erw [afO (ac1 _)]
 simp only [Nat.sub_self,afv,List.getElem?_cons_zero]
 obtain ⟨c,d,dt,sl⟩:=o
 cases dt <;> first | rfl | cases h
theorem I1:((HP objs life (o::l)).update objs.size λ V=>o')=HP objs life (o'::l):=by
 show agM ((objs++(o::l).toArray).modify objs.size λ V=>o') life=agM (objs++(o'::l).toArray) life
 congr 1
 apply agW
 intro i
 erw [aep]
 by_cases hi:objs.size=i
 · subst hi
   erw [if_pos rfl,afO (ac1 _),afO (ac1 _)]
   simp
 · erw [if_neg hi]
   by_cases bD:i < objs.size
   · erw [ajD bD,ajD bD,rfl]
   · have h1:objs.size≤i:=%[a≤b,cY (b<a)|(aU bD)]
     erw [afO h1,afO h1]
     obtain ⟨k,hk⟩ :∃k,i - objs.size=k+1:=⟨i - objs.size - 1,%[a=b+1,cY (c=d),cY (d<c),qD 0 a d c,qD 0 b a (1)|(dQ hi bD rfl rfl)]⟩
     erw [hk]
     simp
noncomputable def cO:Nat->List (List (Int×Str))->List aeS
 | _,[]=>[]
 | t,l::r=>aH t l++cO (t+3 * l.length) r
noncomputable def hJ:Nat->List (List (Int×Str))->List Obj
 | _,[]=>[]
 | t,l::r=>aj (aH t l)::hJ (t+3 * l.length) r
noncomputable def cu:Nat->List (List (Int×Str))->Nat
 | t,[]=>t
 | t,l::r=>cu (t+3 * l.length) r
noncomputable def gB:List (List (Int×Str))->Nat
 | []=>0
 | l::r=>(13 * l.length+2+(6 * l.length+5))+gB r
theorem nH:∀(u:Nat) (ls:List (List (Int×Str))),(cO u ls).map (·.hash)=ls.flatten.map (·.1)
 | _,[]=>rfl
 | u,l::r=>by simp only [cO,aa6,ed,agF,nH (u+3 * l.length) r]
theorem RT.rest{pv:Pos}{objs:Array Obj}{life:Life}{gens:Array ain}{drawn:Drawn}{os:ads}(hn:agQ n₀ objs.size=true)(C4:2≤objs.size):
 ∀(ls:List (List (Int×Str))) (acc:List aeS) (Af:List Obj) (t:Nat),(∀l∈ls,l.length=17)->(∀x∈ls.flatten,0≤x.1∧x.1 < 2 ^ 60)->(acc.map (·.hash)++ls.flatten.map (·.1)).Nodup->acc≠[]->acc.length+ls.flatten.length≤aaW->
  RT p w n₀ ann (.body bd env) q gd lv (gB ls) (iY (ls.map (·.map (jt pv))) objs.size) ⟨HP objs life (aj acc::Af),gens,drawn,t,os⟩ pv ()
   ⟨HP objs life (aj (acc++cO t ls)::(Af++hJ t ls)),gens,drawn,cu t ls,os⟩ pv
 | [],acc,Af,t,_,_,_,_,_=>by
   simp only [cO,hJ,cu,abg]
   exact RT.pure
 | l::r,acc,Af,t,hl,hr,rj,cM,bY=>by
   erw [aaX]
   skip
   have h17:l.length=17:=hl l (.head _)
   have IX:((acc.map (·.hash)++l.map (·.1))++r.flatten.map (·.1)).Nodup:=by simpa [agF,aa6,aaH] using rj
   have Yw:(acc.map (·.hash)++l.map (·.1)).Nodup:=(adj.mp IX).1
   have Ue:acc.length+l.length+r.flatten.length≤aaW:=by simpa [agF,agB] using bY
   have hrl:∀x∈l,0≤x.1∧x.1 < 2 ^ 60:=λ x hx=>hr x (by erw [agF];exact ad4 _ hx)
   have C3:∀gd lv,RT p w n₀ ann (.body bd env) q gd lv (13 * l.length+2) (ahr (l.map (jt pv))) ⟨HP objs life (aj acc::Af),gens,drawn,t,os⟩ pv (HP objs life (aj acc::Af)).objs.size
    ⟨(HP objs life (aj acc::Af)).push (aj (aH t l)),gens,drawn,t+3 * l.length,os⟩ pv:=λ gd lv=>
    RT.subDict %[15<a,a=17|(aV h17)] %[a≤b,c+a+d≤b|(dQ Ue)] hrl (adj.mp Yw).2.1 (by
     have:n₀≤objs.size:=ahm hn
     exact aip (by simp only [lA];exact %[a≤b+c,a≤b|cf this]))
   have c1:=RT.chunk (gd:=gd) (lv:=lv) C3 (gA t l) (ed t l) (C2 t l) (IZ rfl) hn (by
    erw [lA];simp [aiy];exact %[cY (a+(b+1)=1),2≤a|aU C4]) %[a+b≤c,a+b+d≤c|(dQ Ue)] Yw cM
   rw [xS,acX,I1] at c1
   have ih:=RT.rest (pv:=pv) (life:=life) (gens:=gens) (drawn:=drawn) (os:=os) hn C4 r (acc++aH t l) (Af++[aj (aH t l)]) (t+3 * l.length) (λ l' h=>hl l' (.tail _ h)) (λ x hx=>hr x (by erw [agF];exact aev _ hx))
    (by (erw [aa6,ed ..]);exact IX) (by intro e;exact cM (List.append_eq_nil_iff.mp e).1) (by (erw [aao,gA ..]);exact Ue)
   refine (RT.bind c1 ih).cast (by simp only [gB]) ?_
   simp only [cO,hJ,cu,aaH,acX,acQ]
theorem RT.display{pv:Pos}{objs:Array Obj}{life:Life}{gens:Array ain}{drawn:Drawn}{os:ads}{t:Nat}(l0:List (Int×Str))(ls:List (List (Int×Str)))(last:List (Int×Str))(hn:agQ n₀ objs.size=true)(C4:2≤objs.size)
(h0:l0.length=17)(hl:∀l∈ls,l.length=17)(Rt:last.length≤15)(hln:last≠[])(hr:∀x∈l0++ls.flatten++last,0≤x.1∧x.1 < 2 ^ 60)(rj:((l0++ls.flatten++last).map (·.1)).Nodup)(bY:(l0++ls.flatten++last).length≤aaW):
 RT p w n₀ ann (.body bd env) q gd lv (13 * l0.length+2+(gB ls+(13 * last.length+1+(6 * last.length+5)))) (ajY (((l0++ls.flatten++last).map (jt pv)).map dK)) ⟨HP objs life [],gens,drawn,t,os⟩ pv (.ref objs.size)
  ⟨HP objs life (aj (cO t (l0::ls)++eB (cu t (l0::ls)) last)::(hJ (t+3 * l0.length) ls++[aj (eB (cu t (l0::ls)) last)])),gens,drawn,cu t (l0::ls)+3 * last.length,os⟩ pv:=by
 have e:(l0++ls.flatten++last).map (jt pv)=l0.map (jt pv)++((ls.map (·.map (jt pv))).flatten++last.map (jt pv)):=by
  rw [aa6,aa6,aaH,List.map_flatten]
 rw [e,IR _ _ _ (by simpa using h0) (by simpa using hl) (by simp;exact %[a<17,a≤15|aV Rt]) (by simpa using hln)]
 have hnA:n₀≤objs.size:=ahm hn
 rw [aa6,aa6] at rj
 have Yx:=(adj.mp rj).1
 have Uf:l0.length+ls.flatten.length+last.length≤aaW:=by simpa only [aao] using bY
 refine RT.bind (n:=13 * l0.length+2) (m:=gB ls+(13 * last.length+1+(6 * last.length+5))) (a:=objs.size) (p₁:=pv) (s₁:=⟨HP objs life (aj (aH t l0)::[]),gens,drawn,t+3 * l0.length,os⟩) ?_ ?_
 · have:=RT.subDict (p:=p) (w:=w) (n₀:=n₀) (ann:=ann) (bd:=bd) (env:=env) (q:=q) (gd:=gd) (lv:=lv) (pv:=pv) (l:=l0) (s:=⟨HP objs life [],gens,drawn,t,os⟩) %[15<a,a=17|(aV h0)] %[a≤b,a+c+d≤b|(dQ Uf)] (λ x hx=>hr x (by simp [hx])) (adj.mp Yx).1 (aip (by simp only [lA];exact %[a≤b+c,a≤b|cf hnA]))
   rw [xS,lA] at this
   exact this
 · refine RT.bind (n:=gB ls) (m:=13 * last.length+1+(6 * last.length+5)) (p₁:=pv) (RT.rest hn C4 ls (aH t l0) [] (t+3 * l0.length) hl (λ x hx=>hr x (ad4 _ (aev _ hx))) (by rw [ed];exact Yx) (by intro e;have:=gA t l0;rw [e] at this;simp at this;lia) (by rw [gA];exact %[a+b≤c,a+b+d≤c|dQ Uf])) ?_
   have hA:(aH t l0++cO (t+3 * l0.length) ls).map (·.hash)=l0.map (·.1)++ls.flatten.map (·.1):=by
    rw [aa6,ed,nH]
   have hAl:(aH t l0++cO (t+3 * l0.length) ls).length=l0.length+ls.flatten.length:=by
    have:=congrArg ae3 hA
    rw [aar,aao,aao,aar,aar] at this
    rw [aao];exact this
   have c1:=RT.chunk (p:=p) (w:=w) (n₀:=n₀) (ann:=ann) (bd:=bd) (env:=env) (q:=q) (gd:=gd) (lv:=lv) (pv:=pv) (l:=last) (heap:=HP objs life (aj (aH t l0++cO (t+3 * l0.length) ls)::([]++hJ (t+3 * l0.length) ls))) (gens:=gens) (drawn:=drawn) (toks:=cu (t+3 * l0.length) ls) (os:=os) (d:=objs.size) (es:=aH t l0++cO (t+3 * l0.length) ls) (k:=13 * last.length+1)
    (λ gd lv=>RT.IY Rt (λ x hx=>hr x (aev _ hx)) (adj.mp rj).2.1 (aip (by simp only [lA];exact %[a≤b+c,a≤b|cf hnA]))) (wO _ _) (ug _ _) (Gy _ _) (IZ rfl) hn (by rw [lA];simp [aiy];exact %[cY (a+(b+1)=1),2≤a|aU C4]) (by rw [hAl];exact %[a+b+c≤d,a+b+c≤d|dQ Uf]) (by rw [hA];exact rj) (by intro e;have:=congrArg ae3 e;rw [hAl] at this;simp only [aec] at this;lia)
   rw [xS,acX,I1] at c1
   refine RT.cast (m:=13 * last.length+1+(6 * last.length+5)) (RT.bind (n:=13 * last.length+1+(6 * last.length+5)) (m:=0) c1 RT.pure) %[13*a+1+(6*a+5)+0=13*a+1+(6*a+5)|(aV)] ?_
   simp only [cO,cu,acQ]
end
noncomputable def cOf:acU->Option Const
 | .Constant c _ _=>some c
 | _=>none
noncomputable def iOf:Const->Option Int
 | .int i=>some i
 | _=>none
noncomputable def sOf:Const->Option Str
 | .str s=>some s
 | _=>none
noncomputable def N2(k:Option acU):Option Int:=k.bind λ e=>(cOf e).bind iOf
noncomputable def N3(e:acU):Option Str:=(cOf e).bind sOf
noncomputable def kvs:List (Option acU)->List acU->List (Int×Str)
 | k::ks,v::vs=>((N2 k).getD 0,(N3 v).getD "")::kvs ks vs
 | _,_=>[]
noncomputable def uh:List (Option acU)->List acU->Bool
 | [],[]=>true
 | k::ks,v::vs=>(N2 k).isSome&&(N3 v).isSome&&uh ks vs
 | _,_=>false
theorem I2(h:cOf e=some c):∃a b,e=.Constant c a b:=by
 cases e with
 | Constant c' a b=>cases h;exact ⟨a,b,rfl⟩
 | _=>cases h
theorem Ug(h:iOf c=some i):c=.int i:=by
 cases c with
 | int j=>cases h;rfl
 | _=>cases h
theorem Uh(h:sOf c=some i):c=.str i:=by
 cases c with
 | str j=>cases h;rfl
 | _=>cases h
theorem Ui(h:(N2 k).isSome=true):∃i a b,k=some (.Constant (.int i) a b)∧N2 k=some i:=by
 refine cL (afC.mp h) λ i hi=>?_
 (refine bF (adD.mp hi) λ e cB h1=>?_;obtain rfl:=cB)
 refine bF (adD.mp h1) λ c h2 h3=>?_
 (refine cL (I2 h2) λ a dL=>?_;refine cL dL λ b eZ=>?_;have ju:=eZ;clear eZ dL;obtain rfl:=ju)
 have:=Ug h3
 subst this
 exact ⟨i,a,b,rfl,rfl⟩
theorem Uj(h:(N3 e).isSome=true):∃s a b,e=.Constant (.str s) a b∧N3 e=some s:=by
 refine cL (afC.mp h) λ i hi=>?_
 refine bF (adD.mp hi) λ c h2 h3=>?_
 (refine cL (I2 h2) λ a dL=>?_;refine cL dL λ b eZ=>?_;have ju:=eZ;clear eZ dL;obtain rfl:=ju)
 have:=Uh h3
 subst this
 exact ⟨i,a,b,rfl,rfl⟩
theorem I3(ks:List (Option acU)):∀vs:List acU,uh ks vs=true->
 (evalEachOpt ks env).zip ((evalEach vs env).map λ v=>do let x ←v;aiz pv;pure x)=((kvs ks vs).map (jt pv)).map dK:=by
 induction ks with
 | nil=>exact λ vs V=>by cases vs <;> rfl
 | cons k ks ih=>
   intro vs h
   cases vs with
   | nil=>cases h
   | cons v vs=>
     refine gY (ahw.mp h) λ h1 h2=>?_
     refine gY (ahw.mp h1) λ h3 h4=>?_
     (refine cL (Ui h3) λ i dL=>?_;refine cL dL λ a eZ=>?_;refine cL eZ λ b oX=>?_;have Yy:=oX.1;have e1:=oX.2;clear oX eZ dL;obtain rfl:=Yy)
     (refine cL (Uj h4) λ s dL=>?_;refine cL dL λ a' eZ=>?_;refine cL eZ λ b' oX=>?_;have Yy:=oX.1;have e2:=oX.2;clear oX eZ dL;obtain rfl:=Yy)
     exact congrArg (λ l=>dK (jt pv (i,s))::l) (ih vs h2)
noncomputable def lB:List Int->Bool
 | []=>true
 | [_]=>true
 | a::b::r=>decide (a < b)&&lB (b::r)
theorem ui:∀l:List Int,lB l=true->l.Pairwise (· < ·)
 | [],_=>.nil
 | [_],_=>List.pairwise_singleton _ _
 | a::b::r,h=>by
   simp only [lB,aaQ,decide_eq_true_eq] at h
   have ih:=ui (b::r) h.2
   refine ak1.mpr ⟨λ x hx=>?_,ih⟩
   rcases aaB.mp hx with rfl | hx
   · exact h.1
   · exact Int.lt_trans h.1 ((ak1.mp ih).1 x hx)
theorem rk(h:lB l=true):l.Nodup:=(ui l h).imp λ h e=>by subst e;exact Int.lt_irrefl _ h
end Mine.Internal
end
section
open PySem PySem.W PyProof.Rows PySem.W.Fast PySem.W.SL
open PySem.W.SL renaming s5856160107412720595x4->S0,s2766695959194262286x5->S1,s7174869446012820540x8->S2,s14018661285674007319x4->S3,s9222952809800978799x4->S4,s2742458400755230247x6->S5,s14755015743595814543x17->S6,s17162191345867700912x4->S7,s10852414792293593619x7->S8,s5991306692159431302x13->S9,s6658869562736209489x6->S10
open PySem.W.BT renaming node->Bn,nil->Bz
namespace Mine
open Internal
section
set_option tactic.hygienic true
noncomputable def aD(P:abe)(s:Str)(t:Nat)(v:aas):aeS:=⟨PyData.keyHash P s,.str s t,v⟩
local macro_rules
 | `(s! $s:interpolatedStr)=>do
   match s.raw[0].isInterpolatedStrLit? with
   | some v=>
     let ns:Array (Lean.TSyntax `term):=(v.toList.map λ c=>(Lean.Syntax.mkNumLit (toString c.toNat):Lean.TSyntax `term)).toArray
     `(PySem.Str.mk #[$ns,*])
   | none=>Lean.Macro.throwUnsupported
variable(p:aaq)(P:abe)
noncomputable abbrev pw:aaq:=al4
noncomputable def cw(p:aaq)(i:Nat):ajO×List agH×ahH:=match p.main.body[i]? with | some (.FunctionDef _ a b _ _ _ sc _ _ _)=>(a,b,sc) | _=>default
noncomputable abbrev Bl(v:Obj):BT:=.node v .nil .nil
noncomputable def gX(p:aaq)(i:Nat)(c:aas)(g:abh)(m k:aas)(n:Str):Obj:=⟨c,none,.func ⟨n,n,(cw p i).1,.stmts (cw p i).2.1,(cw p i).2.2,g,[],.none,.none,.none,m,none,k,.none,0⟩,#[]⟩
noncomputable def gC(k:aas)(n:Str)(t t1 t2:Nat)(l a:Int)(r f:abh)(x y z:aas)(v:Int)(u:Nat):Obj:=⟨k,none,.fields #[.str n t,.str n t1,.str s!"/claim/cut.py" t2,.int l 0,.int a 0,.int 0 0,.int 0 0,.int 3 0,.ref r,.bool true,.int 276 0,.ref f,.none,x,y,z,.int v 0,.int l 0,.str s!"/claim/cut.py" u],#[]⟩
noncomputable def Ag:List aeS:=[aD P s!"__doc__" 166 .none,aD P s!"__package__" 167 .none,aD P s!"__loader__" 168 (.builtin s7097527257260152453x26),aD P s!"__spec__" 169 .none,aD P s!"__annotations__" 170 (.ref 6),aD P s!"__builtins__" 171 (.ref 4),aD P s!"__file__" 173 (.str s!"/claim/cut.py" 172),aD P s!"__cached__" 174 .none,aD P s!"_sre" 275 (.ref 12),aD P s!"_parse_varint" 292 (.ref 38),aD P s!"_DIV_LIMIT" 296 (.int 4000 295),aD P s!"_div2n1n" 313 (.ref 45),aD P s!"_div3n2n" 327 (.ref 52),aD P s!"_int2digits" 338 (.ref 59),aD P s!"_digits2int" 349 (.ref 66),aD P s!"_divmod_pos" 364 (.ref 73),aD P s!"int_divmod" 374 (.ref 80),aD P s!"_twin_re_1" 392 (.ref 85),aD P s!"_twin_re_2" 434 (.ref 90),aD P s!"CRLF" 436 (.str ⟨#[13,10]⟩ 435),aD P s!"quotedata" 443 (.ref 97),aD P s!"b1_set" 505 (.ref 105),aD P s!"in_table_b1" 512 (.ref 115),aD P s!"b3_exceptions" 2463 (.ref 116),aD P s!"map_table_b3" 2471 (.ref 161),aD P s!"_law_heaps" 2479 (.ref 166),aD P s!"_law_hidden" 2487 (.ref 173),aD P s!"_law_beside" 2495 (.ref 180),aD P s!"_law_form" 2504 (.ref 187),aD P s!"_law_kept" 2514 (.ref 194),aD P s!"_law_folded" 2520 (.ref 199),aD P s!"_law_numbers" 2526 (.ref 204),aD P s!"_law_knows" 2532 (.ref 209),aD P s!"_law_word" 2538 (.ref 214),aD P s!"_law_ones" 2544 (.ref 219),aD P s!"_law_posted" 2555 (.ref 226),aD P s!"_law_due" 2568 (.ref 233),aD P s!"law" 2574 (.ref 238)]
noncomputable def iZ(p:aaq)(lo hi:Nat):List agH:=(p.main.body.drop (lo+1)).take (hi - lo)
noncomputable def hO(p:aaq):Env:={scope:=p.main.scope,locals:=mainNs,globals:=mainNs,cells:=[],code:=.ref 30,frame:=some 31}
noncomputable def wP(p:aaq):ag3:=.body (ail p) (hO p)
noncomputable def uj(T:abe->BT)(n toks:Nat)(w:acb)(os:ads):afb:=⟨T w.params,n,{},#[],{},toks,os⟩
noncomputable def kd:Obj:=⟨(.type S3),none,.dict #[aD P s!"__name__" 1 (.str s!"builtins" 160),aD P s!"__doc__" 2 (.builtin "builtins.__doc__:str#opaque"),aD P s!"__package__" 3 (.builtin "builtins.__package__:str#opaque"),aD P s!"__loader__" 4 (.builtin "builtins.__loader__:shared#opaque"),aD P s!"__spec__" 5 (.builtin s11665532747177232413x24),aD P s!"__build_class__" 6 (.builtin s15183661809925369436x15),aD P s!"__import__" 7 (.builtin s13915890719876406383x10),aD P s!"abs" 8 (.builtin s13459172003223722735x3),aD P s!"all" 9 (.builtin s10557405761357834076x3),aD P s!"any" 10 (.builtin s4233737765568776869x3),aD P s!"ascii" 11 (.builtin s2508922471967985374x5),aD P s!"bin" 12 (.builtin s15574269061696679450x3),aD P s!"breakpoint" 13 (.builtin s6016482663378992977x10),aD P s!"callable" 14 (.builtin s5596568736180474577x8),aD P s!"chr" 15 (.builtin s2839554839881490554x3),aD P s!"compile" 16 (.builtin s725004073602090463x7),aD P s!"delattr" 17 (.builtin s9436932552931045734x7),aD P s!"dir" 18 (.builtin s2754603736356183583x3),aD P s!"divmod" 19 (.builtin s15185746759980889043x6),aD P s!"eval" 20 (.builtin s8192189862530294059x4),aD P s!"exec" 21 (.builtin s7038307821325472102x4),aD P s!"format" 22 (.builtin s5662562618415449548x6),aD P s!"getattr" 23 (.builtin s15281542589158584767x7),aD P s!"globals" 24 (.builtin s17651547275483570877x7),aD P s!"hasattr" 25 (.builtin s4036449017235975746x7),aD P s!"hash" 26 (.builtin s8879979712987360175x4),aD P s!"hex" 27 (.builtin s1801250619170735830x3),aD P s!"id" 28 (.builtin s17659931425627118568x2),aD P s!"input" 29 (.builtin s6063217899685152688x5),aD P s!"isinstance" 30 (.builtin s8008927332132565319x10),aD P s!"issubclass" 31 (.builtin s3544116645089599534x10),aD P s!"iter" 32 (.builtin s13761710972054866084x4),aD P s!"aiter" 33 (.builtin s12896375587409280029x5),aD P s!"len" 34 (.builtin s13014049009108672802x3),aD P s!"locals" 35 (.builtin s13935586738268321596x6),aD P s!"max" 36 (.builtin s8200498257699607233x3),aD P s!"min" 37 (.builtin s14114244577727609259x3),aD P s!"next" 38 (.builtin s1499430450269397089x4),aD P s!"anext" 39 (.builtin s8755793994789770505x5),aD P s!"oct" 40 (.builtin s15725212667919936108x3),aD P s!"ord" 41 (.builtin s15791221867095933363x3),aD P s!"pow" 42 (.builtin s81309575031448614x3),aD P s!"print" 43 (.builtin s8069831620301644142x5),aD P s!"repr" 44 (.builtin s10061844253413749634x4),aD P s!"round" 45 (.builtin s9496514870978017513x5),aD P s!"setattr" 46 (.builtin s8899691144933366716x7),aD P s!"sorted" 47 (.builtin s15201008993051130160x6),aD P s!"sum" 48 (.builtin s741896355592496720x3),aD P s!"vars" 49 (.builtin s17925004256654032244x4),aD P s!"None" 50 .none,aD P s!"Ellipsis" 51 .ellipsis,aD P s!"NotImplemented" 52 .notImplemented,aD P s!"False" 53 (.bool false),aD P s!"True" 54 (.bool true),aD P s!"bool" 55 (.type s11695548795398191787x4),aD P s!"memoryview" 56 (.type s4156966113859768872x10),aD P s!"bytearray" 57 (.type s9501651726347032510x9),aD P s!"bytes" 58 (.type s15722918466584999320x5),aD P s!"classmethod" 59 (.type s591115383303110208x11),aD P s!"complex" 60 (.type s15721156781594690315x7),aD P s!"dict" 61 (.type S3),aD P s!"enumerate" 62 (.type s14340494229221121180x9),aD P s!"filter" 63 (.type s13429844117177748173x6),aD P s!"float" 64 (.type s16463266125957815391x5),aD P s!"frozenset" 65 (.type s4922535414793169389x9),aD P s!"property" 66 (.type s8101838861749082086x8),aD P s!"int" 67 (.type s7066276694103001551x3),aD P s!"list" 68 (.type S4),aD P s!"map" 69 (.type s462964344163437139x3),aD P s!"object" 70 (.type S5),aD P s!"range" 71 (.type alc),aD P s!"reversed" 72 (.type s14365286008749172514x8),aD P s!"set" 73 (.type alb),aD P s!"slice" 74 (.type s4674234679698826739x5),aD P s!"staticmethod" 75 (.type s16656946322747308186x12),aD P s!"str" 76 (.type s10796804682411823810x3),aD P s!"super" 77 (.type s4290257624100764138x5),aD P s!"tuple" 78 (.type S1),aD P s!"type" 79 (.type S7),aD P s!"zip" 80 (.type s14339709457334898076x3),aD P s!"__debug__" 81 (.bool true),aD P s!"BaseException" 82 (.type s4278001404047624695x13),aD P s!"BaseExceptionGroup" 83 (.type s6585700554429387442x18),aD P s!"Exception" 84 (.type s5946037652744460706x9),aD P s!"GeneratorExit" 85 (.type s7410770068591931388x13),aD P s!"KeyboardInterrupt" 86 (.type s11817881795495490833x17),aD P s!"SystemExit" 87 (.type s15679963881808890155x10),aD P s!"ArithmeticError" 88 (.type s3871700062485845797x15),aD P s!"AssertionError" 89 (.type s7689518266570723881x14),aD P s!"AttributeError" 90 (.type s9001593270443806431x14),aD P s!"BufferError" 91 (.type s6882542574934516792x11),aD P s!"EOFError" 92 (.type s14403400214490484960x8),aD P s!"ImportError" 93 (.type s14457978657717015782x11),aD P s!"LookupError" 94 (.type s1753610191782819921x11),aD P s!"MemoryError" 95 (.type s14119380538032626715x11),aD P s!"NameError" 96 (.type s11437920000406562045x9),aD P s!"OSError" 97 (.type S8),aD P s!"ReferenceError" 98 (.type s14816307405966870543x14),aD P s!"RuntimeError" 99 (.type s8682627914449686677x12),aD P s!"StopAsyncIteration" 100 (.type s4428170145600203450x18),aD P s!"StopIteration" 101 (.type S9),aD P s!"SyntaxError" 102 (.type s16067994140765818257x11),aD P s!"SystemError" 103 (.type s2327743974964600596x11),aD P s!"TypeError" 104 (.type s2804747833354056582x9),aD P s!"ValueError" 105 (.type s6070975301684473832x10),aD P s!"Warning" 106 (.type s14270485950484850486x7),aD P s!"FloatingPointError" 107 (.type s12041534306414923332x18),aD P s!"OverflowError" 108 (.type s2531307568338490285x13),aD P s!"ZeroDivisionError" 109 (.type s631175304937289666x17),aD P s!"BytesWarning" 110 (.type s5144983644357021410x12),aD P s!"DeprecationWarning" 111 (.type s18039099521571816885x18),aD P s!"EncodingWarning" 112 (.type s6011586214260557989x15),aD P s!"FutureWarning" 113 (.type s5430567037509283100x13),aD P s!"ImportWarning" 114 (.type s8117915138073963741x13),aD P s!"PendingDeprecationWarning" 115 (.type s3423317712779056401x25),aD P s!"ResourceWarning" 116 (.type s2007317383269046180x15),aD P s!"RuntimeWarning" 117 (.type s17481586968713580700x14),aD P s!"SyntaxWarning" 118 (.type s2450899226349176912x13),aD P s!"UnicodeWarning" 119 (.type s16626165730633575011x14),aD P s!"UserWarning" 120 (.type s14288496050688921416x11),aD P s!"BlockingIOError" 121 (.type s5735081916595925998x15),aD P s!"ChildProcessError" 122 (.type s3865607918536308442x17),aD P s!"ConnectionError" 123 (.type s13337502604062700212x15),aD P s!"FileExistsError" 124 (.type s13114017843053701147x15),aD P s!"FileNotFoundError" 125 (.type s17467278006356818441x17),aD P s!"InterruptedError" 126 (.type s17722149559621369488x16),aD P s!"IsADirectoryError" 127 (.type s7855274175708717672x17),aD P s!"NotADirectoryError" 128 (.type s13351283678309829046x18),aD P s!"PermissionError" 129 (.type s6668348653404991179x15),aD P s!"ProcessLookupError" 130 (.type s12913350958174193794x18),aD P s!"TimeoutError" 131 (.type s16115879512475548326x12),aD P s!"IndentationError" 132 (.type s15920661018069861047x16),aD P s!"_IncompleteInputError" 133 (.type s10779130036587390575x21),aD P s!"IndexError" 134 (.type s7801419657504700863x10),aD P s!"KeyError" 135 (.type s1688129525768580628x8),aD P s!"ModuleNotFoundError" 136 (.type s1031832959479892071x19),aD P s!"NotImplementedError" 137 (.type s8991790508128307865x19),aD P s!"PythonFinalizationError" 138 (.type s14539662485746970245x23),aD P s!"RecursionError" 139 (.type s11643622729373238714x14),aD P s!"UnboundLocalError" 140 (.type s3386828779285465597x17),aD P s!"UnicodeError" 141 (.type s13042696260734638735x12),aD P s!"BrokenPipeError" 142 (.type s18239426817015966623x15),aD P s!"ConnectionAbortedError" 143 (.type s1270395311379034370x22),aD P s!"ConnectionRefusedError" 144 (.type s10696252587037064777x22),aD P s!"ConnectionResetError" 145 (.type s7852717498200857586x20),aD P s!"TabError" 146 (.type s6377248116197321094x8),aD P s!"UnicodeDecodeError" 147 (.type s3834378056692298002x18),aD P s!"UnicodeEncodeError" 148 (.type s17586630440231065808x18),aD P s!"UnicodeTranslateError" 149 (.type s15234114252648025395x21),aD P s!"ExceptionGroup" 150 (.type s8496462677383758984x14),aD P s!"EnvironmentError" 151 (.type S8),aD P s!"IOError" 152 (.type S8),aD P s!"open" 153 (.builtin s16789243406116112673x4),aD P s!"quit" 154 (.builtin s14400166428656793546x20),aD P s!"exit" 155 (.builtin s5857708277339239366x20),aD P s!"copyright" 156 (.builtin "builtins.copyright#opaque"),aD P s!"credits" 157 (.builtin "builtins.credits#opaque"),aD P s!"license" 158 (.builtin "builtins.license#opaque"),aD P s!"help" 159 (.builtin s7804999707787243718x20)] 159,#[]⟩
noncomputable def kf:Obj:=⟨(.type S3),none,.dict #[aD P s!"builtins" 162 (.ref 4),aD P s!"__main__" 163 (.ref 5),aD P s!"_sre" 244 (.ref 12)] 3,#[]⟩
noncomputable def kg:Obj:=⟨.none,none,.dict #[aD P ⟨#[105,109,112,111,114,116,46,108,111,97,100,101,100,46,95,115,114,101]⟩ 183 (.bool true),aD P s!"class._frozen_importlib.BuiltinImporter" 185 (.ref 14),aD P ⟨#[119,97,116,99,104,101,100,46,105,109,112,111,114,116]⟩ 206 (.ref 18),aD P s!"class._frozen_importlib.ModuleSpec" 216 (.ref 22),aD P s!"sys.modules.booked-epoch" 245 (.int 3 0),aD P ⟨#[105,109,112,111,114,116,46,108,97,116,101,114,45,108,97,105,100,46,95,115,114,101]⟩ 270 (.bool true),aD P s!"watched.library" 272 (.ref 27),aD P s!"watched.library-objects" 0 (.str ⟨#[12]⟩ 0),aD P s!"watched.library-deep._sre" 273 (.str s!"\x04\x00\x00\x0b\x04\x00\x00\x0b\x04\x00\x00\x03\x04\x00\x00\x0b\x08\x04dict\x02" 0)] 9,#[]⟩
noncomputable def Ru:Obj:=⟨(.type S3),none,.dict (aD P s!"__name__" 165 (.str s!"__main__" 164)::(Ag P).take 9).toArray 10,#[]⟩
noncomputable def kh:Obj:=⟨(.type S10),(some 0),.plain,#[]⟩
noncomputable def kj:Obj:=⟨(.type S10),(some 3),.plain,#[]⟩
noncomputable def cZ:Obj:=⟨(.type S3),none,.dict #[] 0,#[]⟩
noncomputable def ag:Obj:=⟨(.type S1),none,.seq #[] 0,#[]⟩
noncomputable def az:Obj:=⟨.none,none,.fields #[],#[]⟩
noncomputable def ml:Obj:=⟨(.type S0),none,.fields #[(.str s!"<module>" 176),(.str s!"<module>" 177),(.str s!"/claim/cut.py" 178),(.int 1 0),(.int 0 0),(.int 0 0),(.int 0 0),(.int 0 0),(.ref 7),(.bool false),(.int 175 0),(.ref 8),.none,.none,.none,.none,(.int 179 0),(.int 1 0),(.str s!"/claim/cut.py" 180)],#[]⟩
noncomputable def iB:Obj:=⟨(.type alj),none,.plain,#[(some (.ref 9)),(some (.ref 3)),(some (.ref 3)),none,(some (.str s!"__main__" 164)),none,(some (.ref 0))]⟩
noncomputable def iC:Obj:=⟨(.type S3),none,.dict #[aD P s!"__name__" 247 (.str s!"_sre" 246),aD P s!"__doc__" 248 .none,aD P s!"__package__" 250 (.str s!"" 249),aD P s!"__loader__" 251 (.builtin "off-the-table:_sre.__loader__:shared#opaque"),aD P s!"__spec__" 252 (.builtin "off-the-table:_sre.__spec__:shared#opaque"),aD P s!"compile" 253 (.builtin s492968859115322481x12),aD P s!"template" 254 (.builtin "off-the-table:_sre.template:shared#opaque"),aD P s!"getcodesize" 255 (.builtin "off-the-table:_sre.getcodesize:shared#opaque"),aD P s!"ascii_iscased" 256 (.builtin "off-the-table:_sre.ascii_iscased:shared#opaque"),aD P s!"unicode_iscased" 257 (.builtin "off-the-table:_sre.unicode_iscased:shared#opaque"),aD P s!"ascii_tolower" 258 (.builtin "off-the-table:_sre.ascii_tolower:shared#opaque"),aD P s!"unicode_tolower" 259 (.builtin "off-the-table:_sre.unicode_tolower:shared#opaque"),aD P s!"MAGIC" 261 (.int 20230612 260),aD P s!"CODESIZE" 263 (.int 4 262),aD P s!"MAXREPEAT" 265 (.int 4294967295 264),aD P s!"MAXGROUPS" 267 (.int 1073741823 266),aD P s!"copyright" 269 (.str s!" SRE 2.2.2 Copyright (c) 1997-2002 by Secret Labs AB " 268)] 17,#[]⟩
noncomputable def jv:Obj:=⟨(.type S10),(some 11),.plain,#[]⟩
noncomputable def iD:Obj:=⟨(.type S3),none,.dict #[aD P s!"__module__" 189 (.str s!"_frozen_importlib" 186),aD P s!"__firstlineno__" 190 (.int 971 187),aD P s!"__doc__" 191 (.builtin "_frozen_importlib.BuiltinImporter.__doc__:str#opaque"),aD P s!"_ORIGIN" 192 (.str s!"built-in" 188),aD P s!"find_spec" 193 (.builtin "_frozen_importlib.BuiltinImporter.find_spec#opaque"),aD P s!"create_module" 194 (.builtin "_frozen_importlib.BuiltinImporter.create_module#opaque"),aD P s!"exec_module" 195 (.builtin "_frozen_importlib.BuiltinImporter.exec_module#opaque"),aD P s!"get_code" 196 (.builtin "_frozen_importlib.BuiltinImporter.get_code#opaque"),aD P s!"get_source" 197 (.builtin "_frozen_importlib.BuiltinImporter.get_source#opaque"),aD P s!"is_package" 198 (.builtin "_frozen_importlib.BuiltinImporter.is_package#opaque"),aD P s!"load_module" 199 (.builtin "_frozen_importlib.BuiltinImporter.load_module#opaque"),aD P s!"__static_attributes__" 200 (.ref 15),aD P s!"__dict__" 202 (.ref 16),aD P s!"__weakref__" 204 (.ref 17)] 14,#[]⟩
noncomputable def iE:Obj:=⟨(.type S7),none,.cls ⟨s!"BuiltinImporter",[(.type S5)],[(.ref 14),(.type S5)],13,s!"BuiltinImporter",true,[],[],false,none,false⟩,#[]⟩
noncomputable def iF:Obj:=⟨(.type S6),none,.fields #[(.str s!"__dict__" 201),(.ref 14),(.builtin akS),(.builtin akE)],#[]⟩
noncomputable def iG:Obj:=⟨(.type S6),none,.fields #[(.str s!"__weakref__" 203),(.ref 14),(.builtin akG),.none],#[]⟩
noncomputable def iH:Obj:=⟨.none,none,.seq #[(.int 13 0),(.str ⟨#[6,189,10,95,95,109,111,100,117,108,101,95,95,6,186,17,95,102,114,111,122,101,110,95,105,109,112,111,114,116,108,105,98,6,190,15,95,95,102,105,114,115,116,108,105,110,101,110,111,95,95,4,187,0,971,6,191,7,95,95,100,111,99,95,95,9,52,95,102,114,111,122,101,110,95,105,109,112,111,114,116,108,105,98,46,66,117,105,108,116,105,110,73,109,112,111,114,116,101,114,46,95,95,100,111,99,95,95,58,115,116,114,35,111,112,97,113,117,101,6,192,7,95,79,82,73,71,73,78,6,188,8,98,117,105,108,116,45,105,110,6,193,9,102,105,110,100,95,115,112,101,99,9,50,95,102,114,111,122,101,110,95,105,109,112,111,114,116,108,105,98,46,66,117,105,108,116,105,110,73,109,112,111,114,116,101,114,46,102,105,110,100,95,115,112,101,99,35,111,112,97,113,117,101,6,194,13,99,114,101,97,116,101,95,109,111,100,117,108,101,9,54,95,102,114,111,122,101,110,95,105,109,112,111,114,116,108,105,98,46,66,117,105,108,116,105,110,73,109,112,111,114,116,101,114,46,99,114,101,97,116,101,95,109,111,100,117,108,101,35,111,112,97,113,117,101,6,195,11,101,120,101,99,95,109,111,100,117,108,101,9,52,95,102,114,111,122,101,110,95,105,109,112,111,114,116,108,105,98,46,66,117,105,108,116,105,110,73,109,112,111,114,116,101,114,46,101,120,101,99,95,109,111,100,117,108,101,35,111,112,97,113,117,101,6,196,8,103,101,116,95,99,111,100,101,9,49,95,102,114,111,122,101,110,95,105,109,112,111,114,116,108,105,98,46,66,117,105,108,116,105,110,73,109,112,111,114,116,101,114,46,103,101,116,95,99,111,100,101,35,111,112,97,113,117,101,6,197,10,103,101,116,95,115,111,117,114,99,101,9,51,95,102,114,111,122,101,110,95,105,109,112,111,114,116,108,105,98,46,66,117,105,108,116,105,110,73,109,112,111,114,116,101,114,46,103,101,116,95,115,111,117,114,99,101,35,111,112,97,113,117,101,6,198,10,105,115,95,112,97,99,107,97,103,101,9,51,95,102,114,111,122,101,110,95,105,109,112,111,114,116,108,105,98,46,66,117,105,108,116,105,110,73,109,112,111,114,116,101,114,46,105,115,95,112,97,99,107,97,103,101,35,111,112,97,113,117,101,6,199,11,108,111,97,100,95,109,111,100,117,108,101,9,52,95,102,114,111,122,101,110,95,105,109,112,111,114,116,108,105,98,46,66,117,105,108,116,105,110,73,109,112,111,114,116,101,114,46,108,111,97,100,95,109,111,100,117,108,101,35,111,112,97,113,117,101,6,200,21,95,95,115,116,97,116,105,99,95,97,116,116,114,105,98,117,116,101,115,95,95,4,0,0,15,6,202,8,95,95,100,105,99,116,95,95,4,0,0,16,6,204,11,95,95,119,101,97,107,114,101,102,95,95,4,0,0,17]⟩ 0),(.bool true),(.bool true),(.str s!"" 205),(.int 21 0),(.str s!"\x06ã\x0a__module__\x06Ù\x11_frozen_importlib\x06ä\x0f__firstlineno__\x04Ú\x00Ȳ\x06å\x07__doc__\x09/_frozen_importlib.ModuleSpec.__doc__:str#opaque\x06æ\x08__init__\x09,_frozen_importlib.ModuleSpec.__init__#opaque\x06ç\x08__repr__\x09,_frozen_importlib.ModuleSpec.__repr__#opaque\x06è\x06__eq__\x09*_frozen_importlib.ModuleSpec.__eq__#opaque\x06é\x06cached\x09*_frozen_importlib.ModuleSpec.cached#opaque\x06ê\x06parent\x09*_frozen_importlib.ModuleSpec.parent#opaque\x06ë\x0chas_location\x090_frozen_importlib.ModuleSpec.has_location#opaque\x06ì\x15__static_attributes__\x04\x00\x00\x17\x06î\x08__dict__\x04\x00\x00\x18\x06ð\x0b__weakref__\x04\x00\x00\x19\x06ñ\x08__hash__\x00" 0),(.bool true),(.bool true),(.str s!"" 242)] 1,#[]⟩
noncomputable def iI:Obj:=⟨(.type S4),none,.seq #[] 0,#[]⟩
noncomputable def jw:Obj:=⟨(.type S3),none,.dict #[aD P s!"name" 208 (.str s!"_sre" 207),aD P s!"loader" 209 (.ref 14),aD P s!"origin" 210 (.str s!"built-in" 184),aD P s!"loader_state" 211 .none,aD P s!"submodule_search_locations" 212 .none,aD P s!"_uninitialized_submodules" 213 (.ref 19),aD P s!"_set_fileattr" 214 (.bool false),aD P s!"_cached" 215 .none,aD P s!"_initializing" 243 (.bool false)] 9,#[]⟩
noncomputable def iJ:Obj:=⟨(.type S3),none,.dict #[aD P s!"__module__" 227 (.str s!"_frozen_importlib" 217),aD P s!"__firstlineno__" 228 (.int 562 218),aD P s!"__doc__" 229 (.builtin "_frozen_importlib.ModuleSpec.__doc__:str#opaque"),aD P s!"__init__" 230 (.builtin "_frozen_importlib.ModuleSpec.__init__#opaque"),aD P s!"__repr__" 231 (.builtin "_frozen_importlib.ModuleSpec.__repr__#opaque"),aD P s!"__eq__" 232 (.builtin "_frozen_importlib.ModuleSpec.__eq__#opaque"),aD P s!"cached" 233 (.builtin "_frozen_importlib.ModuleSpec.cached#opaque"),aD P s!"parent" 234 (.builtin "_frozen_importlib.ModuleSpec.parent#opaque"),aD P s!"has_location" 235 (.builtin "_frozen_importlib.ModuleSpec.has_location#opaque"),aD P s!"__static_attributes__" 236 (.ref 23),aD P s!"__dict__" 238 (.ref 24),aD P s!"__weakref__" 240 (.ref 25),aD P s!"__hash__" 241 .none] 13,#[]⟩
noncomputable def iK:Obj:=⟨(.type S7),none,.cls ⟨s!"ModuleSpec",[(.type S5)],[(.ref 22),(.type S5)],21,s!"ModuleSpec",true,[],[],false,none,false⟩,#[]⟩
noncomputable def iL:Obj:=⟨(.type S1),none,.seq #[(.str s!"_cached" 219),(.str s!"_set_fileattr" 220),(.str s!"_uninitialized_submodules" 221),(.str s!"loader" 222),(.str s!"loader_state" 223),(.str s!"name" 224),(.str s!"origin" 225),(.str s!"submodule_search_locations" 226)] 0,#[]⟩
noncomputable def iM:Obj:=⟨(.type S6),none,.fields #[(.str s!"__dict__" 237),(.ref 22),(.builtin akS),(.builtin akE)],#[]⟩
noncomputable def iN:Obj:=⟨(.type S6),none,.fields #[(.str s!"__weakref__" 239),(.ref 22),(.builtin akG),.none],#[]⟩
noncomputable def iO:Obj:=⟨(.ref 22),(some 20),.plain,#[]⟩
noncomputable def iP:Obj:=⟨.none,none,.seq #[(.int 11 0),(.str ⟨#[6,247,8,95,95,110,97,109,101,95,95,6,246,4,95,115,114,101,6,248,7,95,95,100,111,99,95,95,0,6,250,11,95,95,112,97,99,107,97,103,101,95,95,6,249,0,6,251,10,95,95,108,111,97,100,101,114,95,95,4,0,0,14,6,252,8,95,95,115,112,101,99,95,95,4,0,0,26,6,253,7,99,111,109,112,105,108,101,9,12,95,115,114,101,46,99,111,109,112,105,108,101,6,254,8,116,101,109,112,108,97,116,101,9,13,95,115,114,101,46,116,101,109,112,108,97,116,101,6,255,11,103,101,116,99,111,100,101,115,105,122,101,9,16,95,115,114,101,46,103,101,116,99,111,100,101,115,105,122,101,6,256,13,97,115,99,105,105,95,105,115,99,97,115,101,100,9,18,95,115,114,101,46,97,115,99,105,105,95,105,115,99,97,115,101,100,6,257,15,117,110,105,99,111,100,101,95,105,115,99,97,115,101,100,9,20,95,115,114,101,46,117,110,105,99,111,100,101,95,105,115,99,97,115,101,100,6,258,13,97,115,99,105,105,95,116,111,108,111,119,101,114,9,18,95,115,114,101,46,97,115,99,105,105,95,116,111,108,111,119,101,114,6,259,15,117,110,105,99,111,100,101,95,116,111,108,111,119,101,114,9,20,95,115,114,101,46,117,110,105,99,111,100,101,95,116,111,108,111,119,101,114,6,261,5,77,65,71,73,67,4,260,0,20230612,6,263,8,67,79,68,69,83,73,90,69,4,262,0,4,6,265,9,77,65,88,82,69,80,69,65,84,4,264,0,4294967295,6,267,9,77,65,88,71,82,79,85,80,83,4,266,0,1073741823,6,269,9,99,111,112,121,114,105,103,104,116,6,268,53,32,83,82,69,32,50,46,50,46,50,32,67,111,112,121,114,105,103,104,116,32,40,99,41,32,49,57,57,55,45,50,48,48,50,32,98,121,32,83,101,99,114,101,116,32,76,97,98,115,32,65,66,32]⟩ 0),(.bool true),(.bool false),(.str s!"_sre" 271)] 0,#[]⟩
noncomputable def Uk(p:aaq)(P:abe):List Obj:=[(kd P),(kf P),(kg P),(Ru P),kh,kj,cZ,ag,az,ml,iB,(iC P),jv,(iD P),iE,ag]
noncomputable def Ul(p:aaq)(P:abe):List Obj:=[iF,iG,iH,iI,(jw P),(iJ P),iK,iL,iM,iN,iO,iP]
noncomputable def xT(p:aaq)(P:abe):ac2:=⟨(Uk p P++(Ul p P)).toArray,{}⟩
noncomputable def hdOpL(p:aaq):acb->Option (ac2×Array ain×Drawn×Nat):=λ w=>(fencedOpening adi p w 20000).map (λ s=>(s.heap,s.gens,s.drawn,s.toks))
noncomputable def Rv(p:aaq):acb->Option (ac2×Array ain×Drawn×Nat):=λ w=>some (xT p w.params,#[],{},276)
lay_quick Mine.hdOpL
theorem I4:hdOpL pw=Rv pw:=(congrFun PySem.W.Fast.te1292643952995006600 pw).trans (by kernel_rfl:PySem.W.Fast.tw1292643952995006600 pw=Rv pw)
noncomputable def jx:Obj:=⟨(.type S0),none,.fields #[(.str s!"<module>" 277),(.str s!"<module>" 278),(.str s!"/claim/cut.py" 279),(.int 1 0),(.int 0 0),(.int 0 0),(.int 0 0),(.int 0 0),(.ref 28),(.bool false),(.int 276 0),(.ref 29),.none,.none,.none,.none,(.int 280 0),(.int 1 0),(.str s!"/claim/cut.py" 281)],#[]⟩
noncomputable def jy:Obj:=⟨(.type alj),none,.plain,#[(some (.ref 30)),(some (.ref 3)),(some (.ref 3)),none,(some (.str s!"__main__" 164)),none,(some (.ref 0))]⟩
noncomputable def N4(p:aaq)(P:abe):BT:=(Bn (kd P) (Bn (kf P) (Bn (Ru P) (Bn ag (Bn ag (Bl jy) Bz) (Bl iL)) (Bn (iC P) (Bl iI) (Bl iP))) (Bn kj (Bn ml (Bl iG) (Bl iN)) (Bn (iD P) (Bl (iJ P)) (Bl az)))) (Bn (kg P) (Bn kh (Bn az (Bl iF) (Bl iM)) (Bn jv (Bl (jw P)) (Bl ag))) (Bn cZ (Bn iB (Bl iH) (Bl iO)) (Bn iE (Bl iK) (Bl jx)))))
noncomputable def hdPreL(p:aaq):acb->ads->Option (aav×Thread):=λ w os=>topGo adi p w 28 (some (.ref 6)) 12 ⟨xT p w.params,#[],{},276,os⟩ (topStub p)
noncomputable def hdPreR(p:aaq):acb->ads->Option (aav×Thread):=λ w os=>some ((uj (N4 p) 32 282 w os).abs,⟨denote adi (wP p),wP p,⟨0,0,0,0⟩,[topFrame ⟨0,0,0,0⟩]⟩)
noncomputable def hdBlL(p:aaq):acb->ads->Option (agT×afb×ag3×Pos):=λ w os=>aiC adi p w 28 (some (.ref 6)) 1 1 (uj (N4 p) 32 282 w os) (blockOf (ail p) (hO p) (wP p) ⟨0,0,0,0⟩ [topFrame ⟨0,0,0,0⟩])
noncomputable def Rw(p:aaq):acb->ads->Option (agT×afb×ag3×Pos):=λ w os=>some (.next,uj (N4 p) 32 282 w os,wP p,⟨0,0,0,0⟩)
lay_quick Mine.hdPreL Mine.hdPreR
theorem Gz:hdPreL pw=hdPreR pw:=(congrFun PySem.W.Fast.te10816528021983977515 pw).trans ((by kernel_rfl:PySem.W.Fast.tw10816528021983977515 pw=PySem.W.Fast.tw9769991400785242272 pw).trans (congrFun PySem.W.Fast.te9769991400785242272 pw).symm)
lay_quick Mine.hdBlL
theorem I5:hdBlL pw=Rw pw:=(congrFun PySem.W.Fast.te9774779159105393017 pw).trans (by kernel_rfl:PySem.W.Fast.tw9774779159105393017 pw=Rw pw)
noncomputable def Yz:Obj:=⟨(.type S3),none,.dict (aD P s!"__name__" 165 (.str s!"cpy313._pylong" 293)::(Ag P).take 15).toArray 16,#[]⟩
noncomputable def Um:Obj:=⟨.none,none,.fields #[(.int 3 0),(.int 0 0),(.ref 37),(.int 13 0),(.int 0 0),(.ref 44),(.int 29 0),(.int 0 0),(.ref 51),(.int 39 0),(.int 0 0),(.ref 58),(.int 55 0),(.int 0 0),(.ref 65)],#[]⟩
noncomputable def kl:Obj:=⟨(.type S1),none,.seq #[(.str s!"iterator" 287),(.str s!"b" 288),(.str s!"val" 289)] 0,#[]⟩
noncomputable def mK:Obj:=gX p 2 .none 0 .none .none s!"_parse_varint"
noncomputable def km:Obj:=gC (.type S0) s!"_parse_varint" 284 285 286 3 1 32 33 (.ref 34) (.ref 35) (.ref 36) 290 291
noncomputable def kq:Obj:=gX p 2 (.type S2) 3 (.str s!"cpy313.dis" 282) (.ref 37) s!"_parse_varint"
noncomputable def kr:Obj:=⟨(.type S1),none,.seq #[(.str s!"a" 300),(.str s!"b" 301),(.str s!"n" 302),(.str s!"pad" 303),(.str s!"half_n" 304),(.str s!"mask" 305),(.str s!"b1" 306),(.str s!"b2" 307),(.str s!"q1" 308),(.str s!"r" 309),(.str s!"q2" 310)] 0,#[]⟩
noncomputable def kt:Obj:=gX p 5 .none 0 .none .none s!"_div2n1n"
noncomputable def mM:Obj:=gC (.type S0) s!"_div2n1n" 297 298 299 13 3 39 40 (.ref 41) (.ref 42) (.ref 43) 311 312
noncomputable def ku:Obj:=gX p 5 (.type S2) 3 (.str s!"cpy313._pylong" 293) (.ref 44) s!"_div2n1n"
noncomputable def ky:Obj:=⟨(.type S1),none,.seq #[(.str s!"a12" 317),(.str s!"a3" 318),(.str s!"b" 319),(.str s!"b1" 320),(.str s!"b2" 321),(.str s!"n" 322),(.str s!"q" 323),(.str s!"r" 324)] 0,#[]⟩
noncomputable def kA:Obj:=gX p 6 .none 0 .none .none s!"_div3n2n"
noncomputable def kC:Obj:=gC (.type S0) s!"_div3n2n" 314 315 316 29 6 46 47 (.ref 48) (.ref 49) (.ref 50) 325 326
noncomputable def mN:Obj:=gX p 6 (.type S2) 3 (.str s!"cpy313._pylong" 293) (.ref 51) s!"_div3n2n"
noncomputable def kD:Obj:=⟨(.type S1),none,.seq #[(.str s!"a" 331),(.str s!"n" 332)] 0,#[]⟩
noncomputable def kE:Obj:=⟨(.type S1),none,.seq #[(.str s!"n" 333),(.str s!"a_digits" 334),(.str s!"inner" 335)] 0,#[]⟩
noncomputable def kF:Obj:=gX p 7 .none 0 .none .none s!"_int2digits"
noncomputable def kG:Obj:=gC (.type S0) s!"_int2digits" 328 329 330 39 2 53 54 (.ref 55) (.ref 56) (.ref 57) 336 337
noncomputable def kH:Obj:=gX p 7 (.type S2) 3 (.str s!"cpy313._pylong" 293) (.ref 58) s!"_int2digits"
noncomputable def kI:Obj:=⟨(.type S1),none,.seq #[(.str s!"digits" 342),(.str s!"n" 343)] 0,#[]⟩
noncomputable def kJ:Obj:=⟨(.type S1),none,.seq #[(.str s!"digits" 344),(.str s!"n" 345),(.str s!"inner" 346)] 0,#[]⟩
noncomputable def kK:Obj:=gX p 8 .none 0 .none .none s!"_digits2int"
noncomputable def kL:Obj:=gC (.type S0) s!"_digits2int" 339 340 341 55 2 60 61 (.ref 62) (.ref 63) (.ref 64) 347 348
noncomputable def kM:Obj:=gX p 8 (.type S2) 3 (.str s!"cpy313._pylong" 293) (.ref 65) s!"_digits2int"
noncomputable def adF:BT:=(Bn ag (Bn ag (Bn jy (Bl kJ) Bz) (Bl az)) (Bn iL (Bl ag) (Bl kD)))
noncomputable def adG:BT:=(Bn (iC P) (Bn iI (Bl ag) (Bl kC)) (Bn iP (Bl (kt p)) (Bl (kH p))))
noncomputable def adH:BT:=(Bn ml (Bn iG (Bn az (Bl kL) Bz) (Bl ag)) (Bn iN (Bl kr) (Bl (kF p))))
noncomputable def adI:BT:=(Bn (iD P) (Bn (iJ P) (Bl km) (Bl ag)) (Bn Um (Bl (ku p)) (Bl az)))
noncomputable def adJ:BT:=(Bn az (Bn iF (Bn ag (Bl (kK p)) Bz) (Bl ky)) (Bn iM (Bl az) (Bl kE)))
noncomputable def adK:BT:=(Bn jv (Bn (jw P) (Bl (mK p)) (Bl (mN p))) (Bn ag (Bl mM) (Bl ag)))
noncomputable def adL:BT:=(Bn iB (Bn iH (Bn kl (Bl (kM p)) Bz) (Bl (kA p))) (Bn iO (Bl ag) (Bl kG)))
noncomputable def adM:BT:=(Bn iE (Bn iK (Bl (kq p)) (Bl az)) (Bn jx (Bl ag) (Bl kI)))
noncomputable def YB(p:aaq)(P:abe):BT:=(Bn (kd P) (Bn (kf P) (Bn (Yz P) adF (adG p P)) (Bn kj (adH p) (adI p P))) (Bn (kg P) (Bn kh (adJ p) (adK p P)) (Bn cZ (adL p) (adM p))))
noncomputable def hdL0(p:aaq):acb->ads->Option (agT×afb×ag3×Pos):=λ w os=>aiC adi p w 28 (some (.ref 6)) 1 200 (uj (N4 p) 32 282 w os) (ajv (iZ p 0 8) (hO p) (wP p) ⟨0,0,0,0⟩ [topFrame ⟨0,0,0,0⟩])
noncomputable def YC(p:aaq):acb->ads->Option (agT×afb×ag3×Pos):=λ w os=>some (.next,uj (YB p) 67 350 w os,wP p,⟨55,0,63,49⟩)
lay_quick Mine.hdL0
theorem N5:hdL0 pw=YC pw:=(congrFun PySem.W.Fast.te17180572435818389453 pw).trans (by kernel_rfl:PySem.W.Fast.tw17180572435818389453 pw=YC pw)
noncomputable def YD:Obj:=⟨(.type S3),none,.dict (aD P s!"__name__" 165 (.str s!"cpy313.stringprep" 444)::(Ag P).take 21).toArray 22,#[]⟩
noncomputable def I6:Obj:=⟨.none,none,.fields #[(.int 3 0),(.int 0 0),(.ref 37),(.int 13 0),(.int 0 0),(.ref 44),(.int 29 0),(.int 0 0),(.ref 51),(.int 39 0),(.int 0 0),(.ref 58),(.int 55 0),(.int 0 0),(.ref 65),(.int 64 0),(.int 0 0),(.ref 72),(.int 75 0),(.int 0 0),(.ref 79),(.int 90 0),(.int 0 0),(.ref 96)],#[]⟩
noncomputable def mO:Obj:=⟨(.type S1),none,.seq #[(.str s!"a" 353),(.str s!"b" 354),(.str s!"n" 355),(.str s!"a_digits" 356),(.str s!"r" 357),(.str s!"q_digits" 358),(.str s!"a_digit" 359),(.str s!"q_digit" 360),(.str s!"q" 361)] 0,#[]⟩
noncomputable def mP:Obj:=gX p 9 .none 0 .none .none s!"_divmod_pos"
noncomputable def mQ:Obj:=gC (.type S0) s!"_divmod_pos" 350 351 352 64 2 67 68 (.ref 69) (.ref 70) (.ref 71) 362 363
noncomputable def mR:Obj:=gX p 9 (.type S2) 3 (.str s!"cpy313._pylong" 293) (.ref 72) s!"_divmod_pos"
noncomputable def oY:Obj:=⟨(.type S1),none,.seq #[(.str s!"a" 368),(.str s!"b" 369),(.str s!"q" 370),(.str s!"r" 371)] 0,#[]⟩
noncomputable def mS:Obj:=gX p 10 .none 0 .none .none s!"int_divmod"
noncomputable def mU:Obj:=gC (.type S0) s!"int_divmod" 365 366 367 75 2 74 75 (.ref 76) (.ref 77) (.ref 78) 372 373
noncomputable def mV:Obj:=gX p 10 (.type S2) 3 (.str s!"cpy313._pylong" 293) (.ref 79) s!"int_divmod"
noncomputable def mW:Obj:=⟨(.type S4),none,.seq #[(.int 14 380),(.int 4 381),(.int 0 382),(.int 1 383),(.int 1 384),(.int 6 385),(.int 1 386),(.int 16 387),(.int 46 388),(.int 1 389)] 0,#[]⟩
noncomputable def eC:Obj:=⟨(.type S1),none,.seq #[.none] 0,#[]⟩
noncomputable def oZ:Obj:=⟨(.type S1),none,.seq #[(.int 14 0),(.int 4 0),(.int 0 0),(.int 1 0),(.int 1 0),(.int 6 0),(.int 1 0),(.int 16 0),(.int 46 0),(.int 1 0)] 0,#[]⟩
noncomputable def mX:Obj:=⟨(.type akF),none,.fields #[(.str ⟨#[40,63,109,41,94,92,46]⟩ 378),(.int 40 391),(.int 0 0),.none,.none,(.ref 84),(.int 0 0)],#[]⟩
noncomputable def mY:Obj:=⟨(.type S4),none,.seq #[(.int 14 396),(.int 9 397),(.int 4 398),(.int 1 399),(.int 2 400),(.int 16 401),(.int 10 402),(.int 16 403),(.int 13 404),(.int 0 405),(.int 7 406),(.int 7 407),(.int 16 408),(.int 13 409),(.int 16 410),(.int 10 411),(.int 15 412),(.int 18 413),(.int 5 414),(.int 16 415),(.int 10 416),(.int 15 417),(.int 13 418),(.int 11 419),(.int 16 420),(.int 13 421),(.int 5 422),(.int 5 423),(.int 0 424),(.int 16 425),(.int 10 426),(.int 1 427),(.int 15 428),(.int 2 429),(.int 0 430),(.int 1 431)] 0,#[]⟩
noncomputable def mZ:Obj:=⟨(.type S1),none,.seq #[(.int 14 0),(.int 9 0),(.int 4 0),(.int 1 0),(.int 2 0),(.int 16 0),(.int 10 0),(.int 16 0),(.int 13 0),(.int 0 0),(.int 7 0),(.int 7 0),(.int 16 0),(.int 13 0),(.int 16 0),(.int 10 0),(.int 15 0),(.int 18 0),(.int 5 0),(.int 16 0),(.int 10 0),(.int 15 0),(.int 13 0),(.int 11 0),(.int 16 0),(.int 13 0),(.int 5 0),(.int 5 0),(.int 0 0),(.int 16 0),(.int 10 0),(.int 1 0),(.int 15 0),(.int 2 0),(.int 0 0),(.int 1 0)] 0,#[]⟩
noncomputable def m7:Obj:=⟨(.type akF),none,.fields #[(.str s!"(?:\\r\\n|\\n|\\r(?!\\n))" 394),(.int 32 433),(.int 0 0),.none,.none,(.ref 89),(.int 0 0)],#[]⟩
noncomputable def m8:Obj:=⟨(.type S1),none,.seq #[(.str s!"data" 440)] 0,#[]⟩
noncomputable def m9:Obj:=gX p 15 .none 0 .none .none s!"quotedata"
noncomputable def ng:Obj:=gC (.type S0) s!"quotedata" 437 438 439 90 1 91 92 (.ref 93) (.ref 94) (.ref 95) 441 442
noncomputable def nh:Obj:=gX p 15 (.type S2) 3 (.str s!"cpy313.smtplib" 375) (.ref 96) s!"quotedata"
noncomputable def adN:BT:=(Bn ag (Bn ag (Bn jy (Bl kJ) (Bl (m9 p))) (Bn az (Bl mU) Bz)) (Bn iL (Bn ag (Bl (mP p)) Bz) (Bn kD (Bl cZ) Bz)))
noncomputable def adO:BT:=(Bn (iC P) (Bn iI (Bn ag (Bl ag) Bz) (Bn kC (Bl eC) Bz)) (Bn iP (Bn (kt p) (Bl az) Bz) (Bn (kH p) (Bl ag) Bz)))
noncomputable def YF:BT:=(Bn ml (Bn iG (Bn az (Bl kL) (Bl (nh p))) (Bn ag (Bl mW) Bz)) (Bn iN (Bn kr (Bl (mR p)) Bz) (Bn (kF p) (Bl mZ) Bz)))
noncomputable def YG:BT:=(Bn (iD P) (Bn (iJ P) (Bn km (Bl mO) Bz) (Bn ag (Bl mX) Bz)) (Bn I6 (Bn (ku p) (Bl ag) Bz) (Bn az (Bl m8) Bz)))
noncomputable def YH:BT:=(Bn az (Bn iF (Bn ag (Bl (kK p)) (Bl ng)) (Bn ky (Bl (mV p)) Bz)) (Bn iM (Bn az (Bl mQ) Bz) (Bn kE (Bl eC) Bz)))
noncomputable def YJ:BT:=(Bn jv (Bn (jw P) (Bn (mK p) (Bl az) Bz) (Bn (mN p) (Bl oZ) Bz)) (Bn ag (Bn mM (Bl oY) Bz) (Bn ag (Bl az) Bz)))
noncomputable def YK:BT:=(Bn iB (Bn iH (Bn kl (Bl (kM p)) Bz) (Bn (kA p) (Bl cZ) Bz)) (Bn iO (Bn ag (Bl ag) Bz) (Bn kG (Bl m7) Bz)))
noncomputable def YL:BT:=(Bn iE (Bn iK (Bn (kq p) (Bl ag) Bz) (Bn az (Bl mY) Bz)) (Bn jx (Bn ag (Bl (mS p)) Bz) (Bn kI (Bl ag) Bz)))
noncomputable def YM(p:aaq)(P:abe):BT:=(Bn (kd P) (Bn (kf P) (Bn (YD P) (adN p) (adO p P)) (Bn kj (YF p) (YG p P))) (Bn (kg P) (Bn kh (YH p) (YJ p P)) (Bn cZ (YK p) (YL p))))
noncomputable def hdL1(p:aaq):acb->ads->Option (agT×afb×ag3×Pos):=λ w os=>aiC adi p w 28 (some (.ref 6)) 1 270 (uj (YB p) 67 350 w os) (ajv (iZ p 8 16) (hO p) (wP p) ⟨55,0,63,49⟩ [topFrame ⟨0,0,0,0⟩])
noncomputable def YN(p:aaq):acb->ads->Option (agT×afb×ag3×Pos):=λ w os=>some (.next,uj (YM p) 98 446 w os,wP p,⟨92,0,92,8⟩)
lay_quick Mine.hdL1
theorem N6:hdL1 pw=YN pw:=(congrFun PySem.W.Fast.te7778752961418837050 pw).trans (by kernel_rfl:PySem.W.Fast.tw7778752961418837050 pw=YN pw)
noncomputable def YQ:Obj:=⟨(.type S3),none,.dict (aD P s!"__name__" 165 (.str s!"cpy313.stringprep" 444)::(Ag P).take 22).toArray 23,#[]⟩
noncomputable def o0:Obj:=⟨(.type S4),none,.seq #[(.int 173 446),(.int 847 447),(.int 6150 448),(.int 6155 449),(.int 6156 450),(.int 6157 451),(.int 8203 452),(.int 8204 453),(.int 8205 454),(.int 8288 455),(.int 65279 456)] 0,#[]⟩
noncomputable def o3:Obj:=⟨(.type alc),none,.fields #[(.int 65024 457),(.int 65040 458),(.int 1 459)],#[]⟩
noncomputable def nI:Obj:=⟨(.type S4),none,.seq #[(.int 65024 462),(.int 65025 463),(.int 65026 464),(.int 65027 465),(.int 65028 466),(.int 65029 467),(.int 65030 468),(.int 65031 469),(.int 65032 470),(.int 65033 471),(.int 65034 472),(.int 65035 473),(.int 65036 474),(.int 65037 475),(.int 65038 476),(.int 65039 477)] 18,#[]⟩
noncomputable def lC:Obj:=⟨(.type s15992201931430999065x14),none,.fields #[(.int 65040 0),(.int 0 0),(.int 1 0)],#[]⟩
noncomputable def lD:Obj:=⟨(.type S9),none,.fields #[(.ref 102),.none,.none,.none,(.bool false),.none],#[]⟩
noncomputable def lE:Obj:=⟨(.type S4),none,.seq #[(.int 173 446),(.int 847 447),(.int 6150 448),(.int 6155 449),(.int 6156 450),(.int 6157 451),(.int 8203 452),(.int 8204 453),(.int 8205 454),(.int 8288 455),(.int 65279 456),(.int 65024 462),(.int 65025 463),(.int 65026 464),(.int 65027 465),(.int 65028 466),(.int 65029 467),(.int 65030 468),(.int 65031 469),(.int 65032 470),(.int 65033 471),(.int 65034 472),(.int 65035 473),(.int 65036 474),(.int 65037 475),(.int 65038 476),(.int 65039 477)] 0,#[]⟩
noncomputable def lF:Obj:=⟨(.type alb),none,.set #[(65024,(.int 65024 462)),(65025,(.int 65025 463)),(65026,(.int 65026 464)),(65027,(.int 65027 465)),(65028,(.int 65028 466)),(65029,(.int 65029 467)),(6150,(.int 6150 448)),(65030,(.int 65030 468)),(65031,(.int 65031 469)),(65032,(.int 65032 470)),(65033,(.int 65033 471)),(6155,(.int 6155 449)),(6156,(.int 6156 450)),(6157,(.int 6157 451)),(8203,(.int 8203 452)),(8204,(.int 8204 453)),(8205,(.int 8205 454)),(65034,(.int 65034 472)),(65035,(.int 65035 473)),(65036,(.int 65036 474)),(65037,(.int 65037 475)),(65038,(.int 65038 476)),(65039,(.int 65039 477)),(173,(.int 173 446)),(847,(.int 847 447)),(8288,(.int 8288 455)),(65279,(.int 65279 456))] 29 ⟨127,#[0,1,2,3,4,5,6,7,8,9,10,11,12,13,14,15,16,17,18,19,20,21,22,45,79,96,127],#[],0,!(P.followText "set-order"),2,true⟩,#[]⟩
noncomputable def lG:Obj:=⟨(.type s3492446563574874994x13),none,.fields #[.none,(.int 27 0)],#[]⟩
noncomputable def nJ:Obj:=⟨(.type S9),none,.fields #[(.ref 107),.none,.none,.none,(.bool false),.none],#[]⟩
noncomputable def YR:BT:=(Bn ag (Bn ag (Bn jy (Bl kJ) (Bl (m9 p))) (Bn az (Bl mU) Bz)) (Bn iL (Bn ag (Bl (mP p)) (Bl lD)) (Bn kD (Bl cZ) Bz)))
noncomputable def YS:BT:=(Bn (iC P) (Bn iI (Bn ag (Bl ag) (Bl o3)) (Bn kC (Bl eC) Bz)) (Bn iP (Bn (kt p) (Bl az) (Bl ag)) (Bn (kH p) (Bl ag) Bz)))
noncomputable def YT:BT:=(Bn ml (Bn iG (Bn az (Bl kL) (Bl (nh p))) (Bn ag (Bl mW) Bz)) (Bn iN (Bn kr (Bl (mR p)) (Bl (lF P))) (Bn (kF p) (Bl mZ) Bz)))
noncomputable def YV:BT:=(Bn (iD P) (Bn (iJ P) (Bn km (Bl mO) (Bl lC)) (Bn ag (Bl mX) Bz)) (Bn I6 (Bn (ku p) (Bl ag) Bz) (Bn az (Bl m8) Bz)))
noncomputable def YW:BT:=(Bn az (Bn iF (Bn ag (Bl (kK p)) (Bl ng)) (Bn ky (Bl (mV p)) Bz)) (Bn iM (Bn az (Bl mQ) (Bl lE)) (Bn kE (Bl eC) Bz)))
noncomputable def Rx:BT:=(Bn jv (Bn (jw P) (Bn (mK p) (Bl az) (Bl nI)) (Bn (mN p) (Bl oZ) Bz)) (Bn ag (Bn mM (Bl oY) (Bl nJ)) (Bn ag (Bl az) Bz)))
noncomputable def YX:BT:=(Bn iB (Bn iH (Bn kl (Bl (kM p)) (Bl o0)) (Bn (kA p) (Bl cZ) Bz)) (Bn iO (Bn ag (Bl ag) (Bl lG)) (Bn kG (Bl m7) Bz)))
noncomputable def YY:BT:=(Bn iE (Bn iK (Bn (kq p) (Bl ag) (Bl ag)) (Bn az (Bl mY) Bz)) (Bn jx (Bn ag (Bl (mS p)) Bz) (Bn kI (Bl ag) Bz)))
noncomputable def YZ(p:aaq)(P:abe):BT:=(Bn (kd P) (Bn (kf P) (Bn (YQ P) (YR p) (YS p P)) (Bn kj (YT p P) (YV p P))) (Bn (kg P) (Bn kh (YW p) (Rx p P)) (Bn cZ (YX p) (YY p))))
noncomputable def Ah(p:aaq):acb->ads->Option (agT×afb×ag3×Pos):=λ w os=>aiC adi p w 28 (some (.ref 6)) 1 999 (uj (YM p) 98 446 w os) (ajv (iZ p 16 17) (hO p) (wP p) ⟨92,0,92,8⟩ [topFrame ⟨0,0,0,0⟩])
noncomputable def Ai(p:aaq):acb->ads->Option (agT×afb×ag3×Pos):=λ w os=>some (.next,uj (YZ p) 109 506 w os,wP p,⟨93,0,93,6⟩)
noncomputable def hdL2ff(p:aaq):acb->ads->Option (agT×afb×ag3×Pos):=λ w os=>Ah p ((w.withFollow "set-order" false).withFollow "special-get-raises" false) os
noncomputable def I7(p:aaq):acb->ads->Option (agT×afb×ag3×Pos):=λ w os=>Ai p ((w.withFollow "set-order" false).withFollow "special-get-raises" false) os
lay_quick Mine.hdL2ff
theorem GA:hdL2ff pw=I7 pw:=(congrFun PySem.W.Fast.te8590688208369114280 pw).trans (by kernel_rfl:PySem.W.Fast.tw8590688208369114280 pw=I7 pw)
noncomputable def hdL2ft(p:aaq):acb->ads->Option (agT×afb×ag3×Pos):=λ w os=>Ah p ((w.withFollow "set-order" false).withFollow "special-get-raises" true) os
noncomputable def I8(p:aaq):acb->ads->Option (agT×afb×ag3×Pos):=λ w os=>Ai p ((w.withFollow "set-order" false).withFollow "special-get-raises" true) os
lay_quick Mine.hdL2ft
theorem GB:hdL2ft pw=I8 pw:=(congrFun PySem.W.Fast.te10506078887560020878 pw).trans (by kernel_rfl:PySem.W.Fast.tw10506078887560020878 pw=I8 pw)
noncomputable def hdL2tf(p:aaq):acb->ads->Option (agT×afb×ag3×Pos):=λ w os=>Ah p ((w.withFollow "set-order" true).withFollow "special-get-raises" false) os
noncomputable def I9(p:aaq):acb->ads->Option (agT×afb×ag3×Pos):=λ w os=>Ai p ((w.withFollow "set-order" true).withFollow "special-get-raises" false) os
lay_quick Mine.hdL2tf
theorem GC:hdL2tf pw=I9 pw:=(congrFun PySem.W.Fast.te4225536076644256321 pw).trans (by kernel_rfl:PySem.W.Fast.tw4225536076644256321 pw=I9 pw)
noncomputable def hdL2tt(p:aaq):acb->ads->Option (agT×afb×ag3×Pos):=λ w os=>Ah p ((w.withFollow "set-order" true).withFollow "special-get-raises" true) os
noncomputable def Ja(p:aaq):acb->ads->Option (agT×afb×ag3×Pos):=λ w os=>Ai p ((w.withFollow "set-order" true).withFollow "special-get-raises" true) os
lay_quick Mine.hdL2tt
theorem GD:hdL2tt pw=Ja pw:=(congrFun PySem.W.Fast.te5924270282599226174 pw).trans (by kernel_rfl:PySem.W.Fast.tw5924270282599226174 pw=Ja pw)
noncomputable def Ry:Obj:=⟨(.type S3),none,.dict (aD P s!"__name__" 165 (.str s!"cpy313.stringprep" 444)::(Ag P).take 23).toArray 24,#[]⟩
noncomputable def Jb:Obj:=⟨.none,none,.fields #[(.int 3 0),(.int 0 0),(.ref 37),(.int 13 0),(.int 0 0),(.ref 44),(.int 29 0),(.int 0 0),(.ref 51),(.int 39 0),(.int 0 0),(.ref 58),(.int 55 0),(.int 0 0),(.ref 65),(.int 64 0),(.int 0 0),(.ref 72),(.int 75 0),(.int 0 0),(.ref 79),(.int 90 0),(.int 0 0),(.ref 96),(.int 94 0),(.int 0 0),(.ref 114)],#[]⟩
noncomputable def nK:Obj:=⟨(.type S1),none,.seq #[(.str s!"code" 509)] 0,#[]⟩
noncomputable def nL:Obj:=gX p 18 .none 0 .none .none s!"in_table_b1"
noncomputable def nM:Obj:=gC (.type S0) s!"in_table_b1" 506 507 508 94 1 109 110 (.ref 111) (.ref 112) (.ref 113) 510 511
noncomputable def nN:Obj:=gX p 18 (.type S2) 3 (.str s!"cpy313.stringprep" 444) (.ref 114) s!"in_table_b1"
noncomputable def Y0:BT:=(Bn ag (Bn ag (Bn jy (Bl kJ) (Bl (m9 p))) (Bn az (Bl mU) (Bl nK))) (Bn iL (Bn ag (Bl (mP p)) (Bl lD)) (Bn kD (Bl cZ) Bz)))
noncomputable def Y1:BT:=(Bn (iC P) (Bn iI (Bn ag (Bl ag) (Bl o3)) (Bn kC (Bl eC) (Bl (nN p)))) (Bn iP (Bn (kt p) (Bl az) (Bl ag)) (Bn (kH p) (Bl ag) Bz)))
noncomputable def Y2:BT:=(Bn ml (Bn iG (Bn az (Bl kL) (Bl (nh p))) (Bn ag (Bl mW) (Bl (nL p)))) (Bn iN (Bn kr (Bl (mR p)) (Bl (lF P))) (Bn (kF p) (Bl mZ) Bz)))
noncomputable def Y3:BT:=(Bn (iD P) (Bn (iJ P) (Bn km (Bl mO) (Bl lC)) (Bn ag (Bl mX) Bz)) (Bn Jb (Bn (ku p) (Bl ag) (Bl ag)) (Bn az (Bl m8) Bz)))
noncomputable def Y4:BT:=(Bn az (Bn iF (Bn ag (Bl (kK p)) (Bl ng)) (Bn ky (Bl (mV p)) (Bl ag))) (Bn iM (Bn az (Bl mQ) (Bl lE)) (Bn kE (Bl eC) Bz)))
noncomputable def Y5:BT:=(Bn iB (Bn iH (Bn kl (Bl (kM p)) (Bl o0)) (Bn (kA p) (Bl cZ) (Bl nM))) (Bn iO (Bn ag (Bl ag) (Bl lG)) (Bn kG (Bl m7) Bz)))
noncomputable def Y6:BT:=(Bn iE (Bn iK (Bn (kq p) (Bl ag) (Bl ag)) (Bn az (Bl mY) Bz)) (Bn jx (Bn ag (Bl (mS p)) (Bl az)) (Bn kI (Bl ag) Bz)))
noncomputable def xU(p:aaq)(P:abe):BT:=(Bn (kd P) (Bn (kf P) (Bn (Ry P) (Y0 p) (Y1 p P)) (Bn kj (Y2 p P) (Y3 p P))) (Bn (kg P) (Bn kh (Y4 p) (Rx p P)) (Bn cZ (Y5 p) (Y6 p))))
noncomputable def hdL3(p:aaq):acb->ads->Option (agT×afb×ag3×Pos):=λ w os=>aiC adi p w 28 (some (.ref 6)) 1 30 (uj (YZ p) 109 506 w os) (ajv (iZ p 17 18) (hO p) (wP p) ⟨93,0,93,6⟩ [topFrame ⟨0,0,0,0⟩])
noncomputable def Y7(p:aaq):acb->ads->Option (agT×afb×ag3×Pos):=λ w os=>some (.next,uj (xU p) 116 513 w os,wP p,⟨94,0,95,30⟩)
lay_quick Mine.hdL3
theorem N7:hdL3 pw=Y7 pw:=(congrFun PySem.W.Fast.te7933938711101779069 pw).trans (by kernel_rfl:PySem.W.Fast.tw7933938711101779069 pw=Y7 pw)
noncomputable def em(p:aaq):Str×Pos×List (Option acU)×List acU×Pos×Pos:=match p.main.body[19]? with | some (PySem.Stmt.Assign [.Name id p0] (PySem.Expr.Dict ks vs q) p1)=>(id,p0,ks,vs,q,p1) | _=>default
noncomputable def GF(p:aaq):List (Int×Str):=kvs (em p).2.2.1 (em p).2.2.2.1
noncomputable def cy(p:aaq)(j:Nat):List (Int×Str):=((GF p).drop (17 * j)).take 17
noncomputable def jz(p:aaq):List (List (Int×Str)):=[cy p 1,cy p 2,cy p 3,cy p 4,cy p 5,cy p 6,cy p 7,cy p 8,cy p 9,cy p 10,cy p 11,cy p 12,cy p 13,cy p 14,cy p 15,cy p 16,cy p 17,cy p 18,cy p 19,cy p 20,cy p 21,cy p 22,cy p 23,cy p 24,cy p 25,cy p 26,cy p 27,cy p 28,cy p 29,cy p 30,cy p 31,cy p 32,cy p 33,cy p 34,cy p 35,cy p 36,cy p 37]
noncomputable def eE(p:aaq):List (Int×Str):=(GF p).drop 646
noncomputable def jA:List aeS:=cO 513 (cy pw 0::jz pw)++eB (cu 513 (cy pw 0::jz pw)) (eE pw)
noncomputable def b3K(p:aaq)(d:abh):Sem agT:=do let sw ←ag8 [.Name (em p).1 (em p).2.1] (.Dict (em p).2.2.1 (em p).2.2.2.1 (em p).2.2.2.2.1) (hO p);assignStores (hO p) (.ref d) sw ((assignEach [.Name (em p).1 (em p).2.1] (hO p)).map (·.2))
noncomputable def ss:Obj:=aj (cO 513 (cy p 0::jz p)++eB (cu 513 (cy p 0::jz p)) (eE p))
noncomputable def su:Obj:=aj (aH 564 (cy p 1))
noncomputable def sv:Obj:=aj (aH 615 (cy p 2))
noncomputable def sy:Obj:=aj (aH 666 (cy p 3))
noncomputable def sz:Obj:=aj (aH 717 (cy p 4))
noncomputable def sA:Obj:=aj (aH 768 (cy p 5))
noncomputable def sB:Obj:=aj (aH 819 (cy p 6))
noncomputable def sC:Obj:=aj (aH 870 (cy p 7))
noncomputable def sD:Obj:=aj (aH 921 (cy p 8))
noncomputable def sE:Obj:=aj (aH 972 (cy p 9))
noncomputable def sF:Obj:=aj (aH 1023 (cy p 10))
noncomputable def sG:Obj:=aj (aH 1074 (cy p 11))
noncomputable def sH:Obj:=aj (aH 1125 (cy p 12))
noncomputable def sJ:Obj:=aj (aH 1176 (cy p 13))
noncomputable def sK:Obj:=aj (aH 1227 (cy p 14))
noncomputable def sL:Obj:=aj (aH 1278 (cy p 15))
noncomputable def sM:Obj:=aj (aH 1329 (cy p 16))
noncomputable def sO:Obj:=aj (aH 1380 (cy p 17))
noncomputable def sP:Obj:=aj (aH 1431 (cy p 18))
noncomputable def sQ:Obj:=aj (aH 1482 (cy p 19))
noncomputable def sR:Obj:=aj (aH 1533 (cy p 20))
noncomputable def sT:Obj:=aj (aH 1584 (cy p 21))
noncomputable def sU:Obj:=aj (aH 1635 (cy p 22))
noncomputable def sV:Obj:=aj (aH 1686 (cy p 23))
noncomputable def sW:Obj:=aj (aH 1737 (cy p 24))
noncomputable def sX:Obj:=aj (aH 1788 (cy p 25))
noncomputable def sY:Obj:=aj (aH 1839 (cy p 26))
noncomputable def sZ:Obj:=aj (aH 1890 (cy p 27))
noncomputable def s5:Obj:=aj (aH 1941 (cy p 28))
noncomputable def s6:Obj:=aj (aH 1992 (cy p 29))
noncomputable def s7:Obj:=aj (aH 2043 (cy p 30))
noncomputable def s8:Obj:=aj (aH 2094 (cy p 31))
noncomputable def s9:Obj:=aj (aH 2145 (cy p 32))
noncomputable def td:Obj:=aj (aH 2196 (cy p 33))
noncomputable def th:Obj:=aj (aH 2247 (cy p 34))
noncomputable def ti:Obj:=aj (aH 2298 (cy p 35))
noncomputable def tj:Obj:=aj (aH 2349 (cy p 36))
noncomputable def tm:Obj:=aj (aH 2400 (cy p 37))
noncomputable def tq:Obj:=aj (eB (cu 513 (cy p 0::jz p)) (eE p))
noncomputable def Rz:BT:=(Bn ag (Bn ag (Bn jy (Bn kJ (Bl (sG p)) Bz) (Bl (m9 p))) (Bn az (Bn mU (Bl (sZ p)) Bz) (Bl nK))) (Bn iL (Bn ag (Bn (mP p) (Bl (sQ p)) Bz) (Bl lD)) (Bn kD (Bn cZ (Bl (ti p)) Bz) (Bl (sy p)))))
noncomputable def RA:BT:=(Bn (iC P) (Bn iI (Bn ag (Bn ag (Bl (sL p)) Bz) (Bl o3)) (Bn kC (Bn eC (Bl (s8 p)) Bz) (Bl (nN p)))) (Bn iP (Bn (kt p) (Bn az (Bl (sV p)) Bz) (Bl ag)) (Bn (kH p) (Bl ag) (Bl (sC p)))))
noncomputable def RB:BT:=(Bn ml (Bn iG (Bn az (Bn kL (Bl (sJ p)) Bz) (Bl (nh p))) (Bn ag (Bn mW (Bl (s6 p)) Bz) (Bl (nL p)))) (Bn iN (Bn kr (Bn (mR p) (Bl (sT p)) Bz) (Bl (lF P))) (Bn (kF p) (Bn mZ (Bl (tm p)) Bz) (Bl (sA p)))))
noncomputable def RC:BT:=(Bn (iD P) (Bn (iJ P) (Bn km (Bn mO (Bl (sO p)) Bz) (Bl lC)) (Bn ag (Bn mX (Bl (td p)) Bz) (Bl (su p)))) (Bn Jb (Bn (ku p) (Bn ag (Bl (sX p)) Bz) (Bl ag)) (Bn az (Bl m8) (Bl (sE p)))))
noncomputable def RD:BT:=(Bn az (Bn iF (Bn ag (Bn (kK p) (Bl (sH p)) Bz) (Bl ng)) (Bn ky (Bn (mV p) (Bl (s5 p)) Bz) (Bl ag))) (Bn iM (Bn az (Bn mQ (Bl (sR p)) Bz) (Bl lE)) (Bn kE (Bn eC (Bl (tj p)) Bz) (Bl (sz p)))))
noncomputable def RE:BT:=(Bn jv (Bn (jw P) (Bn (mK p) (Bn az (Bl (sM p)) Bz) (Bl nI)) (Bn (mN p) (Bn oZ (Bl (s9 p)) Bz) (Bl (ss p)))) (Bn ag (Bn mM (Bn oY (Bl (sW p)) Bz) (Bl nJ)) (Bn ag (Bl az) (Bl (sD p)))))
noncomputable def RG:BT:=(Bn iB (Bn iH (Bn kl (Bn (kM p) (Bl (sK p)) Bz) (Bl o0)) (Bn (kA p) (Bn cZ (Bl (s7 p)) Bz) (Bl nM))) (Bn iO (Bn ag (Bn ag (Bl (sU p)) Bz) (Bl lG)) (Bn kG (Bn m7 (Bl (tq p)) Bz) (Bl (sB p)))))
noncomputable def RH:BT:=(Bn iE (Bn iK (Bn (kq p) (Bn ag (Bl (sP p)) Bz) (Bl ag)) (Bn az (Bn mY (Bl (th p)) Bz) (Bl (sv p)))) (Bn jx (Bn ag (Bn (mS p) (Bl (sY p)) Bz) (Bl az)) (Bn kI (Bl ag) (Bl (sF p)))))
noncomputable def Jc(p:aaq)(P:abe):BT:=(Bn (kd P) (Bn (kf P) (Bn (Ry P) (Rz p) (RA p P)) (Bn kj (RB p P) (RC p P))) (Bn (kg P) (Bn kh (RD p) (RE p P)) (Bn cZ (RG p) (RH p))))
noncomputable def Y8:Obj:=⟨(.type S3),none,.dict (aD P s!"__name__" 165 (.str s!"cpy313.stringprep" 444)::(Ag P).take 24).toArray 25,#[]⟩
noncomputable def Un(p:aaq)(P:abe):BT:=(Bn (kd P) (Bn (kf P) (Bn (Y8 P) (Rz p) (RA p P)) (Bn kj (RB p P) (RC p P))) (Bn (kg P) (Bn kh (RD p) (RE p P)) (Bn cZ (RG p) (RH p))))
noncomputable def b3L(p:aaq):acb->ads->Option (agT×afb×ag3×Pos):=λ w os=>aiC adi p w 28 (some (.ref 6)) 1 8 (uj (Jc p) 155 2463 w os) ⟨(b3K p 116).wrap (λ f=>.pure (.done (id f))) deadEnd id id,wP p,⟨96,16,96,8704⟩,[topFrame ⟨0,0,0,0⟩]⟩
noncomputable def b3R(p:aaq):acb->ads->Option (agT×afb×ag3×Pos):=λ w os=>some (.next,uj (Un p) 155 2464 w os,wP p,⟨96,0,96,13⟩)
lay_quick Mine.b3L
theorem Uo:b3L pw=b3R pw:=(congrFun PySem.W.Fast.te6597696587889134858 pw).trans (by kernel_rfl:PySem.W.Fast.tw6597696587889134858 pw=b3R pw)
theorem agh:iZ pw 18 19=[.Assign [.Name (em pw).1 (em pw).2.1] (.Dict (em pw).2.2.1 (em pw).2.2.2.1 (em pw).2.2.2.2.1) (em pw).2.2.2.2.2]:=∅
theorem RJ:(GF pw)=cy pw 0++(jz pw).flatten++(eE pw):=∅
theorem Y9:(em pw).2.2.2.2.1=⟨96,16,96,8704⟩:=∅
theorem Jd:uh (em pw).2.2.1 (em pw).2.2.2.1=true:=∅
theorem N8:(cy pw 0).length=17:=∅
theorem N9:((jz pw).all λ l=>l.length==17)=true:=∅
theorem EF:((eE pw).length==4)=true:=∅
theorem Je:lB ((GF pw).map (·.1))=true:=∅
theorem Jf:((GF pw).all λ x=>decide (0≤x.1)&&decide (x.1 < 2 ^ 60))=true:=∅
theorem Oa:(GF pw).length=650:=∅
theorem Ob:cu 513 (cy pw 0::(jz pw))+3 * (eE pw).length=2463:=∅
theorem Jg:13 * (cy pw 0).length+2+(gB (jz pw)+(13 * (eE pw).length+1+(6 * (eE pw).length+5)))=12515:=∅
theorem Oc(P:abe):(xU pw P).list 116++(aj (cO 513 (cy pw 0::(jz pw))++eB (cu 513 (cy pw 0::(jz pw))) (eE pw))::(hJ (513+3 * (cy pw 0).length) (jz pw)++[aj (eB (cu 513 (cy pw 0::(jz pw))) (eE pw))]))=(Jc pw P).list 155:=∅
noncomputable def Za:Obj:=⟨(.type S3),none,.dict (aD P s!"__name__" 165 (.str s!"law_uc0040_01" 2472)::(Ag P).take 31).toArray 32,#[]⟩
noncomputable def Up:Obj:=⟨.none,none,.fields #[(.int 3 0),(.int 0 0),(.ref 37),(.int 13 0),(.int 0 0),(.ref 44),(.int 29 0),(.int 0 0),(.ref 51),(.int 39 0),(.int 0 0),(.ref 58),(.int 55 0),(.int 0 0),(.ref 65),(.int 64 0),(.int 0 0),(.ref 72),(.int 75 0),(.int 0 0),(.ref 79),(.int 90 0),(.int 0 0),(.ref 96),(.int 94 0),(.int 0 0),(.ref 114),(.int 97 0),(.int 0 0),(.ref 160),(.int 103 0),(.int 0 0),(.ref 165),(.int 106 0),(.int 0 0),(.ref 172),(.int 109 0),(.int 0 0),(.ref 179),(.int 112 0),(.int 0 0),(.ref 186),(.int 115 0),(.int 0 0),(.ref 193),(.int 124 0),(.int 0 0),(.ref 198)],#[]⟩
noncomputable def xV:Obj:=⟨(.type S1),none,.seq #[(.str s!"code" 2467),(.str s!"r" 2468)] 0,#[]⟩
noncomputable def xW:Obj:=gX p 20 .none 0 .none .none s!"map_table_b3"
noncomputable def xX:Obj:=gC (.type S0) s!"map_table_b3" 2464 2465 2466 97 1 155 156 (.ref 157) (.ref 158) (.ref 159) 2469 2470
noncomputable def xY:Obj:=gX p 20 (.type S2) 3 (.str s!"cpy313.stringprep" 444) (.ref 160) s!"map_table_b3"
noncomputable def xZ:Obj:=gX p 22 .none 0 .none .none s!"_law_heaps"
noncomputable def x7:Obj:=gC (.type S0) s!"_law_heaps" 2474 2475 2476 103 1 162 163 .none .none (.ref 164) 2477 2478
noncomputable def x8:Obj:=gX p 22 (.type S2) 3 (.str s!"law_uc0040_01" 2472) (.ref 165) s!"_law_heaps"
noncomputable def x9:Obj:=⟨(.type S1),none,.seq #[(.str s!"draw" 2483),(.str s!"codes" 2484)] 0,#[]⟩
noncomputable def ya:Obj:=gX p 23 .none 0 .none .none s!"_law_hidden"
noncomputable def yb:Obj:=gC (.type S0) s!"_law_hidden" 2480 2481 2482 106 1 167 168 (.ref 169) (.ref 170) (.ref 171) 2485 2486
noncomputable def yc:Obj:=gX p 23 (.type S2) 3 (.str s!"law_uc0040_01" 2472) (.ref 172) s!"_law_hidden"
noncomputable def yd:Obj:=⟨(.type S1),none,.seq #[(.str s!"draw" 2491),(.str s!"codes" 2492)] 0,#[]⟩
noncomputable def ye:Obj:=gX p 24 .none 0 .none .none s!"_law_beside"
noncomputable def yf:Obj:=gC (.type S0) s!"_law_beside" 2488 2489 2490 109 1 174 175 (.ref 176) (.ref 177) (.ref 178) 2493 2494
noncomputable def yg:Obj:=gX p 24 (.type S2) 3 (.str s!"law_uc0040_01" 2472) (.ref 179) s!"_law_beside"
noncomputable def yh:Obj:=⟨(.type S1),none,.seq #[(.str s!"letter" 2499),(.str s!"draw" 2500),(.str s!"starts" 2501)] 0,#[]⟩
noncomputable def yi:Obj:=gX p 25 .none 0 .none .none s!"_law_form"
noncomputable def yj:Obj:=gC (.type S0) s!"_law_form" 2496 2497 2498 112 2 181 182 (.ref 183) (.ref 184) (.ref 185) 2502 2503
noncomputable def yk:Obj:=gX p 25 (.type S2) 3 (.str s!"law_uc0040_01" 2472) (.ref 186) s!"_law_form"
noncomputable def yl:Obj:=⟨(.type S1),none,.seq #[(.str s!"text" 2508),(.str s!"kept" 2509),(.str s!"sign" 2510),(.str s!"held" 2511)] 0,#[]⟩
noncomputable def ym:Obj:=gX p 26 .none 0 .none .none s!"_law_kept"
noncomputable def yn:Obj:=gC (.type S0) s!"_law_kept" 2505 2506 2507 115 1 188 189 (.ref 190) (.ref 191) (.ref 192) 2512 2513
noncomputable def yo:Obj:=gX p 26 (.type S2) 3 (.str s!"law_uc0040_01" 2472) (.ref 193) s!"_law_kept"
noncomputable def yp:Obj:=gX p 27 .none 0 .none .none s!"_law_folded"
noncomputable def yq:Obj:=gC (.type S0) s!"_law_folded" 2515 2516 2517 124 1 195 196 .none .none (.ref 197) 2518 2519
noncomputable def yr:Obj:=gX p 27 (.type S2) 3 (.str s!"law_uc0040_01" 2472) (.ref 198) s!"_law_folded"
noncomputable def Zb:BT:=(Bn ag (Bn ag (Bn jy (Bn kJ (Bl (sG p)) (Bl ag)) (Bn (m9 p) (Bl (xW p)) Bz)) (Bn az (Bn mU (Bl (sZ p)) Bz) (Bn nK (Bl az) Bz))) (Bn iL (Bn ag (Bn (mP p) (Bl (sQ p)) (Bl (yr p))) (Bn lD (Bl ag) Bz)) (Bn kD (Bn cZ (Bl (ti p)) Bz) (Bn (sy p) (Bl yh) Bz))))
noncomputable def Zc:BT:=(Bn (iC P) (Bn iI (Bn ag (Bn ag (Bl (sL p)) (Bl ag)) (Bn o3 (Bl az) Bz)) (Bn kC (Bn eC (Bl (s8 p)) Bz) (Bn (nN p) (Bl yf) Bz))) (Bn iP (Bn (kt p) (Bn az (Bl (sV p)) Bz) (Bn ag (Bl (ya p)) Bz)) (Bn (kH p) (Bn ag (Bl ag) Bz) (Bn (sC p) (Bl (yk p)) Bz))))
noncomputable def Zd:BT:=(Bn ml (Bn iG (Bn az (Bn kL (Bl (sJ p)) (Bl yn)) (Bn (nh p) (Bl (xY p)) Bz)) (Bn ag (Bn mW (Bl (s6 p)) Bz) (Bn (nL p) (Bl ag) Bz))) (Bn iN (Bn kr (Bn (mR p) (Bl (sT p)) Bz) (Bn (lF P) (Bl x9) Bz)) (Bn (kF p) (Bn mZ (Bl (tm p)) Bz) (Bn (sA p) (Bl (yi p)) Bz))))
noncomputable def Ze:BT:=(Bn (iD P) (Bn (iJ P) (Bn km (Bn mO (Bl (sO p)) (Bl (yp p))) (Bn lC (Bl x7) Bz)) (Bn ag (Bn mX (Bl (td p)) Bz) (Bn (su p) (Bl ag) Bz))) (Bn Up (Bn (ku p) (Bn ag (Bl (sX p)) Bz) (Bn ag (Bl (yc p)) Bz)) (Bn az (Bn m8 (Bl xV) Bz) (Bn (sE p) (Bl az) Bz))))
noncomputable def Zf:BT:=(Bn az (Bn iF (Bn ag (Bn (kK p) (Bl (sH p)) (Bl (ym p))) (Bn ng (Bl xX) Bz)) (Bn ky (Bn (mV p) (Bl (s5 p)) Bz) (Bn ag (Bl yd) Bz))) (Bn iM (Bn az (Bn mQ (Bl (sR p)) Bz) (Bn lE (Bl az) Bz)) (Bn kE (Bn eC (Bl (tj p)) Bz) (Bn (sz p) (Bl ag) Bz))))
noncomputable def Zg:BT:=(Bn jv (Bn (jw P) (Bn (mK p) (Bn az (Bl (sM p)) (Bl az)) (Bn nI (Bl (xZ p)) Bz)) (Bn (mN p) (Bn oZ (Bl (s9 p)) Bz) (Bn (ss p) (Bl (yg p)) Bz))) (Bn ag (Bn mM (Bn oY (Bl (sW p)) Bz) (Bn nJ (Bl yb) Bz)) (Bn ag (Bn az (Bl az) Bz) (Bn (sD p) (Bl ag) Bz))))
noncomputable def Zh:BT:=(Bn iB (Bn iH (Bn kl (Bn (kM p) (Bl (sK p)) (Bl (yo p))) (Bn o0 (Bl ag) Bz)) (Bn (kA p) (Bn cZ (Bl (s7 p)) Bz) (Bn nM (Bl (ye p)) Bz))) (Bn iO (Bn ag (Bn ag (Bl (sU p)) Bz) (Bn lG (Bl ag) Bz)) (Bn kG (Bn m7 (Bl (tq p)) Bz) (Bn (sB p) (Bl yj) Bz))))
noncomputable def Zi:BT:=(Bn iE (Bn iK (Bn (kq p) (Bn ag (Bl (sP p)) (Bl yq)) (Bn ag (Bl (x8 p)) Bz)) (Bn az (Bn mY (Bl (th p)) Bz) (Bn (sv p) (Bl az) Bz))) (Bn jx (Bn ag (Bn (mS p) (Bl (sY p)) Bz) (Bn az (Bl ag) Bz)) (Bn kI (Bn ag (Bl ag) Bz) (Bn (sF p) (Bl yl) Bz))))
noncomputable def Zj(p:aaq)(P:abe):BT:=(Bn (kd P) (Bn (kf P) (Bn (Za P) (Zb p) (Zc p P)) (Bn kj (Zd p P) (Ze p P))) (Bn (kg P) (Bn kh (Zf p) (Zg p P)) (Bn cZ (Zh p) (Zi p))))
noncomputable def hdL5(p:aaq):acb->ads->Option (agT×afb×ag3×Pos):=λ w os=>aiC adi p w 28 (some (.ref 6)) 1 215 (uj (Un p) 155 2464 w os) (ajv (iZ p 19 27) (hO p) (wP p) ⟨96,0,96,13⟩ [topFrame ⟨0,0,0,0⟩])
noncomputable def Zk(p:aaq):acb->ads->Option (agT×afb×ag3×Pos):=λ w os=>some (.next,uj (Zj p) 200 2521 w os,wP p,⟨124,0,125,57⟩)
lay_quick Mine.hdL5
theorem Od:hdL5 pw=Zk pw:=(congrFun PySem.W.Fast.te669886931732587561 pw).trans (by kernel_rfl:PySem.W.Fast.tw669886931732587561 pw=Zk pw)
noncomputable def RK:Obj:=⟨(.type S3),none,.dict (aD P s!"__name__" 165 (.str s!"law_uc0040_01" 2472)::(Ag P).take 38).toArray 39,#[]⟩
noncomputable def Jh:Obj:=⟨.none,none,.fields #[(.int 3 0),(.int 0 0),(.ref 37),(.int 13 0),(.int 0 0),(.ref 44),(.int 29 0),(.int 0 0),(.ref 51),(.int 39 0),(.int 0 0),(.ref 58),(.int 55 0),(.int 0 0),(.ref 65),(.int 64 0),(.int 0 0),(.ref 72),(.int 75 0),(.int 0 0),(.ref 79),(.int 90 0),(.int 0 0),(.ref 96),(.int 94 0),(.int 0 0),(.ref 114),(.int 97 0),(.int 0 0),(.ref 160),(.int 103 0),(.int 0 0),(.ref 165),(.int 106 0),(.int 0 0),(.ref 172),(.int 109 0),(.int 0 0),(.ref 179),(.int 112 0),(.int 0 0),(.ref 186),(.int 115 0),(.int 0 0),(.ref 193),(.int 124 0),(.int 0 0),(.ref 198),(.int 126 0),(.int 0 0),(.ref 203),(.int 135 0),(.int 0 0),(.ref 208),(.int 144 0),(.int 0 0),(.ref 213),(.int 147 0),(.int 0 0),(.ref 218),(.int 149 0),(.int 0 0),(.ref 225),(.int 157 0),(.int 0 0),(.ref 232),(.int 164 0),(.int 0 0),(.ref 237)],#[]⟩
noncomputable def EG:Obj:=gX p 28 .none 0 .none .none s!"_law_numbers"
noncomputable def EH:Obj:=gC (.type S0) s!"_law_numbers" 2521 2522 2523 126 1 200 201 .none .none (.ref 202) 2524 2525
noncomputable def EI:Obj:=gX p 28 (.type S2) 3 (.str s!"law_uc0040_01" 2472) (.ref 203) s!"_law_numbers"
noncomputable def EJ:Obj:=gX p 29 .none 0 .none .none s!"_law_knows"
noncomputable def EK:Obj:=gC (.type S0) s!"_law_knows" 2527 2528 2529 135 1 205 206 .none .none (.ref 207) 2530 2531
noncomputable def EL:Obj:=gX p 29 (.type S2) 3 (.str s!"law_uc0040_01" 2472) (.ref 208) s!"_law_knows"
noncomputable def EP:Obj:=gX p 30 .none 0 .none .none s!"_law_word"
noncomputable def EQ:Obj:=gC (.type S0) s!"_law_word" 2533 2534 2535 144 4 210 211 .none .none (.ref 212) 2536 2537
noncomputable def ER:Obj:=gX p 30 (.type S2) 3 (.str s!"law_uc0040_01" 2472) (.ref 213) s!"_law_word"
noncomputable def EW:Obj:=gX p 31 .none 0 .none .none s!"_law_ones"
noncomputable def EX:Obj:=gC (.type S0) s!"_law_ones" 2539 2540 2541 147 1 215 216 .none .none (.ref 217) 2542 2543
noncomputable def EY:Obj:=gX p 31 (.type S2) 3 (.str s!"law_uc0040_01" 2472) (.ref 218) s!"_law_ones"
noncomputable def EZ:Obj:=⟨(.type S1),none,.seq #[(.str s!"rows" 2548),(.str s!"bare" 2549),(.str s!"draw" 2550),(.str s!"text" 2551),(.str s!"person" 2552)] 0,#[]⟩
noncomputable def E1:Obj:=gX p 32 .none 0 .none .none s!"_law_posted"
noncomputable def E2:Obj:=gC (.type S0) s!"_law_posted" 2545 2546 2547 149 3 220 221 (.ref 222) (.ref 223) (.ref 224) 2553 2554
noncomputable def E3:Obj:=gX p 32 (.type S2) 3 (.str s!"law_uc0040_01" 2472) (.ref 225) s!"_law_posted"
noncomputable def E4:Obj:=⟨(.type S1),none,.seq #[(.str s!"counts" 2559),(.str s!"letters" 2560),(.str s!"written" 2561),(.str s!"beside" 2562),(.str s!"due" 2563),(.str s!"person" 2564),(.str s!"code" 2565)] 0,#[]⟩
noncomputable def E5:Obj:=gX p 33 .none 0 .none .none s!"_law_due"
noncomputable def E6:Obj:=gC (.type S0) s!"_law_due" 2556 2557 2558 157 4 227 228 (.ref 229) (.ref 230) (.ref 231) 2566 2567
noncomputable def E7:Obj:=gX p 33 (.type S2) 3 (.str s!"law_uc0040_01" 2472) (.ref 232) s!"_law_due"
noncomputable def E8:Obj:=gX p 34 .none 0 .none .none s!"law"
noncomputable def E9:Obj:=gC (.type S0) s!"law" 2569 2570 2571 164 1 234 235 .none .none (.ref 236) 2572 2573
noncomputable def Fa:Obj:=gX p 34 (.type S2) 3 (.str s!"law_uc0040_01" 2472) (.ref 237) s!"law"
noncomputable def Zm:BT:=(Bn ag (Bn ag (Bn jy (Bn kJ (Bl (sG p)) (Bl ag)) (Bn (m9 p) (Bl (xW p)) (Bl ag))) (Bn az (Bn mU (Bl (sZ p)) (Bl (EJ p))) (Bn nK (Bl az) Bz))) (Bn iL (Bn ag (Bn (mP p) (Bl (sQ p)) (Bl (yr p))) (Bn lD (Bl ag) (Bl (E5 p)))) (Bn kD (Bn cZ (Bl (ti p)) (Bl ag)) (Bn (sy p) (Bl yh) Bz))))
noncomputable def Zn:BT:=(Bn (iC P) (Bn iI (Bn ag (Bn ag (Bl (sL p)) (Bl ag)) (Bn o3 (Bl az) (Bl ag))) (Bn kC (Bn eC (Bl (s8 p)) (Bl az)) (Bn (nN p) (Bl yf) Bz))) (Bn iP (Bn (kt p) (Bn az (Bl (sV p)) (Bl EH)) (Bn ag (Bl (ya p)) (Bl az))) (Bn (kH p) (Bn ag (Bl ag) (Bl (EY p))) (Bn (sC p) (Bl (yk p)) Bz))))
noncomputable def Zo:BT:=(Bn ml (Bn iG (Bn az (Bn kL (Bl (sJ p)) (Bl yn)) (Bn (nh p) (Bl (xY p)) (Bl E2))) (Bn ag (Bn mW (Bl (s6 p)) (Bl (EL p))) (Bn (nL p) (Bl ag) Bz))) (Bn iN (Bn kr (Bn (mR p) (Bl (sT p)) (Bl az)) (Bn (lF P) (Bl x9) (Bl (E7 p)))) (Bn (kF p) (Bn mZ (Bl (tm p)) (Bl (EW p))) (Bn (sA p) (Bl (yi p)) Bz))))
noncomputable def Zq:BT:=(Bn (iD P) (Bn (iJ P) (Bn km (Bn mO (Bl (sO p)) (Bl (yp p))) (Bn lC (Bl x7) (Bl E4))) (Bn ag (Bn mX (Bl (td p)) (Bl EQ)) (Bn (su p) (Bl ag) Bz))) (Bn Jh (Bn (ku p) (Bn ag (Bl (sX p)) (Bl ag)) (Bn ag (Bl (yc p)) (Bl E9))) (Bn az (Bn m8 (Bl xV) (Bl az)) (Bn (sE p) (Bl az) Bz))))
noncomputable def Zr:BT:=(Bn az (Bn iF (Bn ag (Bn (kK p) (Bl (sH p)) (Bl (ym p))) (Bn ng (Bl xX) (Bl (E1 p)))) (Bn ky (Bn (mV p) (Bl (s5 p)) (Bl EK)) (Bn ag (Bl yd) Bz))) (Bn iM (Bn az (Bn mQ (Bl (sR p)) (Bl ag)) (Bn lE (Bl az) (Bl E6))) (Bn kE (Bn eC (Bl (tj p)) (Bl az)) (Bn (sz p) (Bl ag) Bz))))
noncomputable def Zt:BT:=(Bn jv (Bn (jw P) (Bn (mK p) (Bn az (Bl (sM p)) (Bl az)) (Bn nI (Bl (xZ p)) (Bl az))) (Bn (mN p) (Bn oZ (Bl (s9 p)) (Bl (EP p))) (Bn (ss p) (Bl (yg p)) Bz))) (Bn ag (Bn mM (Bn oY (Bl (sW p)) (Bl (EI p))) (Bn nJ (Bl yb) (Bl (E8 p)))) (Bn ag (Bn az (Bl az) (Bl ag)) (Bn (sD p) (Bl ag) Bz))))
noncomputable def Zu:BT:=(Bn iB (Bn iH (Bn kl (Bn (kM p) (Bl (sK p)) (Bl (yo p))) (Bn o0 (Bl ag) (Bl (E3 p)))) (Bn (kA p) (Bn cZ (Bl (s7 p)) (Bl ag)) (Bn nM (Bl (ye p)) Bz))) (Bn iO (Bn ag (Bn ag (Bl (sU p)) (Bl (EG p))) (Bn lG (Bl ag) (Bl ag))) (Bn kG (Bn m7 (Bl (tq p)) (Bl EX)) (Bn (sB p) (Bl yj) Bz))))
noncomputable def Zv:BT:=(Bn iE (Bn iK (Bn (kq p) (Bn ag (Bl (sP p)) (Bl yq)) (Bn ag (Bl (x8 p)) (Bl ag))) (Bn az (Bn mY (Bl (th p)) (Bl (ER p))) (Bn (sv p) (Bl az) Bz))) (Bn jx (Bn ag (Bn (mS p) (Bl (sY p)) (Bl az)) (Bn az (Bl ag) (Bl (Fa p)))) (Bn kI (Bn ag (Bl ag) (Bl EZ)) (Bn (sF p) (Bl yl) Bz))))
noncomputable def Zw(p:aaq)(P:abe):BT:=(Bn (kd P) (Bn (kf P) (Bn (RK P) (Zm p) (Zn p P)) (Bn kj (Zo p P) (Zq p P))) (Bn (kg P) (Bn kh (Zr p) (Zt p P)) (Bn cZ (Zu p) (Zv p))))
noncomputable def hdL6(p:aaq):acb->ads->Option (agT×afb×ag3×Pos):=λ w os=>aiC adi p w 28 (some (.ref 6)) 1 199 (uj (Zj p) 200 2521 w os) (ajv (iZ p 27 34) (hO p) (wP p) ⟨124,0,125,57⟩ [topFrame ⟨0,0,0,0⟩])
noncomputable def Zx(p:aaq):acb->ads->Option (agT×afb×ag3×Pos):=λ w os=>some (.next,uj (Zw p) 239 2575 w os,wP p,⟨164,0,220,15⟩)
lay_quick Mine.hdL6
theorem Oe:hdL6 pw=Zx pw:=(congrFun PySem.W.Fast.te5913526896782546904 pw).trans (by kernel_rfl:PySem.W.Fast.tw5913526896782546904 pw=Zx pw)
noncomputable def Uq(p:aaq)(P:abe):List Obj:=[(kd P),(kf P),(kg P),(RK P),kh,kj,cZ,ag,az,ml,iB,(iC P),jv,(iD P),iE,ag]
noncomputable def Ur(p:aaq)(P:abe):List Obj:=[iF,iG,iH,iI,(jw P),(iJ P),iK,iL,iM,iN,iO,iP,ag,Jh,jx,jy]
noncomputable def Us(p:aaq)(P:abe):List Obj:=[ag,az,kl,ag,(mK p),km,(kq p),ag,az,kr,ag,(kt p),mM,(ku p),ag,az]
noncomputable def Ut(p:aaq)(P:abe):List Obj:=[ky,ag,(kA p),kC,(mN p),ag,az,kD,kE,(kF p),kG,(kH p),ag,az,kI,kJ]
noncomputable def Uv(p:aaq)(P:abe):List Obj:=[(kK p),kL,(kM p),ag,az,mO,ag,(mP p),mQ,(mR p),ag,az,oY,ag,(mS p),mU]
noncomputable def Uw(p:aaq)(P:abe):List Obj:=[(mV p),mW,cZ,eC,oZ,mX,mY,cZ,eC,mZ,m7,ag,az,m8,ag,(m9 p)]
noncomputable def Ux(p:aaq)(P:abe):List Obj:=[ng,(nh p),o0,o3,nI,lC,ag,lD,lE,(lF P),lG,ag,nJ,ag,az,nK]
noncomputable def Uy(p:aaq)(P:abe):List Obj:=[ag,(nL p),nM,(nN p),(ss p),(su p),(sv p),(sy p),(sz p),(sA p),(sB p),(sC p),(sD p),(sE p),(sF p),(sG p)]
noncomputable def Uz(p:aaq)(P:abe):List Obj:=[(sH p),(sJ p),(sK p),(sL p),(sM p),(sO p),(sP p),(sQ p),(sR p),(sT p),(sU p),(sV p),(sW p),(sX p),(sY p),(sZ p)]
noncomputable def UA(p:aaq)(P:abe):List Obj:=[(s5 p),(s6 p),(s7 p),(s8 p),(s9 p),(td p),(th p),(ti p),(tj p),(tm p),(tq p),ag,az,xV,ag,(xW p)]
noncomputable def Og(p:aaq)(P:abe):List Obj:=[xX,(xY p),ag,az,(xZ p),x7,(x8 p),ag,az,x9,ag,(ya p),yb,(yc p),ag,az]
noncomputable def Oh(p:aaq)(P:abe):List Obj:=[yd,ag,(ye p),yf,(yg p),ag,az,yh,ag,(yi p),yj,(yk p),ag,az,yl,ag]
noncomputable def Oi(p:aaq)(P:abe):List Obj:=[(ym p),yn,(yo p),ag,az,(yp p),yq,(yr p),ag,az,(EG p),EH,(EI p),ag,az,(EJ p)]
noncomputable def Oj(p:aaq)(P:abe):List Obj:=[EK,(EL p),ag,az,(EP p),EQ,(ER p),ag,az,(EW p),EX,(EY p),ag,az,EZ,ag]
noncomputable def Ol(p:aaq)(P:abe):List Obj:=[(E1 p),E2,(E3 p),ag,az,E4,ag,(E5 p),E6,(E7 p),ag,az,(E8 p),E9,(Fa p)]
noncomputable def jB(p:aaq)(P:abe):ac2:=⟨(Uq p P++(Ur p P++(Us p P++(Ut p P++(Uv p P++(Uw p P++(Ux p P++(Uy p P++(Uz p P++(UA p P++(Og p P++(Oh p P++(Oi p P++(Oj p P++(Ol p P))))))))))))))).toArray,{}⟩
noncomputable def hdFiL(p:aaq):acb->ads->Option aav:=λ w os=>ag1 adi p w 28 (some (.ref 6)) 2 (uj (Zw p) 239 2575 w os).abs (restOf [] (hO p) (wP p) ⟨164,0,220,15⟩ [topFrame ⟨0,0,0,0⟩])
noncomputable def RL(p:aaq):acb->ads->Option aav:=λ w os=>some ⟨jB p w.params,#[],{},2575,os⟩
lay_quick Mine.hdFiL
theorem Ji:hdFiL pw=RL pw:=(congrFun PySem.W.Fast.te14426539614878162929 pw).trans (by kernel_rfl:PySem.W.Fast.tw14426539614878162929 pw=RL pw)
end
end Mine
end
section
open PySem PySem.W PyProof.Rows PySem.W.Fast
namespace Mine
open Internal
noncomputable def hdQ(p:aaq):aaq:={p with main:={p.main with body:=[p.main.body[0]?.getD (.Pass default),p.main.body[34]?.getD (.Pass default)]}}
noncomputable def tv(p:aaq):List Str:=p.boundNames.filter λ n=>!(n==("_sre":Str)||n==("law":Str)||n==("__name__":Str))
noncomputable def UB:aav->Bool:=λ V=>true
noncomputable def hdLkL1(p:aaq):acb->ads->Bool:=λ w os=>(staticsOk (importedModules p.main.body) (xT p w.params) (jB p w.params)&&namesBound p (jB p w.params)&&gensDone ⟨jB p w.params,#[],{},2575,os⟩&&laidKept (xT p w.params) (jB p w.params))
noncomputable def hdLkL2(p:aaq):=λ(w:acb) (os:ads)=>openSeen (hdQ p) (tv p) (importedModules p.main.body) UB true ⟨jB p w.params,#[],{},2575,os⟩
noncomputable def hdLkR2(p:aaq):=λ(w:acb) (os:ads)=>openGood (hdQ p) (tv p)
noncomputable def hdSzL(p:aaq):acb->Bool×Nat×Option aas:=λ w=>((xT p w.params).isNs mainGlobals&&(#[]:Array ain).size==0,(xT p w.params).objs.size,(xT p w.params).nsMap mainGlobals "__annotations__")
lay_quick Mine.hdLkL1 Mine.hdLkL2 Mine.hdLkR2 Mine.hdSzL
theorem Zy:hdLkL1 pw=λ V V=>true:=(congrFun te15258310316370999005 pw).trans (by kernel_rfl:tw15258310316370999005 pw=λ V V=>true)
theorem Zz:hdLkL2 pw=hdLkR2 pw:=(congrFun te1880592743380314440 pw).trans ((by kernel_rfl:tw1880592743380314440 pw=tw6138327748618986502 pw).trans (congrFun te6138327748618986502 pw).symm)
theorem adP:hdSzL pw=λ V=>(true,28,some (.ref 6)):=(congrFun te5913555218272399293 pw).trans (by kernel_rfl:tw5913555218272399293 pw=λ V=>(true,28,some (.ref 6)))
theorem kN{L R:acb->ads->Option (agT×afb×ag3×Pos)}(e:L=R){n:Nat}{S S':acb->ads->afb}{t:Thread}{c:ag3}{pos:Pos}{f:agT}
(hL:L=λ w os=>aiC adi pw w 28 (some (.ref 6)) 1 n (S w os) t)(hR:R=λ w os=>some (f,S' w os,c,pos))(w:acb)(os:ads):
 segRun adi pw w 28 (some (.ref 6)) 1 n (S w os).abs t=some (f,(S' w os).abs,c,pos):=by
 subst hL hR
 exact segRun_of (congrFun (congrFun e w) os)
theorem Om(w:acb):Ah pw w=Ai pw w:=
 byRow2 "special-get-raises" (P:=λ w=>Ah pw w=Ai pw w)
  (λ w=>byRow2 "set-order" (P:=λ w=>Ah pw (w.withFollow "special-get-raises" false)=Ai pw (w.withFollow "special-get-raises" false))
   (λ w=>congrFun GA w) (λ w=>congrFun GC w) w)
  (λ w=>byRow2 "set-order" (P:=λ w=>Ah pw (w.withFollow "special-get-raises" true)=Ai pw (w.withFollow "special-get-raises" true))
   (λ w=>congrFun GB w) (λ w=>congrFun GD w) w) w
theorem ZA(w:acb)(os:ads):RT pw w 28 (some (.ref 6)) (wP pw) ⟨0,0,0,0⟩ id id (1+(1+12515+8)) (exec (.Assign [.Name (em pw).1 (em pw).2.1] (.Dict (em pw).2.2.1 (em pw).2.2.2.1 (em pw).2.2.2.2.1) (em pw).2.2.2.2.2) (hO pw)) (uj (xU pw) 116 513 w os).abs ⟨94,0,95,30⟩ .next (uj (Un pw) 155 2464 w os).abs ⟨96,0,96,13⟩:=by
 erw [Gw]
 refine RT.bind RT.EB (RT.bind (a:=.ref 116) (s₁:=(uj (Jc pw) 155 2463 w os).abs) (p₁:=⟨96,16,96,8704⟩) (RT.bind RT.EB ?_) ?_)
 · erw [I3 _ _ Jd,Y9]
   have e:=RJ
   skip
   erw [e]
   have hc:=rk Je
   have hr:=Jf
   have hz:=Oa
   rw [RJ] at hc hr hz
   have bY:(((xU pw) w.params).list 116).toArray.size=116:=by simp [BT.list]
   have h:=RT.display (p:=pw) (w:=w) (n₀:=28) (ann:=some (.ref 6)) (bd:=ail pw) (env:=(hO pw)) (q:=⟨0,0,0,0⟩) (gd:=id) (lv:=id) (pv:=⟨96,16,96,8704⟩) (objs:=(((xU pw) w.params).list 116).toArray) (life:={}) (gens:=#[]) (drawn:={}) (os:=os) (t:=513) ((cy pw 0)) (jz pw) (eE pw)
    (by erw [bY];rfl) (by erw [bY];decide) N8 (λ l hl=>by simpa using acP.mp N9 l hl) (by have:=EF;simp at this;exact %[a≤15,a=4|aV this]) (by intro e;have:=EF;rw [e] at this;cases this)
    (λ x hx=>by simpa using acP.mp hr x hx) hc (by erw [hz];decide)
   rw [bY] at h
   have hs0:(uj (xU pw) 116 513 w os).abs=⟨HP (((xU pw) w.params).list 116).toArray {} [],#[],{},513,os⟩:=
    congrArg (λ a=>akU (agM a {}) #[] {} 513 os) (Array.append_empty (xs:=(((xU pw) w.params).list 116).toArray)).symm
   have hs1:(akU (HP (((xU pw) w.params).list 116).toArray {} (aj (cO 513 ((cy pw 0)::(jz pw))++eB (cu 513 ((cy pw 0)::(jz pw))) (eE pw))::(hJ (513+3 * ((cy pw 0)).length) (jz pw)++[aj (eB (cu 513 ((cy pw 0)::(jz pw))) (eE pw))]))) #[] {} (cu 513 ((cy pw 0)::(jz pw))+3 * (eE pw).length) os)=(uj (Jc pw) 155 2463 w os).abs:=by
    erw [Ob]
    refine congrArg (λ a=>akU (agM a {}) #[] {} 2463 os) ?_
    show _=(((Jc pw) w.params).list 155).toArray
    erw [←Oc w.params]
    exact List.append_toArray ..
   erw [hs0,←hs1]
   exact h.cast Jg rfl
 · exact RT.Ua (res:=id) (λ V h=>h) (kN Uo rfl rfl w os)
theorem Oo:ail pw=iZ pw 0 8++(iZ pw 8 16++(iZ pw 16 17++(iZ pw 17 18++((.Assign [.Name (em pw).1 (em pw).2.1] (.Dict (em pw).2.2.1 (em pw).2.2.2.1 (em pw).2.2.2.2.1) (em pw).2.2.2.2.2)::(iZ pw 19 27++(iZ pw 27 34++[])))))):=∅
theorem UC(w:acb)(os:ads):ag1 adi pw w 28 (some (.ref 6)) (12+(1+(200+(270+(999+(30+((1+(1+12515+8))+(215+(199+2))))))))) ⟨xT pw w.params,#[],{},276,os⟩ (topStub pw)=some ⟨jB pw w.params,#[],{},2575,os⟩:=by
 refine go_top (congrFun (congrFun Gz w) os) ?_
 refine piece_block (kN I5 rfl rfl w os) ?_
 erw [Oo]
 refine aiX (kN N5 rfl rfl w os) ?_
 refine aiX (kN N6 rfl rfl w os) ?_
 refine aiX (kN (funext Om) rfl rfl w os) ?_
 refine aiX (kN N7 rfl rfl w os) ?_
 refine RT.Yp (ZA w os) ?_
 refine aiX (kN Od rfl rfl w os) ?_
 refine aiX (kN Oe rfl rfl w os) ?_
 exact congrFun (congrFun Ji w) os
theorem Oq:LeftO pw (hdQ pw) (tv pw) UB (λ s=>s.heap) (λ w=>jB pw w.params) 20000:=
 LeftO.of_pieces (H₀:=xT pw) (H₁:=jB pw) (gs₀:=#[]) (gs₁:=#[]) (d₀:={}) (d₁:={}) (k₀:=276) (k₁:=2575) (m₀:=28) (ann:=some (.ref 6))
  (λ w=>congrFun I4 w) (λ w=>congrFun adP w) UC rfl
  (λ w=>funext λ os=>by
   have a:=congrFun (congrFun Zy w) os
   have b:=congrFun (congrFun Zz w) os
   unfold hdLkL1 at a
   unfold hdLkL2 hdLkR2 at b
   rw [a,b])
end Mine
end
section
open PySem PyProof.Rows
namespace Mine.Internal
section
set_option genCtorIdx true in
inductive AV where
 | none | bool (b:Bool) | int (i:Int) | str (s:Str) | obj (v:aas)
 | tup (xs:List AV) | lst (xs:List AV) | bor (xs:List AV) | own (k:Nat)
structure Gh where
 z:abh->Option Obj
 ρ:List abh
noncomputable def Gh.le(g g':Gh):Prop:=(∀a o,g.z a=some o->g'.z a=some o)∧∀(k:Nat) (a:abh),g.ρ[k]?=some a->g'.ρ[k]?=some a
theorem Gh.le.refl(g:Gh):g.le g:=⟨λ V V h=>h,λ V V h=>h⟩
theorem Gh.le.trans{g g' g'':Gh}(x:g.le g')(y:g'.le g''):g.le g'':=⟨λ a o h=>y.1 a o (x.1 a o h),λ k a h=>y.2 k a (x.2 k a h)⟩
mutual
inductive RelV (n:Nat) (g:Gh):AV->aas->Prop
 | none:RelV n g .none .none
 | bool (b:Bool):RelV n g (.bool b) (.bool b)
 | int (i:Int) (t:Tok):RelV n g (.int i) (.int i t)
 | str (s:Str) (t:Tok):RelV n g (.str s) (.str s t)
 | obj (v:aas):RelV n g (.obj v) v
 | tup {xs:List AV} {vs:List aas} {a:abh} {o:Obj} {e:Nat}:n≤a->g.z a=some o->o.cls=.type "tuple"->o.data=.seq vs.toArray e->aq n g xs vs->RelV n g (.tup xs) (.ref a)
 | lst {xs:List AV} {vs:List aas} {a:abh} {o:Obj} {e:Nat}:n≤a->g.z a=some o->o.cls=.type "list"->o.data=.seq vs.toArray e->aq n g xs vs->RelV n g (.lst xs) (.ref a)
 | bor {xs:List AV} {vs:List aas} {a:abh} {o:Obj} {e:Nat}:g.z a=some o->o.cls=.type "list"->o.data=.seq vs.toArray e->aq n g xs vs->RelV n g (.bor xs) (.ref a)
 | own {k:Nat} {a:abh}:g.ρ[k]?=some a->RelV n g (.own k) (.ref a)
inductive aq (n:Nat) (g:Gh):List AV->List aas->Prop
 | nil:aq n g [] []
 | cons {x:AV} {xs:List AV} {v:aas} {vs:List aas}:RelV n g x v->aq n g xs vs->aq n g (x::xs) (v::vs)
end
theorem aw{α:Type}{P:Prop}{a:α}(h:(none:Option α)=some a):P:=by cases h
theorem e8{P:Prop}(h:false=true):P:=by cases h
theorem aC{α β:Type}{G:Prop}{o:Option α}{f:α->Option β}{b:β}(h:o.bind f=some b)(k:∀a,o=some a->f a=some b->G):G:=by
 cases o with
 | none=>exact aw h
 | some a=>exact k a rfl h
theorem bS{α β:Type}{G:Prop}{o:Option α}{f:α->β}{b:β}(h:o.map f=some b)(k:∀a,o=some a->f a=b->G):G:=by
 cases o with
 | none=>exact aw h
 | some a=>exact k a rfl (aam h)
theorem eF{α:Type}{G:Prop}{c:Prop} [Decidable c]{a:Option α}{r:α}(h:(if c then a else none)=some r)(k:c->a=some r->G):G:=by
 by_cases q:c
 · rw [if_pos q] at h;exact k q h
 · rw [if_neg q] at h;exact aw h
theorem adQ{α:Type}{G:Prop}{c:Prop} [Decidable c]{a:Option α}{r:α}(h:(if c then none else a)=some r)(k:¬c->a=some r->G):G:=by
 by_cases q:c
 · rw [if_pos q] at h;exact aw h
 · rw [if_neg q] at h;exact k q h
theorem Jj{α:Type}{G:Prop}{c:Prop} [Decidable c]{a b:α}{r:α}(h:(if c then a else b)=r)(k:c->a=r->G)(m:¬c->b=r->G):G:=by
 by_cases q:c
 · rw [if_pos q] at h;exact k q h
 · rw [if_neg q] at h;exact m q h
noncomputable def adR(n:Nat)(g:Gh)(G:aas->Prop):AV->Prop
 | .none=>G .none
 | .bool b=>G (.bool b)
 | .int i=>∀t,G (.int i t)
 | .str s=>∀t,G (.str s t)
 | .obj v=>G v
 | .tup xs=>∀vs a o e,n≤a->g.z a=some o->o.cls=.type "tuple"->o.data=.seq vs.toArray e->aq n g xs vs->G (.ref a)
 | .lst xs=>∀vs a o e,n≤a->g.z a=some o->o.cls=.type "list"->o.data=.seq vs.toArray e->aq n g xs vs->G (.ref a)
 | .bor xs=>∀vs a o e,g.z a=some o->o.cls=.type "list"->o.data=.seq vs.toArray e->aq n g xs vs->G (.ref a)
 | .own k=>∀a,g.ρ[k]?=some a->G (.ref a)
section
variable{n:Nat}{g:Gh}{G:aas->Prop}{x:AV}{v:aas}
theorem RelV.inv(h:RelV n g x v):adR n g G x->G v:=by
 cases h with
 | none=>exact id
 | bool _=>exact id
 | int _ t=>exact λ k=>k t
 | str _ t=>exact λ k=>k t
 | obj _=>exact id
 | tup a b c d e=>exact λ k=>k _ _ _ _ a b c d e
 | lst a b c d e=>exact λ k=>k _ _ _ _ a b c d e
 | bor b c d e=>exact λ k=>k _ _ _ _ b c d e
 | own a=>exact λ k=>k _ a
theorem RelV.rl(h:RelV n g .none v)(k:G .none):G v:=h.inv k
theorem RelV.mn(h:RelV n g (.bool b) v)(k:G (.bool b)):G v:=h.inv k
theorem RelV.cp(h:RelV n g (.int i) v)(k:∀t,G (.int i t)):G v:=h.inv k
theorem RelV.fH(h:RelV n g (.str s) v)(k:∀t,G (.str s t)):G v:=h.inv k
theorem RelV.nO(h:RelV n g (.obj u) v)(k:G u):G v:=h.inv k
theorem RelV.adS(h:RelV n g (.own j) v)(k:∀a,g.ρ[j]?=some a->G (.ref a)):G v:=h.inv k
noncomputable def ZB(n:Nat)(g:Gh)(G:List aas->Prop):List AV->Prop
 | []=>G []
 | x::xs=>∀v us,RelV n g x v->aq n g xs us->G (v::us)
theorem aq.inv{G:List aas->Prop}{xs:List AV}{vs:List aas}(h:aq n g xs vs):ZB n g G xs->G vs:=by
 cases h with
 | nil=>exact id
 | cons a b=>exact λ k=>k _ _ a b
theorem aq.o4{G:List aas->Prop}{vs:List aas}(h:aq n g [] vs)(k:G []):G vs:=h.inv k
theorem aq.hU{G:List aas->Prop}{xs:List AV}{vs:List aas}(h:aq n g (x::xs) vs)(k:∀v us,RelV n g x v->aq n g xs us->G (v::us)):G vs:=h.inv k
theorem aq.ind{P:List AV->List aas->Prop}(a:P [] [])(b:∀x v xs vs,RelV n g x v->aq n g xs vs->P xs vs->P (x::xs) (v::vs)):∀{xs:List AV} {vs:List aas},aq n g xs vs->P xs vs:=by
 intro xs
 induction xs with
 | nil=>intro vs h;exact h.o4 a
 | cons x xs ih=>intro vs h;exact h.hU λ v us h1 h2=>b _ _ _ _ h1 h2 (ih h2)
theorem RelV.mono(hg:g.le g')(h:RelV n g x v):RelV n g' x v:=
 RelV.rec (motive_1:=λ x v V=>RelV n g' x v) (motive_2:=λ x v V=>aq n g' x v) .none .bool .int .str .obj
  (λ a b c d V e=>.tup a (hg.1 _ _ b) c d e) (λ a b c d V e=>.lst a (hg.1 _ _ b) c d e) (λ b c d V e=>.bor (hg.1 _ _ b) c d e) (λ a=>.own (hg.2 _ _ a)) .nil (λ V V a b=>.cons a b) h
variable{xs ys:List AV}{vs us:List aas}
theorem aq.mono{g':Gh}(hg:g.le g')(h:aq n g xs vs):aq n g' xs vs:=
 aq.ind (P:=aq n g') .nil (λ V V V V a V b=>.cons (a.mono hg) b) h
theorem aq.length(h:aq n g xs vs):xs.length=vs.length:=
 aq.ind (P:=λ xs vs=>xs.length=vs.length) rfl (λ V V V V V V e=>congrArg (· +1) e) h
theorem aq.get(h:aq n g xs vs){i:Nat}{x:AV}(hi:xs[i]?=some x):∃v,vs[i]?=some v∧RelV n g x v:=
 aq.ind (P:=λ xs vs=>∀i x,xs[i]?=some x->∃v,vs[i]?=some v∧RelV n g x v) (λ V V h=>aw h)
  (λ V V V V a V k i x hi=>by
   cases i with
   | zero=>obtain rfl:=aam hi;exact ⟨_,rfl,a⟩
   | succ i=>exact k i x hi) h i x hi
theorem aq.append(h:aq n g xs vs)(q:aq n g ys us):aq n g (xs++ys) (vs++us):=
 aq.ind (P:=λ xs vs=>aq n g (xs++ys) (vs++us)) q (λ V V V V a V b=>.cons a b) h
theorem aq.set(hx:RelV n g x v){i:Nat}(h:aq n g xs vs):aq n g (xs.set i x) (vs.set i v):=
 aq.ind (P:=λ xs vs=>∀i,aq n g (xs.set i x) (vs.set i v)) (λ V=>.nil)
  (λ V V V V a r k i=>by
   cases i with
   | zero=>exact .cons hx r
   | succ i=>exact .cons a (k i)) h i
theorem aq.reverse(h:aq n g xs vs):aq n g xs.reverse vs.reverse:=
 aq.ind (P:=λ xs vs=>aq n g xs.reverse vs.reverse) .nil (λ V V V V a V k=>by (erw [ahS,ahS]);exact k.append (.cons a .nil)) h
end
structure C5 where
 P:abh
 item:abh->Array aas
 qual:Str
 ne:∀c,item c≠#[]
 inj:∀c c',item c=item c'->c=c'
theorem Jk(a b:Int)(c:abh):(#[rawInt a,rawInt b,.ref c]:Array aas)≠#[]:=λ q=>by
 injection q with q
 cases q
theorem Fb(a b:Int)(c c':abh)(q:(#[rawInt a,rawInt b,.ref c]:Array aas)=#[rawInt a,rawInt b,.ref c']):c=c':=by
 injection q with q
 injection q with _ q
 injection q with _ q
 injection q with q
 injection q
noncomputable def aT:List C5:=[⟨54,λ c=>#[rawInt 42,rawInt 4,.ref c],"_int2digits.<locals>.inner",Jk 42 4,Fb 42 4⟩,⟨61,λ c=>#[rawInt 57,rawInt 4,.ref c],"_digits2int.<locals>.inner",Jk 57 4,Fb 57 4⟩]
theorem o5:∀t∈aT,∀t'∈aT,t'.P=t.P->t'=t:=by
 intro t ht t' wh e
 simp only [aT,aaB,aaP,or_false] at ht wh
 rcases ht with rfl | rfl <;> rcases wh with rfl | rfl <;> first | rfl | (exact absurd e ⋯)
structure Ot where
 fr:List abh
 tb:List C5
noncomputable abbrev jC(ps:Array aas):Obj:={cls:=.none,data:=.fields ps}
noncomputable def adT(F:Ot)(B:abh->Prop)(h':ac2)(a:abh)(o:Obj):Prop:=o=jC #[]∧a∉F.fr∧∃t∈F.tb,t.P=a∧∃c,B c∧h'.get? a=some (jC (t.item c))∧h'.CodeRec (.ref c) t.qual
noncomputable def Ok(F:Ot)(B:abh->Prop)(h':ac2)(a:abh)(o:Obj):Prop:=(∃sl,h'.get? a=some {o with slots:=sl}∧(a∉F.fr->sl=o.slots))∨adT F B h' a o
noncomputable def adU(h:ac2)(c:abh):Prop:=∀b o,h.get? b=some o->b < c
noncomputable def aR(F:Ot)(h h':ac2):Prop:=∀a o,h.get? a=some o->Ok F (adU h) h' a o
noncomputable def KS(h h':ac2):Prop:=∀a o,h.get? a=some o->h'.get? a=some o
theorem Ou(h:o=jC #[]):o.data=.fields #[]:=by subst h;rfl
section
variable{F:Ot}{h h' yt:ac2}{a:abh}{o:Obj}
theorem aR.of(k:KS h h'):aR F h h':=λ a o e=>.inl ⟨o.slots,k a o e,λ V=>rfl⟩
theorem aR.refl(h:ac2):aR F h h:=aR.of λ V V e=>e
theorem aR.dat(k:aR F h h')(e:h.get? a=some o)(cM:o.data≠.fields #[]):∃sl,h'.get? a=some {o with slots:=sl}∧(a∉F.fr->sl=o.slots):=by
 rcases k a o e with x | x
 · exact x
 · exact absurd (Ou x.1) cM
theorem aR.data(k:aR F h h')(e:h.get? a=some o)(cM:o.data≠.fields #[]):∃o',h'.get? a=some o'∧o'.data=o.data∧o'.cls=o.cls∧o'.dict=o.dict:=by
 refine bF (k.dat e cM) λ sl h1 _=>?_
 exact ⟨_,h1,rfl,rfl,rfl⟩
theorem aR.get(k:aR F h h')(e:h.get? a=some o)(n:a∉F.fr)(nt:∀t∈F.tb,t.P≠a):h'.get? a=some o:=by
 rcases k a o e with ⟨sl,h1,h2⟩ | ⟨_,_,t,ht,hP,_⟩
 · rw [h2 n] at h1;exact h1
 · exact absurd hP (nt t ht)
theorem aR.there(k:aR F h h')(e:h.get? a=some o):∃o',h'.get? a=some o':=by
 rcases k a o e with ⟨sl,h1,h2⟩ | ⟨_,_,t,ht,hP,c,_,h1,_⟩ <;> exact ⟨_,h1⟩
theorem aR.tA(k:aR F h h')(x:h.CodeRec (.ref c) q):h'.CodeRec (.ref c) q:=by
 obtain ⟨c',oc,vs,t,e,hg,hd,hv⟩:=x
 refine Yc (k.data hg (λ q=>by rw [hd] at q;injection q with q;subst q;simp at hv)) λ o' h1 h2 _=>?_
 exact ⟨c',o',vs,t,e,h1,h2.trans hd,hv⟩
theorem aR.trans(x:aR F h h')(y:aR F h' yt):aR F h yt:=λ a o e=>by
 rcases x a o e with ⟨s1,e1,n1⟩ | ⟨ho,hn,t,ht,hP,c,hc,hg,hr⟩
 · rcases y a _ e1 with ⟨s2,e2,n2⟩ | ⟨ho,hn,t,ht,hP,c,hc,hg,hr⟩
   · exact .inl ⟨s2,e2,λ n=>(n2 n).trans (n1 n)⟩
   · rw [n1 hn] at ho
     exact .inr ⟨ho,hn,t,ht,hP,c,λ b ob eb=>by obtain ⟨o',h1⟩:=x.there eb;exact hc b o' h1,hg,hr⟩
 · refine .inr ⟨ho,hn,t,ht,hP,c,hc,?_,y.tA hr⟩
   obtain ⟨sl,h1,h2⟩:=y.dat hg (λ q=>by injection q with q;exact t.ne c q)
   rw [h2 hn] at h1;exact h1
theorem aR.ns(k:aR F h h')(x:h.Ns a m):h'.Ns a m:=by
 obtain ⟨o,es,ep,ho,hd,r⟩:=x
 refine Yc (k.data ho (by erw [hd];intro q;cases q)) λ o' h1 h2 _=>?_
 exact ⟨o',es,ep,h1,h2.trans hd,r⟩
theorem aR.cell(k:aR F h h')(x:h.IsCell a v):h'.IsCell a v:=by
 obtain ⟨o,ho,hd⟩:=x
 refine Yc (k.data ho (by erw [hd];intro q;cases q)) λ o' h1 h2 _=>?_
 exact ⟨o',h1,h2.trans hd⟩
theorem aR.plain{items:Array aas}(k:aR F h h')(x:h.PlainList a items)(n:a∉F.fr):h'.PlainList a items:=by
 obtain ⟨m,e⟩:=x
 obtain ⟨sl,h1,h2⟩:=k.dat e (by intro q;cases q)
 rw [h2 n] at h1
 exact ⟨m,h1⟩
theorem aR.fI{wr:List abh}(k:aR F h h')(hk:∀b o,b∉wr->h'.get? b=some o->yt.get? b=some o)(ne:∀a o,h.get? a=some o->a∉wr)(nc:∀c∈wr,∀t∈F.tb,h'.get? t.P≠some (jC (t.item c))):aR F h yt:=λ a o e=>by
 rcases k a o e with ⟨sl,h1,h2⟩ | ⟨ho,hn,t,ht,hP,c,hc,hg,hr⟩
 · exact .inl ⟨sl,hk a _ (ne a o e) h1,h2⟩
 · refine .inr ⟨ho,hn,t,ht,hP,c,hc,hk a _ (ne a o e) hg,?_⟩
   have:c∉wr:=λ hm=>nc c hm t ht (hP▸hg)
   obtain ⟨c',oc,vs,tt,q,T7,hd,hv⟩:=hr
   cases q
   exact ⟨c,oc,vs,tt,rfl,hk c _ this T7,hd,hv⟩
theorem aR.i3{C:abh}(k:aR F h h')(hk:aeJ C h' yt)(ne:∀a o,h.get? a=some o->a≠C)(nc:∀t∈F.tb,h'.get? t.P≠some (jC (t.item C))):aR F h yt:=
 k.fI (wr:=[C]) (λ b o hb e=>hk.extBut b o (by simpa using hb) e) (λ a o e=>by simpa using ne a o e) λ c hc=>by simp at hc;subst hc;exact nc
theorem cq(h:ac2)(o:Obj):aR F h (h.push o):=aR.of λ V V e=>act _ e
theorem aR.live(k:aR F h h')(e:h.get? a=some o):a < h'.objs.size:=by
 (refine cL (k.there e) λ o' h1=>?_);exact acD h1
end
noncomputable def d0(l:List Env):List abh:=l.filterMap (·.frame)
theorem FunFrames.step{h h' base:ac2}{l:List Env}(k:∀b∈d0 l,∀o,h.get? b=some o->(∀vs,o.data≠.fields vs)->∃o',h'.get? b=some o'∧∀vs,o'.data≠.fields vs)(hl:h.FunFrames base l):h'.FunFrames base l:=by
 induction l with
 | nil=>trivial
 | cons env rest ih=>
   obtain ⟨hk,⟨L,o,hf,hn,ho,hd⟩,hr⟩:=hl
   have hm:L∈d0 (env::rest):=by simp [d0,hf]
   refine bF (k L hm o ho hd) λ o' oQ hd'=>?_
   refine ⟨hk,⟨L,o',hf,hn,oQ,hd'⟩,ih (λ b hb=>k b ?_) hr⟩
   unfold d0 at hb ⊢
   (rw [agS];erw [hf])
   exact ado _ hb
theorem FunFrames.keep{F:Ot}{h h' base:ac2}{l:List Env}(k:aR F h h')(hl:h.FunFrames base l):h'.FunFrames base l:=
 FunFrames.step (λ b V o e hd=>by (refine Yc (k.data e (hd _)) λ o' h1 h2 _=>?_);exact ⟨o',h1,λ vs=>h2▸hd vs⟩) hl
theorem FunFrames.sub{h base RM:ac2}{l:List Env}(k:KS base RM)(hl:h.FunFrames RM l):h.FunFrames base l:=by
 induction l with
 | nil=>trivial
 | cons env rest ih=>
   obtain ⟨hk,⟨L,o,hf,hn,ho,hd⟩,hr⟩:=hl
   refine ⟨hk,⟨L,o,hf,?_,ho,hd⟩,ih hr⟩
   cases e:base.get? L with
   | none=>rfl
   | some o'=>have:=k _ _ e;rw [hn] at this;cases this
theorem FunFrames.live{h base:ac2}{l:List Env}(hl:h.FunFrames base l){b:abh}(hb:b∈d0 l):b < h.objs.size:=by
 refine NW (afd hl hb) λ _ o ho _=>?_
 exact acD ho
set_option genCtorIdx true in
inductive Loc where
 | ns (a:abh) (x:Str)
 | cell (c:abh)
structure Lay where
 base:ac2
 n:Nat
 dO:List abh
 lay:List Loc
 hold:List (abh×Obj)
 fr:List Env
noncomputable abbrev Lay.tb(_:Lay):List C5:=aT
noncomputable abbrev Lay.lo(Y:Lay):Ot:=⟨d0 Y.fr,aT⟩
noncomputable def Lay.cells(Y:Lay):List abh:=Y.lay.filterMap λ l=>match l with | .cell c=>some c | _=>none
noncomputable def Lay.bw(Y:Lay)(g:Gh):List abh:=Y.dO++(Y.cells++(Y.hold.map (·.1)++g.ρ))
structure bB where
 vars:List (Option AV)
 own:List (List AV)
inductive fU (n:Nat) (g:Gh):Option AV->Option aas->Prop
 | none:fU n g none none
 | some {x:AV} {v:aas}:RelV n g x v->fU n g (some x) (some v)
theorem fU.mono(hg:g.le g'):fU n g x v->fU n g' x v
 | .none=>.none
 | .some h=>.some (h.mono hg)
noncomputable def TabAt(tb:List C5)(z:abh->Option Obj)(h:ac2)(P:abh):Prop:=
 h.get? P=some (jC #[])∨∃t∈tb,t.P=P∧∃c oc vs tt,h.get? P=some (jC (t.item c))∧z c=some oc∧oc.data=.fields vs∧vs[1]?=some (.str t.qual tt)
theorem TabAt.of(x:TabAt tb z h P)(hz:∀a o,z a=some o->z' a=some o)(hP:∀o,h.get? P=some o->h'.get? P=some o):TabAt tb z' h' P:=by
 rcases x with x | ⟨t,ht,hp,c,oc,vs,tt,h1,h2,h3⟩
 · exact .inl (hP _ x)
 · exact .inr ⟨t,ht,hp,c,oc,vs,tt,hP _ h1,hz _ _ h2,h3⟩
theorem TabAt.there(x:TabAt tb z h P):∃ps,h.get? P=some (jC ps):=by
 rcases x with x | ⟨t,ht,hp,c,oc,vs,tt,h1,h2,h3⟩ <;> exact ⟨_,‹_›⟩
structure Rel (Y:Lay) (g:Gh) (σ:bB) (h:ac2):Prop where
 fJ:∀a o,g.z a=some o->h.get? a=some o
 base:∀a o,Y.base.get? a=some o->g.z a=some o
 nodup:(Y.bw g).Nodup
 dz:Y.lay.Nodup
 off:∀a∈Y.bw g,g.z a=none
 low:∀a,(a∈Y.dO∨a∈Y.cells∨a∈g.ρ)->Y.n≤a
 dv:∀(i:Nat) (a:abh) (x:Str),Y.lay[i]?=some (Loc.ns a x)->a∈Y.dO
 len:σ.vars.length=Y.lay.length
 eG:σ.own.length=g.ρ.length
 ns:∀a∈Y.dO,∃f,h.Ns a f∧∀(i:Nat) (x:Str),Y.lay[i]?=some (Loc.ns a x)->fU Y.n g (σ.vars[i]?.getD none) (f x)
 cell:∀(i:Nat) (c:abh),Y.lay[i]?=some (Loc.cell c)->∃ov,h.IsCell c ov∧fU Y.n g (σ.vars[i]?.getD none) ov
 own:∀(k:Nat) (a:abh),g.ρ[k]?=some a->∃vs:List aas,h.PlainList a vs.toArray∧aq Y.n g (σ.own[k]?.getD []) vs
 held:∀p∈Y.hold,h.get? p.1=some p.2
 frames:h.FunFrames Y.base Y.fr
 ni:∀L∈d0 Y.fr,L∉Y.hold.map (·.1)
 nj:∀L∈d0 Y.fr,g.z L=none∧L∉g.ρ
 eH:∀t∈Y.tb,g.z t.P=none∧t.P∉Y.bw g∧t.P∉d0 Y.fr
 tabs:∀t∈Y.tb,TabAt Y.tb g.z h t.P
variable{Y:Lay}{g:Gh}{σ:bB}{h h':ac2}
theorem au:a∈Y.bw g↔a∈Y.dO∨a∈Y.cells∨a∈Y.hold.map (·.1)∨a∈g.ρ:=by simp [Lay.bw]
theorem Rel.Ov(R:Rel Y g σ h)(e:g.z a=some o):a∉d0 Y.fr:=λ hm=>by rw [(R.nj a hm).1] at e;cases e
theorem Rel.o6(R:Rel Y g σ h){k:Nat}{a:abh}(e:g.ρ[k]?=some a):a∉d0 Y.fr:=λ hm=>(R.nj a hm).2 (acR e)
theorem Rel.tB(R:Rel Y g σ h)(e:p∈Y.hold):p.1∉d0 Y.fr:=λ hm=>R.ni _ hm (acV e)
theorem Rel.UD(R:Rel Y g σ h)(e:g.z a=some o):∀t∈Y.tb,t.P≠a:=λ t ht q=>by have:=(R.eH t ht).1;rw [q,e] at this;cases this
theorem Rel.uk(R:Rel Y g σ h)(e:a∈Y.bw g):∀t∈Y.tb,t.P≠a:=λ t ht q=>(R.eH t ht).2.1 (q▸e)
theorem Rel.ZC(R:Rel Y g σ h)(k:aR Y.lo h h')(hT:∀t∈Y.tb,TabAt Y.tb g.z h' t.P):Rel Y g σ h' where
 fJ a o e:=k.get (R.fJ a o e) (R.Ov e) (R.UD e)
 base:=R.base
 nodup:=R.nodup
 dz:=R.dz
 off:=R.off
 low:=R.low
 dv:=R.dv
 len:=R.len
 eG:=R.eG
 ns a ha:=(by obtain ⟨f,h1,h2⟩:=R.ns a ha;exact ⟨f,k.ns h1,h2⟩)
 cell i c hc:=(by obtain ⟨ov,h1,h2⟩:=R.cell i c hc;exact ⟨ov,k.cell h1,h2⟩)
 own j a ha:=(by obtain ⟨vs,h1,h3⟩:=R.own j a ha;exact ⟨vs,k.plain h1 (R.o6 ha),h3⟩)
 held p hp:=k.get (R.held p hp) (R.tB hp) (R.uk (au.mpr (.inr (.inr (.inl (acV hp))))))
 frames:=FunFrames.keep k R.frames
 ni:=R.ni
 nj:=R.nj
 eH:=R.eH
 tabs:=hT
theorem Rel.keep(R:Rel Y g σ h)(k:KS h h'):Rel Y g σ h':=R.ZC (aR.of k) λ t ht=>(R.tabs t ht).of (λ V V e=>e) λ o e=>k _ o e
theorem Rel.jD(R:Rel Y g σ h)(hz:g.z c=none):∀t∈aT,h.get? t.P≠some (jC (t.item c)):=λ t ht e=>by
 rcases R.tabs t ht with x | ⟨t',wh,hp,c',oc,vs,tt,h1,h2,h3⟩
 · rw [e] at x
   injection x with x
   injection x with _ _ x
   injection x with x
   exact t.ne c x
 · have:=o5 t ht t' wh hp
   subst this
   rw [e] at h1
   injection h1 with h1
   injection h1 with _ _ h1
   injection h1 with h1
   have:=t'.inj _ _ h1
   subst this
   rw [hz] at h2;cases h2
noncomputable def Gh.add(g:Gh)(p:abh->Option Obj):Gh:=⟨λ a=>(g.z a).or (p a),g.ρ⟩
theorem Gh.d4(g:Gh)(p:abh->Option Obj):g.le (g.add p):=⟨λ a o e=>by simp [Gh.add,e],λ V V e=>e⟩
theorem Rel.grow(R:Rel Y g σ h)(hp:∀a o,p a=some o->h.get? a=some o)(UE:∀a∈Y.bw g,p a=none)(adW:∀L∈d0 Y.fr,p L=none)(adX:∀t∈Y.tb,p t.P=none):Rel Y (g.add p) σ h where
 fJ a o e:=by
  simp only [Gh.add,ahc] at e
  rcases e with e | ⟨_,e⟩
  · exact R.fJ a o e
  · exact hp a o e
 base a o e:=(Gh.d4 g p).1 a o (R.base a o e)
 nodup:=R.nodup
 dz:=R.dz
 off a ha:=by simp [Gh.add,R.off a ha,UE a ha]
 low:=R.low
 dv:=R.dv
 len:=R.len
 eG:=R.eG
 ns a ha:=(by obtain ⟨f,h1,h2⟩:=R.ns a ha;exact ⟨f,h1,λ i x hx=>(h2 i x hx).mono (Gh.d4 g p)⟩)
 cell i c hc:=(by obtain ⟨ov,h1,h2⟩:=R.cell i c hc;exact ⟨ov,h1,h2.mono (Gh.d4 g p)⟩)
 own j a ha:=(by obtain ⟨vs,h1,h3⟩:=R.own j a ha;exact ⟨vs,h1,h3.mono (Gh.d4 g p)⟩)
 held:=R.held
 frames:=R.frames
 ni:=R.ni
 nj L hL:=⟨by simp [Gh.add,(R.nj L hL).1,adW L hL],(R.nj L hL).2⟩
 eH t ht:=⟨by simp [Gh.add,(R.eH t ht).1,adX t ht],(R.eH t ht).2⟩
 tabs t ht:=(R.tabs t ht).of (Gh.d4 g p).1 λ V e=>e
theorem Rel.live(R:Rel Y g σ h):∀a∈Y.bw g,a < h.objs.size:=by
 intro a ha
 simp only [Lay.bw,abC] at ha
 rcases ha with ha | ha | ha | ha
 · (refine bF (R.ns a ha) λ f h1 _=>?_);exact h1.lt
 · refine bF (ahL.mp ha) λ l hl hc=>?_
   cases l with
   | ns _ _=>cases hc
   | cell c=>
     cases hc
     refine cL (afJ hl) λ i hi=>?_
     (refine bF (R.cell i a hi) λ ov h1 _=>?_);exact h1.lt
 · (refine bF (adb.mp ha) λ p hp cB=>?_;obtain rfl:=cB)
   exact acD (R.held p hp)
 · refine cL (afJ ha) λ k hk=>?_
   obtain ⟨vs,⟨_,h1⟩,_⟩:=R.own k a hk;exact acD h1
noncomputable def one(a:abh)(o:Obj):abh->Option Obj:=λ b=>if b=a then some o else none
theorem Rel.alloc(R:Rel Y g σ h)(ho:o.isFreed=false):Rel Y (g.add (one h.objs.size o)) σ (h.push o):=by
 refine (R.keep λ a o' e=>act _ e).grow (λ a o' e=>?_) (λ a ha=>?_) (λ a ha=>?_) λ t ht=>?_
 · unfold one at e
   split at e
   · rename_i q;subst q;cases e;exact acT _ ho
   · cases e
 · unfold one
   rw [if_neg (acS (R.live a ha))]
 · unfold one
   rw [if_neg (acS (FunFrames.live R.frames ha))]
 · unfold one
   obtain ⟨ps,hp⟩:=(R.tabs t ht).there
   rw [if_neg (acS (acD hp))]
theorem Fc(hn:g.z h.objs.size=none)(o:Obj):(g.add (one h.objs.size o)).z h.objs.size=some o:=by
 simp [Gh.add,one,hn]
theorem Rel.fresh(R:Rel Y g σ h):g.z h.objs.size=none:=by
 cases e:g.z h.objs.size with
 | none=>rfl
 | some o=>exact absurd (acD (R.fJ _ _ e)) (adg _)
theorem bT{i:Nat}{c:abh}(hc:Y.lay[i]?=some (Loc.cell c)):c∈Y.cells:=ahL.mpr ⟨_,acR hc,rfl⟩
theorem Rel.yu(R:Rel Y g σ h):(Y.dO.Nodup∧Y.cells.Nodup∧(Y.hold.map (·.1)).Nodup∧g.ρ.Nodup)∧(∀a∈Y.dO,(∀b∈Y.cells,a≠b)∧(∀b∈Y.hold.map (·.1),a≠b)∧∀b∈g.ρ,a≠b)∧
 (∀a∈Y.cells,(∀b∈Y.hold.map (·.1),a≠b)∧∀b∈g.ρ,a≠b)∧∀a∈Y.hold.map (·.1),∀b∈g.ρ,a≠b:=by
 have:=R.nodup
 simp only [Lay.bw,adj,abC] at this
 obtain ⟨h1,⟨h2,⟨h3,h4,h5⟩,h6⟩,h7⟩:=this
 exact ⟨⟨h1,h2,h3,h4⟩,λ a ha=>⟨λ b hb=>h7 a ha b (.inl hb),λ b hb=>h7 a ha b (.inr (.inl hb)),λ b hb=>h7 a ha b (.inr (.inr hb))⟩,
  λ a ha=>⟨λ b hb=>h6 a ha b (.inl hb),λ b hb=>h6 a ha b (.inr hb)⟩,h5⟩
theorem Rel.um(R:Rel Y g σ h)(ha:a∈Y.dO)(hc:c∈Y.cells):a≠c:=(R.yu.2.1 a ha).1 c hc
theorem Rel.o7(R:Rel Y g σ h)(ha:a∈Y.dO)(hc:c∈g.ρ):a≠c:=(R.yu.2.1 a ha).2.2 c hc
theorem Rel.kO(R:Rel Y g σ h)(ha:a∈Y.cells)(hc:c∈g.ρ):a≠c:=(R.yu.2.2.1 a ha).2 c hc
theorem Rel.uo(R:Rel Y g σ h)(ha:a∈Y.dO∨a∈Y.cells∨a∈g.ρ)(hs:aeJ a h h'):∀p∈Y.hold,h'.get? p.1=some p.2:=λ p hp=>by
 have hm:p.1∈Y.hold.map (·.1):=acV hp
 have cM:p.1≠a:=by
  rcases ha with ha | ha | ha
  · exact ((R.yu.2.1 a ha).2.1 _ hm).symm
  · exact ((R.yu.2.2.1 a ha).1 _ hm).symm
  · exact R.yu.2.2.2 _ hm a ha
 exact (hs.2 _ cM).trans (R.held p hp)
theorem Rel.Jl(R:Rel Y g σ h)(ha:a∈Y.bw g)(hs:aeJ a h h'):∀b o,g.z b=some o->h'.get? b=some o:=λ b o e=>by
 have cM:b≠a:=by rintro rfl;rw [R.off b ha] at e;cases e
 exact (hs.2 b cM).trans (R.fJ b o e)
theorem Rel.yv(R:Rel Y g σ h){a:abh}(hs:aeJ a h h')(ha:∀o,h'.get? a=some o->∀vs,o.data≠.fields vs)(hl:∀o,h.get? a=some o->∃o',h'.get? a=some o'):h'.FunFrames Y.base Y.fr:=
 FunFrames.step (λ b V o e hd=>by
  by_cases q:b=a
  · subst q
    obtain ⟨o',oQ⟩:=hl o e
    exact ⟨o',oQ,ha o' oQ⟩
  · exact ⟨o,(hs.2 b q).trans e,hd⟩) R.frames
theorem mo{α:Type}{l:List (Option α)}{i:Nat}{x:Option α}(hi:i < l.length):(l.set i x)[i]?.getD none=x:=by
 erw [aia hi];rfl
theorem fK{α:Type}{l:List (Option α)}{i j:Nat}{x:Option α}(hi:i≠j):(l.set i x)[j]?.getD none=l[j]?.getD none:=by
 erw [ahu hi,rfl]
theorem Rel.Fd(R:Rel Y g σ h){i:Nat}{a:abh}{x:Str}{av:AV}{v:aas}(hl:Y.lay[i]?=some (Loc.ns a x))(hv:RelV Y.n g av v){f:Str->Option aas}(hf:h.Ns a f)
(hn:h'.Ns a λ y=>if y=x then some v else f y)(hs:aeJ a h h'):Rel Y g {σ with vars:=σ.vars.set i (some av)} h':=by
 have ha:=R.dv _ _ _ hl
 have bD:i < σ.vars.length:=by erw [R.len];exact (aaZ.mp hl).1
 have Jm:a∈Y.bw g:=by simp [Lay.bw,ha]
 obtain ⟨UF,agi,agj,nP,Jn,_⟩:=id hn
 refine ⟨R.Jl Jm hs,R.base,R.nodup,R.dz,R.off,R.low,R.dv,by simpa using R.len,R.eG,λ b hb=>?_,λ j c hc=>?_,λ k b hk=>?_,R.uo (.inl ha) hs,R.yv hs (λ o e vs q=>by rw [nP] at e;cases e;rw [Jn] at q;cases q) (λ V V=>⟨_,nP⟩),R.ni,R.nj,R.eH,λ t ht=>(R.tabs t ht).of (λ V V e=>e) λ o e=>(hs.2 _ (R.uk Jm t ht)).trans e⟩
 · by_cases Ow:b=a
   · subst Ow
     refine ⟨_,hn,λ j y hy=>?_⟩
     by_cases ZD:y=x
     · subst ZD
       have yw:i=j:=(ahT (aaZ.mp hl).1 R.dz).mp (hl.trans hy.symm)
       subst yw
       erw [mo bD,if_pos rfl]
       exact .some hv
     · have yw:i≠j:=by rintro rfl;rw [hl] at hy;cases hy;exact ZD rfl
       erw [fK yw,if_neg ZD]
       refine bF (R.ns b hb) λ f' h1 h2=>?_
       have:f' y=f y:=by
        obtain ⟨o,es,ep,e1,e2,e3,e4⟩:=h1
        obtain ⟨o',es',ep',e1',e2',e3',e4'⟩:=hf
        rw [e1] at e1';cases e1'
        rw [e2] at e2';cases e2'
        erw [←e4 y,←e4' y,rfl]
       erw [←this];exact h2 j y hy
   · refine bF (R.ns b hb) λ f' h1 h2=>?_
     refine ⟨f',h1.sameBut hs Ow,λ j y hy=>?_⟩
     have yw:i≠j:=by rintro rfl;rw [hl] at hy;cases hy;exact Ow rfl
     erw [fK yw];exact h2 j y hy
 · refine bF (R.cell j c hc) λ ov h1 h2=>?_
   have yw:i≠j:=by rintro rfl;rw [hl] at hc;cases hc
   exact ⟨ov,h1.sameBut hs (R.um ha (bT hc)).symm,by erw [fK yw];exact h2⟩
 · refine bF (R.own k b hk) λ vs h1 h3=>?_
   exact ⟨vs,h1.extBut hs.extBut (R.o7 ha (acR hk)).symm,h3⟩
theorem Rel.setCell(R:Rel Y g σ h){i:Nat}{c:abh}{av:AV}{v:aas}(hl:Y.lay[i]?=some (Loc.cell c))(hv:RelV Y.n g av v)
(hn:h'.IsCell c (some v))(hs:aeJ c h h'):Rel Y g {σ with vars:=σ.vars.set i (some av)} h':=by
 have hc:=bT hl
 have bD:i < σ.vars.length:=by erw [R.len];exact (aaZ.mp hl).1
 have Jm:c∈Y.bw g:=by simp [Lay.bw,hc]
 obtain ⟨UF,nP,Jn⟩:=id hn
 refine ⟨R.Jl Jm hs,R.base,R.nodup,R.dz,R.off,R.low,R.dv,by simpa using R.len,R.eG,λ b hb=>?_,λ j c' Aa=>?_,λ k b hk=>?_,R.uo (.inr (.inl hc)) hs,R.yv hs (λ o e vs q=>by rw [nP] at e;cases e;rw [Jn] at q;cases q) (λ V V=>⟨_,nP⟩),R.ni,R.nj,R.eH,λ t ht=>(R.tabs t ht).of (λ V V e=>e) λ o e=>(hs.2 _ (R.uk Jm t ht)).trans e⟩
 · refine bF (R.ns b hb) λ f' h1 h2=>?_
   refine ⟨f',h1.sameBut hs (R.um hb hc),λ j y hy=>?_⟩
   have yw:i≠j:=by rintro rfl;rw [hl] at hy;cases hy
   erw [fK yw];exact h2 j y hy
 · by_cases yw:i=j
   · subst yw
     rw [hl] at Aa;cases Aa
     exact ⟨_,hn,by erw [mo bD];exact .some hv⟩
   · refine bF (R.cell j c' Aa) λ ov h1 h2=>?_
     have cM:c'≠c:=by
      rintro rfl
      exact yw ((ahT (aaZ.mp hl).1 R.dz).mp (hl.trans Aa.symm))
     exact ⟨ov,h1.sameBut hs cM,by erw [fK yw];exact h2⟩
 · refine bF (R.own k b hk) λ vs h1 h3=>?_
   exact ⟨vs,h1.extBut hs.extBut (R.kO hc (acR hk)).symm,h3⟩
theorem Rel.dk(R:Rel Y g σ h){k:Nat}{a:abh}{xs:List AV}{vs:List aas}(hk:g.ρ[k]?=some a)(hv:aq Y.n g xs vs)
(hn:h'.PlainList a vs.toArray)(hs:aeJ a h h'):Rel Y g {σ with own:=σ.own.set k xs} h':=by
 have ha:a∈g.ρ:=acR hk
 have Jm:a∈Y.bw g:=by simp [Lay.bw,ha]
 have bD:k < σ.own.length:=by erw [R.eG];exact (aaZ.mp hk).1
 obtain ⟨UG,nP⟩:=id hn
 refine ⟨R.Jl Jm hs,R.base,R.nodup,R.dz,R.off,R.low,R.dv,R.len,by simpa using R.eG,λ b hb=>?_,λ j c hc=>?_,λ j b hj=>?_,R.uo (.inr (.inr ha)) hs,R.yv hs (λ o e vs q=>by rw [nP] at e;cases e;cases q) (λ V V=>⟨_,nP⟩),R.ni,R.nj,R.eH,λ t ht=>(R.tabs t ht).of (λ V V e=>e) λ o e=>(hs.2 _ (R.uk Jm t ht)).trans e⟩
 · refine bF (R.ns b hb) λ f' h1 h2=>?_
   exact ⟨f',h1.sameBut hs (R.o7 hb ha),h2⟩
 · refine bF (R.cell j c hc) λ ov h1 h2=>?_
   exact ⟨ov,h1.sameBut hs (R.kO (bT hc) ha),h2⟩
 · by_cases UH:k=j
   · subst UH
     rw [hk] at hj;cases hj
     refine ⟨vs,hn,?_⟩
     erw [aia bD];exact hv
   · refine bF (R.own j b hj) λ us h1 h3=>?_
     have cM:b≠a:=by
      rintro rfl
      have rj:g.ρ.Nodup:=R.yu.1.2.2.2
      exact UH ((ahT (aaZ.mp hk).1 rj).mp (hk.trans hj.symm))
     refine ⟨us,h1.extBut hs.extBut cM,?_⟩
     erw [ahu UH];exact h3
theorem Rel.Jo(R:Rel Y g σ h)(hnh:Y.n≤h.objs.size)(hv:aq Y.n g xs vs):∃g':Gh,g.le g'∧g'.ρ[σ.own.length]?=some h.objs.size∧
 Rel Y g' {σ with own:=σ.own++[xs]} (h.push {cls:=.type "list",data:=.seq vs.toArray e}):=by
 have R':=R.keep (h':=h.push {cls:=.type "list",data:=.seq vs.toArray e}) λ a o' e=>act _ e
 have j9:g.le ⟨g.z,g.ρ++[h.objs.size]⟩:=⟨λ V V q=>q,λ k a q=>by erw [acO (aaZ.mp q).1];exact q⟩
 have hm:Y.bw ⟨g.z,g.ρ++[h.objs.size]⟩=Y.bw g++[h.objs.size]:=by simp [Lay.bw]
 refine ⟨⟨g.z,g.ρ++[h.objs.size]⟩,j9,by erw [R.eG];simp,R'.fJ,R.base,?_,R.dz,?_,?_,R.dv,R.len,by simp [R.eG],?_,?_,?_,R'.held,R'.frames,R'.ni,λ L hL=>⟨(R.nj L hL).1,λ hm=>?_⟩,λ t ht=>⟨(R.eH t ht).1,λ wi=>?_,(R.eH t ht).2.2⟩,R'.tabs⟩
 · (erw [hm];rw [adj])
   refine ⟨R.nodup,by simp,λ a ha b hb q=>?_⟩
   have:=R.live a ha
   simp at hb;subst hb q
   exact adg _ this
 · intro a ha
   rw [hm,abC] at ha
   rcases ha with ha | ha
   · exact R.off a ha
   · simp at ha;subst ha;exact R.fresh
 · intro a ha
   rcases ha with ha | ha | ha
   · exact R.low a (.inl ha)
   · exact R.low a (.inr (.inl ha))
   · rcases abC.mp ha with ha | ha
     · exact R.low a (.inr (.inr ha))
     · simp at ha;subst ha;exact hnh
 · intro a ha
   refine bF (R'.ns a ha) λ f h1 h2=>?_
   exact ⟨f,h1,λ i x hx=>(h2 i x hx).mono j9⟩
 · intro i c hc
   refine bF (R'.cell i c hc) λ ov h1 h2=>?_
   exact ⟨ov,h1,h2.mono j9⟩
 · intro k a hk
   by_cases Jp:k < g.ρ.length
   · have hk':g.ρ[k]?=some a:=by simpa [acO Jp] using hk
     refine bF (R'.own k a hk') λ us h1 h2=>?_
     refine ⟨us,h1,?_⟩
     erw [acO (by erw [R.eG];exact Jp)]
     exact h2.mono j9
   · have h0:k=g.ρ.length:=by
      have:=(aaZ.mp hk).1
      simp at this;exact %[a=b,cY (a<b),a<b+1|aU Jp this]
     subst h0
     simp at hk
     subst hk
     refine ⟨vs,⟨e,acT _ rfl⟩,?_⟩
     erw [←R.eG]
     simp
     exact hv.mono j9
 · rcases abC.mp hm with hm | hm
   · exact (R.nj L hL).2 hm
   · simp at hm;subst hm
     exact adg _ (FunFrames.live R.frames hL)
 · rw [hm,abC] at wi
   rcases wi with wi | wi
   · exact (R.eH t ht).2.1 wi
   · refine cL ((R.tabs t ht).there) λ ps hp=>?_
     have:=acD hp
     simp at wi
     rw [wi] at this;exact adg _ this
end
section
mutual
inductive IE where
 | var (i:Nat) | glob (x:Str) (av:AV) | int (i:Int) | str (s:Str) | bool (b:Bool) | none
 | bin (op:agc) (a b:IE) | neg (a:IE) | inv (a:IE)
 | cmp (op:CmpOp) (a b:IE)
 | yx (t:IT) (a b:IE)
 | lst (es:GH) | tup (es:GH)
 | idx (a i:IE)
 | ND (a lo hi st:IE)
 | call (f:IE) (args:GH)
 | o8 (o:IE) (name:Str) (args:GH)
 | comp (elt:IE) (it:II) (cond:Aj)
inductive GH where
 | nil | cons (e:IE) (es:GH)
inductive IT where
 | val (e:IE) | not (t:IT) | and (ts:Aj) | or (ts:Aj)
inductive Aj where
 | nil | cons (t:IT) (ts:Aj)
inductive II where
 | kP (hi:IE) | Jq (lo hi:IE) | exp (e:IE) | rev (e:IE)
end
noncomputable abbrev cV:=aas->List AV->Option AV
noncomputable def bB.listOf(σ:bB):AV->Option (List AV)
 | .lst xs=>some xs
 | .bor xs=>some xs
 | .own k=>σ.own[k]?
 | _=>none
noncomputable def jE(σ:bB):AV->Option (List AV)
 | .tup xs=>some xs
 | .str s=>some (s.cps.toList.map λ c=>.str ⟨#[c]⟩)
 | x=>σ.listOf x
noncomputable def bI(a b:Int):List AV:=(abD (b - a).toNat).map λ(k:Nat)=>.int (a+(k:Int))
noncomputable def bB.push(σ:bB)(x:AV):bB:={σ with vars:=σ.vars++[some x]}
noncomputable def Jr(σ:bB)(f:AV->Option AV):AV->Option AV
 | .none=>some .none
 | .bool b=>some (.bool b)
 | .int i=>some (.int i)
 | .str s=>some (.str s)
 | .obj v=>some (.obj v)
 | .lst xs=>(xs.mapM f).map .bor
 | .bor xs=>(xs.mapM f).map .bor
 | .own k=>σ.own[k]?.bind λ xs=>(xs.mapM f).map .bor
 | .tup _=>aka
noncomputable def j7(σ:bB):Nat->AV->Option AV
 | 0=>Jr σ λ V=>none
 | n+1=>Jr σ (j7 σ n)
noncomputable def Fe(σ:bB)(f:AV->Option AV):AV->Option AV
 | .none=>some .none
 | .bool b=>some (.bool b)
 | .int i=>some (.int i)
 | .str s=>some (.str s)
 | .lst xs=>(xs.mapM f).map .lst
 | .tup xs=>(xs.mapM f).map .tup
 | .own k=>σ.own[k]?.bind λ xs=>(xs.mapM f).map .lst
 | _=>aka
noncomputable def nk(σ:bB):Nat->AV->Option AV
 | 0=>Fe σ λ V=>none
 | n+1=>Fe σ (nk σ n)
noncomputable def lH:AV->Option (List AV)
 | .tup xs=>some xs
 | .str s=>some (s.cps.toList.map λ c=>.str ⟨#[c]⟩)
 | .lst xs=>some xs
 | .bor xs=>some xs
 | _=>none
noncomputable def bz(c:Bool)(x:AV):Option AV:=if c then some x else none
noncomputable def hV:AV->Option Int
 | .int i=>some i
 | _=>none
noncomputable def rm:AV->Option Str
 | .str s=>some s
 | _=>none
noncomputable def kQ:AV->Option Bool
 | .bool b=>some b
 | _=>none
noncomputable def nQ(op:agc)(a b:Int):Option AV:=
 match op with
 | .Add=>some (.int (a+b))
 | .Sub=>some (.int (a - b))
 | .Mult=>bz (decide (aan a+aan b≤2 ^ 20)) (.int (a * b))
 | .FloorDiv=>bz (decide (b≠0)&&decide (b.natAbs.log2 < 9000)) (.int (a.fdiv b))
 | .Mod=>bz (decide (b≠0)&&decide (b.natAbs.log2 < 9000)) (.int (a.fmod b))
 | .Pow=>bz (decide (0≤b)&&decide ((aan a:Int) * b≤2 ^ 27)) (.int (a ^ b.toNat))
 | .LShift=>bz (decide (0≤b)&&decide ((aan a:Int)+b≤2 ^ 27)) (.int (a * 2 ^ b.toNat))
 | .RShift=>bz (decide (0≤b)) (.int (a.fdiv (2 ^ b.toNat)))
 | .BitAnd=>some (.int (ac6 a b))
 | .BitOr=>some (.int (agd a b))
 | _=>none
noncomputable def uq(op:agc)(a b:Str):Option AV:=
 match op with
 | .Add=>bz (decide (a.length+b.length≤aaW)) (.str (a++b))
 | _=>none
noncomputable def ZE(b:Int):List AV->Option AV
 | [v]=>bz (decide (0≤b)&&decide (b≤2 ^ 20)) (.lst (aau b.toNat v))
 | _=>none
noncomputable def Ak(σ:bB)(op:agc)(x y:AV):Option AV:=
 match op with
 | .Add=>(σ.listOf x).bind λ xs=>(σ.listOf y).bind λ ys=>bz (decide (xs.length+ys.length≤aaW)) (.lst (xs++ys))
 | .Mult=>(σ.listOf x).bind λ xs=>(hV y).bind λ b=>ZE b xs
 | _=>none
noncomputable def dc(σ:bB)(op:agc)(x y:AV):Option AV:=
 match x with
 | .int a=>(hV y).bind (nQ op a)
 | .str a=>(rm y).bind (uq op a)
 | _=>Ak σ op x y
noncomputable def cP:List AV->Option (List Int)
 | []=>some []
 | .int i::r=>(cP r).map (i::·)
 | _=>none
noncomputable def UI(x y:AV):Option Bool:=
 match x with
 | .int a=>(hV y).map (a==·)
 | .str a=>(rm y).map (a==·)
 | _=>none
noncomputable def Js:AV->Option (List AV)
 | .tup xs=>some xs
 | _=>none
noncomputable def ZF(x y:Option (List AV)):Option Bool:=(x.bind cP).bind λ a=>(y.bind cP).bind λ b=>if a=b then some false else none
noncomputable def XS(σ:bB)(x y:AV):Option Bool:=
 match Js x with
 | some xs=>ZF (some xs) (Js y)
 | none=>ZF (σ.listOf x) (σ.listOf y)
noncomputable def neK(σ:bB)(x y:AV):Option Bool:=
 match UI x y with
 | some b=>some (!b)
 | none=>XS σ x y
noncomputable def eqL(σ:bB)(x y:AV):Option Bool:=
 match UI x y with
 | some b=>some b
 | none=>(σ.listOf x).bind λ a=>(σ.listOf y).bind λ b=>if a.length=b.length then none else some false
noncomputable def ZG(op:CmpOp)(a b:Int):Option Bool:=
 match op with
 | .Lt=>some (decide (a < b))
 | .LtE=>some (decide (a≤b))
 | _=>none
noncomputable def GI:AV->Option Bool
 | .none=>some false
 | .str _=>some true
 | _=>none
noncomputable def UJ(x y:AV):Option Bool:=
 match y with
 | .bool b=>(kQ x).map (· !=b)
 | .none=>GI x
 | _=>none
noncomputable def ur(σ:bB)(op:CmpOp)(x y:AV):Option Bool:=
 match op with
 | .Eq=>eqL σ x y
 | .NotEq=>neK σ x y
 | .Is=>(kQ x).bind λ a=>(kQ y).map (a==·)
 | .IsNot=>UJ x y
 | _=>(hV x).bind λ a=>(hV y).bind (ZG op a)
noncomputable def ut(σ:bB)(x:AV):Option Bool:=
 match x with
 | .bool b=>some b
 | .int i=>some (i !=0)
 | .none=>some false
 | x=>(σ.listOf x).bind λ xs=>if xs.length < 2 ^ 62 then some (xs.length !=0) else none
noncomputable def Jt(σ:bB):AV->Option (List AV)
 | .tup xs=>some xs
 | x=>σ.listOf x
noncomputable def nR(σ:bB)(x i:AV):Option AV:=
 (hV i).bind λ k=>if 0≤k∧k < 2 ^ 62 then (Jt σ x).bind (·[k.toNat]?) else none
noncomputable def kR:AV->Option (Option Int)
 | .none=>some none
 | .int i=>some (some i)
 | _=>aka
noncomputable def bZ{α:Type}(xs:List α)(lo hi st:Option Int):List α:=
 (sliceRange (alC lo hi st xs.length).1 (alC lo hi st xs.length).2.1 (alC lo hi st xs.length).2.2).filterMap (xs[·]?)
noncomputable def uv(s:Str)(lo hi:Option Int):List Nat:=Builtin.Str.strSliceIndices lo hi 1 s.length
noncomputable def Am(σ:bB)(x lo hi st:AV):Option AV:=
 (kR lo).bind λ l=>(kR hi).bind λ u=>(kR st).bind λ t=>
  match x with
  | .str s=>if t=none∧(uv s l u).length≠s.length∧(uv s l u).length≤aaW then some (.str ⟨((uv s l u).filterMap (s.cps[·]?)).toArray⟩) else none
  | x=>(σ.listOf x).bind λ xs=>if t≠some 0∧xs.length≤aaW then some (.lst (bZ xs l u t)) else none
noncomputable def yy(f:AV->Option AV):List AV->Option AV
 | [x]=>f x
 | _=>none
noncomputable def UK(f:AV->AV->Option AV):List AV->Option AV
 | [x,y]=>f x y
 | _=>none
noncomputable def Ju(x:AV):Option AV:=(hV x).bind λ i=>bz (decide (0≤i)&&decide (i≤1114111)) (.str ⟨#[i.toNat]⟩)
noncomputable def Jv(x:AV):Option AV:=(rm x).bind λ s=>bz (decide (s.length=1)) (.int (s.cps.getD 0 0:Nat))
noncomputable def Jw(n:Nat):Option AV:=bz (decide ((n:Int) < 2 ^ 62)) (.int n)
noncomputable def Ff(σ:bB):AV->Option Nat
 | .str s=>some s.length
 | x=>(σ.listOf x).map ae3
noncomputable def UL(σ:bB)(x:AV):Option AV:=(Ff σ x).bind Jw
noncomputable def Jx(σ:bB)(x:AV):Option AV:=((σ.listOf x).bind cP).map λ l=>.int l.sum
noncomputable def ZH(x y:AV):Option AV:=(hV x).bind λ a=>(hV y).bind λ b=>bz (decide (b≠0)&&decide (b.natAbs.log2 < 9000)) (.tup [.int (a.fdiv b),.int (a.fmod b)])
noncomputable def An(σ:bB)(b:String)(xs:List AV):Option AV:=
 if b="chr" then yy Ju xs else if b="ord" then yy Jv xs else if b="len" then yy (UL σ) xs else if b="sum" then yy (Jx σ) xs else if b="divmod" then UK ZH xs else none
noncomputable def adZ(RF:cV)(σ:bB)(f:abh)(xs:List AV):Option AV:=(xs.mapM (j7 σ 3)).bind (RF (.ref f))
noncomputable def ad0(RF:cV)(σ:bB)(v:aas)(xs:List AV):Option AV:=
 match v with
 | .builtin b=>An σ b xs
 | .ref f=>adZ RF σ f xs
 | _=>none
noncomputable def f5(RF:cV)(σ:bB)(f:AV)(xs:List AV):Option AV:=
 match f with
 | .obj v=>ad0 RF σ v xs
 | _=>none
noncomputable def jF:List AV->Option (List Str)
 | []=>some []
 | .str i::r=>(jF r).map (i::·)
 | _=>none
noncomputable def Jy(σ:bB)(sep:Str)(x:AV):Option AV:=((σ.listOf x).bind jF).bind λ l=>bz (decide ((l.map (·.length)).sum+l.length * sep.length≤16777216)) (.str (agp sep l))
noncomputable def yz(t:Str)(x:AV):Option AV:=(rm x).bind λ y=>bz (decide (t.length+2≤aaW)&&decide (y.length≠0)) (.lst ((agw t y).map .str))
noncomputable def lI(σ:bB)(s nm:Str):List AV->Option AV
 | []=>if nm=ac5 "lower" then bz (decide (s.length≤5592405)) (.str (aeX s)) else none
 | [x]=>if nm=ac5 "join" then Jy σ s x else if nm=ac5 "split" then yz s x else none
 | _=>none
noncomputable def yA(i:Int)(nm:Str):List AV->Option AV
 | []=>if nm=ac5 "bit_length" then some (.int (aan i)) else none
 | _=>none
noncomputable def kS(σ:bB)(o:AV)(nm:Str)(xs:List AV):Option AV:=
 match o with
 | .str s=>lI σ s nm xs
 | .int i=>yA i nm xs
 | _=>none
noncomputable def dR(P:AV->Option (Option AV)):List AV->Option (List AV)
 | []=>some []
 | x::r=>(P x).bind λ o=>match o with
   | some y=>(dR P r).map (y::·)
   | none=>dR P r
mutual
noncomputable def bj(RF:cV):IE->bB->Option AV
 | .var i,σ=>σ.vars[i]?.getD none
 | .glob _ av,_=>some av
 | .int i,_=>some (.int i)
 | .str s,_=>some (.str s)
 | .bool b,_=>some (.bool b)
 | .none,_=>some .none
 | .bin op a b,σ=>(bj RF a σ).bind λ x=>(bj RF b σ).bind λ y=>dc σ op x y
 | .neg a,σ=>(bj RF a σ).bind λ x=>match x with | .int i=>some (.int (-i)) | _=>none
 | .inv a,σ=>(bj RF a σ).bind λ x=>match x with | .int i=>some (.int (acp i)) | _=>none
 | .cmp op a b,σ=>(bj RF a σ).bind λ x=>(bj RF b σ).bind λ y=>(ur σ op x y).map .bool
 | .yx t a b,σ=>(jV RF t σ).bind λ c=>if c=true then bj RF a σ else bj RF b σ
 | .lst es,σ=>(i5 RF es σ).bind λ xs=>bz (decide (xs.length≤aaW)) (.lst xs)
 | .tup es,σ=>(i5 RF es σ).bind λ xs=>bz (decide (xs.length≤aaW)) (.tup xs)
 | .idx a i,σ=>(bj RF a σ).bind λ x=>(bj RF i σ).bind λ y=>nR σ x y
 | .ND a lo hi st,σ=>(bj RF a σ).bind λ x=>(bj RF lo σ).bind λ l=>(bj RF hi σ).bind λ u=>(bj RF st σ).bind λ t=>Am σ x l u t
 | .call f args,σ=>(bj RF f σ).bind λ fv=>(i5 RF args σ).bind λ xs=>f5 RF σ fv xs
 | .o8 o nm args,σ=>(bj RF o σ).bind λ ov=>(i5 RF args σ).bind λ xs=>kS σ ov nm xs
 | .comp elt it cond,σ=>(Ao RF it σ).bind λ items=>
  (dR (λ x=>(gD RF cond (σ.push x)).bind λ c=>if c=true then (bj RF elt (σ.push x)).map some else some none) items).bind λ ys=>bz (decide (ys.length≤aaW)) (.lst ys)
noncomputable def i5(RF:cV):GH->bB->Option (List AV)
 | .nil,_=>some []
 | .cons e es,σ=>(bj RF e σ).bind λ x=>(i5 RF es σ).map λ xs=>x::xs
noncomputable def jV(RF:cV):IT->bB->Option Bool
 | .val e,σ=>(bj RF e σ).bind λ x=>ut σ x
 | .not t,σ=>(jV RF t σ).map (!·)
 | .and ts,σ=>gD RF ts σ
 | .or ts,σ=>yB RF ts σ
noncomputable def gD(RF:cV):Aj->bB->Option Bool
 | .nil,_=>some true
 | .cons t ts,σ=>(jV RF t σ).bind λ b=>if b=true then gD RF ts σ else some false
noncomputable def yB(RF:cV):Aj->bB->Option Bool
 | .nil,_=>some false
 | .cons t ts,σ=>(jV RF t σ).bind λ b=>if b=true then some true else yB RF ts σ
noncomputable def Ao(RF:cV):II->bB->Option (List AV)
 | .kP hi,σ=>(bj RF hi σ).bind λ y=>match y with | .int b=>if -(2 ^ 20)≤b∧b≤2 ^ 20 then some (bI 0 b) else none | _=>none
 | .Jq lo hi,σ=>(bj RF lo σ).bind λ x=>(bj RF hi σ).bind λ y=>match x,y with
   | .int a,.int b=>if -(2 ^ 20)≤a∧a≤2 ^ 20∧ -(2 ^ 20)≤b∧b≤2 ^ 20 then some (bI a b) else none
   | _,_=>none
 | .exp e,σ=>(bj RF e σ).bind λ x=>jE σ x
 | .rev e,σ=>(bj RF e σ).bind λ x=>match x with
   | .lst xs=>some xs.reverse
   | .bor xs=>some xs.reverse
   | _=>none
end
noncomputable def wj(RF:cV):II->bB->Option (List AV)
 | .exp e,σ=>(bj RF e σ).bind lH
 | it,σ=>Ao RF it σ
structure NI where
 names:List (Str×afX)
 slots:List (Str×Nat)
 fV:Nat
 ax:List (Str×AV)
noncomputable def cc(nm:NI)(x:Str):Option IE:=
 if x==("__debug__":Str)||x==("__classdict__":Str) then none else
 match nm.slots.lookup x with
 | some i=>some (.var i)
 | none=>match nm.names.lookup x with
   | some .globalImplicit=>(nm.ax.lookup x).map (.glob x ·)
   | _=>none
noncomputable def bJ(nm:NI)(scope:ahH)(x:Str):NI:=
 {names:=scope.names.map λ(n,k)=>if k==.free&&nm.names.lookup n==some .cell then (n,.cell) else (n,k)
  slots:=(x,nm.fV)::nm.slots.filter λ(n,_)=>scope.names.lookup n==some .free
  fV:=nm.fV+1
  ax:=nm.ax}
noncomputable def eI(nm:NI)(scope:ahH)(x:Str):Bool:=
 decide (scope.kind=.function)&&scope.names.all (λ y=>y.2 !=.cell&&(y.2 !=.local||scope.names.lookup y.1==some .local)&&(y.2 !=.free||((nm.slots.lookup y.1).isSome&&nm.names.lookup y.1 !=some .local)))&&
  scope.names.lookup x==some .local
inductive EV where
 | name (x:Str) (p:Pos) | const (c:Const) (k:Nat) (p:Pos) | bin (l:acU) (op:agc) (r:acU) (p:Pos) | un (op:UnaryOp) (x:acU) (p:Pos)
 | cmp (l:acU) (ops:List CmpOp) (xs:List acU) (p:Pos) | yx (t a b:acU) (p:Pos) | bool (op:BoolOp) (vs:List acU) (p:Pos) | lst (es:List acU) (p:Pos) | tup (es:List acU) (k:Nat) (p:Pos)
 | sub (v i:acU) (p:Pos) | call (f:acU) (args:List acU) (yC:List Keyword) (p:Pos) | attr (v:acU) (x:Str) (p:Pos) | comp (e:acU) (gs:List ajb) (sc:ahH) (p:Pos)
 | slice (a b c:Option acU) (p:Pos) | star (e:acU) (p:Pos) | set (es:List acU) (k:Nat) (p:Pos) | other (e:acU)
noncomputable def EV.back:EV->acU
 | .name x p=>.Name x p
 | .const c k p=>.Constant c k p
 | .bin l op r p=>.BinOp l op r p
 | .un op x p=>.UnaryOp op x p
 | .cmp l ops xs p=>.Compare l ops xs p
 | .yx t a b p=>.IfExp t a b p
 | .bool op vs p=>.BoolOp op vs p
 | .lst es p=>.List es p
 | .tup es k p=>.Tuple es k p
 | .sub v i p=>.Subscript v i p
 | .call f args yC p=>.Call f args yC p
 | .attr v x p=>.Attribute v x p
 | .comp e gs sc p=>.ListComp e gs sc p
 | .slice a b c p=>.Slice a b c p
 | .star e p=>.Starred e p
 | .set es k p=>.Set es k p
 | .other e=>e
noncomputable def eW(e:acU):EV:=match e with
 | .Name x p=>.name x p
 | .Constant c k p=>.const c k p
 | .BinOp l op r p=>.bin l op r p
 | .UnaryOp op x p=>.un op x p
 | .Compare l ops xs p=>.cmp l ops xs p
 | .IfExp t a b p=>.yx t a b p
 | .BoolOp op vs p=>.bool op vs p
 | .List es p=>.lst es p
 | .Tuple es k p=>.tup es k p
 | .Subscript v i p=>.sub v i p
 | .Call f args yC p=>.call f args yC p
 | .Attribute v x p=>.attr v x p
 | .ListComp e gs sc p=>.comp e gs sc p
 | .Slice a b c p=>.slice a b c p
 | .Starred e p=>.star e p
 | .Set es k p=>.set es k p
 | e=>.other e
theorem d5{P:EV->acU->Prop}(k:∀v,P v v.back)(e:acU):P (eW e) e:=by
 have:(eW e).back=e:=by cases e <;> rfl
 have h:=k (eW e)
 rwa [this] at h
noncomputable def dM(e:acU):Bool:=match eW e with
 | .set ..=>false
 | _=>true
noncomputable def o9{α:Type}:List α->Option α
 | []=>none
 | x::r=>r.rec (some x) λ V V V=>none
noncomputable def UM{α:Type}:List α->Option (α×α)
 | []=>none
 | x::r=>(o9 r).map λ y=>(x,y)
theorem hZ{α:Type}{l:List α}{x:α}(h:o9 l=some x):l=[x]:=by
 cases l with
 | nil=>exact aw h
 | cons y r=>cases r with
   | nil=>erw [aam h,rfl]
   | cons _ _=>exact aw h
theorem Fg{α:Type}{l:List α}{x y:α}(h:UM l=some (x,y)):l=[x,y]:=by
 cases l with
 | nil=>exact aw h
 | cons a r=>
   refine bS h λ b e q=>?_
   erw [hZ e]
   cases q
   rfl
noncomputable def nn(e:acU):Option Str:=match eW e with
 | .name x _=>some x
 | _=>none
noncomputable def kT(e:acU):Bool:=match eW e with
 | .star ..=>true
 | _=>false
noncomputable def UN(e:acU):Option (Option acU×Option acU×Option acU):=match eW e with
 | .slice a b c _=>some (a,b,c)
 | _=>none
noncomputable def Jz(e:acU):Option (acU×List acU):=match eW e with
 | .call f args yC _=>if yC.isEmpty then some (f,args) else none
 | _=>none
noncomputable def Fh:EV->Bool
 | .call _ args _ _=>!args.isEmpty
 | .other _=>false
 | _=>true
noncomputable abbrev pe(e:acU):Bool:=Fh (eW e)
theorem gu{e:acU}{x:Str}{G:acU->Prop}(h:nn e=some x)(k:∀p,G (.Name x p)):G e:=by
 refine d5 (P:=λ v e=>(match v with | .name x _=>some x | _=>none)=some x->G e) (λ v h=>?_) e h
 cases v with
 | name y p=>obtain rfl:=aam h;exact k p
 | _=>exact aw h
theorem Ox{e:acU}{q:Option acU×Option acU×Option acU}{G:acU->Prop}(h:UN e=some q)(k:∀p,G (.Slice q.1 q.2.1 q.2.2 p)):G e:=by
 refine d5 (P:=λ v e=>(match v with | .slice a b c _=>some (a,b,c) | _=>none)=some q->G e) (λ v h=>?_) e h
 cases v with
 | slice a b c p=>obtain rfl:=aam h;exact k p
 | _=>exact aw h
theorem GJ{e:acU}{q:acU×List acU}{G:acU->Prop}(h:Jz e=some q)(k:∀p,G (.Call q.1 q.2 [] p)):G e:=by
 refine d5 (P:=λ v e=>(match v with | .call f args yC _=>if yC.isEmpty then some (f,args) else none | _=>none)=some q->G e) (λ v h=>?_) e h
 cases v with
 | call f args yC p=>
   cases yC with
   | nil=>obtain rfl:=aam h;exact k p
   | cons _ _=>exact aw h
 | _=>exact aw h
theorem tC(h:kT e=false):∀x p,e≠.Starred x p:=λ x p q=>by subst q;exact e8 h.symm
noncomputable def Fi:IE->Option String
 | .glob _ (.obj v)=>match v with
   | .type T=>some T
   | _=>none
 | _=>none
theorem C6{e:IE}{T:String}{G:IE->Prop}(h:Fi e=some T)(k:∀x,G (.glob x (.obj (.type T)))):G e:=by
 cases e with
 | glob x av=>
   cases av with
   | obj v=>
     cases v with
     | type T'=>obtain rfl:=aam h;exact k x
     | _=>exact aw h
   | _=>exact aw h
 | _=>exact aw h
structure Rec where
 e:NI->acU->Option IE
 o:NI->Option acU->Option IE
 es:NI->List acU->Option GH
 t:NI->acU->Option IT
 ts:NI->List acU->Option Aj
 i:NI->acU->Option II
section
variable(r:Rec)(nm:NI)
noncomputable def JA:Const->Option IE
 | .int i=>some (.int i)
 | .str s=>some (.str s)
 | .bool b=>some (.bool b)
 | .none=>some .none
 | _=>none
noncomputable def unE(x:acU):UnaryOp->Option IE
 | .USub=>(r.e nm x).map .neg
 | .Invert=>(r.e nm x).map .inv
 | _=>none
noncomputable def UO(l:acU)(ops:List CmpOp)(xs:List acU):Option IE:=(o9 ops).bind λ op=>(o9 xs).bind λ x=>if ai9 op x then none else (r.e nm l).bind λ a=>(r.e nm x).map λ b=>.cmp op a b
noncomputable def UP(v i:acU):Option IE:=match UN i with
 | some (lo,hi,st)=>(r.e nm v).bind λ a=>(r.o nm lo).bind λ b=>(r.o nm hi).bind λ c=>(r.o nm st).map λ d=>.ND a b c d
 | none=>(r.e nm v).bind λ a=>(r.e nm i).map λ b=>.idx a b
noncomputable def RN(args:List acU)(pos:Pos):EV->Option IE
 | .attr o name apos=>if apos.endLine==pos.line&&decide (args.length < 5)&&pe o then (r.e nm o).bind λ a=>(r.es nm args).map λ b=>.o8 a name b else none
 | .name x p=>if args.isEmpty then none else (cc nm x).bind λ a=>(r.es nm args).map λ b=>.call a b
 | _=>none
noncomputable abbrev RO(args:List acU)(pos:Pos)(f:acU):Option IE:=RN r nm args pos (eW f)
noncomputable def lcE(elt:acU)(scope:ahH)(g:ajb):Option IE:=(nn g.target).bind λ x=>if g.is_async==0&&eI nm scope x&&dM g.iter then (r.e (bJ nm scope x) elt).bind λ a=>(r.i nm g.iter).bind λ b=>(r.ts (bJ nm scope x) g.ifs).map λ c=>.comp a b c else none
noncomputable def JB:EV->Option IE
 | .const c _ _=>JA c
 | .name x _=>cc nm x
 | .bin l op x _=>(r.e nm l).bind λ a=>(r.e nm x).map λ b=>.bin op a b
 | .un op x _=>unE r nm x op
 | .cmp l ops xs _=>UO r nm l ops xs
 | .yx t a b _=>(r.t nm t).bind λ t=>(r.e nm a).bind λ a=>(r.e nm b).map λ b=>.yx t a b
 | .lst es _=>(r.es nm es).map .lst
 | .tup es _ _=>(r.es nm es).map .tup
 | .sub v i _=>UP r nm v i
 | .call f args yC pos=>if yC.isEmpty then RO r nm args pos f else none
 | .comp elt gens scope _=>(o9 gens).bind (lcE r nm elt scope)
 | _=>none
noncomputable abbrev RP(e:acU):Option IE:=JB r nm (eW e)
noncomputable def RQ:Option acU->Option IE
 | none=>some .none
 | some e=>r.e nm e
noncomputable def JC:List acU->Option GH
 | []=>some .nil
 | e::es=>if kT e then none else (r.e nm e).bind λ a=>(r.es nm es).map λ b=>.cons a b
noncomputable def ZI(vs:List acU):BoolOp->Option IT
 | .And=>(r.ts nm vs).map .and
 | .Or=>(r.ts nm vs).map .or
noncomputable def RU(e:acU):EV->Option IT
 | .un op x _=>match op with
   | .Not=>(r.t nm x).map .not
   | _=>(unE r nm x op).map .val
 | .bool op vs _=>ZI r nm vs op
 | .yx _ _ _ _=>none
 | .other _=>none
 | .cmp l ops xs _=>(UO r nm l ops xs).map .val
 | _=>(r.e nm e).map .val
noncomputable abbrev RV(e:acU):Option IT:=RU r nm e (eW e)
noncomputable def JD:List acU->Option Aj
 | []=>some .nil
 | e::es=>(r.t nm e).bind λ a=>(r.ts nm es).map λ b=>.cons a b
noncomputable def UQ(args:List acU):Option II:=match o9 args with
 | some hi=>if kT hi then none else (r.e nm hi).map .kP
 | none=>(UM args).bind λ p=>if kT p.1||kT p.2 then none else (r.e nm p.1).bind λ a=>(r.e nm p.2).map λ b=>.Jq a b
noncomputable def ZJ(args:List acU):Option II:=(o9 args).bind λ x=>if kT x then none else (r.e nm x).map .rev
noncomputable def UR(e:acU):Option II:=(Jz e).bind λ c=>(nn c.1).bind λ f=>(cc nm f).bind λ g=>(Fi g).bind λ T=>if T="range" then UQ r nm c.2 else if T="reversed" then ZJ r nm c.2 else none
noncomputable def JE(e:acU):Option II:=match UR r nm e with
 | some i=>some i
 | none=>(r.e nm e).map .exp
end
noncomputable def jW:Nat->Rec
 | 0=>⟨λ V V=>none,λ V V=>none,λ V V=>none,λ V V=>none,λ V V=>none,λ V V=>none⟩
 | k+1=>⟨RP (jW k),RQ (jW k),JC (jW k),RV (jW k),JD (jW k),JE (jW k)⟩
noncomputable abbrev dT(k:Nat)(nm:NI)(e:acU):Option IE:=(jW k).e nm e
noncomputable abbrev C7(k:Nat)(nm:NI)(e:List acU):Option GH:=(jW k).es nm e
noncomputable abbrev Ap(k:Nat)(nm:NI)(e:acU):Option IT:=(jW k).t nm e
noncomputable abbrev uw(k:Nat)(nm:NI)(e:acU):Option II:=(jW k).i nm e
end
end Mine.Internal
end
section
open PySem PyProof PyProof.Rows
namespace Mine.Internal
section
structure a9 (s s':aav):Prop where
 gens:s'.gens=s.gens
 drawn:s'.drawn=s.drawn
 os:s'.os=s.os
theorem a9.refl(s:aav):a9 s s:=⟨rfl,rfl,rfl⟩
theorem a9.trans{a b c:aav}(x:a9 a b)(y:a9 b c):a9 a c:=⟨y.1.trans x.1,y.2.trans x.2,y.3.trans x.3⟩
noncomputable def Wv(M:Model)(A:adn)(Y:Lay)(g:Gh)(σ:bB)(t:Sem aas)(s:aav)(r:AV):Prop:=
 ∀(E:aas->aav->Prop) (Q:aas->aav->Prop),
  (∀v s' g',aR Y.lo s.heap s'.heap->g.le g'->Rel Y g' σ s'.heap->a9 s s'->RelV Y.n g' r v->Q v s')->acn M A t Q E s
noncomputable def Wb(M:Model)(A:adn)(Y:Lay)(g:Gh)(σ:bB)(t:Sem Bool)(s:aav)(r:Bool):Prop:=
 ∀(E:aas->aav->Prop) (Q:Bool->aav->Prop),
  (∀s' g',aR Y.lo s.heap s'.heap->g.le g'->Rel Y g' σ s'.heap->a9 s s'->Q r s')->acn M A t Q E s
theorem d6{α:Type}{M:Model}{A:adn}{t:Sem α}{Q:α->aav->Prop}{E:aas->aav->Prop}{s:aav}
(h:∀Q' E',(∀v s',Q v s'->Q' v s')->(∀v s',E v s'->E' v s')->acn M A t Q' E' s):acn M A t Q E s:=h Q E (λ V V x=>x) λ V V x=>x
theorem bf{M:Model}{A:adn}{env:Env}{st:agH}{rest:List agH}{Q:agT->aav->Prop}{E:aas->aav->Prop}{s:aav}
(h:∀Q' E',(∀s',acn M A (aiF rest env) Q E s'->Q' .next s')->(∀v s',Q (.ret v) s'->Q' (.ret v) s')->(∀v s',E v s'->E' v s')->acn M A (exec st env) Q' E' s):acn M A (aiF (st::rest) env) Q E s:=
 aeN (h _ _ (λ V x=>x) (λ V V x=>x) λ V V x=>x)
theorem nS{m n k:Nat}(hm:m=n+1 - k)(h:k < n):n+1 - (k+1) < m:=%[a<b,b=c,d<e,qD 0 a (e+1) (d+1),qD 0 c (e+1) d|(rU hm h rfl rfl)]
theorem ZK{P:Prop}(h:∀G:Prop,(P->G)->G):P:=h P id
structure jX (d:Nat) (l:List Env) (A:adn):Prop where
 frames:A.frames=some l
 hand:A.handled=none
 depth:A.depth+d≤900
 units:A.units+100 * d≤9000
variable{prog:aaq}{w:acb}{A:adn}{Y:Lay}{g:Gh}{σ:bB}{s:aav}{d:Nat}
theorem d7{E:aas->aav->Prop}{Q:aas->aav->Prop}{r:AV}{v:aas}{tk:Nat}(R:Rel Y g σ s.heap)
(hQ:∀v s' g',aR Y.lo s.heap s'.heap->g.le g'->Rel Y g' σ s'.heap->a9 s s'->RelV Y.n g' r v->Q v s')(hv:RelV Y.n g r v):Q v {s with toks:=tk}:=
 hQ v _ g (aR.refl _) (Gh.le.refl g) R ⟨rfl,rfl,rfl⟩ hv
theorem wk{E:aas->aav->Prop}{Q:aas->aav->Prop}{r:AV}{v:aas}(R:Rel Y g σ s.heap)
(hQ:∀v s' g',aR Y.lo s.heap s'.heap->g.le g'->Rel Y g' σ s'.heap->a9 s s'->RelV Y.n g' r v->Q v s')(hv:RelV Y.n g r v):Q v s:=
 hQ v _ g (aR.refl _) (Gh.le.refl g) R ⟨rfl,rfl,rfl⟩ hv
theorem aK{c:Bool}{x r:AV}(h:bz c x=some r):c=true∧r=x:=by
 unfold bz at h
 split at h
 · obtain rfl:=aam h;exact ⟨by assumption,rfl⟩
 · exact aw h
theorem RelV.newList{h:ac2}{xs:List AV}{vs:List aas}{e:Nat}(R:Rel Y g σ h)(hn:Y.n≤h.objs.size)(hv:aq Y.n g xs vs):
 RelV Y.n (g.add (one h.objs.size {cls:=.type "list",data:=.seq vs.toArray e})) (.lst xs) (.ref h.objs.size):=
 .lst hn (Fc R.fresh _) rfl rfl (hv.mono (Gh.d4 _ _))
theorem RelV.UT{h:ac2}{xs:List AV}{vs:List aas}{e:Nat}(R:Rel Y g σ h)(hn:Y.n≤h.objs.size)(hv:aq Y.n g xs vs):
 RelV Y.n (g.add (one h.objs.size {cls:=.type "tuple",data:=.seq vs.toArray e})) (.tup xs) (.ref h.objs.size):=
 .tup hn (Fc R.fresh _) rfl rfl (hv.mono (Gh.d4 _ _))
theorem nT{E:aas->aav->Prop}{Q:aas->aav->Prop}{xs:List AV}{vs:List aas}{tk e:Nat}(R:Rel Y g σ s.heap)(hn:Y.n≤s.heap.objs.size)
(hQ:∀v s' g',aR Y.lo s.heap s'.heap->g.le g'->Rel Y g' σ s'.heap->a9 s s'->RelV Y.n g' (.lst xs) v->Q v s')(hv:aq Y.n g xs vs):
 Q (.ref s.heap.objs.size) {s with heap:=s.heap.push {cls:=.type "list",data:=.seq vs.toArray e},toks:=tk}:=
 hQ _ _ _ (cq _ _) (Gh.d4 _ _) (R.alloc rfl) ⟨rfl,rfl,rfl⟩ (RelV.newList R hn hv)
theorem JF{E:aas->aav->Prop}{Q:aas->aav->Prop}{xs:List AV}{vs:List aas}{tk e:Nat}(R:Rel Y g σ s.heap)(hn:Y.n≤s.heap.objs.size)
(hQ:∀v s' g',aR Y.lo s.heap s'.heap->g.le g'->Rel Y g' σ s'.heap->a9 s s'->RelV Y.n g' (.tup xs) v->Q v s')(hv:aq Y.n g xs vs):
 Q (.ref s.heap.objs.size) {s with heap:=s.heap.push {cls:=.type "tuple",data:=.seq vs.toArray e},toks:=tk}:=
 hQ _ _ _ (cq _ _) (Gh.d4 _ _) (R.alloc rfl) ⟨rfl,rfl,rfl⟩ (RelV.UT R hn hv)
theorem bo{x:AV}{v:aas}{xs:List AV}(R:Rel Y g σ s.heap)(hx:RelV Y.n g x v)(h:σ.listOf x=some xs):
 ∃a vs,v=.ref a∧s.heap.IsList a vs.toArray∧aq Y.n g xs vs:=by
 cases hx with
 | lst h1 h2 h3 h4 h5=>cases h;exact ⟨_,_,rfl,⟨_,R.fJ _ _ h2,h3,_,h4⟩,h5⟩
 | bor h2 h3 h4 h5=>cases h;exact ⟨_,_,rfl,⟨_,R.fJ _ _ h2,h3,_,h4⟩,h5⟩
 | own hk=>
   refine bF (R.own _ _ hk) λ vs h1 h2=>?_
   rw [show σ.own[_]?.getD []=xs by erw [(show σ.own[_]?=some xs from h)];rfl] at h2
   exact ⟨_,vs,rfl,h1.isList,h2⟩
 | _=>exact aw h
theorem lJ{xs:List AV}{v:aas}(R:Rel Y g σ s.heap)(hx:RelV Y.n g (.tup xs) v):∃a vs,v=.ref a∧s.heap.IsTuple a vs.toArray∧aq Y.n g xs vs:=by
 cases hx with
 | tup h1 h2 h3 h4 h5=>exact ⟨_,_,rfl,⟨_,R.fJ _ _ h2,h3,_,h4⟩,h5⟩
set_option maxRecDepth 100000
section
open AutoSeq1 (wpAny_loadPart')
theorem UU(a:Int)(t:Tok)(l:abh)(items:Array aas)(n:Nat)(dd:Option abh)(sl:Array (Option aas)):
 Meets (aiZ.«int.__rmul__» ⟨[.int a t,.ref l],[]⟩) (λ V R s=>s.heap.get? l=some {cls:=.type "list",dict:=dd,data:=.seq items n,slots:=sl}∧R (.ok (.ret Value.notImplemented)) s):=
 .of_wp λ prog w A R s h=>by obtain ⟨hp,g,d,tk,os⟩:=s;(have hl:=h.1;have h:=h.2);wp_walk using wpAny_loadPart' hl;exact ⟨_,rfl,h⟩
theorem ZL(l:abh)(items:Array aas)(n:Nat)(x:Int)(u:Tok)(dd:Option abh)(sl:Array (Option aas))(hc0:¬(!aiL x)=true)(hc1:¬items.size * x.toNat > (2 ^ 63 - 1) / 8)(hc2:¬aiY (items.size * x.toNat)=true):
 Meets (aiZ.«list.__mul__» ⟨[.ref l,.int x u],[]⟩) (λ V R s=>s.heap.get? l=some {cls:=.type "list",dict:=dd,data:=.seq items n,slots:=sl}∧R (.ok (.ret (ahh s.heap.objs.size))) {s with heap:=s.heap.push {cls:=Value.type "list",data:=Data.seq (ak2 (λ x1 x2=>x1++x2) #[] (aau (if items.isEmpty=true then 0 else x.toNat) items))},toks:=s.toks}):=
 .of_wp λ prog w A R s h=>by
  obtain ⟨hp,g,d,tk,os⟩:=s;(have hl:=h.1;have h:=h.2)
  have bY:=AutoListH.joined_fits hc2
  wp_walk using wpAny_loadPart' hl;refine wpAny_ite_false (decide_eq_false (aiR.mpr bY)) ?_;wp_walk using wpAny_loadPart' hl;exact ⟨_,rfl,h⟩
theorem ux{l:abh}{items:Array aas}{x:Int}{u:Tok}{E:aas->aav->Prop}{Q:aas->aav->Prop}(hl:s.heap.IsList l items)(h0:0≤x)(UV:x≤2 ^ 20)(h1:items.size=1)
(h:Q (.ref s.heap.objs.size) {s with heap:=s.heap.push {cls:=.type "list",data:=.seq (ak2 (λ x1 x2=>x1++x2) #[] (aau x.toNat items))}}):
 acn (acr prog w) A (aiP .Mult (.ref l) (.int x u)) Q E s:=by
 obtain ⟨⟨cls,dd,data,sl⟩,ho,hc,n,hd⟩:=id hl
 simp only at hc hd
 subst hc hd
 have he:items.isEmpty=false:=by rw [Array.isEmpty];simp [h1]
 have hx:x.toNat≤2 ^ 20:=%[a≤(qL 2 20),a⊆(qL 2 20),qD 4 a a (0)|(T9 UV rfl)]
 refine wpAny_binaryOp_repeat_ref (T:="list") (U:="int") ⋯ ⟨_,ho,rfl⟩ (λ s'=>akg s' x u) noFill_list_mul F.fills_int_mul F.slot_int_rmul repeat_list F.slot_int_index.lookup ?_
 refine aiA F.slot_int_rmul (akg s x u) F.entry_int_rmul (F.args_int_rmul_2 _ _) (UU x u l items n dd sl) ⟨ho,rfl,⟨_,ho,rfl⟩,?_⟩
 refine aiA F.slot_list_mul ⟨_,ho,rfl⟩ F.entry_list_mul (F.args_list_mul_2 _ _) (ZL l items n x u dd sl (by simp [aiL];exact %[bG ((qG (9223372036854775808))⊆a) (a⊂9223372036854775808),0⊆a,a⊆(qL 2 20)|fZ h0 UV]) (by erw [h1];exact %[cY (a<1*b),b≤(qL 2 20),qD 0 c (qL 2 63) (1),qD 1 a c (8)|cf hx rfl rfl]) (by erw [h1];simp [aiY,aaW];exact %[a⊆16777216,a⊆(qL 2 20)|fZ UV])) ⟨ho,?_⟩
 erw [he]
 exact h
end
theorem C8{l b:abh}{vs ws:List aas}{E:aas->aav->Prop}{Q:aas->aav->Prop}(hl:s.heap.IsList l vs.toArray)(hb:s.heap.IsList b ws.toArray)
(bY:vs.length+ws.length≤aaW)
(h:Q (.ref s.heap.objs.size) {s with heap:=s.heap.push {cls:=.type "list",data:=.seq (vs++ws).toArray}}):
 acn (acr prog w) A (aiP .Add (.ref l) (.ref b)) Q E s:=by
 obtain ⟨⟨cls,dd,data,sl⟩,ho,hc,n,hd⟩:=id hl
 obtain ⟨⟨ah1,dd2,data2,GK⟩,ho2,hc2,n2,hd2⟩:=id hb
 simp only at hc hd hc2 hd2
 subst hc hd hc2 hd2
 have e:vs.toArray++ws.toArray=(vs++ws).toArray:=by simp
 refine concat_meets ⟨_,ho,rfl⟩ ⟨_,ho2,rfl⟩ noFill_list_add seq_list_add PySem.F.slot_list_add PySem.F.entry_list_add (PySem.F.args_list_add_2 _ _) (list_addW l b vs.toArray ws.toArray n n2 dd dd2 sl GK (by simpa using bY)) ⟨ho,ho2,?_⟩
 erw [e]
 exact h
theorem aq.replicate{n:Nat}{g:Gh}{x:AV}{v:aas}(h:RelV n g x v):∀k,aq n g (aau k x) (aau k v)
 | 0=>.nil
 | k+1=>.cons h (aq.replicate h k)
theorem pf(v:aas):∀(k:Nat) (acc:Array aas),ak2 (λ x1 x2=>x1++x2) acc (aau k #[v])=acc++(aau k v).toArray
 | 0,acc=>by simp
 | k+1,acc=>by (erw [afm,List.foldl_cons,pf v k ..]);apply afW.mp;simp [afm]
theorem RW{a b:Int}(h:aan a+aan b≤2 ^ 20):IntMulOk a b:=by
 skip
 intro hc
 simp only [aaQ] at hc
 have:=hc.2
 unfold Builtin.Int.intTooBig at this
 simp [bitsLine] at this
 lia
theorem oR{α:Type}{r:α}{C:Prop}(h:none=some r):C:=by exact aw h
theorem bU{y:AV}{b:Int}(h:hV y=some b):y=.int b:=by
 cases y with
 | int i=>cases h;rfl
 | _=>exact oR h
theorem e9{y:AV}{b:Str}(h:rm y=some b):y=.str b:=by
 cases y with
 | str i=>cases h;rfl
 | _=>exact oR h
theorem fL{y:AV}{b:Bool}(h:kQ y=some b):y=.bool b:=by
 cases y with
 | bool i=>cases h;rfl
 | _=>exact oR h
theorem bV{p q:Prop} [Decidable p] [Decidable q](h:(decide p&&decide q)=true):p∧q:=by
 rw [aaQ] at h
 exact ⟨of_decide_eq_true h.1,of_decide_eq_true h.2⟩
theorem Oy(R:Rel Y g σ s.heap){op:agc}{a b:Int}{t u:Tok}{r:AV}(h:nQ op a b=some r):Wv (acr prog w) A Y g σ (aiP op (.int a t) (.int b u)) s r:=by
 intro E Q hQ
 cases op with
 | Add=>cases h;exact add_int (d7 (E:=E) R hQ (.int _ _))
 | Sub=>cases h;exact sub_int (d7 (E:=E) R hQ (.int _ _))
 | Mult=>obtain ⟨hc,rfl⟩:=aK h;exact mul_int (d7 (E:=E) R hQ (.int _ _)) (RW (of_decide_eq_true hc))
 | FloorDiv=>obtain ⟨hc,rfl⟩:=aK h;exact floordiv_int (bV hc).1 (d7 (E:=E) R hQ (.int _ _)) (.inl (noPylong_of_log2 (bV hc).2))
 | Mod=>obtain ⟨hc,rfl⟩:=aK h;exact mod_int' (bV hc).1 (d7 (E:=E) R hQ (.int _ _))
 | Pow=>obtain ⟨hc,rfl⟩:=aK h;exact pow_int (bV hc).1 (bV hc).2 (d7 (E:=E) R hQ (.int _ _))
 | LShift=>obtain ⟨hc,rfl⟩:=aK h;exact lshift_int (bV hc).1 (bV hc).2 (d7 (E:=E) R hQ (.int _ _))
 | RShift=>obtain ⟨hc,rfl⟩:=aK h;exact rshift_int (of_decide_eq_true hc) (d7 (E:=E) R hQ (.int _ _))
 | BitAnd=>cases h;exact and_int (d7 (E:=E) R hQ (.int _ _))
 | BitOr=>cases h;exact or_int (d7 (E:=E) R hQ (.int _ _))
 | _=>exact oR h
theorem Oz(R:Rel Y g σ s.heap){op:agc}{a b:Str}{t u:Tok}{r:AV}(h:uq op a b=some r):Wv (acr prog w) A Y g σ (aiP op (.str a t) (.str b u)) s r:=by
 intro E Q hQ
 cases op with
 | Add=>obtain ⟨hc,rfl⟩:=aK h;exact add_str (λ t' tk=>d7 (E:=E) R hQ (.str _ _)) (of_decide_eq_true hc)
 | _=>exact oR h
theorem OA(R:Rel Y g σ s.heap)(hn:Y.n≤s.heap.objs.size){op:agc}{x y r:AV}{v u:aas}(hx:RelV Y.n g x v)(hy:RelV Y.n g y u)(h:Ak σ op x y=some r):
 Wv (acr prog w) A Y g σ (aiP op v u) s r:=by
 intro E Q hQ
 cases op with
 | Add=>
   (refine aC h ?_;clear h;intro xs e1 h)
   (refine aC h ?_;clear h;intro ys e2 h)
   obtain ⟨hc,rfl⟩:=aK h
   obtain ⟨a,vs,rfl,hl,hv⟩:=bo R hx e1
   obtain ⟨b,us,rfl,hb,hu⟩:=bo R hy e2
   exact C8 hl hb (by (erw [←hv.length,←hu.length]);exact of_decide_eq_true hc) (nT (E:=E) (tk:=s.toks) R hn hQ (hv.append hu))
 | Mult=>
   (refine aC h ?_;clear h;intro xs e1 h)
   (refine aC h ?_;clear h;intro b e2 h)
   have:=bU e2
   subst this
   apply RelV.cp hy;intro _
   obtain ⟨a,vs,rfl,hl,hv⟩:=bo R hx e1
   cases hv with
   | nil=>exact oR h
   | cons ZM RX=>
     cases RX with
     | cons _ _=>exact oR h
     | nil=>
       obtain ⟨hc,rfl⟩:=aK h
       refine ux hl (bV hc).1 (bV hc).2 rfl ?_
       erw [pf ..,aiK]
       exact nT (E:=E) (tk:=s.toks) R hn hQ (aq.replicate ZM _)
 | _=>exact oR h
theorem OB(R:Rel Y g σ s.heap)(hn:Y.n≤s.heap.objs.size)(hA:jX d Y.fr A){op:agc}{x y r:AV}{v u:aas}(hx:RelV Y.n g x v)(hy:RelV Y.n g y u)(h:dc σ op x y=some r):
 Wv (acr prog w) A Y g σ (aiP op v u) s r:=by
 cases x with
 | int a=>
   (refine aC h ?_;clear h;intro b e h)
   have:=bU e
   subst this
   apply RelV.cp hx;intro _;apply RelV.cp hy;intro _;exact Oy R h
 | str a=>
   (refine aC h ?_;clear h;intro b e h)
   have:=e9 e
   subst this
   apply RelV.fH hx;intro _;apply RelV.fH hy;intro _;exact Oz R h
 | _=>exact OA R hn hx hy h
end
section
open SeqAt MeetsSeq
variable{prog:aaq}{w:acb}{A:adn}{Y:Lay}{g:Gh}{σ:bB}{s:aav}{d:Nat}
theorem jG:∀{zs:List Int},cP xs=some zs->xs=zs.map .int:=by
 induction xs with
 | nil=>intro zs h;obtain rfl:=aam h;rfl
 | cons x xs ih=>
   intro zs h
   cases x with
   | int i=>exact bS (show (cP xs).map (i::·)=some zs from h) λ r hr q=>by (erw [←q,ih hr]);rfl
   | _=>exact aw h
theorem Fj{n:Nat}{g g':Gh}{is:List Int}{vs us:List aas}(hv:aq n g (is.map .int) vs)(hu:aq n g' (is.map .int) us)(j:Nat)(h1:j < vs.length)(h2:j < us.length):EqAt A s vs[j] us[j] true:=by
 have hj:j < (is.map AV.int).length:=hv.length▸h1
 have hi:(is.map AV.int)[j]?=some (.int (is[j]'(by simpa using hj))):=by erw [aaF hj];simp
 refine bF (hv.get hi) λ v e1 r1=>?_
 refine bF (hu.get hi) λ u e2 r2=>?_
 erw [(aaZ.mp e1).2,(aaZ.mp e2).2]
 apply r1.cp
 intro t
 apply r2.cp
 intro t'
 have:=(EqGives.int (is[j]'(by simpa using hj)) (is[j]'(by simpa using hj)) t t').at A s
 rwa [beq_self_eq_true] at this
end
section
open SeqAt MeetsSeq
variable{prog:aaq}{w:acb}{A:adn}{Y:Lay}{g:Gh}{σ:bB}{s:aav}{d:Nat}
theorem Aq(n:Nat):((abD n).all λ V=>true)=true:=acP.mpr λ V V=>rfl
theorem JG(hx:RelV Y.n g x v)(hy:RelV Y.n g y u)(h:UI x y=some b):
 (Q (.bool b) s->acn (acr prog w) A (ajM .Eq v u) Q E s)∧(Q (.bool !b) s->acn (acr prog w) A (ajM .NotEq v u) Q E s):=by
 cases x with
 | int a=>
   refine bS h λ c e q=>?_
   subst q
   rw [bU e] at hy
   apply hx.cp;intro _;apply hy.cp;intro _
   exact ⟨eq_int,ne_int⟩
 | str a=>
   refine bS h λ c e q=>?_
   subst q
   rw [e9 e] at hy
   apply hx.fH;intro _;apply hy.fH;intro _
   exact ⟨eq_str,ne_str⟩
 | _=>exact aw h
theorem JH{x y:Option (List AV)}{b:Bool}(h:ZF x y=some b){G:Bool->Prop}(k:∀(xs ys:List AV) (is:List Int),x=some xs->y=some ys->xs=is.map .int->ys=is.map .int->G false):G b:=by
 refine aC h λ is e1 h=>aC h λ js e2 h=>?_
 refine eF h λ q hb=>?_
 subst q
 obtain rfl:=aam hb
 exact aC e1 λ xs h1 h2=>aC e2 λ ys h3 h4=>k xs ys is h1 h3 (jG h2) (jG h4)
theorem Fk(h:Js x=some xs):x=.tup xs:=by
 cases x with
 | tup _=>exact congrArg AV.tup (aam h)
 | _=>exact aw h
theorem OC(R:Rel Y g σ s.heap){x y:AV}{v u:aas}{b:Bool}(hu:A.units < cLine)(hx:RelV Y.n g x v)(hy:RelV Y.n g y u)(h:XS σ x y=some b)
{E Q:aas->aav->Prop}(hQ:Q (.bool b) s):acn (acr prog w) A (ajM .NotEq v u) Q E s:=by
 revert h hQ
 unfold XS
 cases e:Js x with
 | some xs=>
   intro h
   refine JH (G:=λ b=>Q (.bool b) s->_) h λ xs' ys is e1 e2 e3 e4 hQ=>?_
   obtain rfl:=aam e1
   rw [Fk e,e3] at hx
   rw [Fk e2,e4] at hy
   (refine IB (lJ R hx) λ a vs ju h1 h2=>?_;obtain rfl:=ju)
   (refine IB (lJ R hy) λ a' us ju h3 h4=>?_;obtain rfl:=ju)
   have:=RcNeAt.tuples h1 h3 hu (e:=λ V=>true) (λ j j1 j2=>Fj h2 h4 j j1 j2) prog w E Q
   rw [Aq] at this
   refine this ?_
   erw [(show (vs.toArray.size==us.toArray.size)=true from beq_iff_eq.mpr (h2.length.symm.trans h4.length))]
   exact hQ
 | none=>
   intro h
   refine JH (G:=λ b=>Q (.bool b) s->_) h λ xs ys is e1 e2 e3 e4 hQ=>?_
   (refine IB (bo R hx e1) λ a vs ju h1 h2=>?_;obtain rfl:=ju)
   (refine IB (bo R hy e2) λ a' us ju h3 h4=>?_;obtain rfl:=ju)
   rw [e3] at h2
   rw [e4] at h4
   have:=RcNeAt.lists h1 h3 (h2.length.symm.trans h4.length) hu (e:=λ V=>true) (λ j j1 j2=>Fj h2 h4 j j1 j2) prog w E Q
   rw [Aq] at this
   exact this hQ
theorem OD(R:Rel Y g σ s.heap)(hu:A.units < cLine)(hx:RelV Y.n g x v)(hy:RelV Y.n g y u)(h:((σ.listOf x).bind λ a=>(σ.listOf y).bind λ b=>if a.length=b.length then none else some false)=some b)
(hQ:Q (.bool b) s):acn (acr prog w) A (ajM .Eq v u) Q E s:=by
 refine aC h λ xs e1 h=>aC h λ ys e2 h=>adQ h λ q hb=>?_
 obtain rfl:=aam hb
 obtain ⟨a,vs,rfl,h1,h2⟩:=bo R hx e1
 obtain ⟨a',us,rfl,h3,h4⟩:=bo R hy e2
 exact RcAt.lists_lengths h1 h3 (bne_iff_ne.mpr λ e=>q (h2.length.trans (Eq.trans e h4.length.symm))) hu prog w E Q hQ
theorem wQ(hA:jX d l A):A.units < cLine:=by have:=hA.units;have e:cLine=9900:=rfl;exact %[a<b,a+100*c≤9000,b=9900|cf this e]
theorem Fl(R:Rel Y g σ s.heap)(hA:jX d Y.fr A)(hx:RelV Y.n g x v)(hy:RelV Y.n g y u)(h:ur σ op x y=some b):
 Wv (acr prog w) A Y g σ (ajM op v u) s (.bool b):=by
 intro E Q hQ
 have d7:Q (.bool b) s:=wk (E:=E) R hQ (.bool _)
 clear hQ
 cases op with
 | Eq=>
   revert h
   show (match UI x y with | some b=>some b | none=>(σ.listOf x).bind λ a=>(σ.listOf y).bind λ b=>if a.length=b.length then none else some false)=some b->_
   cases e:UI x y with
   | some c=>intro h;obtain rfl:=aam h;exact (JG hx hy e).1 d7
   | none=>intro h;exact OD R (wQ hA) hx hy h d7
 | NotEq=>
   revert h
   show (match UI x y with | some b=>some (!b) | none=>XS σ x y)=some b->_
   cases e:UI x y with
   | some c=>intro h;obtain rfl:=aam h;exact (JG hx hy e).2 d7
   | none=>intro h;exact OC R (wQ hA) hx hy h d7
 | Is=>
   (refine aC h ?_;clear h;intro i e1 h)
   refine bS h λ j e2 h2=>?_
   subst h2
   rw [fL e1] at hx
   rw [fL e2] at hy
   apply hx.mn;apply hy.mn
   exact wpAny_is_plain rfl (by revert d7;cases i <;> cases j <;> exact id)
 | IsNot=>
   cases y with
   | bool j=>
     refine bS h λ i e1 h2=>?_
     subst h2
     rw [fL e1] at hx
     apply hx.mn;apply hy.mn
     exact wpAny_isNot_plain rfl (by revert d7;cases i <;> cases j <;> exact id)
   | none=>
     apply hy.rl
     cases x with
     | none=>obtain rfl:=aam h;apply hx.rl;exact wpAny_isNot_plain rfl d7
     | str _=>obtain rfl:=aam h;apply hx.fH;intro _;exact wpAny_isNot_plain rfl d7
     | _=>exact aw h
   | _=>exact aw h
 | Lt=>
   (refine aC h ?_;clear h;intro i e1 h)
   (refine aC h ?_;clear h;intro j e2 h)
   obtain rfl:=aam h
   rw [bU e1] at hx
   rw [bU e2] at hy
   apply hx.cp;intro _;apply hy.cp;intro _
   exact lt_int d7
 | LtE=>
   (refine aC h ?_;clear h;intro i e1 h)
   (refine aC h ?_;clear h;intro j e2 h)
   obtain rfl:=aam h
   rw [bU e1] at hx
   rw [bU e2] at hy
   apply hx.cp;intro _;apply hy.cp;intro _
   exact le_int d7
 | _=>
   (refine aC h ?_;clear h;intro i e1 h)
   (refine aC h ?_;clear h;intro j e2 h)
   exact aw h
theorem nq(R:Rel Y g σ s.heap)(hx:RelV Y.n g x v)(h:((σ.listOf x).bind λ xs=>if xs.length < 2 ^ 62 then some (xs.length !=0) else none)=some b)
(hQ:∀tk,Q b {s with toks:=tk}):acn (acr prog w) A (ak6 v) Q E s:=by
 refine aC h λ xs h1 h2=>?_
 (refine eF h2 ?_;clear h2;intro q h2)
 (refine IB (bo R hx h1) λ a vs ju hl hv=>?_;obtain rfl:=ju)
 have e:=hv.length
 refine wpAny_truthy_list hl (by simp;exact %[(qC a)⊂9223372036854775808,b<(qL 2 62),b=a|aU q e]) ?_
 have e2:(!vs.toArray.isEmpty)=b:=by
  obtain rfl:=aam h2
  erw [e];cases vs <;> rfl
 erw [e2]
 exact hQ _
theorem wR(R:Rel Y g σ s.heap)(hx:RelV Y.n g x v)(h:ut σ x=some b):Wb (acr prog w) A Y g σ (ak6 v) s b:=by
 intro E Q hQ
 have d7:∀tk,Q b {s with toks:=tk}:=λ tk=>hQ _ g (aR.refl _) (Gh.le.refl g) R ⟨rfl,rfl,rfl⟩
 clear hQ
 cases x with
 | bool _=>obtain rfl:=aam h;apply hx.mn;exact wpAny_truthy_bool (d7 _)
 | int _=>obtain rfl:=aam h;apply hx.cp;intro _;exact truthy_int (d7 _)
 | none=>obtain rfl:=aam h;apply hx.rl;exact λ V V V=>d7 _
 | lst _=>exact nq R hx h d7
 | bor _=>exact nq R hx h d7
 | own _=>exact nq R hx h d7
 | _=>exact aw h
end
section
set_option tactic.hygienic true
variable{prog:aaq}{w:acb}{A:adn}{Y:Lay}{g:Gh}{σ:bB}{s:aav}{d:Nat}
theorem rV(slice:acU)(o i:aas):∃ops,subscripted slice false o i=operate ops (getItem o i):=by
 cases slice with
 | Slice a b c _=>cases c <;> exact ⟨_,rfl⟩
 | _=>exact ⟨_,rfl⟩
theorem nU{value slice:acU}{o i:aas}{T id:String}{E Q:aas->aav->Prop}(hT:s.TypeIs o T)
(hl:typeLookup (.type T) "__getitem__"=pure (some (.builtin id)))(hg:acn (acr prog w) A (getItem o i) Q E s):acn (acr prog w) A (ajc value slice o i) Q E s:=by
 refine cL (rV slice o i) λ ops h=>?_
 exact tail_any hT hl hg h
theorem OG(R:Rel Y g σ s.heap)(hx:RelV Y.n g x v)(hy:RelV Y.n g y u)(h:nR σ x y=some r):
 Wv (acr prog w) A Y g σ (ajc value slice v u) s r:=by
 intro E Q hQ
 refine aC h λ k e1 h3=>?_
 have:=bU e1
 subst this
 split at h3
 · rename_i hk
   refine aC h3 λ xs XT GL=>?_
   apply RelV.cp hy;intro _
   rename_i tk
   have lst:σ.listOf x=some xs->acn (acr prog w) A (ajc value slice v (.int k tk)) Q E s:=λ XT=>by
    (refine IB (bo R hx XT) λ a vs ju hl hv=>?_;obtain rfl:=ju)
    refine bF (hv.get GL) λ z hz hr=>?_
    exact nU hl.typeIs aju.lookup (alZ hl hk.1 %[a⊂(qL 2 63),bG (0⊆a) (a⊂(qL 2 62))|(fZ hk)] (by simpa using hz) (wk (E:=E) R hQ hr))
   cases x with
   | tup ys=>
     cases XT
     (refine IB (lJ R hx) λ a vs ju hl hv=>?_;obtain rfl:=ju)
     refine bF (hv.get GL) λ z hz hr=>?_
     have bD:=(aaZ.mp hz).1
     exact nU hl.typeIs slot_tuple_getitem.lookup (Rows.getItem_tuple hl %[(qG (qL 2 63))⊆a,bG (0⊆a) (a⊂(qL 2 62))|(fZ hk)] %[a⊂(qL 2 63),bG (0⊆a) (a⊂(qL 2 62))|(fZ hk)] (seqIndex_of hk.1 (by simp;exact %[a⊂(qC a),b<a,qD 4 b a (0)|IM bD rfl])) (by simpa using hz) (wk (E:=E) R hQ hr))
   | _=>exact lst XT
 · exact aw h3
theorem aq.none:∀{xs:List AV} {vs:List aas},aq n g xs vs->∀{i:Nat},xs[i]?=none->vs[i]?=none:=λ h i hi=>by
 rw [ajR] at *
 erw [←h.length];exact hi
theorem aq.pick(h:aq n g xs vs):∀(is:List Nat),aq n g (is.filterMap (xs[·]?)) (is.filterMap (vs[·]?))
 | []=>.nil
 | i::is=>by
   simp only [agS]
   cases e:xs[i]? with
   | none=>rw [h.none e];exact h.pick is
   | some x=>
     refine bF (h.get e) λ v e2 hv=>?_
     erw [e2];exact .cons hv (h.pick is)
theorem pg(hx:RelV Y.n g x v)(h:kR x=some p):IsPart v p∧∃q:Option (Int×Tok),v=partValue q∧q.map (·.1)=p:=by
 unfold kR at h
 split at h
 · obtain rfl:=aam h;apply RelV.rl hx;exact ⟨.none,none,rfl,rfl⟩
 · obtain rfl:=aam h;apply RelV.cp hx;intro _;rename_i i t;exact ⟨.int _ _,some (i,t),rfl,rfl⟩
 · exact aw h
theorem wm(x:Str)(t:Tok)(ql qu:Option (Int×Tok))(h1:(uv x (ql.map (·.1)) (qu.map (·.1))).length≠x.length):
 sliceMade x t ql qu none=.str ⟨((uv x (ql.map (·.1)) (qu.map (·.1))).filterMap (x.cps[·]?)).toArray⟩:=by
 unfold sliceMade
 rw [if_neg]
 · rfl
 · simp only [slicePicked,Option.map_none,Option.getD_none,beq_self_eq_true,al9,beq_iff_eq]
   exact h1
theorem OH(R:Rel Y g σ s.heap)(hn:Y.n≤s.heap.objs.size){x lo hi st r:AV}{v vl vu vt:aas}{value slice:acU}(hx:RelV Y.n g x v)(RY:RelV Y.n g lo vl)(UV:RelV Y.n g hi vu)(GN:RelV Y.n g st vt)
(h:Am σ x lo hi st=some r):
 Wv (acr prog w) A Y g σ (ajc value slice v (.ref s.heap.objs.size)) {s with heap:=s.heap.push {cls:=.type "slice",data:=.fields #[vl,vu,vt]}} r:=by
 intro E Q hQ
 skip
 (refine aC h ?_;clear h;intro l GO h)
 (refine aC h ?_;clear h;intro u hu1 h)
 (refine aC h ?_;clear h;intro t ht1 h)
 refine NW (pg RY GO) λ pl ql el fl=>?_
 refine NW (pg UV hu1) λ pu qu eu fu=>?_
 refine NW (pg GN ht1) λ pt qt et ft=>?_
 have R':Rel Y _ σ (s.heap.push {cls:=.type "slice",data:=.fields #[vl,vu,vt]}):=R.keep λ V V e=>act _ e
 split at h
 · split at h
   · rename_i hc
     obtain rfl:=aam h
     apply RelV.fH hx;intro _
     (have q_1:=hc.1;have h1:=hc.2.1;have h2:=hc.2.2;clear hc;obtain rfl:=q_1)
     have eqt:qt=none:=by cases qt <;> simp_all
     subst eqt
     refine nU (ahA _ _ _) F.slot_str_getitem.lookup (wpAny_getItem_str_slice (l:=ql) (u:=qu) (st:=none) ⟨_,acT _ rfl,rfl,by (erw [el,eu,et,rfl])⟩ rfl ?_)
     subst fl fu
     erw [wm _ _ _ _ h1]
     refine ⟨?_,?_⟩
     · show (adE _).size≤aaW
       erw [aha]
       exact acW (List.length_filterMap_le _ _) h2
     · exact hQ _ _ _ (aR.refl _) (Gh.le.refl _) R' ⟨rfl,rfl,rfl⟩ (.str _ _)
   · exact aw h
 · refine aC h λ xs XT GL=>?_
   split at GL
   · rename_i hc
     obtain rfl:=aam GL
     (refine IB (bo R hx XT) λ a vs ju hl hv=>?_;obtain rfl:=ju)
     refine nU (hl.push _).typeIs aju.lookup (wpAny_getItem_list_slice (hl.push _) (amf ..) pl pu pt hc.1 ?_ (by simp;have:=hv.length;lia))
     have e:slicePick vs.toArray l u t=(bZ vs l u t).toArray:=by
      unfold slicePick bZ
      simp
     erw [e]
     have UW:aq Y.n g (bZ xs l u t) (bZ vs l u t):=by
      unfold bZ
      rw [hv.length]
      exact hv.pick _
     exact nT (E:=E) (s:={s with heap:=s.heap.push {cls:=.type "slice",data:=.fields #[vl,vu,vt]}}) (tk:=s.toks) R' (by simp [af3];exact %[a≤b+1,a≤b|aU hn]) hQ UW
   · exact aw GL
end
section
variable{prog:aaq}{w:acb}{A:adn}{Y:Lay}{g:Gh}{σ:bB}{s:aav}{d:Nat}
noncomputable def iQ(l:List Env):List abh:=d0 l++aT.map (·.P)
theorem Rel.Ar(R:Rel Y g σ h)(e:g.z a=some o):a∉iQ Y.fr:=λ hm=>by
 rcases abC.mp hm with hm | hm
 · exact R.Ov e hm
 · refine bF (adb.mp hm) λ t ht q=>?_
   exact R.UD e t ht q
theorem Rel.JI(R:Rel Y g σ h)(e:a∈Y.bw g)(hf:a∉d0 Y.fr):a∉iQ Y.fr:=λ hm=>by
 rcases abC.mp hm with hm | hm
 · exact hf hm
 · refine bF (adb.mp hm) λ t ht q=>?_
   exact R.uk e t ht q
structure uy (base h:ac2) (l:List Env):Prop where
 off:∀t∈aT,base.get? t.P=none
 RZ:∀t∈aT,h.get? t.P=some (jC #[])∨∃t'∈aT,t'.P=t.P∧∃c oc vs tt,h.get? t.P=some (jC (t'.item c))∧c∉iQ l∧h.get? c=some oc∧oc.data=.fields vs∧vs[1]?=some (.str t'.qual tt)
theorem Rel.R2{h:ac2}{base:ac2}(R:Rel Y g σ h)(hb:KS base Y.base):uy base h Y.fr:=by
 refine ⟨λ t ht=>?_,λ t ht=>?_⟩
 · cases e:base.get? t.P with
   | none=>rfl
   | some o=>have:=R.base _ _ (hb _ _ e);rw [(R.eH t ht).1] at this;exact aw this
 · rcases R.tabs t ht with x | ⟨t',wh,hp,c,oc,vs,tt,h1,h2,h3⟩
   · exact .inl x
   · exact .inr ⟨t',wh,hp,c,oc,vs,tt,h1,R.Ar h2,R.fJ _ _ h2,h3⟩
noncomputable def gE(F:List abh)(H:List (abh×Obj))(h:ac2):abh->Option Obj:=λ a=>if a∈H.map (·.1)∨a∈F then none else h.get? a
theorem dU:gE F H h a=some o↔(a∉H.map (·.1)∧a∉F)∧h.get? a=some o:=by
 unfold gE
 split
 · rename_i q;exact ⟨λ e=>(by exact aw e),λ x=>by rcases q with q | q;exact absurd q x.1.1;exact absurd q x.1.2⟩
 · rename_i q;exact ⟨λ x=>⟨⟨λ y=>q (.inl y),λ y=>q (.inr y)⟩,x⟩,λ x=>x.2⟩
noncomputable def uz(prog:aaq)(w:acb)(d:Nat)(base:ac2)(f:aas)(xs:List AV)(res:AV):Prop:=
 ∀(l:List Env) (A:adn) (s:aav) (vs:List aas) (E Q:aas->aav->Prop),jX d l A->KS base s.heap->s.heap.FunFrames base l->uy base s.heap l->aq 0 ⟨gE (iQ l) [] s.heap,[]⟩ xs vs->
  (∀v s',aR ⟨d0 l,aT⟩ s.heap s'.heap->a9 s s'->RelV s.heap.objs.size ⟨s'.heap.get?,[]⟩ res v->Q v s')->acn (acr prog w) A (call f vs []) Q E s
noncomputable def yD(f:AV->Bool):AV->Bool
 | .none=>true
 | .bool _=>true
 | .int _=>true
 | .str _=>true
 | .lst xs=>xs.all f
 | .tup xs=>xs.all f
 | _=>false
noncomputable def fresh:Nat->AV->Bool
 | 0=>yD λ V=>false
 | n+1=>yD (fresh n)
section
variable{n n':Nat}{g':Gh}{xs ys:List AV}{vs:List aas}
theorem aq.uA(hp:∀x v,p x=true->RelV n g x v->RelV n' g' x v)(h:xs.all p=true)(r:aq n g xs vs):aq n' g' xs vs:=
 aq.ind (P:=λ xs vs=>xs.all p=true->aq n' g' xs vs) (λ V=>.nil) (λ x v xs vs a V k h=>by
  rw [agm,aaQ] at h
  exact .cons (hp _ _ h.1 a) (k h.2)) r h
theorem rn(hn:n'≤n)(hz:∀a o,n≤a->g.z a=some o->g'.z a=some o)(ih:∀x v,f x=true->RelV n g x v->RelV n' g' x v)(x:AV)(v:aas)(hf:yD f x=true)(h:RelV n g x v):RelV n' g' x v:=by
 cases x with
 | none=>apply h.rl;exact .none
 | bool _=>apply h.mn;exact .bool _
 | int _=>apply h.cp;intro _;exact .int _ _
 | str _=>apply h.fH;intro _;exact .str _ _
 | lst xs=>exact h.inv (G:=RelV n' g' (.lst xs)) λ vs a o e h1 h2 h3 h4 h5=>.lst (acW hn h1) (hz _ _ h1 h2) h3 h4 (aq.uA ih hf h5)
 | tup xs=>exact h.inv (G:=RelV n' g' (.tup xs)) λ vs a o e h1 h2 h3 h4 h5=>.tup (acW hn h1) (hz _ _ h1 h2) h3 h4 (aq.uA ih hf h5)
 | _=>exact e8 hf
theorem C9(hn:n'≤n)(hz:∀a o,n≤a->g.z a=some o->g'.z a=some o)(k:Nat):∀(x:AV) (v:aas),fresh k x=true->RelV n g x v->RelV n' g' x v:=by
 induction k with
 | zero=>exact rn hn hz λ V V h=>e8 h
 | succ k ih=>exact rn hn hz ih
theorem gF(hf:∀x y v,f x=some y->RelV n g x v->RelV n' g' y v)(h:xs.mapM f=some ys)(r:aq n g xs vs):aq n' g' ys vs:=
 aq.ind (P:=λ xs vs=>∀ys,xs.mapM f=some ys->aq n' g' ys vs) (λ ys h=>by obtain rfl:=aam (show some []=some ys from h);exact .nil)
  (λ x v xs vs a V k ys h=>by
   rw [adu] at h
   refine aC h λ y hy h=>aC h λ r hr h=>?_
   obtain rfl:=aam h
   exact .cons (hf _ _ _ hy a) (k _ hr)) r ys h
theorem wT(R:Rel Y g σ s.heap)(ih:∀x y v,f x=some y->RelV Y.n g x v->RelV 0 ⟨gE (iQ Y.fr) [] s.heap,[]⟩ y v)(x y:AV)(v:aas)(h:Jr σ f x=some y)(r:RelV Y.n g x v):RelV 0 ⟨gE (iQ Y.fr) [] s.heap,[]⟩ y v:=by
 cases x with
 | none=>obtain rfl:=aam h;apply r.rl;exact .none
 | bool _=>obtain rfl:=aam h;apply r.mn;exact .bool _
 | int _=>obtain rfl:=aam h;apply r.cp;intro _;exact .int _ _
 | str _=>obtain rfl:=aam h;apply r.fH;intro _;exact .str _ _
 | obj _=>obtain rfl:=aam h;apply r.nO;exact .obj _
 | lst xs=>
   refine bS h λ ys hy q=>?_
   subst q
   exact r.inv (G:=RelV 0 ⟨gE (iQ Y.fr) [] s.heap,[]⟩ (.bor ys)) λ vs a o e h1 h2 h3 h4 h5=>.bor (dU.mpr ⟨⟨aaP,R.Ar h2⟩,R.fJ _ _ h2⟩) h3 h4 (gF ih hy h5)
 | bor xs=>
   refine bS h λ ys hy q=>?_
   subst q
   exact r.inv (G:=RelV 0 ⟨gE (iQ Y.fr) [] s.heap,[]⟩ (.bor ys)) λ vs a o e h2 h3 h4 h5=>.bor (dU.mpr ⟨⟨aaP,R.Ar h2⟩,R.fJ _ _ h2⟩) h3 h4 (gF ih hy h5)
 | own i=>
   (refine aC h ?_;clear h;intro xs hx h)
   refine bS h λ ys hy q=>?_
   subst q
   apply r.adS
   intro a hk
   refine bF (R.own _ _ hk) λ vs h1 h2=>?_
   rw [hx] at h2
   exact .bor (dU.mpr ⟨⟨aaP,R.JI (au.mpr (.inr (.inr (.inr (acR hk))))) (R.o6 hk)⟩,h1.choose_spec⟩) rfl rfl (gF ih hy h2)
 | _=>exact aw h
theorem JK(R:Rel Y g σ s.heap)(k:Nat):∀(x y:AV) (v:aas),j7 σ k x=some y->RelV Y.n g x v->RelV 0 ⟨gE (iQ Y.fr) [] s.heap,[]⟩ y v:=by
 induction k with
 | zero=>exact wT R λ V V V h=>aw h
 | succ k ih=>exact wT R ih
theorem As(h:aq n g xs vs)(hi:cP xs=some is):IntsAre vs is:=by
 rw [jG hi] at h
 clear hi
 revert vs
 induction is with
 | nil=>intro vs h;apply h.o4;exact .nil
 | cons i is ih=>intro vs h;apply h.hU;intro v us a b;apply a.cp;intro _;exact .cons _ _ (ih b)
theorem Au(h:aq n g xs vs)(hi:jF xs=some is):aj9 vs is:=
 aq.ind (P:=λ xs vs=>∀is,jF xs=some is->aj9 vs is) (λ is h=>by obtain rfl:=aam h;exact .nil) (λ x v xs vs a V k is h=>by
  cases x with
  | str s=>exact bS (show (jF xs).map (s::·)=some is from h) λ r hr q=>by subst q;apply a.fH;intro _;exact .cons _ _ (k r hr)
  | _=>exact aw h) h is hi
end
noncomputable def above(h0 h:ac2):abh->Option Obj:=λ a=>match h0.get? a with | none=>h.get? a | some _=>none
theorem ph(e:h0.get? a=some o):above h0 h a=none:=by unfold above;erw [e,rfl]
theorem lK(e:h0.get? a=none):above h0 h a=h.get? a:=by unfold above;erw [e,rfl]
theorem Rel.R3(R:Rel Y g σ h):∀a∈Y.bw g,∃o,h.get? a=some o:=by
 intro a ha
 rcases au.mp ha with ha | ha | ha | ha
 · obtain ⟨f,⟨o,_,_,h1,_⟩,_⟩:=R.ns a ha;exact ⟨o,h1⟩
 · obtain ⟨l,hl,hc⟩:=ahL.mp ha
   cases l with
   | ns _ _=>exact aw hc
   | cell c=>
     cases hc
     obtain ⟨i,hi⟩:=afJ hl
     obtain ⟨ov,⟨o,h1,_⟩,_⟩:=R.cell i a hi;exact ⟨o,h1⟩
 · obtain ⟨p,hp,rfl⟩:=adb.mp ha
   exact ⟨_,R.held p hp⟩
 · obtain ⟨k,hk⟩:=afJ ha
   obtain ⟨vs,⟨_,h1⟩,_⟩:=R.own k a hk;exact ⟨_,h1⟩
theorem Rel.take(R:Rel Y g σ s.heap){s':aav}(k:aR Y.lo s.heap s'.heap):Rel Y (g.add (above s.heap s'.heap)) σ s'.heap:=by
 have hz:∀a o,above s.heap s'.heap a=some o->s'.heap.get? a=some o∧s.heap.get? a=none:=λ a o e=>by
  unfold above at e
  split at e
  · rename_i q;exact ⟨e,q⟩
  · exact aw e
 have j9:=Gh.d4 g (above s.heap s'.heap)
 have tabs:∀t∈aT,TabAt aT (g.add (above s.heap s'.heap)).z s'.heap t.P:=λ t ht=>by
  have jY:t.P∉d0 Y.fr:=(R.eH t ht).2.2
  rcases R.tabs t ht with x | ⟨t',wh,hp,c,oc,vs,tt,h1,h2,h3⟩
  · rcases k _ _ x with ⟨sl,e1,n1⟩ | ⟨_,_,t',wh,hp,c,hc,hg,c',oc,vs,tt,q,ZN,hd,hv⟩
    · rw [n1 jY] at e1;exact .inl e1
    · cases q
      refine .inr ⟨t',wh,hp,c,oc,vs,tt,hg,?_,hd,hv⟩
      have Db:s.heap.get? c=none:=by
       cases q:s.heap.get? c with
       | none=>rfl
       | some o=>exact absurd (hc c o q) (adg _)
      have hzc:g.z c=none:=by
       cases q:g.z c with
       | none=>rfl
       | some o=>have:=R.fJ _ _ q;rw [Db] at this;exact aw this
      show (g.z c).or (above s.heap s'.heap c)=some oc
      erw [hzc,aih,lK Db];exact ZN
  · refine bF (k.dat h1 (λ q=>by injection q with q;exact t'.ne c q)) λ sl e1 n1=>?_
    rw [n1 jY] at e1
    exact .inr ⟨t',wh,hp,c,oc,vs,tt,e1,j9.1 _ _ h2,h3⟩
 have ZO:∀t∈aT,above s.heap s'.heap t.P=none:=λ t ht=>by
  (refine cL ((R.tabs t ht).there) λ ps hp=>?_);exact ph hp
 refine ⟨λ a o e=>?_,λ a o e=>j9.1 _ _ (R.base a o e),R.nodup,R.dz,λ a ha=>?_,R.low,R.dv,R.len,R.eG,λ a ha=>?_,λ i c hc=>?_,λ j a ha=>?_,λ p hp=>?_,FunFrames.keep k R.frames,R.ni,λ L hL=>⟨?_,(R.nj L hL).2⟩,λ t ht=>⟨?_,(R.eH t ht).2⟩,tabs⟩
 · rcases ahc.mp (show (g.z a).or (above s.heap s'.heap a)=some o from e) with e | ⟨_,e⟩
   · exact k.get (R.fJ a o e) (R.Ov e) (R.UD e)
   · exact (hz a o e).1
 · refine cL (R.R3 a ha) λ o ho=>?_
   show (g.z a).or (above s.heap s'.heap a)=none
   erw [R.off a ha,ph ho];rfl
 · refine bF (R.ns a ha) λ f h1 h2=>?_
   exact ⟨f,k.ns h1,λ i x hx=>(h2 i x hx).mono j9⟩
 · refine bF (R.cell i c hc) λ ov h1 h2=>?_
   exact ⟨ov,k.cell h1,h2.mono j9⟩
 · refine bF (R.own j a ha) λ vs h1 h3=>?_
   exact ⟨vs,k.plain h1 (R.o6 ha),h3.mono j9⟩
 · exact k.get (R.held p hp) (R.tB hp) (R.uk (au.mpr (.inr (.inr (.inl (acV hp))))))
 · refine NW (afd R.frames hL) λ _ o ho _=>?_
   show (g.z L).or (above s.heap s'.heap L)=none
   erw [(R.nj L hL).1,ph ho];rfl
 · show (g.z t.P).or (above s.heap s'.heap t.P)=none
   erw [(R.eH t ht).1,ZO t ht];rfl
theorem UX(R:Rel Y g σ s.heap){s':aav}{a:abh}{o:Obj}(ha:s.heap.objs.size≤a)(e:s'.heap.get? a=some o):(g.add (above s.heap s'.heap)).z a=some o:=by
 have h0:s.heap.get? a=none:=agJ ha
 have:g.z a=none:=by
  cases q:g.z a with
  | none=>rfl
  | some o'=>have:=R.fJ _ _ q;rw [h0] at this;exact aw this
 show (g.z a).or (above s.heap s'.heap a)=some o
 erw [this,aih,lK h0];exact e
theorem Fm{n:Nat}{f:AV->Option AV}{xs:List AV}{r:AV}{vs:List aas}{G:List aas->Prop}(h:yy f xs=some r)(hx:aq n g xs vs)(k:∀x v,RelV n g x v->f x=some r->G [v]):G vs:=by
 cases xs with
 | nil=>exact aw h
 | cons x ys=>
   apply hx.hU
   intro v us h1 h2
   cases ys with
   | nil=>apply h2.o4;exact k x v h1 h
   | cons _ _=>exact aw h
theorem ZP{n:Nat}{f:AV->AV->Option AV}{xs:List AV}{r:AV}{vs:List aas}{G:List aas->Prop}(h:UK f xs=some r)(hx:aq n g xs vs)(k:∀x v y u,RelV n g x v->RelV n g y u->f x y=some r->G [v,u]):G vs:=by
 cases xs with
 | nil=>exact aw h
 | cons x ys=>
   apply hx.hU
   intro v us h1 h2
   cases ys with
   | nil=>exact aw h
   | cons y zs=>
     apply h2.hU
     intro u ws h3 h4
     cases zs with
     | nil=>apply h4.o4;exact k x v y u h1 h3 h
     | cons _ _=>exact aw h
theorem R4{m:Nat}(h:(m:Int) < 2 ^ 62):(m:Int) < 2 ^ 63:=%[(qC a)⊂(qL 2 63),(qC a)⊂(qL 2 62)|(aV h)]
section
variable{x y r:AV}{v u:aas}
theorem ZQ(R:Rel Y g σ s.heap)(hv:RelV Y.n g x v)(h:Ju x=some r):Wv (acr prog w) A Y g σ (call (.builtin "chr") [v]) s r:=λ E Q hQ=>by
 (refine aC h ?_;clear h;intro i e1 h)
 obtain ⟨hc,rfl⟩:=aK h
 rw [bU e1] at hv
 apply hv.cp;intro _
 exact P.chr_of_int (afL.mpr ⟨decide_eq_false (ajS.mpr (bV hc).1),decide_eq_false (ajS.mpr (bV hc).2)⟩) (d7 (E:=E) R hQ (.str _ _))
theorem ZR(R:Rel Y g σ s.heap)(hv:RelV Y.n g x v)(h:Jv x=some r):Wv (acr prog w) A Y g σ (call (.builtin "ord") [v]) s r:=λ E Q hQ=>by
 (refine aC h ?_;clear h;intro i e1 h)
 obtain ⟨hc,rfl⟩:=aK h
 rw [e9 e1] at hv
 apply hv.fH;intro _
 exact ord_of_one (of_decide_eq_true hc) (d7 (E:=E) R hQ (.int _ _))
theorem UY(R:Rel Y g σ s.heap)(hv:RelV Y.n g x v)(e:(σ.listOf x).map ae3=some m)(h:Jw m=some r):Wv (acr prog w) A Y g σ (call (.builtin "len") [v]) s r:=λ E Q hQ=>by
 refine bS e λ ys hy hm=>?_
 obtain ⟨hc,rfl⟩:=aK h
 obtain ⟨a,us,rfl,hl,hu⟩:=bo R hv hy
 have e:us.toArray.size=m:=hu.length.symm.trans hm
 refine Rows.len_list hl (by erw [e];exact R4 (of_decide_eq_true hc)) ?_
 erw [e]
 exact d7 (E:=E) R hQ (.int _ _)
theorem ZS(R:Rel Y g σ s.heap)(hv:RelV Y.n g x v)(h:UL σ x=some r):Wv (acr prog w) A Y g σ (call (.builtin "len") [v]) s r:=by
 refine aC h λ m e hm=>?_
 clear h
 cases x with
 | str z=>
   obtain rfl:=aam e
   intro E Q hQ
   obtain ⟨hc,rfl⟩:=aK hm
   apply hv.fH;intro _
   exact P.len_str (alf.mpr (R4 (of_decide_eq_true hc))) (d7 (E:=E) R hQ (.int _ _))
 | _=>exact UY R hv e hm
theorem ZT(hA:A.handled=none)(R:Rel Y g σ s.heap)(hv:RelV Y.n g x v)(h:Jx σ x=some r):Wv (acr prog w) A Y g σ (call (.builtin "sum") [v]) s r:=λ E Q hQ=>by
 refine bS h λ l hl q=>?_
 subst q
 refine aC hl λ ys hy GO=>?_
 obtain ⟨a,us,rfl,hl,hv⟩:=bo R hv hy
 have hI:=As hv GO
 refine cL hI.allInts.items λ xs R6=>?_
 rw [R6] at hl
 refine sum_intListG hA hl λ h' tk t' hk=>?_
 have e:preSum (numAt xs) xs.size=l.sum:=by
  erw [←hI.numsOf,(show us=us.toArray.toList from rfl),R6,nums_intItems ..,preSum_eq ..,afT (agt (by (erw [aar ..,Array.length_toList,rfl]))),rfl]
 erw [e]
 exact hQ _ _ g (aR.of hk) (Gh.le.refl g) (R.keep hk) ⟨rfl,rfl,rfl⟩ (.int _ _)
theorem ad1(R:Rel Y g σ s.heap)(hn:Y.n≤s.heap.objs.size)(hv:RelV Y.n g x v)(hu:RelV Y.n g y u)(h:ZH x y=some r):Wv (acr prog w) A Y g σ (call (.builtin "divmod") [v,u]) s r:=λ E Q hQ=>by
 refine aC h λ i e1 h=>aC h λ j e2 h=>?_
 rw [bU e1] at hv
 rw [bU e2] at hu
 obtain ⟨hc,rfl⟩:=aK h
 apply hv.cp;intro _;apply hu.cp;intro _
 refine divmod_int (bV hc).1 ?_ (.inl (noPylong_of_log2 (bV hc).2))
 exact JF (E:=E) (vs:=[.int _ _,.int _ _]) R hn hQ (.cons (.int _ _) (.cons (.int _ _) .nil))
end
theorem OI(R:Rel Y g σ s.heap)(hn:Y.n≤s.heap.objs.size)(hA:jX d Y.fr A){b:String}{r:AV}{xs:List AV}{vs:List aas}(hx:aq Y.n g xs vs)(h:An σ b xs=some r):Wv (acr prog w) A Y g σ (call (.builtin b) vs) s r:=by
 refine ZK λ G k=>?_
 refine Jj h (λ q h=>?_) λ V h=>?_
 · subst q;exact k (Fm (G:=λ vs=>Wv (acr prog w) A Y g σ (call (.builtin "chr") vs) s r) h hx λ x v a e=>ZQ R a e)
 refine Jj h (λ q h=>?_) λ V h=>?_
 · subst q;exact k (Fm (G:=λ vs=>Wv (acr prog w) A Y g σ (call (.builtin "ord") vs) s r) h hx λ x v a e=>ZR R a e)
 refine Jj h (λ q h=>?_) λ V h=>?_
 · subst q;exact k (Fm (G:=λ vs=>Wv (acr prog w) A Y g σ (call (.builtin "len") vs) s r) h hx λ x v a e=>ZS R a e)
 refine Jj h (λ q h=>?_) λ V h=>?_
 · subst q;exact k (Fm (G:=λ vs=>Wv (acr prog w) A Y g σ (call (.builtin "sum") vs) s r) h hx λ x v a e=>ZT hA.hand R a e)
 refine Jj h (λ q h=>?_) λ V h=>aw h
 · subst q;exact k (ZP (G:=λ vs=>Wv (acr prog w) A Y g σ (call (.builtin "divmod") vs) s r) h hx λ x v y u a b e=>ad1 R hn a b e)
theorem JL(R:Rel Y g σ s.heap)(hn:Y.n≤s.heap.objs.size)(hA:jX d Y.fr A)(hb:KS base s.heap)(jY:s.heap.FunFrames base Y.fr)(hTb:uy base s.heap Y.fr)(hRC:∀f xs res,RF f xs=some res->fresh 4 res=true∧uz prog w d base f xs res)
(hf:RelV Y.n g x fv)(hx:aq Y.n g xs vs)(h:f5 RF σ x xs=some r):Wv (acr prog w) A Y g σ (call fv vs) s r:=by
 cases x with
 | obj v=>
   apply hf.nO
   cases v with
   | builtin b=>exact OI R hn hA hx h
   | ref f=>
     intro E Q hQ
     refine aC h λ ys hy hr=>?_
     obtain ⟨ad2,UZ⟩:=hRC _ _ _ hr
     refine UZ _ A s _ E Q hA hb jY hTb (gF (JK R 3) hy hx) λ v s' hk hs hv=>?_
     refine hQ v s' _ hk (Gh.d4 _ _) (R.take hk) hs ?_
     exact C9 hn (λ a o ha e=>UX R ha e) 4 _ _ ad2 hv
   | _=>exact aw h
 | _=>exact aw h
end
section
open Builtin Builtin.Str
variable{prog:aaq}{w:acb}{A:adn}{Y:Lay}{g:Gh}{σ:bB}{s:aav}{d:Nat}
theorem rp:∀l:List (Str×Tok),aq n g ((l.map (·.1)).map .str) (strValues l)
 | []=>.nil
 | (x,t)::l=>.cons (.str x t) (rp l)
theorem GP(hy:(y.length==0)=false)
(hq:∀l tk,l.map (·.1)=agw x y->Q (.ref s.heap.objs.size) {s with heap:=s.heap.push {cls:=.type "list",data:=.seq (strValues l).toArray},toks:=tk})
(ZU:x.length+2≤aaW):
 acn (acr prog w) A (call (.builtin "str.split") [.str x t,.str y u]) Q E s:=by
 have bY:x.length≤aaW:=%[a≤b,a+2≤b|(aU ZU)]
 have ad3:(partsBetween x (ahq x y 0 x.length (x.length+1)) y.length).length≤aaW:=by
  have e1:=StrLaws.occ_length_le x y 0 x.length (x.length+1)
  erw [length_partsBetween ..];exact %[a<b,c+2≤b,a≤c+1|cf ZU e1]
 cases h1:(decide (x.length < y.length)||decide (strKind x < strKind y))
 · cases hf:(ahq x y 0 x.length (x.length+1)).isEmpty
   · refine aiA aie (ahA _ _ _) ajj (ai4 _ _) (meets_str_split_sep x y t u h1 hy hf bY ad3) ?_
     show wants Q E _ {s with toks:=_,heap:=s.heap.push {cls:=.type "list",data:=.seq (strsFrom s.toks (partsBetween x (ahq x y 0 x.length (x.length+1)) y.length)).toArray}}
     erw [strsFrom_eq ..]
     exact hq (numbered s.toks _) _ ((numbered_texts _ _).trans ((if_neg (ne_true_of_eq_false h1)).trans (if_neg (ne_true_of_eq_false hf))).symm)
   · exact aiA aie (ahA _ _ _) ajj (ai4 _ _) (meets_str_split_not_found x y t u h1 hy hf)
      (hq [(x,t)] _ ((if_neg (ne_true_of_eq_false h1)).trans (if_pos hf)).symm)
 · exact aiA aie (ahA _ _ _) ajj (ai4 _ _) (meets_str_split_cannot_occur x y t u h1)
    (hq [(x,t)] _ (if_pos h1).symm)
theorem JM(h:kS σ o nm xs=some r):∃T id,PlainAttrs T∧Slot T nm id∧typeOf (.builtin id)=pure (.type "method_descriptor")∧
 (∀(g:Gh) (v:aas) (s:aav),RelV Y.n g o v->s.TypeIs v T∧∀a,v≠.ref a)∧
 ∀(g:Gh) (s:aav) (v:aas) (vs:List aas),Rel Y g σ s.heap->Y.n≤s.heap.objs.size->RelV Y.n g o v->aq Y.n g xs vs->Wv (acr prog w) A Y g σ (call (.builtin id) (v::vs)) s r:=by
 cases o with
 | str sx=>
   cases xs with
   | nil=>
     replace h:(if nm=ac5 "lower" then bz (decide (sx.length≤5592405)) (.str (aeX sx)) else none)=some r:=h
     split at h
     · rename_i R7
       subst R7
       obtain ⟨hc,rfl⟩:=aK h
       refine ⟨"str","str.lower",ajx,F.slot_str_lower,F.type_str_lower,λ g v s hv=>by apply RelV.fH hv;intro _;exact ⟨ahA _ _ _,λ a e=>by cases e⟩,λ g s v vs R hn hv nV E Q hQ=>?_⟩
       apply RelV.fH hv;intro _;apply aq.o4 nV
       exact SCL.lower (of_decide_eq_true hc) λ V=>d7 (E:=E) R hQ (.str _ _)
     · exact aw h
   | cons x0 rest=>
     cases rest with
     | cons _ _=>exact oR h
     | nil=>
       replace h:(if nm=ac5 "join" then Jy σ sx x0 else if nm=ac5 "split" then yz sx x0 else none)=some r:=h
       split at h
       · rename_i R7
         subst R7
         refine ⟨"str","str.join",ajx,F.slot_str_join,F.type_str_join,λ g v s hv=>by apply RelV.fH hv;intro _;exact ⟨ahA _ _ _,λ a e=>by cases e⟩,λ g s v vs R hn hv nV E Q hQ=>?_⟩
         (refine aC h ?_;clear h;intro l hl h)
         obtain ⟨hc,rfl⟩:=aK h
         (refine aC hl ?_;clear hl;intro ys hy hl)
         apply RelV.fH hv;intro _
         cases nV with
         | cons h1 h2=>
           apply aq.o4 h2
           obtain ⟨a,us,rfl,hL,hus⟩:=bo R h1 hy
           exact Rows.join_list hL (Au hus hl) (of_decide_eq_true hc) λ t' k=>d7 (E:=E) R hQ (.str _ _)
       · split at h
         · rename_i R7
           subst R7
           refine ⟨"str","str.split",ajx,aie,F.type_str_split,λ g v s hv=>by apply RelV.fH hv;intro _;exact ⟨ahA _ _ _,λ a e=>by cases e⟩,λ g s v vs R hn hv nV E Q hQ=>?_⟩
           refine aC h λ y e1 h3=>?_
           have:=e9 e1
           subst this
           obtain ⟨hc,rfl⟩:=aK h3
           have hc:=bV hc
           apply RelV.fH hv;intro _
           cases nV with
           | cons h1 h2=>
             apply aq.o4 h2;apply RelV.fH h1;intro _
             refine GP (by simpa using hc.2) (λ l tk hl=>?_) hc.1
             rw [←hl] at hQ
             exact nT (E:=E) R hn hQ (rp l)
         · exact aw h
 | int i=>
   cases xs with
   | cons _ _=>exact oR h
   | nil=>
     replace h:(if nm=ac5 "bit_length" then some (.int (aan i)) else none)=some r:=h
     split at h
     · rename_i R7
       subst R7
       refine ⟨"int","int.bit_length",F.plainAttrs_int,akX,F.type_int_bit_length,λ g v s hv=>by apply RelV.cp hv;intro _;exact ⟨akg _ _ _,λ a e=>by cases e⟩,λ g s v vs R hn hv nV E Q hQ=>?_⟩
       obtain rfl:=aam h
       apply RelV.cp hv;intro _;apply aq.o4 nV
       exact call_gives akX (akg _ _ _) F.entry_int_bit_length (F.args_int_bit_length_1 _) (AutoIntG2.int_bit_length_int_0 _ _) (d7 (E:=E) R hQ (.int _ _))
     · exact aw h
 | _=>exact oR h
end
section
set_option tactic.hygienic true
structure Cx (base:ac2) (nm:NI) (env:Env) (Y:Lay):Prop where
 kind:env.scope.kind=.function
 names:∀x,nm.names.lookup x=env.kindOf x
 slots:∀x i,nm.slots.lookup x=some i->∃l,Y.lay[i]?=some l∧
  ((l=.ns env.locals x∧env.kindOf x=some .local)∨∃c,l=.cell c∧env.cells.lookup x=some c∧(env.kindOf x=some .cell∨env.kindOf x=some .free))
 dO:nm.fV=Y.lay.length
 ax:∀x av,nm.ax.lookup x=some av->∃v,(∀n g,RelV n g av v)∧∃mg,base.Ns env.globals mg∧(mg x=some v∨mg x=none∧∃mb,base.Ns env.builtins mb∧mb x=some v)
 keep:KS base Y.base
variable{prog:aaq}{w:acb}{A:adn}{Y:Lay}{g:Gh}{σ:bB}{s:aav}{d:Nat}{base:ac2}{nm:NI}{env:Env}
theorem Rel.cD(R:Rel Y g σ s.heap):KS Y.base s.heap:=λ a o e=>R.fJ a o (R.base a o e)
theorem mq(hk:KS base s.heap)(hg:base.Ns env.globals mg)
(hv:mg x=some v∨mg x=none∧∃mb,base.Ns env.builtins mb∧mb x=some v)(h:Q v s):acn (acr prog w) A (loadGlobal env x) Q E s:=by
 rcases hv with hv | ⟨h1,mb,h2,h3⟩
 · exact Calls.loadGlobal_global (hg.keeps hk) hv h
 · exact Calls.loadGlobal_builtin (hg.keeps hk) h1 (h2.keeps hk) h3 h
theorem dA(C:Cx base nm env Y)(R:Rel Y g σ s.heap)(hc:cc nm x=some ie)(h:bj RF ie σ=some r):
 Wv (acr prog w) A Y g σ (eval (.Name x pos) env) s r:=by
 intro E Q hQ
 unfold cc at hc
 split at hc
 · exact aw hc
 · rename_i hx
   simp only [afr,not_or,alz] at hx
   split at hc
   · rename_i i hi
     obtain rfl:=aam hc
     obtain ⟨l,hl,h1⟩:=C.slots x i hi
     have hv:σ.vars[i]?.getD none=some r:=h
     rcases h1 with ⟨rfl,hk⟩ | ⟨c,rfl,cU,hk⟩
     · obtain ⟨f,hf,hs⟩:=R.ns env.locals (R.dv _ _ _ hl)
       have h2:=hs i x hl
       rw [hv] at h2
       cases JN:f x with
       | none=>rw [JN] at h2;cases h2
       | some v=>
         rw [JN] at h2
         cases h2 with
         | some h3=>exact ahz (ahF C.kind hk hf JN (wk (E:=E) R hQ h3)) hx.1
     · obtain ⟨ov,yE,h2⟩:=R.cell i c hl
       rw [hv] at h2
       cases h2 with
       | some h3=>
         rcases hk with hk | hk
         · exact ahz (ai2 C.kind hk cU yE (wk (E:=E) R hQ h3)) hx.1
         · exact ahz (ahQ C.kind hk cU yE (wk (E:=E) R hQ h3) hx.2) hx.1
   · split at hc
     · rename_i hk
       refine bS hc λ av hav cB=>?_
       obtain rfl:=cB
       cases h
       obtain ⟨v,hv,mg,hg,hm⟩:=C.ax x _ hav
       refine ajy C.kind ((C.names x).symm.trans hk) ?_ hx.1
       exact mq (λ a o e=>R.cD a o (C.keep a o e)) hg hm (wk (E:=E) R hQ (hv _ _))
     · exact aw hc
noncomputable abbrev wn(prog:aaq)(w:acb)(d:Nat)(base:ac2)(RF:cV):Prop:=∀f xs res,RF f xs=some res->fresh 4 res=true∧uz prog w d base f xs res
theorem KS.trans(x:KS a b)(y:KS b c):KS a c:=λ p o e=>y p o (x p o e)
theorem dG(R:Rel Y g σ s.heap){s':aav}{g':Gh}(k:aR Y.lo s.heap s'.heap)(rW:∃a,a∈Y.dO∧Y.n≤a)(R':Rel Y g' σ s'.heap):Y.n≤s'.heap.objs.size:=by
 obtain ⟨a,ha,h1⟩:=rW
 have:=R'.live a (by simp [Lay.bw,ha])
 exact acW h1 (ae4 this)
noncomputable def SE(prog:aaq)(w:acb)(d:Nat)(base:ac2)(RF:cV)(nm:NI)(env:Env)(Y:Lay)(e:acU)(ie:IE):Prop:=
 ∀A s g σ r,jX d Y.fr A->Rel Y g σ s.heap->bj RF ie σ=some r->Wv (acr prog w) A Y g σ (eval e env) s r
noncomputable def NE(prog:aaq)(w:acb)(d:Nat)(base:ac2)(RF:cV)(nm:NI)(env:Env)(Y:Lay)(es:List acU)(ies:GH):Prop:=
 ∀A s g σ xs,jX d Y.fr A->Rel Y g σ s.heap->i5 RF ies σ=some xs->∀(E:aas->aav->Prop) (Q:List aas->aav->Prop),
  (∀vs s' g',aR Y.lo s.heap s'.heap->g.le g'->Rel Y g' σ s'.heap->a9 s s'->aq Y.n g' xs vs->Q vs s')->acn (acr prog w) A (spliced (es.map λ e=>(false,eval e env))) Q E s
noncomputable def ST(prog:aaq)(w:acb)(d:Nat)(base:ac2)(RF:cV)(nm:NI)(env:Env)(Y:Lay)(e:acU)(it:IT):Prop:=
 ∀A s g σ r,jX d Y.fr A->Rel Y g σ s.heap->jV RF it σ=some r->Wb (acr prog w) A Y g σ (isTrue e env (eval e env)) s r
noncomputable def GQ(prog:aaq)(w:acb)(d:Nat)(base:ac2)(RF:cV)(nm:NI)(env:Env)(Y:Lay)(es:List acU)(its:Aj):Prop:=
 ∀A s g σ r,jX d Y.fr A->Rel Y g σ s.heap->gD RF its σ=some r->Wb (acr prog w) A Y g σ (allTrue .And es env) s r
noncomputable def XU(prog:aaq)(w:acb)(d:Nat)(base:ac2)(RF:cV)(nm:NI)(env:Env)(Y:Lay)(es:List acU)(its:Aj):Prop:=
 ∀A s g σ r,jX d Y.fr A->Rel Y g σ s.heap->yB RF its σ=some r->Wb (acr prog w) A Y g σ (allTrue .Or es env) s r
noncomputable def SO(prog:aaq)(w:acb)(d:Nat)(base:ac2)(RF:cV)(nm:NI)(env:Env)(Y:Lay)(e:Option acU)(ie:IE):Prop:=
 ∀A s g σ r,jX d Y.fr A->Rel Y g σ s.heap->bj RF ie σ=some r->Wv (acr prog w) A Y g σ (evalPart e env) s r
variable{RF:cV}
theorem Wv.then(h:Wv M A Y g σ t s a)
(hQ:∀v s' g',aR Y.lo s.heap s'.heap->g.le g'->Rel Y g' σ s'.heap->a9 s s'->RelV Y.n g' a v->Q v s'):acn M A t Q E s:=h E Q hQ
theorem JO(hs:∃a,a∈Y.dO∧Y.n≤a)(h1:SE prog w d base RF nm env Y l a)(h2:SE prog w d base RF nm env Y r b):
 SE prog w d base RF nm env Y (.BinOp l op r pos) (.bin op a b):=by
 intro A s g σ z hA R h E Q hQ
 replace h:((bj RF a σ).bind λ x=>(bj RF b σ).bind λ y=>dc σ op x y)=some z:=h
 refine aC h λ x hx h=>?_
 refine aC h λ y hy h=>?_
 refine ah7 ((h1 A s g σ x hA R hx).then λ v s₁ aJ k₁ aW aO aP bL=>(h2 A s₁ aJ σ y hA aO hy).then λ u s₂ bu bg bk aF aX cE=>?_)
 exact (OB aF (dG R (k₁.trans bg) hs aF) hA (bL.mono bk) cE h).then λ z ci gZ de fW bW cW i6=>hQ z ci gZ ((k₁.trans bg).trans de) ((aW.trans bk).trans fW) bW ((aP.trans aX).trans cW) i6
theorem JP(Dc:ai9 op r=false)(h1:SE prog w d base RF nm env Y l a)(h2:SE prog w d base RF nm env Y r b):
 SE prog w d base RF nm env Y (.Compare l [op] [r] pos) (.cmp op a b):=by
 intro A s g σ z hA R h E Q hQ
 skip
 (refine aC h ?_;clear h;intro x hx h)
 (refine aC h ?_;clear h;intro y hy h)
 refine bS h λ c hc cB=>?_
 obtain rfl:=cB
 refine wpAny_Compare1 ((h1 A s g σ x hA R hx).then λ v s₁ aJ k₁ aW aO aP bL=>(h2 A s₁ aJ σ y hA aO hy).then λ u s₂ bu bg bk aF aX cE=>?_) Dc
 exact (Fl aF hA (bL.mono bk) cE hc).then λ z ci gZ de fW bW cW i6=>hQ z ci gZ ((k₁.trans bg).trans de) ((aW.trans bk).trans fW) bW ((aP.trans aX).trans cW) i6
theorem JQ(Dc:ai9 op r=false)(h1:SE prog w d base RF nm env Y l a)(h2:SE prog w d base RF nm env Y r b):
 ST prog w d base RF nm env Y (.Compare l [op] [r] pos) (.val (.cmp op a b)):=by
 intro A s g σ z hA R h E Q hQ
 skip
 (refine aC h ?_;clear h;intro c hc h)
 (refine aC hc ?_;clear hc;intro x hx hc)
 (refine aC hc ?_;clear hc;intro y hy hc)
 refine bS hc λ b' Aa cB=>?_
 obtain rfl:=cB
 refine aiG ((h1 A s g σ x hA R hx).then λ v s₁ aJ k₁ aW aO aP bL=>(h2 A s₁ aJ σ y hA aO hy).then λ u s₂ bu bg bk aF aX cE=>?_) Dc
 refine (Fl aF hA (bL.mono bk) cE Aa).then λ z ci gZ de fW bW cW i6=>?_
 exact wR bW i6 h E Q λ eo yF jH lX fX fb=>hQ eo yF (((k₁.trans bg).trans de).trans jH) (((aW.trans bk).trans fW).trans lX) fX (((aP.trans aX).trans cW).trans fb)
theorem JR(h1:SE prog w d base RF nm env Y x a):SE prog w d base RF nm env Y (.UnaryOp .USub x pos) (.neg a):=by
 intro A s g σ z hA R h E Q hQ
 skip
 (refine aC h ?_;clear h;intro x hx h)
 split at h
 · obtain rfl:=aam h
   refine wpAny_UnaryOp ((h1 A s g σ _ hA R hx).then λ v s₁ aJ k₁ aW aO aP bL=>?_)
   apply RelV.cp bL;intro _
   exact neg_int (hQ _ _ aJ k₁ aW aO ⟨aP.1,aP.2,aP.3⟩ (.int _ _))
 · exact aw h
theorem JS(h1:SE prog w d base RF nm env Y x a):SE prog w d base RF nm env Y (.UnaryOp .Invert x pos) (.inv a):=by
 intro A s g σ z hA R h E Q hQ
 skip
 (refine aC h ?_;clear h;intro x hx h)
 split at h
 · obtain rfl:=aam h
   refine wpAny_UnaryOp ((h1 A s g σ _ hA R hx).then λ v s₁ aJ k₁ aW aO aP bL=>?_)
   apply RelV.cp bL;intro _
   exact invert_int (hQ _ _ aJ k₁ aW aO ⟨aP.1,aP.2,aP.3⟩ (.int _ _))
 · exact aw h
theorem JT(h0:ST prog w d base RF nm env Y t it)(h1:SE prog w d base RF nm env Y a ia)(h2:SE prog w d base RF nm env Y b ib):
 SE prog w d base RF nm env Y (.IfExp t a b pos) (.yx it ia ib):=by
 intro A s g σ z hA R h E Q hQ
 replace h:((jV RF it σ).bind λ c=>if c=true then bj RF ia σ else bj RF ib σ)=some z:=h
 refine aC h λ c hc h=>?_
 refine wpAny_IfExp (h0 A s g σ c hA R hc E _ λ s₁ aJ k₁ aW aO aP=>?_)
 split
 · rename_i e
   rw [if_pos e] at h
   exact (h1 A s₁ aJ σ z hA aO h).then λ v s₂ bu bg bk aF aX cE=>hQ v s₂ bu (k₁.trans bg) (aW.trans bk) aF (aP.trans aX) cE
 · rename_i e
   rw [if_neg e] at h
   exact (h2 A s₁ aJ σ z hA aO h).then λ v s₂ bu bg bk aF aX cE=>hQ v s₂ bu (k₁.trans bg) (aW.trans bk) aF (aP.trans aX) cE
theorem U1:NE prog w d base RF nm env Y [] .nil:=by
 intro A s g σ xs hA R h E Q hQ
 cases h
 exact adt (hQ [] s g (aR.refl _) (Gh.le.refl g) R (a9.refl s) .nil)
theorem OJ(h1:SE prog w d base RF nm env Y e ie)(h2:NE prog w d base RF nm env Y es ies):
 NE prog w d base RF nm env Y (e::es) (.cons ie ies):=by
 intro A s g σ xs hA R h E Q hQ
 skip
 (refine aC h ?_;clear h;intro x hx h)
 refine bS h λ ys hy cB=>?_
 obtain rfl:=cB
 refine ac0 ((h1 A s g σ x hA R hx).then λ v s₁ aJ k₁ aW aO aP bL=>?_)
 exact h2 A s₁ aJ σ ys hA aO hy E _ λ vs s₂ bu bg bk aF aX cE=>hQ _ s₂ bu (k₁.trans bg) (aW.trans bk) aF (aP.trans aX) (.cons (bL.mono bk) cE)
end
section
variable{prog:aaq}{w:acb}{A:adn}{Y:Lay}{g:Gh}{σ:bB}{s:aav}{d:Nat}{base:ac2}{nm:NI}{env:Env}{RF:cV}
noncomputable def ct(es:List acU):Prop:=∀e∈es,∀x p,e≠.Starred x p
theorem GR(h:∀x p,e≠.Starred x p):alB (e::es) env=(false,eval e env)::alB es env:=by
 cases e with
 | Starred x p=>exact absurd rfl (h x p)
 | _=>rfl
theorem uB(env:Env)(es:List acU)(h:ct es):alB es env=es.map λ e=>(false,eval e env):=by
 induction es with
 | nil=>rfl
 | cons e es ih=>exact (GR (h e aiN)).trans (congrArg (_::·) (ih λ x hx=>h x (ado _ hx)))
theorem yG(pos:Pos)(es:List acU):backTo pos (es.map λ e=>(false,eval e env))=es.map λ e=>(false,eval e env):=by
 unfold backTo
 rw [ade]
 rfl
theorem aM(h:ct es)(pos:Pos):backTo pos (alB es env)=es.map λ e=>(false,eval e env):=by
 erw [uB env es h,yG ..,rfl]
theorem JU(hs:∃a,a∈Y.dO∧Y.n≤a)(hn:ct es)(h1:NE prog w d base RF nm env Y es ies):SE prog w d base RF nm env Y (.List es pos) (.lst ies):=by
 intro A s g σ z hA R h E Q hQ
 skip
 (refine aC h ?_;clear h;intro xs hx h)
 obtain ⟨hc,rfl⟩:=aK h
 refine wpAny_List ?_
 erw [aM hn ..]
 refine h1 A s g σ xs hA R hx E _ λ vs s₁ aJ k₁ aW aO aP bL=>⟨?_,?_⟩
 · erw [←bL.length];exact of_decide_eq_true hc
 · exact nT (E:=E) (tk:=s₁.toks) aO (dG R k₁ hs aO) (λ v s₂ bu bg bk aF aX cE=>hQ v s₂ bu (k₁.trans bg) (aW.trans bk) aF (aP.trans aX) cE) bL
theorem JV(hs:∃a,a∈Y.dO∧Y.n≤a)(hn:ct es)(h1:NE prog w d base RF nm env Y es ies):SE prog w d base RF nm env Y (.Tuple es k pos) (.tup ies):=by
 intro A s g σ z hA R h E Q hQ
 skip
 (refine aC h ?_;clear h;intro xs hx h)
 obtain ⟨hc,rfl⟩:=aK h
 refine wpAny_Tuple ?_
 erw [aM hn ..]
 refine h1 A s g σ xs hA R hx E _ λ vs s₁ aJ k₁ aW aO aP bL=>⟨?_,?_⟩
 · erw [←bL.length];exact of_decide_eq_true hc
 · exact JF (E:=E) (tk:=s₁.toks) aO (dG R k₁ hs aO) (λ v s₂ bu bg bk aF aX cE=>hQ v s₂ bu (k₁.trans bg) (aW.trans bk) aF (aP.trans aX) cE) bL
theorem JW(h1:SE prog w d base RF nm env Y a ia)(h2:SE prog w d base RF nm env Y i ii):SE prog w d base RF nm env Y (.Subscript a i pos) (.idx ia ii):=by
 intro A s g σ z hA R h E Q hQ
 replace h:((bj RF ia σ).bind λ x=>(bj RF ii σ).bind λ y=>nR σ x y)=some z:=h
 refine aC h λ x hx h=>?_
 refine aC h λ y hy h=>?_
 refine ajq ((h1 A s g σ x hA R hx).then λ v s₁ aJ k₁ aW aO aP bL=>(h2 A s₁ aJ σ y hA aO hy).then λ u s₂ bu bg bk aF aX cE=>?_)
 exact (OG aF (bL.mono bk) cE h).then λ z ci gZ de fW bW cW i6=>hQ z ci gZ ((k₁.trans bg).trans de) ((aW.trans bk).trans fW) bW ((aP.trans aX).trans cW) i6
theorem JX{a:acU}{lo hi st:Option acU}{p pos:Pos}{ia il ih it:IE}(hs:∃a,a∈Y.dO∧Y.n≤a)(h1:SE prog w d base RF nm env Y a ia)(h2:SO prog w d base RF nm env Y lo il)(h3:SO prog w d base RF nm env Y hi ih)
(h4:SO prog w d base RF nm env Y st it):SE prog w d base RF nm env Y (.Subscript a (.Slice lo hi st p) pos) (.ND ia il ih it):=by
 intro A s g σ z hA R h E Q hQ
 replace h:((bj RF ia σ).bind λ x=>(bj RF il σ).bind λ l=>(bj RF ih σ).bind λ u=>(bj RF it σ).bind λ t=>Am σ x l u t)=some z:=h
 refine aC h λ x hx h=>?_
 refine aC h λ l hl h=>?_
 refine aC h λ u hu h=>?_
 refine aC h λ t ht h=>?_
 refine ajq ((h1 A s g σ x hA R hx).then λ v s₁ aJ k₁ aW aO aP bL=>wpAny_Slice ((h2 A s₁ aJ σ l hA aO hl).then λ vl s₂ bu bg bk aF aX cE=>(h3 A s₂ bu σ u hA aF hu).then λ vu ci gZ de fW bW cW i6=>
  (h4 A ci gZ σ t hA bW ht).then λ vt eo yF jH lX fX fb OL=>?_))
 refine (OH fX (dG R (((k₁.trans bg).trans de).trans jH) hs fX) (((bL.mono bk).mono fW).mono lX) ((cE.mono fW).mono lX) (i6.mono lX) OL h).then λ z gj nr nW uC dH iR JY=>?_
 refine hQ z gj nr ((((k₁.trans bg).trans de).trans jH).trans (aR.trans (cq _ _) nW)) ((((aW.trans bk).trans fW).trans lX).trans uC) dH ((((aP.trans aX).trans cW).trans fb).trans ⟨iR.1,iR.2,iR.3⟩) JY
end
section
variable{prog:aaq}{w:acb}{A:adn}{Y:Lay}{g:Gh}{σ:bB}{s:aav}{d:Nat}{base:ac2}{nm:NI}{env:Env}{RF:cV}
theorem OM:GQ prog w d base RF nm env Y [] .nil:=by
 intro A s g σ r hA R h E Q hQ
 cases h
 exact wpAny_allTrue_And_nil (hQ s g (aR.refl _) (Gh.le.refl g) R (a9.refl s))
theorem U2:XU prog w d base RF nm env Y [] .nil:=by
 intro A s g σ r hA R h E Q hQ
 cases h
 exact wpAny_allTrue_Or_nil (hQ s g (aR.refl _) (Gh.le.refl g) R (a9.refl s))
theorem JZ(h1:ST prog w d base RF nm env Y e it)(h2:GQ prog w d base RF nm env Y es its):GQ prog w d base RF nm env Y (e::es) (.cons it its):=by
 intro A s g σ r hA R h E Q hQ
 skip
 (refine aC h ?_;clear h;intro b hb h)
 refine wpAny_allTrue_And_cons (h1 A s g σ b hA R hb E _ λ s₁ aJ k₁ aW aO aP=>?_)
 split
 · rename_i e;rw [if_pos e] at h
   exact h2 A s₁ aJ σ r hA aO h E _ λ s₂ bu bg bk aF aX=>hQ s₂ bu (k₁.trans bg) (aW.trans bk) aF (aP.trans aX)
 · rename_i e;rw [if_neg e] at h
   obtain rfl:=aam h
   exact hQ s₁ aJ k₁ aW aO aP
theorem OO(h1:ST prog w d base RF nm env Y e it)(h2:XU prog w d base RF nm env Y es its):XU prog w d base RF nm env Y (e::es) (.cons it its):=by
 intro A s g σ r hA R h E Q hQ
 skip
 (refine aC h ?_;clear h;intro b hb h)
 refine wpAny_allTrue_Or_cons (h1 A s g σ b hA R hb E _ λ s₁ aJ k₁ aW aO aP=>?_)
 split
 · rename_i e;rw [if_pos e] at h
   obtain rfl:=aam h
   exact hQ s₁ aJ k₁ aW aO aP
 · rename_i e;rw [if_neg e] at h
   exact h2 A s₁ aJ σ r hA aO h E _ λ s₂ bu bg bk aF aX=>hQ s₂ bu (k₁.trans bg) (aW.trans bk) aF (aP.trans aX)
theorem not_test(h1:ST prog w d base RF nm env Y x it):ST prog w d base RF nm env Y (.UnaryOp .Not x pos) (.not it):=by
 intro A s g σ r hA R h E Q hQ
 skip
 refine bS h λ b hb cB=>?_
 obtain rfl:=cB
 exact wpAny_isTrue_Not (h1 A s g σ b hA R hb E _ hQ)
theorem J0(h1:GQ prog w d base RF nm env Y es its):ST prog w d base RF nm env Y (.BoolOp .And es pos) (.and its):=by
 intro A s g σ r hA R h E Q hQ
 replace h:gD RF its σ=some r:=h
 exact alP (h1 A s g σ r hA R h E _ hQ)
theorem or_test(h1:XU prog w d base RF nm env Y es its):ST prog w d base RF nm env Y (.BoolOp .Or es pos) (.or its):=by
 intro A s g σ r hA R h E Q hQ
 replace h:yB RF its σ=some r:=h
 exact alP (h1 A s g σ r hA R h E _ hQ)
theorem Av(he:∀(env:Env) (whole:Sem aas),isTrue e env whole=(do let v ←whole;aiz e.pos;ahl [v] (ak6 v)))(h1:SE prog w d base RF nm env Y e ie):
 ST prog w d base RF nm env Y e (.val ie):=by
 intro A s g σ r hA R h E Q hQ
 replace h:((bj RF ie σ).bind λ x=>ut σ x)=some r:=h
 refine aC h λ x hx h=>?_
 refine alY ((h1 A s g σ x hA R hx).then λ v s₁ aJ k₁ aW aO aP bL=>?_) (he _ _)
 exact wR aO bL h E Q λ s₂ bu bg bk aF aX=>hQ s₂ bu (k₁.trans bg) (aW.trans bk) aF (aP.trans aX)
theorem GU(hs:∃a,a∈Y.dO∧Y.n≤a)(hb:KS base Y.base)(ka:wn prog w d base RF)(hn:ct es)(cM:es≠[])
(h1:SE prog w d base RF nm env Y (.Name x p) f)(h2:NE prog w d base RF nm env Y es ies)(dw:∀f xs res,RF (.ref f) xs=some res->∃o fd,base.get? f=some o∧o.data=.func fd):
 SE prog w d base RF nm env Y (.Call (.Name x p) es [] pos) (.call f ies):=by
 intro A s g σ z hA R h E Q hQ
 skip
 (refine aC h ?_;clear h;intro fx hf h)
 (refine aC h ?_;clear h;intro xs hx h)
 refine afi (aM hn pos) ((h1 A s g σ fx hA R hf).then λ fv s₁ aJ k₁ aW aO aP bL=>?_)
 have args:∀Q',(∀vs s' g',aR Y.lo s₁.heap s'.heap->aJ.le g'->Rel Y g' σ s'.heap->a9 s₁ s'->aq Y.n g' xs vs->Q' ⟨vs,[]⟩ s')->
  ∀fv',acn (acr prog w) A (evalArgs fv' true (es.map λ e=>(false,eval e env)) []) Q' E s₁:=λ Q' ZV fv'=>by
  cases es with
  | nil=>exact absurd rfl cM
  | cons e es=>exact ac4 (h2 A s₁ aJ σ xs hA aO hx E _ λ vs s' g' k l R' m v=>ZV vs s' g' k l R' m v)
 have d7:∀vs s₂ bu,aR Y.lo s₁.heap s₂.heap->aJ.le bu->Rel Y bu σ s₂.heap->a9 s₁ s₂->aq Y.n bu xs vs->acn (acr prog w) A (call fv vs []) Q E s₂:=λ vs s₂ bu bg bk aF aX cE=>
  (JL aF (dG R (k₁.trans bg) hs aF) hA (hb.trans aF.cD) (FunFrames.sub hb aF.frames) (aF.R2 hb) ka (bL.mono bk) cE h).then λ v ci gZ de fW bW cW i6=>hQ v ci gZ ((k₁.trans bg).trans de) ((aW.trans bk).trans fW) bW ((aP.trans aX).trans cW) i6
 have uD:(es.map λ e=>(false,eval e env)).any (·.1)=false:=by simp
 have bi:∀id,fv=.builtin id->acn (acr prog w) A (callWith pos fv [] (es.map λ e=>(false,eval e env)) []) Q E s₁:=λ id e=>by
  subst e
  exact aee uD (args _ (λ vs s' g' k l R' m v=>d7 vs s' g' k l R' m v) _)
 cases fx with
 | obj v=>
   cases v with
   | builtin b=>cases bL;exact bi _ rfl
   | ref f=>
     cases bL
     refine aC h λ ys hy hr=>?_
     obtain ⟨o,fd,ho,hd⟩:=dw _ _ _ hr
     exact afN (o:=o) (fd:=fd) (args _ (λ vs s' g' k l R' m v=>⟨⟨(hb.trans R'.cD) _ _ ho,hd⟩,d7 vs s' g' k l R' m v⟩) _)
   | _=>exact oR h
 | _=>exact oR h
end
section
variable{prog:aaq}{w:acb}{A:adn}{Y:Lay}{g:Gh}{σ:bB}{s:aav}{d:Nat}{base:ac2}{nm:NI}{env:Env}{RF:cV}
theorem d8(hb:pe o=true):attributeBase o nmx env (eval o env)=eval o env:=by
 refine d5 (P:=λ v o=>Fh v=true->attributeBase o nmx env (eval o env)=eval o env) (λ v h=>?_) o hb
 cases v with
 | call f args yC p=>
   cases args with
   | nil=>exact e8 h
   | cons _ _=>cases f <;> rfl
 | other _=>exact e8 h
 | _=>rfl
theorem GV(hs:∃a,a∈Y.dO∧Y.n≤a)(hn:ct es)(bc:es.length < 5)(hline:(apos.endLine==pos.line)=true)
(Aw:pe o=true)(ad6:es=[]->ies=.nil)(h1:SE prog w d base RF nm env Y o io)(h2:NE prog w d base RF nm env Y es ies):
 SE prog w d base RF nm env Y (.Call (.Attribute o nmx apos) es [] pos) (.o8 io nmx ies):=by
 intro A s g σ z hA R h E Q hQ
 skip
 (refine aC h ?_;clear h;intro ox ho h)
 (refine aC h ?_;clear h;intro xs hx h)
 (refine cL (JM (prog:=prog) (w:=w) (A:=A) (Y:=Y) h) λ T dL=>?_;refine cL dL λ id eZ=>?_;have pa:=eZ.1;have slot:=eZ.2.1;have ty:=eZ.2.2.1;have ht:=eZ.2.2.2.1;have hw:=eZ.2.2.2.2;clear eZ dL)
 refine afe (d8 Aw) ?_ hline ((h1 A s g σ ox hA R ho).then λ v s₁ aJ k₁ aW aO aP bL=>?_)
 · erw [aM hn ..]
   simp only [aic,aec,List.isEmpty_nil,if_true,ahJ,backToKw,keywordEach,afG,List.all_nil,agy,aaQ,decide_eq_true_eq]
   refine ⟨?_,%[a<30,a<5|(aV bc)]⟩
   simp
 · refine gY (ht aJ v s₁ bL) λ hT hr=>?_
   refine ⟨T,id,pa,slot,ty,hT,λ a e=>absurd e (hr a),?_⟩
   erw [aM hn ..]
   have d7:∀vs s₂ bu,aR Y.lo s₁.heap s₂.heap->aJ.le bu->Rel Y bu σ s₂.heap->a9 s₁ s₂->aq Y.n bu xs vs->acn (acr prog w) A (call (.builtin id) ([v]++vs) []) Q E s₂:=λ vs s₂ bu bg bk aF aX cE=>
    (hw bu s₂ v vs aF (dG R (k₁.trans bg) hs aF) (bL.mono bk) cE).then λ v ci gZ de fW bW cW i6=>hQ v ci gZ ((k₁.trans bg).trans de) ((aW.trans bk).trans fW) bW ((aP.trans aX).trans cW) i6
   refine aee (by simp) ?_
   cases es with
   | nil=>
     rw [ad6 rfl] at hx
     cases hx
     exact akY (d7 [] s₁ aJ (aR.refl _) (Gh.le.refl _) aO (a9.refl _) .nil)
   | cons e es=>exact ac4 (h2 A s₁ aJ σ xs hA aO hx E _ d7)
end
section
set_option tactic.hygienic true
variable{prog:aaq}{w:acb}{A:adn}{Y:Lay}{g:Gh}{σ:bB}{s:aav}{d:Nat}{base:ac2}{nm:NI}{env:Env}{RF:cV}
structure U3 (prog:aaq) (w:acb) (F:List abh) (fz:Bool) (n:Nat) (g:Gh) (items:List AV) (I:abh) (fp:List abh) (P:Nat->aas->Prop) (St:Nat->ac2->Prop):Prop where
 walks:∀A':adn,A'.handled=none->Walks prog w A' I fp [I] items.length P St
 rel:∀i v,i < items.length->P i v->∃x,items[i]?=some x∧RelV n g x v
 low:∀b∈fp,b≤I
 nj:fz=true->∀b∈fp,b=I∨(g.z b).isSome=true
 obj:∀i h,St i h->∃o,h.get? I=some o
 nf:∀b∈fp,b=I∨b∉F
noncomputable def nv(prog:aaq)(w:acb)(fz:Bool)(Y:Lay)(g:Gh)(items:List AV)(s:aav)(Q:aas->aav->Prop):Prop:=
 ∀o fp P St,o.isFreed=false->U3 prog w (iQ Y.fr) fz Y.n g items s.heap.objs.size fp P St->St 0 (s.heap.push o)->Q (.ref s.heap.objs.size) {s with heap:=s.heap.push o}
theorem pj(hl:s.heap.IsList l vs.toArray)(hv:aq Y.n g items vs)(hz:fz=true->(g.z l).isSome=true)(U4:l∉iQ Y.fr)
(hQ:nv prog w fz Y g items s Q):acn (acr prog w) A (ajJ (.ref l)) Q E s:=by
 have bD:l < s.heap.objs.size:=by obtain ⟨o,ho,_⟩:=hl;exact acD ho
 refine wpAny_pyIter_list hl (hQ _ [s.heap.objs.size,l] (λ i v=>vs.toArray[i]?=some v) (λ i h=>h.IsListIter s.heap.objs.size l i∧h.IsList l vs.toArray) rfl ⟨λ A' hA=>?_,λ i v hi hp=>?_,λ b hb=>?_,λ hf b hb=>?_,λ i h st=>(by obtain ⟨o,ho,_⟩:=st.1;exact ⟨o,ho⟩),λ b hb=>by
  simp at hb
  rcases hb with hb | hb
  · exact .inl hb
  · subst hb;exact .inr U4⟩ ⟨⟨_,acT _ rfl,rfl,rfl⟩,hl.push _⟩)
 · have:=Walks.list (prog:=prog) (w:=w) (A:=A') hA s.heap.objs.size l (acS bD) vs.toArray
   erw [hv.length];simpa using this
 · rw [afv] at hp
   have hx:items[i]?=some items[i]:=by simp [hi]
   obtain ⟨v',h1,h2⟩:=hv.get hx
   rw [hp] at h1;obtain rfl:=aam h1
   exact ⟨_,hx,h2⟩
 · simp at hb;rcases hb with hb | hb
   · subst hb;exact ac1 _
   · subst hb;exact ae4 bD
 · simp at hb
   rcases hb with hb | hb
   · exact .inl hb
   · subst hb;exact .inr (hz hf)
theorem J1(hl:s.heap.IsTuple l vs.toArray)(hv:aq Y.n g items vs)(hz:fz=true->(g.z l).isSome=true)(U4:l∉iQ Y.fr)
(hQ:nv prog w fz Y g items s Q):acn (acr prog w) A (ajJ (.ref l)) Q E s:=by
 have bD:l < s.heap.objs.size:=by obtain ⟨o,ho,_⟩:=hl;exact acD ho
 refine wpAny_pyIter_tuple hl (hQ _ [s.heap.objs.size,l] (λ i v=>vs.toArray[i]?=some v) (λ i h=>h.IsTupleIter s.heap.objs.size l i∧h.IsTuple l vs.toArray) rfl ⟨λ A' hA=>?_,λ i v hi hp=>?_,λ b hb=>?_,λ hf b hb=>?_,λ i h st=>(by obtain ⟨o,ho,_⟩:=st.1;exact ⟨o,ho⟩),λ b hb=>by
  simp at hb
  rcases hb with hb | hb
  · exact .inl hb
  · subst hb;exact .inr U4⟩ ⟨⟨_,acT _ rfl,rfl,rfl⟩,hl.push _⟩)
 · have:=Walks.tuple (prog:=prog) (w:=w) (A:=A') hA s.heap.objs.size l (acS bD) vs.toArray
   erw [hv.length];simpa using this
 · rw [afv] at hp
   have hx:items[i]?=some items[i]:=by simp [hi]
   obtain ⟨v',h1,h2⟩:=hv.get hx
   rw [hp] at h1;obtain rfl:=aam h1
   exact ⟨_,hx,h2⟩
 · simp at hb;rcases hb with hb | hb
   · subst hb;exact ac1 _
   · subst hb;exact ae4 bD
 · simp at hb
   rcases hb with hb | hb
   · exact .inl hb
   · subst hb;exact .inr (hz hf)
theorem J2
(hQ:nv prog w fz Y g (x.cps.toList.map λ c=>.str ⟨#[c]⟩) s Q):acn (acr prog w) A (ajJ (.str x t)) Q E s:=by
 have key:∀(o:Obj) (St:Nat->ac2->Prop),o.isFreed=false->(∀A':adn,A'.handled=none->Walks prog w A' s.heap.objs.size [s.heap.objs.size] [s.heap.objs.size] x.cps.size (SignAt x) St)->St 0 (s.heap.push o)->(∀i h,St i h->∃o,h.get? s.heap.objs.size=some o)->
  Q (.ref s.heap.objs.size) {s with heap:=s.heap.push o}:=λ o St ho hW GN ad7=>by
  refine hQ o [s.heap.objs.size] (SignAt x) St ho ⟨λ A' hA=>?_,λ i v hi hp=>?_,λ b hb=>?_,λ hf b hb=>?_,ad7,λ b hb=>.inl (by simpa using hb)⟩ GN
  · have:=hW A' hA
    simpa using this
  · obtain ⟨c,u,hc,rfl⟩:=hp
    refine ⟨.str ⟨#[c]⟩,?_,.str _ _⟩
    simp only [adk,Array.getElem?_toList,hc,ah4]
  · simp at hb;subst hb;exact ac1 _
  · simp at hb;exact .inl hb
 cases ha:x.cps.all (· < 128)
 · exact wpAny_pyIter_wide ha (key _ _ rfl (λ A' hA=>Walks.strWide hA _ x t) ⟨_,acT _ rfl,rfl,rfl⟩ λ i h st=>(by obtain ⟨o,ho,_⟩:=st;exact ⟨o,ho⟩))
 · exact wpAny_pyIter_ascii ha (key _ _ rfl (λ A' hA=>Walks.strAscii hA _ x t) ⟨_,acT _ rfl,rfl,rfl⟩ λ i h st=>(by obtain ⟨o,ho,_⟩:=st;exact ⟨o,ho⟩))
theorem rX(h:i < (bI a b).length):(bI a b)[i]?=some (.int (a+(i:Int))):=by
 unfold bI at h ⊢
 simp only [aar,agE] at h
 simp [h]
theorem Ax(hr:IsRange s.heap r a b 1 t u v)(ha: -(2 ^ 20)≤a)(U5:a≤2 ^ 20)(hb: -(2 ^ 20)≤b)(Ii:b≤2 ^ 20)
(hQ:nv prog w fz Y g (bI a b) s Q):acn (acr prog w) A (ajJ (.ref r)) Q E s:=by
 refine wpAny_pyIter_range hr (small_one %[(qG (qL 2 62))⊆a,(qG (qL 2 20))⊆a|(fZ ha)] %[a⊂(qL 2 62),a⊆(qL 2 20)|(fZ U5)] %[(qG (qL 2 62))⊆a,(qG (qL 2 20))⊆a|(fZ hb)] %[a⊂(qL 2 62),a⊆(qL 2 20)|(fZ Ii)]) ?_
 have bY:Builtin.Range.rangeSize a b 1=((b - a).toNat:Nat):=by erw [rangeSize_one ..];split <;> omega
 erw [bY]
 refine hQ _ [s.heap.objs.size] (λ i v=>∃t,v=.int (a+(i:Nat) * 1) t) (λ i h=>alI h s.heap.objs.size (a+(i:Nat) * 1) (((b - a).toNat:Int) - (i:Nat)) 1) rfl ⟨λ A' hA=>?_,λ i v hi hp=>?_,λ b hb=>?_,λ hf b hb=>?_,λ i h st=>⟨_,st⟩,λ b hb=>.inl (by simpa using hb)⟩ ?_
 · have:=Walks.range (prog:=prog) (w:=w) (A:=A') hA s.heap.objs.size a 1 (b - a).toNat
   simpa [bI] using this
 · obtain ⟨t,rfl⟩:=hp
   refine ⟨_,rX hi,?_⟩
   erw [ahy ..]
   exact .int _ _
 · simp at hb;subst hb;exact ac1 _
 · simp at hb;exact .inl hb
 · show alI _ _ _ _ _
   unfold alI
   rw [acT _ rfl]
   simp
theorem GW(R:Rel Y g σ s.heap)(hv:RelV Y.n g x v)(hi:jE σ x=some items)(hz:fz=true->lH x=some items)
(hQ:nv prog w fz Y g items s Q):acn (acr prog w) A (ajJ v) Q E s:=by
 cases x with
 | tup xs=>
   cases hi
   cases hv with
   | tup h1 h2 h3 h4 h5=>exact J1 ⟨_,R.fJ _ _ h2,h3,_,h4⟩ h5 (λ V=>by erw [h2];rfl) (R.Ar h2) hQ
 | str x=>cases hi;apply RelV.fH hv;intro _;exact J2 hQ
 | lst xs=>
   cases hi
   cases hv with
   | lst h1 h2 h3 h4 h5=>exact pj ⟨_,R.fJ _ _ h2,h3,_,h4⟩ h5 (λ V=>by erw [h2];rfl) (R.Ar h2) hQ
 | bor xs=>
   cases hi
   cases hv with
   | bor h2 h3 h4 h5=>exact pj ⟨_,R.fJ _ _ h2,h3,_,h4⟩ h5 (λ V=>by erw [h2];rfl) (R.Ar h2) hQ
 | own k=>
   have jY:∀a,v=.ref a->a∉iQ Y.fr:=λ a e=>by
    subst e
    cases hv with
    | own hk=>exact R.JI (au.mpr (.inr (.inr (.inr (acR hk))))) (R.o6 hk)
   obtain ⟨a,vs,rfl,hl,nV⟩:=bo R hv (show σ.listOf (.own k)=some items from hi)
   refine pj hl nV (λ hf=>?_) (jY a rfl) hQ
   have:=hz hf
   exact aw this
 | _=>exact aw hi
noncomputable def SI(prog:aaq)(w:acb)(d:Nat)(base:ac2)(RF:cV)(nm:NI)(env:Env)(Y:Lay)(e:acU)(it:II):Prop:=
 ∀A s g σ items fz,jX d Y.fr A->Rel Y g σ s.heap->Ao RF it σ=some items->(fz=true->wj RF it σ=some items)->∀(E Q:aas->aav->Prop),
  (∀s' g',aR Y.lo s.heap s'.heap->g.le g'->Rel Y g' σ s'.heap->a9 s s'->nv prog w fz Y g' items s' Q)->acn (acr prog w) A (eval e env) (λ xv s₁=>acn (acr prog w) A (ajJ xv) Q E s₁) E s
theorem J3(h1:SE prog w d base RF nm env Y e ie):SI prog w d base RF nm env Y e (.exp ie):=by
 intro A s g σ items fz hA R h hz E Q hQ
 replace h:((bj RF ie σ).bind λ x=>jE σ x)=some items:=h
 refine aC h λ x hx h=>?_
 refine (h1 A s g σ x hA R hx).then λ v s₁ aJ k₁ aW aO aP bL=>?_
 refine GW (fz:=fz) aO bL h (λ hf=>?_) (hQ s₁ aJ k₁ aW aO aP)
 have:((bj RF ie σ).bind lH)=some items:=hz hf
 rw [hx] at this
 exact this
theorem pk(h1:SE prog w d base RF nm env Y e (.glob x (.obj (.type T))))(hA:jX d Y.fr A)(R:Rel Y g σ s.heap)
(hQ:∀s' g',aR Y.lo s.heap s'.heap->g.le g'->Rel Y g' σ s'.heap->a9 s s'->Q (.type T) s'):acn (acr prog w) A (eval e env) Q E s:=by
 refine (h1 A s g σ _ hA R rfl).then λ v s₁ aJ k₁ aW aO aP bL=>?_
 apply RelV.nO bL
 exact hQ s₁ aJ k₁ aW aO aP
theorem J4(hn:ct [e])(h0:SE prog w d base RF nm env Y (.Name x p) (.glob y (.obj (.type "range"))))(h1:SE prog w d base RF nm env Y e ie):
 SI prog w d base RF nm env Y (.Call (.Name x p) [e] [] pos) (.kP ie):=by
 intro A s g σ items fz hA R h hz E Q hQ
 skip
 (refine aC h ?_;clear h;intro z hx h)
 split at h
 · rename_i b
   split at h
   · rename_i hb
     obtain rfl:=aam h
     refine afi (aM hn pos) (pk h0 hA R λ s₁ aJ k₁ aW aO aP=>?_)
     refine aiB rfl (ac4 (ac0 ((h1 A s₁ aJ σ _ hA aO hx).then λ v s₂ bu bg bk aF aX cE=>adt ?_)))
     apply RelV.cp cE;intro _
     refine call_range_1 ?_
     refine Ax (E:=E) (fz:=fz) (acT _ rfl) ⋯ ⋯ hb.1 hb.2 (hQ _ bu ((k₁.trans bg).trans (cq _ _)) (aW.trans bk) (aF.keep λ V V e=>act _ e) ((aP.trans aX).trans ⟨rfl,rfl,rfl⟩))
   · exact aw h
 · exact aw h
theorem GX(hn:ct [e,f])(h0:SE prog w d base RF nm env Y (.Name x p) (.glob y (.obj (.type "range"))))(h1:SE prog w d base RF nm env Y e ie)(h2:SE prog w d base RF nm env Y f jf):
 SI prog w d base RF nm env Y (.Call (.Name x p) [e,f] [] pos) (.Jq ie jf):=by
 intro A s g σ items fz hA R h hz E Q hQ
 skip
 (refine aC h ?_;clear h;intro z hx h)
 (refine aC h ?_;clear h;intro z' hy h)
 split at h
 · rename_i a b
   split at h
   · rename_i hb
     obtain rfl:=aam h
     refine afi (aM hn pos) (pk h0 hA R λ s₁ aJ k₁ aW aO aP=>?_)
     refine aiB rfl (ac4 (ac0 ((h1 A s₁ aJ σ _ hA aO hx).then λ v s₂ bu bg bk aF aX cE=>
      ac0 ((h2 A s₂ bu σ _ hA aF hy).then λ v' ci gZ de fW bW cW i6=>adt ?_))))
     apply RelV.cp cE;intro _
     apply RelV.cp i6;intro _
     refine call_range_2 ?_
     refine Ax (E:=E) (fz:=fz) (acT _ rfl) hb.1 hb.2.1 hb.2.2.1 hb.2.2.2 (hQ _ gZ (((k₁.trans bg).trans de).trans (cq _ _)) ((aW.trans bk).trans fW) (bW.keep λ V V e=>act _ e) (((aP.trans aX).trans cW).trans ⟨rfl,rfl,rfl⟩))
   · exact aw h
 · exact aw h
theorem Ay(hl:s.heap.IsList l vs.toArray)(hv:aq Y.n g items vs)(hz:(g.z l).isSome=true)(U4:l∉iQ Y.fr)
(hQ:nv prog w fz Y g items.reverse s Q):acn (acr prog w) A (call (.type "reversed") [.ref l]) (λ xv s₁=>acn (acr prog w) A (ajJ xv) Q E s₁) E s:=by
 have bD:l < s.heap.objs.size:=by obtain ⟨o,ho,_⟩:=hl;exact acD ho
 have R8:items.length=vs.length:=hv.length
 have tE:(s.heap.push (revObj l ((vs.toArray.size:Int) - 1))).IsRevIter s.heap.objs.size l ((vs.toArray.size:Int) - 1):=⟨_,acT _ rfl,rfl,rfl⟩
 refine call_reversed_list hl (wpAny_pyIter_revIter (s:={s with heap:=s.heap.push (revObj l ((vs.toArray.size:Int) - 1))}) tE ?_)
 refine hQ _ [s.heap.objs.size,l] (λ i v=>vs.toArray[vs.toArray.size - 1 - i]?=some v) (λ i h=>i≤vs.toArray.size∧h.IsRevIter s.heap.objs.size l ((vs.toArray.size:Int) - 1 - (i:Int))∧h.IsList l vs.toArray) rfl ⟨λ A' hA=>?_,λ i v hi hp=>?_,λ b hb=>?_,λ hf b hb=>?_,λ i h st=>(by obtain ⟨o,ho,_⟩:=st.2.1;exact ⟨o,ho⟩),λ b hb=>by
  simp at hb
  rcases hb with hb | hb
  · exact .inl hb
  · subst hb;exact .inr U4⟩ ⟨adV _,by simpa using tE,hl.push _⟩
 · have:=Walks.listRev (prog:=prog) (w:=w) (A:=A') hA s.heap.objs.size l (acS bD) vs.toArray
   erw [agn,R8];simpa using this
 · rw [agn] at hi
   rw [afv] at hp
   have e:vs.toArray.size - 1 - i=items.length - 1 - i:=by simp [R8]
   rw [e] at hp
   have hx:items.reverse[i]?=items[items.length - 1 - i]?:=List.getElem?_reverse hi
   have ad8:items.length - 1 - i < items.length:=%[a<b,c<b,qD 0 d b (1),qD 0 a d c|(dQ hi rfl rfl)]
   have GL:items[items.length - 1 - i]?=some items[items.length - 1 - i]:=aaF ad8
   obtain ⟨v',h1,h2⟩:=hv.get GL
   rw [hp] at h1;obtain rfl:=aam h1
   exact ⟨_,hx.trans GL,h2⟩
 · simp at hb;rcases hb with hb | hb
   · subst hb;exact ac1 _
   · subst hb;exact ae4 bD
 · simp at hb
   rcases hb with hb | hb
   · exact .inl hb
   · subst hb;exact .inr hz
theorem J5(hn:ct [e])(h0:SE prog w d base RF nm env Y (.Name x p) (.glob y (.obj (.type "reversed"))))(h1:SE prog w d base RF nm env Y e ie):
 SI prog w d base RF nm env Y (.Call (.Name x p) [e] [] pos) (.rev ie):=by
 intro A s g σ items fz hA R h hz E Q hQ
 skip
 (refine aC h ?_;clear h;intro z hx h)
 refine afi (aM hn pos) (pk h0 hA R λ s₁ aJ k₁ aW aO aP=>?_)
 refine aiB rfl (ac4 (ac0 ((h1 A s₁ aJ σ _ hA aO hx).then λ v s₂ bu bg bk aF aX cE=>adt ?_)))
 have hq:=hQ s₂ bu (k₁.trans bg) (aW.trans bk) aF (aP.trans aX)
 split at h
 · obtain rfl:=aam h
   cases cE with
   | lst q1 q2 q3 q4 q5=>exact Ay (fz:=fz) ⟨_,aF.fJ _ _ q2,q3,_,q4⟩ q5 (by erw [q2];rfl) (aF.Ar q2) hq
 · obtain rfl:=aam h
   cases cE with
   | bor q2 q3 q4 q5=>exact Ay (fz:=fz) ⟨_,aF.fJ _ _ q2,q3,_,q4⟩ q5 (by erw [q2];rfl) (aF.Ar q2) hq
 · exact aw h
end
section
variable{prog:aaq}{w:acb}{A:adn}{Y:Lay}{g:Gh}{σ:bB}{h h':ac2}
noncomputable abbrev Lay.with(Y:Lay)(H:List (abh×Obj)):Lay:=⟨Y.base,Y.n,Y.dO,Y.lay,H,Y.fr⟩
noncomputable abbrev Lay.more(Y:Lay)(C:abh)(x:Str):Lay:=⟨Y.base,Y.n,Y.dO++[C],Y.lay++[.ns C x],Y.hold,Y.fr⟩
theorem Rel.yH(R:Rel (Y.with H) g σ h)(hm:H'.map (·.1)=H.map (·.1))(hk:∀b o,b∉H.map (·.1)->h.get? b=some o->h'.get? b=some o)
(hh:∀p∈H',h'.get? p.1=some p.2):Rel (Y.with H') g σ h':=by
 have nd:=R.yu
 have e:(Y.with H').bw g=(Y.with H).bw g:=by simp only [Lay.bw,Lay.with,hm];rfl
 have off:∀a∈H.map (·.1),g.z a=none:=λ a ha=>R.off a (au.mpr (.inr (.inr (.inl ha))))
 refine ⟨λ a o q=>hk a o (λ hm=>by rw [off a hm] at q;exact aw q) (R.fJ a o q),R.base,by erw [e];exact R.nodup,R.dz,by erw [e];exact R.off,R.low,R.dv,R.len,R.eG,λ a ha=>?_,λ i c hc=>?_,λ k a ha=>?_,hh,FunFrames.step (λ b hb o e hd=>⟨o,hk b o (R.ni b hb) e,hd⟩) R.frames,λ L hL q=>R.ni L hL (hm▸q),R.nj,λ t ht=>⟨(R.eH t ht).1,by erw [e];exact (R.eH t ht).2.1,(R.eH t ht).2.2⟩,λ t ht=>(R.tabs t ht).of (λ V V q=>q) λ o q=>hk _ o (λ hb=>(R.eH t ht).2.1 (au.mpr (.inr (.inr (.inl hb))))) q⟩
 · refine bF (R.ns a ha) λ f h1 h2=>?_
   exact ⟨f,h1.at' λ o q=>hk a o (λ hm=>(nd.2.1 a ha).2.1 a hm rfl) q,h2⟩
 · obtain ⟨ov,⟨o,h1,h2⟩,h3⟩:=R.cell i c hc
   exact ⟨ov,⟨o,hk c o (λ hm=>(nd.2.2.1 c (bT hc)).1 c hm rfl) h1,h2⟩,h3⟩
 · refine bF (R.own k a ha) λ vs h1 h3=>?_
   exact ⟨vs,h1.at λ o e=>hk a o (λ hm=>nd.2.2.2 a hm a (acR ha) rfl) e,h3⟩
theorem Rel.tF(R:Rel (Y.with ((I,o)::H)) g σ h)(hk:∀b x,b∉[I]->h.get? b=some x->h'.get? b=some x)(e:h'.get? I=some UF):Rel (Y.with ((I,UF)::H)) g σ h':=
 R.yH rfl (λ b x hb=>hk b x λ q=>hb (aaU.mp q▸.head _)) λ p hp=>(aaB.mp hp).elim (λ q=>by rw [q];exact e) λ hp=>
  hk _ _ (λ q=>(adf.mp (show (I::H.map (·.1)).Nodup from R.yu.1.2.2.1)).1 (aaU.mp q▸acV hp)) (R.held p (.tail _ hp))
theorem Rel.Az(R:Rel (Y.with ((I,o)::(D,q)::H)) g σ h)(hk:∀b x,b≠D->h.get? b=some x->h'.get? b=some x)(e:h'.get? D=some ad9):Rel (Y.with ((I,o)::(D,ad9)::H)) g σ h':=by
 have nd:=(show (I::D::H.map (·.1)).Nodup from R.yu.1.2.2.1)
 have n1:=(adf.mp nd).1
 have n2:=(adf.mp (adf.mp nd).2).1
 exact R.yH rfl (λ b x hb=>hk b x λ q=>hb (q▸.tail _ (.head _))) λ p hp=>(aaB.mp hp).elim (λ e=>by rw [e];exact hk _ _ (λ q=>n1 (q▸.head _)) (R.held _ (.head _))) λ hp=>
  (aaB.mp hp).elim (λ q=>by rw [q];exact e) λ hp=>hk _ _ (λ q=>n2 (q▸acV hp)) (R.held p (.tail _ (.tail _ hp)))
theorem Rel.gv(R:Rel (Y.with (p::H)) g σ h)(hk:∀b o,b≠p.1->h.get? b=some o->h'.get? b=some o):Rel (Y.with H) g σ h':=by
 have nd:=R.yu
 have sub:∀a,a∈(Y.with H).bw g->a∈(Y.with (p::H)).bw g:=λ a ha=>by
  rw [au] at ha ⊢
  rcases ha with ha | ha | ha | ha
  · exact .inl ha
  · exact .inr (.inl ha)
  · exact .inr (.inr (.inl (ado _ ha)))
  · exact .inr (.inr (.inr ha))
 have hp:p.1∈(p::H).map (·.1):=by simp
 have aea:g.z p.1=none:=R.off p.1 (au.mpr (.inr (.inr (.inl hp))))
 refine ⟨λ a o q=>hk a o (λ hm=>by subst hm;rw [aea] at q;exact aw q) (R.fJ a o q),R.base,?_,R.dz,λ a ha=>R.off a (sub a ha),R.low,R.dv,R.len,R.eG,λ a ha=>?_,λ i c hc=>?_,λ k a ha=>?_,λ q hq=>?_,FunFrames.step (λ b hb o e hd=>⟨o,hk b o (λ q=>R.ni b hb (by erw [q];exact hp)) e,hd⟩) R.frames,λ L hL q=>R.ni L hL (ado _ q),R.nj,λ t ht=>⟨(R.eH t ht).1,λ q=>(R.eH t ht).2.1 (sub _ q),(R.eH t ht).2.2⟩,λ t ht=>(R.tabs t ht).of (λ V V q=>q) λ o q=>hk _ o (λ hb=>(R.eH t ht).2.1 (au.mpr (.inr (.inr (.inl (hb▸hp)))))) q⟩
 · have:=R.nodup
   refine ajH ?_ this
   skip
   exact (agq _).append ((agq _).append (List.Sublist.append (by simp) (agq _)))
 · refine bF (R.ns a ha) λ f h1 h2=>?_
   exact ⟨f,h1.at' λ o q=>hk a o (λ hm=>(nd.2.1 a ha).2.1 _ hp hm) q,h2⟩
 · obtain ⟨ov,⟨o,h1,h2⟩,h3⟩:=R.cell i c hc
   exact ⟨ov,⟨o,hk c o (λ hm=>(nd.2.2.1 c (bT hc)).1 _ hp hm) h1,h2⟩,h3⟩
 · refine bF (R.own k a ha) λ vs h1 h3=>?_
   exact ⟨vs,h1.at λ o e=>hk a o (λ hm=>nd.2.2.2 _ hp a (acR ha) hm.symm) e,h3⟩
 · refine hk _ _ (λ hm=>?_) (R.held q (ado _ hq))
   have:=nd.1.2.2.1
   rw [aaX,adf] at this
   exact this.1 (hm▸acV hq)
theorem Rel.J6(R:Rel (Y.with (p::H)) g σ h):Rel (Y.with H) (g.add (one p.1 p.2)) σ h∧(g.add (one p.1 p.2)).z p.1=some p.2:=by
 have nd:=R.yu
 have hp:p.1∈(p::H).map (·.1):=by simp
 refine ⟨(R.gv (h':=h) λ b o V e=>e).grow (λ a o e=>?_) (λ a ha=>?_) (λ a ha=>?_) (λ t ht=>?_),?_⟩
 · unfold one at e
   split at e
   · rename_i q;obtain rfl:=aam e;subst q;exact R.held p (.head _)
   · exact aw e
 · unfold one
   rw [if_neg]
   rintro rfl
   rw [au] at ha
   rcases ha with ha | ha | ha | ha
   · exact (nd.2.1 _ ha).2.1 _ hp rfl
   · exact (nd.2.2.1 _ ha).1 _ hp rfl
   · have:=nd.1.2.2.1
     rw [aaX,adf] at this
     exact this.1 ha
   · exact nd.2.2.2 _ hp _ ha rfl
 · unfold one
   rw [if_neg]
   rintro rfl
   exact R.ni _ ha hp
 · unfold one
   rw [if_neg]
   intro q
   exact (R.eH t ht).2.1 (au.mpr (.inr (.inr (.inl (q▸hp)))))
 · have:g.z p.1=none:=R.off p.1 (au.mpr (.inr (.inr (.inl hp))))
   simp [Gh.add,this,one]
theorem Rel.gG(R:Rel (Y.with H) g σ h)(ho:o.isFreed=false)(hn:Y.n≤h.objs.size):Rel (Y.with ((h.objs.size,o)::H)) g σ (h.push o):=by
 have R':=R.keep (h':=h.push o) λ V V e=>act _ e
 have nl:∀a∈(Y.with H).bw g,a≠h.objs.size:=λ a ha=>acS (R.live a ha)
 refine ⟨R'.fJ,R'.base,?_,R'.dz,λ a ha=>?_,R'.low,R'.dv,R'.len,R'.eG,R'.ns,R'.cell,R'.own,λ p hp=>?_,R'.frames,λ L hL q=>?_,R'.nj,λ t ht=>⟨(R.eH t ht).1,λ q=>?_,(R.eH t ht).2.2⟩,R'.tabs⟩
 · have nd:=R.nodup
   skip
   have hh:h.objs.size∉(Y.with H).bw g:=λ hm=>nl _ hm rfl
   have e1:Lay.cells ⟨Y.base,Y.n,Y.dO,Y.lay,(h.objs.size,o)::H,Y.fr⟩=(Y.with H).cells:=rfl
   erw [e1]
   have:(h.objs.size::(Y.with H).bw g).Nodup:=adf.mpr ⟨hh,R.nodup⟩
   refine (agf ?_).mpr this
   skip
   refine List.Perm.trans ?_ ahn
   exact ag7 _ ahn
 · rw [au] at ha
   rcases ha with ha | ha | ha | ha
   · exact R.off a (au.mpr (.inl ha))
   · exact R.off a (au.mpr (.inr (.inl ha)))
   · rw [aaX,aaB] at ha
     rcases ha with ha | ha
     · subst ha;exact R.fresh
     · exact R.off a (au.mpr (.inr (.inr (.inl ha))))
   · exact R.off a (au.mpr (.inr (.inr (.inr ha))))
 · rcases aaB.mp hp with rfl | hp
   · exact acT _ ho
   · exact R'.held p hp
 · rw [aaX,aaB] at q
   rcases q with q | q
   · have:=FunFrames.live R.frames hL
     exact acS this q
   · exact R.ni L hL q
 · rcases au.mp q with q | q | q | q
   · exact (R.eH t ht).2.1 (au.mpr (.inl q))
   · exact (R.eH t ht).2.1 (au.mpr (.inr (.inl q)))
   · rw [aaX,aaB] at q
     rcases q with q | q
     · refine cL ((R.tabs t ht).there) λ ps hp=>?_
       exact acS (acD hp) q
     · exact (R.eH t ht).2.1 (au.mpr (.inr (.inr (.inl q))))
   · exact (R.eH t ht).2.1 (au.mpr (.inr (.inr (.inr q))))
theorem jI:(Y.more C x).cells=Y.cells:=by
 simp [Lay.cells,ako]
theorem i7(a:abh):a∈(Y.more C x).bw g↔a∈Y.bw g∨a=C:=by
 (rw [au];rw [au];erw [jI])
 simp only [abC,aaU]
 constructor
 · rintro ((ha | ha) | ha | ha | ha)
   · exact .inl (.inl ha)
   · exact .inr ha
   · exact .inl (.inr (.inl ha))
   · exact .inl (.inr (.inr (.inl ha)))
   · exact .inl (.inr (.inr (.inr ha)))
 · rintro ((ha | ha | ha | ha) | ha)
   · exact .inl (.inl ha)
   · exact .inr (.inl ha)
   · exact .inr (.inr (.inl ha))
   · exact .inr (.inr (.inr ha))
   · exact .inl (.inr ha)
theorem wU:List.Perm ((Y.more C x).bw g) (C::Y.bw g):=by
 unfold Lay.bw
 rw [jI]
 simp only [aaH]
 exact ahn
theorem Rel.J7(R:Rel Y g σ h)(hk:KS h h')(hC:h.get? C=none)(Dd:h.objs.size≤C)(rW:h'.Ns C m)(hm:m x=none)(hn:Y.n≤h.objs.size):
 Rel (Y.more C x) g {σ with vars:=σ.vars++[none]} h':=by
 have R':=R.keep hk
 have ZW:C∉Y.bw g:=λ hm=>adg _ (aaY (R.live C hm) Dd)
 have hz:g.z C=none:=by
  cases e:g.z C with
  | none=>rfl
  | some o=>have:=R.fJ _ _ e;rw [hC] at this;exact aw this
 have ZX:C∉Y.dO:=λ q=>ZW (au.mpr (.inl q))
 have AA:∀(i:Nat) (l:Loc),(Y.lay++[Loc.ns C x])[i]?=some l->(Y.lay[i]?=some l∧i < Y.lay.length)∨(i=Y.lay.length∧l=.ns C x):=λ i l q=>by
  by_cases hi:i < Y.lay.length
  · rw [acO hi] at q;exact .inl ⟨q,hi⟩
  · rw [ahM (aiR.mp hi)] at q
    by_cases he:i - Y.lay.length=0
    · rw [he] at q;simp at q;exact .inr ⟨%[a=b,cY (a<b),c=0,qD 0 c a b|(cf hi he rfl)],q.symm⟩
    · rw [aj7,if_neg he] at q;exact aw q
 have uE:∀i,i < Y.lay.length->(σ.vars++[none])[i]?.getD none=σ.vars[i]?.getD none:=λ i hi=>by erw [acO (by erw [R.len];exact hi),rfl]
 have U6:(σ.vars++[none])[Y.lay.length]?.getD none=none:=by erw [←R.len];simp
 refine ⟨R'.fJ,R'.base,?_,?_,λ a ha=>?_,λ a ha=>?_,λ i a y hy=>?_,by simp [R.len],R'.eG,λ a ha=>?_,λ i c hc=>?_,R'.own,R'.held,R'.frames,R'.ni,R'.nj,λ t ht=>⟨(R.eH t ht).1,λ q=>?_,(R.eH t ht).2.2⟩,R'.tabs⟩
 · exact (agf wU).mpr (adf.mpr ⟨ZW,R.nodup⟩)
 · show (Y.lay++[Loc.ns C x]).Nodup
   rw [adj]
   refine ⟨R.dz,by simp,λ a ha b hb q=>?_⟩
   simp at hb;subst hb q
   refine cL (afJ ha) λ i hi=>?_
   exact ZX (R.dv _ _ _ hi)
 · rcases (i7 a).mp ha with ha | ha
   · exact R.off a ha
   · subst ha;exact hz
 · rw [jI] at ha
   rcases ha with ha | ha | ha
   · rcases abC.mp ha with ha | ha
     · exact R.low a (.inl ha)
     · simp at ha;subst ha;exact acW hn Dd
   · exact R.low a (.inr (.inl ha))
   · exact R.low a (.inr (.inr ha))
 · rcases AA i _ hy with ⟨q,_⟩ | ⟨_,q⟩
   · exact ad4 _ (R.dv _ _ _ q)
   · cases q;simp
 · rcases abC.mp ha with ha | ha
   · refine bF (R'.ns a ha) λ f h1 h2=>?_
     refine ⟨f,h1,λ i y hy=>?_⟩
     rcases AA i _ hy with ⟨q,hi⟩ | ⟨_,q⟩
     · erw [uE i hi];exact h2 i y q
     · cases q;exact absurd ha ZX
   · simp at ha;subst ha
     refine ⟨m,rW,λ i y hy=>?_⟩
     rcases AA i _ hy with ⟨q,hi⟩ | ⟨hi,q⟩
     · exact absurd (R.dv _ _ _ q) ZX
     · cases q;erw [hi,U6,hm];exact .none
 · rcases AA i _ hc with ⟨q,hi⟩ | ⟨_,q⟩
   · refine bF (R'.cell i c q) λ ov h1 h2=>?_
     exact ⟨ov,h1,by erw [uE i hi];exact h2⟩
   · cases q
 · rcases (i7 _).mp q with q | q
   · exact (R.eH t ht).2.1 q
   · refine cL ((R.tabs t ht).there) λ ps hp=>?_
     rw [q,hC] at hp;exact aw hp
theorem Rel.R9(R:Rel (Y.more C x) g {σ with vars:=σ.vars++[ov]} h)(ZY:∀(i:Nat) (a:abh) (x:Str),Y.lay[i]?=some (Loc.ns a x)->a∈Y.dO):Rel Y g σ h∧C∉Y.bw g∧g.z C=none∧∃m,h.Ns C m:=by
 have bc:σ.vars.length=Y.lay.length:=by have:=R.len;simpa using this
 have GY:∀(i:Nat) (l:Loc),Y.lay[i]?=some l->(Y.lay++[Loc.ns C x])[i]?=some l∧i < Y.lay.length:=λ i l q=>by
  have hi:=(aaZ.mp q).1
  exact ⟨by erw [acO hi];exact q,hi⟩
 have uE:∀i,i < Y.lay.length->(σ.vars++[ov])[i]?.getD none=σ.vars[i]?.getD none:=λ i hi=>by erw [acO (by erw [bc];exact hi),rfl]
 have nd:=adf.mp ((agf wU).mp R.nodup)
 have hCC:C∈(Y.more C x).bw g:=(i7 C).mpr (.inr rfl)
 refine ⟨⟨R.fJ,R.base,nd.2,?_,λ a ha=>R.off a ((i7 a).mpr (.inl ha)),λ a ha=>R.low a (by erw [jI];rcases ha with ha | ha;exact .inl (ad4 _ ha);exact .inr ha),ZY,bc,R.eG,λ a ha=>?_,λ i c hc=>?_,R.own,R.held,R.frames,R.ni,R.nj,λ t ht=>⟨(R.eH t ht).1,λ q=>(R.eH t ht).2.1 ((i7 _).mpr (.inl q)),(R.eH t ht).2.2⟩,R.tabs⟩,nd.1,R.off C hCC,?_⟩
 · have:=R.dz
   exact (adj.mp this).1
 · refine bF (R.ns a (ad4 _ ha)) λ f h1 h2=>?_
   refine ⟨f,h1,λ i y hy=>?_⟩
   refine gY (GY _ _ hy) λ q hi=>?_
   have:=h2 i y q
   rwa [uE i hi] at this
 · refine gY (GY _ _ hc) λ q hi=>?_
   refine bF (R.cell i c q) λ ov h1 h2=>?_
   exact ⟨ov,h1,by rwa [uE i hi] at h2⟩
 · refine bF (R.ns C (by simp)) λ f h1 _=>?_
   exact ⟨f,h1⟩
end
section
variable{prog:aaq}{w:acb}{A:adn}{Y:Lay}{g:Gh}{σ:bB}{s:aav}{d:Nat}{base:ac2}{nm:NI}{env:Env}{RF:cV}
theorem cK{α:Type}{x:Str}{v:α}{l:List (Str×α)}:l.lookup x=some v->(x,v)∈l:=by
 induction l with
 | nil=>
   intro h
   simp at h
 | cons a_ r ih=>
   intro h
   obtain ⟨n,k⟩:=a_
   rw [adl] at h
   split at h
   · rename_i e;obtain rfl:=aam h;erw [eq_of_beq e];simp
   · exact ado _ (ih h)
theorem wo{α:Type}{x:Str}{p:Str->Bool}{l:List (Str×α)}:(l.filter λ(n,_)=>p n).lookup x=if p x then l.lookup x else none:=by
 induction l with
 | nil=>
   simp
 | cons a_ r ih=>
   obtain ⟨n,k⟩:=a_
   have ih:=ih
   by_cases hp:p n=true
   · erw [List.filter_cons_of_pos (by simpa using hp),adl,adl]
     split
     · rename_i e;have:=eq_of_beq e;subst this;simp [hp]
     · exact ih
   · erw [List.filter_cons_of_neg (by simpa using hp),ih,adl]
     split
     · rename_i e
       split
       · rename_i q;have:=eq_of_beq q;subst this;exact absurd e hp
       · rfl
     · rfl
theorem AB(names:List (Str×afX)):∀(cs:List (Str×abh)),(∀y∈names,y.2=adA->∃a,env.cells.lookup y.1=some a)->
 ∃cl:List (Str×abh),(forIn names cs (λ(x:Str×afX) (r:List (Str×abh))=>do
  if (x.2==adA)=true then do let a ←cellOf env x.1;pure (agN ((x.1,a)::r)) else pure (agN r):_->_->Sem (ForInStep (List (Str×abh)))))=(pure cl:Sem _)∧
  (∀p∈cs,p∈cl)∧(∀y,(y,adA)∈names->∃a,(y,a)∈cl)∧(∀p∈cl,p∈cs∨env.cells.lookup p.1=some p.2):=by
 induction names with
 | nil=>
   intro cs _
   exact ⟨cs,rfl,λ p hp=>hp,λ y hy=>by simp at hy,λ p hp=>.inl hp⟩
 | cons a_ names ih=>
   intro cs h
   obtain ⟨n,k⟩:=a_
   have h':=λ y hy=>h y (ado _ hy)
   by_cases hk:k=.free
   · subst hk
     obtain ⟨a,ha⟩:=h (n,.free) (.head _) rfl
     obtain ⟨cl,e,h1,h2,h3⟩:=ih ((n,a)::cs) h'
     refine ⟨cl,?_,λ p hp=>h1 p (ado _ hp),λ y hy=>?_,λ p hp=>?_⟩
     · erw [ae6 ..,←e]
       simp only [beq_self_eq_true,if_true,cellOf,ha]
       rfl
     · rcases aaB.mp hy with hy | hy
       · cases hy;exact ⟨a,h1 _ (.head _)⟩
       · exact h2 y hy
     · rcases h3 p hp with q | q
       · rcases aaB.mp q with q | q
         · subst q;exact .inr ha
         · exact .inl q
       · exact .inr q
   · obtain ⟨cl,e,h1,h2,h3⟩:=ih cs h'
     refine ⟨cl,?_,h1,λ y hy=>?_,h3⟩
     · erw [ae6 ..,←e]
       have:(k==adA)=false:=by simpa using hk
       simp only [this,aeh,if_false]
       rfl
     · rcases aaB.mp hy with hy | hy
       · cases hy;exact absurd rfl hk
       · exact h2 y hy
theorem De{scope:ahH}(h:∀y∈scope.names,y.2=adA->∃a,env.cells.lookup y.1=some a):
 ∃cl,ajg scope env=pure cl∧∀y c,(y,adA)∈scope.names->env.cells.lookup y=some c->cl.lookup y=some c:=by
 obtain ⟨cl,e,_,h2,h3⟩:=AB (env:=env) scope.names [] h
 refine ⟨cl,?_,λ y c hy hc=>?_⟩
 · skip
   exact (congrArg (· >>=pure) e)
 · obtain ⟨a,ha⟩:=h2 y hy
   have:cl.lookup y≠none:=λ q=>by
    have:=List.lookup_eq_none_iff.mp q _ ha
    simp at this
   cases q:cl.lookup y with
   | none=>exact absurd q this
   | some b=>
     rcases h3 _ (cK q) with q' | q'
     · simp at q'
     · exact q'.symm.trans hc
theorem rY{f:Str->afX->afX}{x:Str}{l:List (Str×afX)}:(l.map λ(n,k)=>(n,f n k)).lookup x=(l.lookup x).map (f x):=by
 induction l with
 | nil=>
   exact rfl
 | cons a_ r ih=>
   obtain ⟨n,k⟩:=a_
   have ih:=ih
   erw [aaX,adl,adl]
   split
   · rename_i e;have:=eq_of_beq e;subst this;rfl
   · exact ih
theorem OQ{scope:ahH}{x:Str}{cl:List (Str×abh)}{Ca:abh}{H:List (abh×Obj)}(C:Cx base nm env Y)(zY:eI nm scope x=true)(wV:∀y c,(y,adA)∈scope.names->env.cells.lookup y=some c->cl.lookup y=some c):
 Cx base (bJ nm scope x) (adh scope cl Ca env) ((Y.more Ca x).with H):=by
 unfold eI at zY
 simp only [aaQ,decide_eq_true_eq,acP,beq_iff_eq] at zY
 obtain ⟨⟨ef,AC⟩,hx⟩:=zY
 have XV:(env.scope.kind==.function)=true:=by erw [C.kind];rfl
 have names:∀y,(bJ nm scope x).names.lookup y=(adh scope cl Ca env).kindOf y:=λ y=>by
  show aht y (scope.names.map λ(n,k)=>if (k==.free&&nm.names.lookup n==some .cell)=true then (n,.cell) else (n,k))=aht y (scope.names.map λ(n,k)=>if (k==.free&&env.scope.kind==.function&&env.kindOf n==some .cell)=true then (n,.cell) else (n,k))
  congr 1
  refine aeo λ p hp=>?_
  obtain ⟨n,k⟩:=p
  show (if (k==.free&&nm.names.lookup n==some .cell)=true then (n,agb) else (n,k))=if (k==.free&&env.scope.kind==.function&&env.kindOf n==some .cell)=true then (n,.cell) else (n,k)
  erw [C.names n,XV,agy ..,rfl]
 refine ⟨ef,names,λ y i hi=>?_,?_,C.ax,C.keep⟩
 · have Fn:aht y ((x,nm.fV)::nm.slots.filter λ(n,_)=>scope.names.lookup n==some .free)=some i:=hi
   rw [adl] at Fn
   split at Fn
   · rename_i e
     have:=eq_of_beq e;subst this
     obtain rfl:=aam Fn
     refine ⟨.ns Ca y,?_,.inl ⟨rfl,alD hx⟩⟩
     show (Y.lay++[Loc.ns Ca y])[nm.fV]?=_
     erw [C.dO];simp
   · have hf:=wo (x:=y) (p:=λ n=>scope.names.lookup n==some adA) (l:=nm.slots)
     rw [hf] at Fn
     split at Fn
     · rename_i jZ
       have jZ:=eq_of_beq jZ
       obtain ⟨l,hl,h1⟩:=C.slots y i Fn
       have hm:=cK jZ
       have ZZ:=AC _ hm
       simp at ZZ
       rcases h1 with ⟨rfl,gH⟩ | ⟨c,rfl,hc,J8⟩
       · exact absurd ((C.names y).trans gH) ZZ.2
       · refine ⟨.cell c,?_,.inr ⟨c,rfl,wV y c hm hc,?_⟩⟩
         · show (Y.lay++[Loc.ns Ca x])[i]?=_
           erw [acO (aaZ.mp hl).1];exact hl
         · erw [←names y]
           have e:=rY (f:=λ(n:Str) (k:afX)=>if (k==adA&&nm.names.lookup n==some agb)=true then agb else k) (x:=y) (l:=scope.names)
           rw [jZ] at e
           have e2:(bJ nm scope x).names=scope.names.map λ(n,k)=>(n,if (k==adA&&nm.names.lookup n==some agb)=true then agb else k):=by
            show (scope.names.map λ(n,k)=>if (k==adA&&nm.names.lookup n==some agb)=true then (n,agb) else (n,k))=_
            refine aeo λ p hp=>?_
            obtain ⟨n,k⟩:=p
            dsimp only
            split <;> rfl
           erw [e2,e]
           simp only [ah4]
           split
           · exact .inl rfl
           · exact .inr rfl
     · exact aw Fn
 · show nm.fV+1=(Y.lay++[Loc.ns Ca x]).length
   erw [C.dO];simp
noncomputable def nX(es:List acU)(env:Env)(b:Bool):Sem Bool:=forIn es b λ c r=>if r=true then do let ok ←isTrue c env (eval c env);pure (agN ok) else pure (agN r)
theorem rq(env:Env):∀es:List acU,nX es env false=pure false
 | []=>rfl
 | e::es=>by
   have ih:=rq env es
   unfold nX at ih ⊢
   rw [ae6]
   skip
   exact ih
noncomputable def J9(prog:aaq)(w:acb)(d:Nat)(base:ac2)(RF:cV)(nm:NI)(env:Env)(Y:Lay)(es:List acU)(its:Aj):Prop:=
 ∀A s g σ r,jX d Y.fr A->Rel Y g σ s.heap->gD RF its σ=some r->Wb (acr prog w) A Y g σ (nX es env true) s r
theorem wW:J9 prog w d base RF nm env Y [] .nil:=by
 intro A s g σ r hA R h E Q hQ
 cases h
 exact ac3 (hQ s g (aR.refl _) (Gh.le.refl g) R (a9.refl s))
theorem Df(h1:ST prog w d base RF nm env Y e it)(h2:J9 prog w d base RF nm env Y es its):J9 prog w d base RF nm env Y (e::es) (.cons it its):=by
 intro A s g σ r hA R h E Q hQ
 skip
 (refine aC h ?_;clear h;intro b hb h)
 unfold nX
 rw [ae6]
 skip
 refine aaI (aaI (h1 A s g σ b hA R hb E _ λ s₁ aJ k₁ aW aO aP=>ac3 ?_))
 show acn (acr prog w) A (nX es env b) Q E s₁
 split at h
 · rename_i e;subst e
   exact h2 A s₁ aJ σ r hA aO h E _ λ s₂ bu bg bk aF aX=>hQ s₂ bu (k₁.trans bg) (aW.trans bk) aF (aP.trans aX)
 · rename_i e
   obtain rfl:=aam h
   have:b=false:=by simpa using e
   subst this
   erw [rq ..]
   exact ac3 (hQ s₁ aJ k₁ aW aO aP)
end
section
variable{prog:aaq}{w:acb}{A:adn}{Y:Lay}{g:Gh}{σ:bB}{s:aav}{d:Nat}{base:ac2}{nm:NI}{env:Env}{RF:cV}
noncomputable def wX(RF:cV)(ie:IE)(its:Aj)(σ:bB)(x:AV):Option (Option AV):=
 (gD RF its (σ.push x)).bind λ c=>if c=true then (bj RF ie (σ.push x)).map some else some none
theorem Ka(h:a < J)(e:J=I):a≠I+1+1:=%[cY (a=b+1+1),a<c,c=b|(cf h e)]
theorem Kc(h:σ.vars.length=Y.lay.length):({({σ with vars:=σ.vars++[ov]}:bB) with vars:=(σ.vars++[ov]).set Y.lay.length (some x)}:bB)=σ.push x:=by
 unfold bB.push
 congr 1
 rw [←h]
 simp
theorem Rel.wY(R:Rel (Y.with (p::q::H)) g σ h):Rel (Y.with (q::p::H)) g σ h:=by
 have mm:∀a,a∈(Y.with (q::p::H)).bw g->a∈(Y.with (p::q::H)).bw g:=λ a ha=>by
  rw [au] at ha ⊢
  rcases ha with ha | ha | ha | ha
  · exact .inl ha
  · exact .inr (.inl ha)
  · refine .inr (.inr (.inl ?_))
    simp only [aaX,aaB] at ha ⊢
    rcases ha with ha | ha | ha
    · exact .inr (.inl ha)
    · exact .inl ha
    · exact .inr (.inr ha)
  · exact .inr (.inr (.inr ha))
 refine ⟨R.fJ,R.base,?_,R.dz,λ a ha=>R.off a (mm a ha),R.low,R.dv,R.len,R.eG,R.ns,R.cell,R.own,λ r hr=>R.held r ?_,R.frames,λ L hL q=>R.ni L hL ?_,R.nj,λ t ht=>⟨(R.eH t ht).1,λ q=>(R.eH t ht).2.1 (mm _ q),(R.eH t ht).2.2⟩,R.tabs⟩
 · refine (agf ?_).mpr R.nodup
   skip
   refine ag7 _ (ag7 _ (List.Perm.append_right _ ?_))
   exact List.Perm.swap _ _ _
 · rcases aaB.mp hr with hr | hr
   · exact hr▸(.tail _ (.head _))
   · rcases aaB.mp hr with hr | hr
     · exact hr▸(.head _)
     · exact ado _ (ado _ hr)
 · simp only [aaX,aaB] at q ⊢
   rcases q with q | q | q
   · exact .inr (.inl q)
   · exact .inl q
   · exact .inr (.inr q)
theorem lL(h:dM iter=true)(v:aas):foldedSetIterable iter env v=pure v:=by
 cases iter <;> first | rfl | cases h
noncomputable def OS(Y:Lay)(RF:cV)(ie:IE)(its:Aj)(σ:bB)(items ys:List AV)(s₁:aav)(aJ:Gh)(St:Nat->ac2->Prop)(I D C:abh)(x:Str)(n:Nat)(s':aav):Prop:=∀G:Prop,(∀k g' ov oI acc vs e rest,n=items.length+1 - k->k≤items.length->St k s'.heap->aR Y.lo s₁.heap s'.heap->aJ.le g'->
 Rel ((Y.more C x).with ((I,oI)::(D,{cls:=.type "list",data:=.seq (adE vs) e})::Y.hold)) g' {σ with vars:=σ.vars++[ov]} s'.heap->a9 s₁ s'->aq Y.n g' acc vs->dR (wX RF ie its σ) (items.drop k)=some rest->acc++rest=ys->G)->G
theorem Dg{P:AV->Option (Option AV)}{items rest:List AV}{k:Nat}{x:AV}{G:Prop}(hx:items[k]?=some x)(h:dR P (items.drop k)=some rest)
(k1:∀o,P x=some o->(match o with | some y=>(dR P (items.drop (k+1))).map (y::·) | none=>dR P (items.drop (k+1)))=some rest->G):G:=by
 obtain ⟨bD,rfl⟩:=aaZ.mp hx
 rw [adr bD] at h
 exact aC h k1
theorem Rel.gw(R:Rel (Y.with H) g σ h)(hp:p∈H):∀t∈aT,h.get? t.P≠some (jC (t.item p.1)):=R.jD (R.off _ (au.mpr (.inr (.inr (.inl (acV hp))))))
theorem nY(k:aR F h h')(hk:∀b o,b∉[C]->h'.get? b=some o->yt.get? b=some o)(ne:∀a o,h.get? a=some o->a < C)(nc:∀t∈F.tb,h'.get? t.P≠some (jC (t.item C))):aR F h yt:=
 k.fI hk (λ a o e=>by rw [aaU];exact acS (ne a o e)) λ c hc=>by erw [aaU.mp hc];exact nc
theorem GZ{elt iter:acU}{x:Str}{px:Pos}{ifs:List acU}{scope:ahH}{pos:Pos}{ie:IE}{its:Aj}{s₁:aav}{aJ:Gh}{I D C Kd:Nat}{o:Obj}{fp:List abh}{P:Nat->aas->Prop}{St:Nat->ac2->Prop}{nm':NI}{bh:Env}{R':Result->aav->Prop}
(U7:bh.kindOf x=some .local)(hpx:(bh.scope.kind==.class||(bh.scope.kind==.module&&bh.locals !=bh.globals))=false)(gH:bh.locals=C)
(hT:∀H,J9 prog w d base RF nm' bh ((Y.more C x).with H) ifs its)(hE:∀H,SE prog w d base RF nm' bh ((Y.more C x).with H) elt ie)
(hA:jX d Y.fr A)(R8:σ.vars.length=Y.lay.length){items ys:List AV}(It:U3 prog w (iQ Y.fr) false Y.n aJ items I fp P St)(hy:dR (wX RF ie its σ) items=some ys)(bc:ys.length≤aaW)
(cM:∀a o,s₁.heap.get? a=some o->a < I)(OT:I < D)(hDC:D < C)(hn:Y.n≤I)(uF:∀b∈fp,b∉iQ Y.fr)(Dc:∀(i:Nat) (a:abh) (x:Str),Y.lay[i]?=some (Loc.ns a x)->a∈Y.dO)
(jJ:St 0 s.heap)(uG:aR Y.lo s₁.heap s.heap)(fX:Rel ((Y.more C x).with ((I,o)::(D,{cls:=.type "list",data:=.seq (adE []) Kd})::Y.hold)) aJ {σ with vars:=σ.vars++[none]} s.heap)(aP:a9 s₁ s)
(hQ:∀s' g' vs e,aR Y.lo s₁.heap s'.heap->aJ.le g'->Rel (Y.with ((D,{cls:=.type "list",data:=.seq (adE vs) e})::Y.hold)) g' σ s'.heap->a9 s₁ s'->aq Y.n g' ys vs->(∃m,s'.heap.Ns C m)->g'.z C=none->C∉(Y.with ((D,{cls:=.type "list",data:=.seq (adE vs) e})::Y.hold)).bw g'->R' (.ok .next) s'):
 aiW (acr prog w) A (.compLoop (.ListComp elt [⟨.Name x px,iter,ifs,0⟩] scope pos) 0 (.ref I) (.ref D) bh) R' s:=by
 have W:=It.walks A hA.hand
 refine ala (OS Y RF ie its σ items ys s₁ aJ St I D C x) ?_ (items.length+1) λ G f=>f 0 aJ none o [] [] Kd ys rfl (adV _) jJ uG (Gh.le.refl _) fX aP .nil hy rfl
 refine λ n s' H=>d6 λ Qa Ea na V=>H _ λ k g' ov oI acc vs eD rest hnk hk wp Sb l' R' m' nw i9 Z0=>?_
 have XW:=R'.yu.1.2.2.1
 simp only [Lay.with,aaX,adf,aaB,not_or] at XW
 by_cases bD:k < items.length
 · refine W.item k s' _ _ bD wp λ v gk tk U8 gI eg=>na _ _ ?_
   obtain ⟨xk,XX,U9⟩:=It.rel k v bD U8
   refine Dg XX i9 λ oy XY i9=>aC XY λ c hc XY=>?_
   obtain ⟨rr,uH⟩:=It.obj _ _ gI
   have dH:=R'.tF (h':=gk) eg uH
   have uI:aR Y.lo s₁.heap gk:=nY Sb eg cM (R'.gw (.head _))
   obtain ⟨f,hf,_⟩:=dH.ns C (by simp)
   refine afP (agK U7 (gH.symm▸hf) (λ Dh Fo rt=>?_) hpx)
   rw [gH] at Fo rt
   have dB:=dH.Fd (x:=x) (show (Y.lay++[_])[Y.lay.length]?=some (.ns C x) by simp) (U9.mono l') hf Fo rt
   rw [Kc (Y:=Y) R8] at dB
   have Z3:∀b∈fp,b≠D∧b≠C:=λ b hb=>⟨acS (acZ (It.low b hb) OT),acS (acZ (It.low b hb) (afk OT hDC))⟩
   have Fp:aR Y.lo s₁.heap Dh:=uI.i3 rt (λ a o' e=>acS (afk (cM a o' e) (afk OT hDC))) (dH.jD (c:=C) (dH.off C (au.mpr (.inl (aev _ (aaU.mpr rfl))))))
   have po:St (k+1) Dh:=W.frame _ _ _ gI λ b hb o' e=>rt.extBut b o' (Z3 b hb).2 e
   have Ke:∀{h h':ac2} {j:Nat},aR Y.lo h h'->St j h->St j h':=λ k hs=>W.frame _ _ _ hs λ b hb o' e=>k.get e (λ hm=>uF b hb (ad4 _ hm)) (λ t ht q=>uF b hb (aev _ (q▸acV ht)))
   refine hT _ A {s' with heap:=Dh,toks:=tk+1} g' (σ.push xk) c hA dB hc _ _ λ eo yF jH lX gm fb=>?_
   have nZ:a9 s₁ eo:=m'.trans (⟨fb.1,fb.2,fb.3⟩ :a9 s' eo)
   cases c with
   | true=>
     rw [if_pos rfl] at XY ⊢
     refine bS XY λ y hy' ho=>?_
     subst ho
     refine bS i9 λ uJ XZ ho=>?_
     subst ho
     refine (hE _ A eo yF (σ.push xk) y hA gm hy').then λ u gj nr nW uC dy iR JY=>?_
     have bY:vs.toArray.size≤aaW:=by
      have e1:=nw.length
      have e2:ys.length=acc.length+(y::uJ).length:=by rw [←Z0,aao]
      rw [ada] at e2
      rw [aha];exact %[a≤b,c≤b,d=a,c=d+(e+1)|rU bc e1 e2]
     refine ahd (items:=vs.toArray) (x:=u) ⟨eD,dy.held _ (.tail _ (.head _))⟩ (λ Va AF n0=>?_) bY
     obtain ⟨Vb,AG⟩:=AF
     rw [ai0] at AG
     have G0:=dy.Az (h':=Va) (λ b x hb=>n0.extBut b x hb) AG
     refine ⟨_,nS hnk bD,λ G f=>f (k+1) nr (some xk) rr (acc++[y]) (vs++[u]) Vb uJ rfl bD ?_ ?_ ((l'.trans lX).trans uC) G0 ((nZ.trans iR).trans ⟨rfl,rfl,rfl⟩) ((nw.mono (lX.trans uC)).append (.cons JY .nil)) XZ (by rw [←Z0,aaH];rfl)⟩
     · exact W.frame _ _ _ (Ke jH po) λ b hb o' e=>n0.extBut b o' (Z3 b hb).1 (nW.get e (λ hm=>uF b hb (ad4 _ hm)) (λ t ht q=>uF b hb (aev _ (q▸acV ht))))
     · exact ((Fp.trans jH).trans nW).i3 n0 (λ a o' e=>acS (afk (cM a o' e) OT)) (dy.gw (.tail _ (.head _)))
   | false=>
     rw [if_neg afE] at XY ⊢
     obtain rfl:=aam XY
     exact ⟨_,nS hnk bD,λ G f=>f (k+1) yF (some xk) rr acc vs eD rest rfl bD (Ke jH po) (Fp.trans jH) (l'.trans lX) gm nZ (nw.mono lX) i9 Z0⟩
 · have hke:k=items.length:=%[a=b,a≤b,cY (a<b)|(aU hk bD)]
   subst hke
   rw [ah2] at i9
   obtain rfl:=aam i9
   rw [abg] at Z0
   subst Z0
   refine W.done s' _ _ wp λ gk tk eg=>na _ _ ?_
   have dH:=R'.gv (h':=gk) λ b o' hb e=>eg b o' (by simpa using hb) e
   obtain ⟨gm,ru,AH,AI⟩:=Rel.R9 (Y:=Y.with ((D,_)::Y.hold)) (C:=C) (x:=x) dH Dc
   exact hQ {s' with heap:=gk,toks:=tk} _ vs eD (nY Sb eg cM (R'.gw (.head _))) l' gm (m'.trans ⟨rfl,rfl,rfl⟩) nw AI AH ru
theorem wZ(hs:∃a,a∈Y.dO∧Y.n≤a)
(C:Cx base nm env Y)(zY:eI nm scope x=true)(gi:dM iter=true)(hI:SI prog w d base RF nm env Y iter ii)
(hT:∀cl Ca H,Y.n≤Ca->Cx base (bJ nm scope x) (adh scope cl Ca env) ((Y.more Ca x).with H)->J9 prog w d base RF (bJ nm scope x) (adh scope cl Ca env) ((Y.more Ca x).with H) ifs its)
(hE:∀cl Ca H,Y.n≤Ca->Cx base (bJ nm scope x) (adh scope cl Ca env) ((Y.more Ca x).with H)->SE prog w d base RF (bJ nm scope x) (adh scope cl Ca env) ((Y.more Ca x).with H) elt ie)
(hA:jX d Y.fr A)(R:Rel Y g σ s.heap)(hi:Ao RF ii σ=some items)(hy:dR (wX RF ie its σ) items=some ys)(bc:ys.length≤aaW)
(hQ:∀s' g' D Ca vs e,aR Y.lo s.heap s'.heap->g.le g'->Rel (Y.with ((D,{cls:=.type "list",data:=.seq (adE vs) e})::Y.hold)) g' σ s'.heap->a9 s s'->aq Y.n g' ys vs->Y.n≤D->(∃m,s'.heap.Ns Ca m)->s.heap.get? Ca=none->g'.z Ca=none->Ca∉(Y.with ((D,{cls:=.type "list",data:=.seq (adE vs) e})::Y.hold)).bw g'->
  alF (acr prog w) A E use Q (.ref D) Ca (.ok .next) s'):
 acn (acr prog w) A (aid (.ListComp elt [⟨.Name x px,iter,ifs,0⟩] scope pos) scope env p2 (ak7 []) false (eval iter env) use) Q E s:=by
 have Vc:=zY
 unfold eI at Vc
 simp only [aaQ,decide_eq_true_eq,acP,beq_iff_eq] at Vc
 obtain ⟨⟨ef,AC⟩,hx⟩:=Vc
 have jZ:∀y∈scope.names,y.2=adA->∃a,env.cells.lookup y.1=some a:=λ y hy hf=>by
  have this:=(AC y hy).2
  rw [hf] at this
  simp only [bne_self_eq_false,Bool.false_or,aaQ,bne_iff_ne,ne_eq] at this
  obtain ⟨i,hi⟩:=afC.mp this.1
  obtain ⟨l,hl,h1⟩:=C.slots _ _ hi
  rcases h1 with ⟨rfl,gH⟩ | ⟨c,rfl,hc,J8⟩
  · exact absurd ((C.names _).trans gH) this.2
  · exact ⟨c,hc⟩
 obtain ⟨cl,Z4,wV⟩:=De jZ
 have Vd:∀y∈scope.names,y.2=.local->scope.names.lookup y.1=some .local:=λ y hy hl=>by
  have:=AC y hy
  simpa [hl] using this
 have cU:∀y∈scope.names,y.2≠.cell:=λ y hy=>by
  have:=AC y hy
  simp at this
  exact this.1.1
 refine akC (use:=use) rfl (lL gi) Z4 ef Vd ?_
 refine hI A s g σ items false hA R hi (λ e=>by cases e) E _ λ s₁ aJ k₁ aW aO aP=>?_
 intro o fp P St ho It GN
 have eJ:Y.n≤s₁.heap.objs.size:=dG R k₁ hs aO
 have Dc:∀(i:Nat) (a:abh) (x:Str),Y.lay[i]?=some (Loc.ns a x)->a∈Y.dO:=R.dv
 have aF:Rel (Y.with ((s₁.heap.objs.size,o)::Y.hold)) aJ σ (s₁.heap.push o):=Rel.gG (Y:=Y) (H:=Y.hold) aO ho eJ
 refine aho (wpAny_newFunctionEnv cU (by intro y hy;simp at hy) (λ jK Kf Kg=>?_) ef)
 skip
 generalize OU:s₁.heap.objs.size=I at *
 have yI:(s₁.heap.push o).objs.size=I+1:=by (erw [af3 ..,OU,rfl])
 have rZ:((s₁.heap.push o).push {cls:=.type "list",dict:=none,data:=.seq ([]:List aas).toArray}).objs.size=I+1+1:=by (erw [af3 ..,yI,rfl])
 rw [rZ] at Kf Kg ⊢
 erw [yI]
 have bW:=Rel.gG (Y:=Y) (H:=(I,o)::Y.hold) aF (o:={cls:=.type "list",dict:=none,data:=.seq ([]:List aas).toArray}) rfl (by erw [yI];exact %[a≤b+1,a≤b|aU eJ])
 rw [yI] at bW
 have hkC:KS ((s₁.heap.push o).push {cls:=.type "list",dict:=none,data:=.seq ([]:List aas).toArray}) jK:=λ a o' e=>
  Kg.extBut a o' (by have:=acD e;rw [rZ] at this;exact acS this) (act _ e)
 have ZX:((s₁.heap.push o).push {cls:=.type "list",dict:=none,data:=.seq ([]:List aas).toArray}).get? (I+1+1)=none:=by
  cases e:((s₁.heap.push o).push {cls:=.type "list",dict:=none,data:=.seq ([]:List aas).toArray}).get? (I+1+1) with
  | none=>rfl
  | some o'=>have:=acD e;rw [rZ] at this;exact absurd this (adg _)
 have fX:=bW.J7 hkC (C:=I+1+1) (x:=x) ZX (by erw [rZ];exact ac1 _) Kf rfl (by erw [rZ];show Y.n≤_;exact %[a≤b+1+1,a≤b|aU eJ])
 have uG:aR Y.lo s₁.heap jK:=((cq _ _).trans (cq _ _)).trans (aR.of hkC)
 have W:=It.walks A hA.hand
 have jJ:St 0 jK:=W.frame _ _ _ GN λ b V o' e=>hkC b o' (act _ e)
 have uF:∀b∈fp,b∉iQ Y.fr:=λ b hb=>by
  rcases It.nf b hb with q | q
  · subst q;exact aF.JI (au.mpr (.inr (.inr (.inl (.head _))))) (λ hm=>aF.ni _ hm (.head _))
  · exact q
 have cx:∀H,Cx base (bJ nm scope x) (adh scope cl (I+1+1) env) ((Y.more (I+1+1) x).with H):=λ H=>OQ C zY wV
 have U7:(adh scope cl (I+1+1) env).kindOf x=some .local:=alD hx
 have hpx:((adh scope cl (I+1+1) env).scope.kind==.class||((adh scope cl (I+1+1) env).scope.kind==.module&&(adh scope cl (I+1+1) env).locals !=(adh scope cl (I+1+1) env).globals))=false:=by simp [adh,relabel,ef]
 have cM:∀a o,s₁.heap.get? a=some o->a < I:=λ a o e=>OU▸acD e
 refine ak9 ?_ (W.self 0 _ _ _ jJ ?_) <;> exact GZ (s₁:=s₁) (C:=I+1+1) U7 hpx rfl (λ H=>hT cl (I+1+1) _ %[a≤b+1+1,a≤b|(aU eJ)] (cx _)) (λ H=>hE cl (I+1+1) _ %[a≤b+1+1,a≤b|(aU eJ)] (cx _)) hA R.len It hy bc cM (afc _) (afc _) eJ uF Dc jJ uG
  (Rel.wY (Y:=Y.more (I+1+1) x) fX) ⟨rfl,rfl,rfl⟩ λ s' g' vs e kp l' R' m nw rW hz hm=>hQ s' g' (I+1) (I+1+1) vs e (k₁.trans kp) (aW.trans l') R' (aP.trans m) nw %[a≤b+1,a≤b|(aU eJ)] rW (by
   cases e:s.heap.get? (I+1+1) with
   | none=>rfl
   | some o'=>exact absurd rfl (Ka (k₁.live e) OU)) hz hm
theorem AJ(hs:∃a,a∈Y.dO∧Y.n≤a)
(C:Cx base nm env Y)(zY:eI nm scope x=true)(gi:dM iter=true)(hI:SI prog w d base RF nm env Y iter ii)
(hT:∀cl Ca H,Y.n≤Ca->Cx base (bJ nm scope x) (adh scope cl Ca env) ((Y.more Ca x).with H)->J9 prog w d base RF (bJ nm scope x) (adh scope cl Ca env) ((Y.more Ca x).with H) ifs its)
(hE:∀cl Ca H,Y.n≤Ca->Cx base (bJ nm scope x) (adh scope cl Ca env) ((Y.more Ca x).with H)->SE prog w d base RF (bJ nm scope x) (adh scope cl Ca env) ((Y.more Ca x).with H) elt ie)
(hA:jX d Y.fr A)(R:Rel Y g σ s.heap)(hi:Ao RF ii σ=some items)(hy:dR (wX RF ie its σ) items=some ys)(bc:ys.length≤aaW)
(hQ:∀s' g' D Ca,aR Y.lo s.heap s'.heap->g.le g'->Rel Y g' σ s'.heap->a9 s s'->RelV Y.n g' (.lst ys) (.ref D)->(∃m,s'.heap.Ns Ca m)->s.heap.get? Ca=none->g'.z Ca=none->Ca∉Y.bw g'->
  alF (acr prog w) A E use Q (.ref D) Ca (.ok .next) s'):
 acn (acr prog w) A (aid (.ListComp elt [⟨.Name x px,iter,ifs,0⟩] scope pos) scope env p2 (ak7 []) false (eval iter env) use) Q E s:=by
 refine wZ hs C zY gi hI hT hE hA R hi hy bc λ s' g' D Ca vs e k l R' m hv hD hn uK hz hm=>?_
 obtain ⟨dB,Z5⟩:=Rel.J6 (Y:=Y) (p:=(D,{cls:=.type "list",data:=.seq (adE vs) e})) R'
 have cM:Ca≠D:=λ q=>hm (au.mpr (.inr (.inr (.inl (by simp [q])))))
 have Ve:Ca∉Y.bw (g'.add (one D {cls:=.type "list",data:=.seq (adE vs) e})):=λ q=>hm (by
  rw [au] at q ⊢
  rcases q with q | q | q | q
  · exact .inl q
  · exact .inr (.inl q)
  · exact .inr (.inr (.inl (by simp [q])))
  · exact .inr (.inr (.inr q)))
 refine hQ s' _ D Ca k (l.trans (Gh.d4 _ _)) dB m (.lst hD Z5 rfl rfl (hv.mono (Gh.d4 _ _))) hn uK ?_ Ve
 simp [Gh.add,hz,one,cM]
end
section
variable{prog:aaq}{w:acb}{A:adn}{Y:Lay}{g:Gh}{σ:bB}{s:aav}{d:Nat}{base:ac2}{nm:NI}{env:Env}{RF:cV}
theorem Rel.yJ(R:Rel Y g σ h)(hC:C∉Y.bw g)(hz:g.z C=none)(hs:aeJ C h h')(jY:C∉d0 Y.fr)(Z6:∀t∈aT,t.P≠C):Rel Y g σ h':=by
 have ne:∀a∈Y.bw g,a≠C:=λ a ha q=>hC (q▸ha)
 refine ⟨λ a o e=>hs.extBut a o (λ q=>by subst q;rw [hz] at e;exact aw e) (R.fJ a o e),R.base,R.nodup,R.dz,R.off,R.low,R.dv,R.len,R.eG,λ a ha=>?_,λ i c hc=>?_,λ k a ha=>?_,λ p hp=>?_,?_,R.ni,R.nj,R.eH,λ t ht=>(R.tabs t ht).of (λ V V q=>q) λ o q=>hs.extBut _ _ (λ e=>Z6 t ht e) q⟩
 · refine bF (R.ns a ha) λ f h1 h2=>?_
   exact ⟨f,h1.sameBut hs (ne a (au.mpr (.inl ha))),h2⟩
 · refine bF (R.cell i c hc) λ ov h1 h2=>?_
   exact ⟨ov,h1.sameBut hs (ne c (au.mpr (.inr (.inl (bT hc))))),h2⟩
 · refine bF (R.own k a ha) λ vs h1 h2=>?_
   exact ⟨vs,h1.extBut hs.extBut (ne a (au.mpr (.inr (.inr (.inr (acR ha)))))),h2⟩
 · exact hs.extBut _ _ (ne _ (au.mpr (.inr (.inr (.inl (acV hp)))))) (R.held p hp)
 · exact FunFrames.step (λ b hb o e hd=>⟨o,hs.extBut b o (λ q=>jY (q▸hb)) e,hd⟩) R.frames
theorem Rel.OV(R:Rel Y g σ s.heap)(hC:s.heap.get? C=none):C∉d0 Y.fr:=λ hm=>by
 refine NW (afd R.frames hm) λ _ o ho _=>?_
 rw [hC] at ho;exact aw ho
theorem Rel.OW(R:Rel Y g σ s.heap)(hC:s.heap.get? C=none):∀t∈aT,t.P≠C:=λ t ht q=>by
 refine cL ((R.tabs t ht).there) λ ps hp=>?_
 rw [q,hC] at hp;exact aw hp
theorem G1(hs:∃a,a∈Y.dO∧Y.n≤a)
(C:Cx base nm env Y)(zY:eI nm scope x=true)(gi:dM iter=true)(hI:SI prog w d base RF nm env Y iter ii)
(hT:∀cl Ca H,Y.n≤Ca->Cx base (bJ nm scope x) (adh scope cl Ca env) ((Y.more Ca x).with H)->J9 prog w d base RF (bJ nm scope x) (adh scope cl Ca env) ((Y.more Ca x).with H) ifs its)
(hE:∀cl Ca H,Y.n≤Ca->Cx base (bJ nm scope x) (adh scope cl Ca env) ((Y.more Ca x).with H)->SE prog w d base RF (bJ nm scope x) (adh scope cl Ca env) ((Y.more Ca x).with H) elt ie):
 SE prog w d base RF nm env Y (.ListComp elt [⟨.Name x px,iter,ifs,0⟩] scope pos) (.comp ie ii its):=by
 intro A s g σ z hA R h E Q hQ
 skip
 refine bF (adD.mp h) λ items hi h=>?_
 refine bF (adD.mp h) λ ys hy h=>?_
 (refine gY (aK h) λ hc cB=>?_;obtain rfl:=cB)
 erw [eval_ListComp ..]
 refine AJ (use:=none) hs C zY gi hI hT hE hA R hi hy (of_decide_eq_true hc) λ s' g' D Ca k l R' m v hn uK hz hm=>?_
 refine cL hn λ mm hn=>?_
 refine ⟨mm,hn,λ h' jo=>?_⟩
 refine hQ (.ref D) {s' with heap:=h'} g' (k.i3 jo (λ a o e q=>by subst q;rw [uK] at e;exact aw e) (R'.jD hz)) l (R'.yJ hm hz jo (R.OV uK) (R.OW uK)) ⟨m.1,m.2,m.3⟩ v
theorem Kh:SE prog w d base RF nm env Y (.Constant (.int i) k pos) (.int i):=by
 intro A s g σ z hA R h E Q hQ
 cases h
 exact wpAny_Constant_int (d7 (E:=E) R hQ (.int _ _))
theorem Ki:SE prog w d base RF nm env Y (.Constant (.str i) k pos) (.str i):=by
 intro A s g σ z hA R h E Q hQ
 cases h
 exact al0 (d7 (E:=E) R hQ (.str _ _))
theorem G2:SE prog w d base RF nm env Y (.Constant (.bool i) k pos) (.bool i):=by
 intro A s g σ z hA R h E Q hQ
 cases h
 exact wpAny_Constant_bool (wk (E:=E) R hQ (.bool _))
theorem G3:SE prog w d base RF nm env Y (.Constant .none k pos) .none:=by
 intro A s g σ z hA R h E Q hQ
 cases h
 exact wpAny_Constant_none (wk (E:=E) R hQ .none)
theorem Vf:SO prog w d base RF nm env Y none .none:=by
 intro A s g σ z hA R h E Q hQ
 cases h
 exact ac3 (wk (E:=E) R hQ .none)
theorem Vg(h1:SE prog w d base RF nm env Y e ie):SO prog w d base RF nm env Y (some e) ie:=h1
theorem zZ{α β:Type}{o:Option α}{f:α->Option β}{b:β}(h:(o.bind f)=some b):∃a,o=some a∧f a=some b:=adD.mp h
theorem n5{α β:Type}{o:Option α}{f:α->β}{b:β}(h:o.map f=some b):∃a,o=some a∧f a=b:=ah0.mp h
theorem G4{α:Type}{c:Bool}{o:Option α}{b:α}(h:(if c then o else none)=some b):c=true∧o=some b:=by
 cases c with
 | true=>exact ⟨rfl,h⟩
 | false=>exact aw h
theorem Di{α:Type}{c:Bool}{o:Option α}{b:α}(h:(if c then none else o)=some b):c=false∧o=some b:=by
 cases c with
 | true=>exact aw h
 | false=>exact ⟨rfl,h⟩
structure NF (base:ac2) (nm:NI) (env:Env) (Y:Lay):Prop where
 C:Cx base nm env Y
 hs:∃a,a∈Y.dO∧Y.n≤a
structure Z7 (prog:aaq) (w:acb) (d:Nat) (base:ac2) (RF:cV) (r:Rec):Prop where
 e:∀{nm env Y},NF base nm env Y->∀{e ie},r.e nm e=some ie->SE prog w d base RF nm env Y e ie
 o:∀{nm env Y},NF base nm env Y->∀{e ie},r.o nm e=some ie->SO prog w d base RF nm env Y e ie
 es:∀{nm env Y},NF base nm env Y->∀{es ies},r.es nm es=some ies->NE prog w d base RF nm env Y es ies∧ct es∧(es=[]->ies=.nil)
 t:∀{nm env Y},NF base nm env Y->∀{e it},r.t nm e=some it->ST prog w d base RF nm env Y e it
 ts:∀{nm env Y},NF base nm env Y->∀{es its},r.ts nm es=some its->GQ prog w d base RF nm env Y es its∧XU prog w d base RF nm env Y es its∧J9 prog w d base RF nm env Y es its
 i:∀{nm env Y},NF base nm env Y->∀{e ii},r.i nm e=some ii->SI prog w d base RF nm env Y e ii
theorem NF.more(hn:Y.n≤Ca)(C:Cx base (bJ nm scope x) (adh scope cl Ca env) ((Y.more Ca x).with H)):
 NF base (bJ nm scope x) (adh scope cl Ca env) ((Y.more Ca x).with H):=⟨C,Ca,by simp,hn⟩
theorem OX(h:JA c=some ie):SE prog w d base RF nm env Y (.Constant c k pos) ie:=by
 cases c with
 | int i=>cases h;exact Kh
 | str s=>cases h;exact Ki
 | bool b=>cases h;exact G2
 | none=>cases h;exact G3
 | _=>exact aw h
theorem uL(h:kT x=false):ct [x]:=λ e he=>by
 erw [aaU.mp he];exact tC h
section
variable{r:Rec}(I:Z7 prog w d base RF r)(O:NF base nm env Y)
include I O
theorem Z8{x:acU}{op:UnaryOp}{pos:Pos}{ie:IE}(h:unE r nm x op=some ie):SE prog w d base RF nm env Y (.UnaryOp op x pos) ie:=by
 cases op with
 | USub=>(refine bF (n5 h) λ a ha cB=>?_;obtain rfl:=cB);exact JR (I.e O ha)
 | Invert=>(refine bF (n5 h) λ a ha cB=>?_;obtain rfl:=cB);exact JS (I.e O ha)
 | _=>exact aw h
theorem Fq{l:acU}{ops:List CmpOp}{xs:List acU}{ie:IE}(h:UO r nm l ops xs=some ie):∃op x a b,ops=[op]∧xs=[x]∧ai9 op x=false∧SE prog w d base RF nm env Y l a∧SE prog w d base RF nm env Y x b∧ie=.cmp op a b:=by
 refine bF (zZ h) λ op h1 h=>?_
 refine bF (zZ h) λ x h2 h=>?_
 refine gY (Di h) λ h3 h=>?_
 refine bF (zZ h) λ a ha h=>?_
 (refine bF (n5 h) λ b hb cB=>?_;obtain rfl:=cB)
 exact ⟨op,x,a,b,hZ h1,hZ h2,h3,I.e O ha,I.e O hb,rfl⟩
theorem Z9{v i:acU}{pos:Pos}{ie:IE}(h:UP r nm v i=some ie):SE prog w d base RF nm env Y (.Subscript v i pos) ie:=by
 unfold UP at h
 cases hs:UN i with
 | none=>
   rw [hs] at h
   refine bF (zZ h) λ a ha h=>?_
   (refine bF (n5 h) λ b hb cB=>?_;obtain rfl:=cB)
   exact JW (I.e O ha) (I.e O hb)
 | some p=>
   rw [hs] at h
   refine Ox (G:=λ i=>SE prog w d base RF nm env Y (.Subscript v i pos) ie) hs λ q=>?_
   refine bF (zZ h) λ a ha h=>?_
   refine bF (zZ h) λ b hb h=>?_
   refine bF (zZ h) λ c hc h=>?_
   (refine bF (n5 h) λ e he cB=>?_;obtain rfl:=cB)
   exact JX O.hs (I.e O ha) (I.o O hb) (I.o O hc) (I.o O he)
theorem Vh(ka:wn prog w d base RF)(dw:∀f xs res,RF (.ref f) xs=some res->∃o fd,base.get? f=some o∧o.data=.func fd){f:acU}{args:List acU}{pos:Pos}{ie:IE}(h:RO r nm args pos f=some ie):
 SE prog w d base RF nm env Y (.Call f args [] pos) ie:=by
 refine d5 (P:=λ v f=>RN r nm args pos v=some ie->SE prog w d base RF nm env Y (.Call f args [] pos) ie) (λ v h=>?_) f h
 cases v with
 | attr o name apos=>
   refine gY (G4 h) λ hc h=>?_
   rw [aaQ,aaQ,decide_eq_true_eq] at hc
   refine bF (zZ h) λ a ha h=>?_
   (refine bF (n5 h) λ b hb cB=>?_;obtain rfl:=cB)
   exact GV O.hs (I.es O hb).2.1 hc.1.2 hc.1.1 hc.2 (I.es O hb).2.2 (I.e O ha) (I.es O hb).1
 | name x p=>
   refine gY (Di h) λ hc h=>?_
   refine bF (zZ h) λ a ha h=>?_
   (refine bF (n5 h) λ b hb cB=>?_;obtain rfl:=cB)
   exact GU O.hs O.C.keep ka (I.es O hb).2.1 (λ e=>by subst e;exact e8 hc.symm) (λ A s g σ r hA R h'=>dA O.C R ha h') (I.es O hb).1 dw
 | _=>exact aw h
theorem lcK{elt:acU}{gens:List ajb}{scope:ahH}{ie:IE}(h:(o9 gens).bind (lcE r nm elt scope)=some ie){G:List ajb->IE->Prop}
(k:∀x px iter ifs ii its ie',eI nm scope x=true->dM iter=true->SI prog w d base RF nm env Y iter ii->
  (∀cl Ca H,Y.n≤Ca->Cx base (bJ nm scope x) (adh scope cl Ca env) ((Y.more Ca x).with H)->J9 prog w d base RF (bJ nm scope x) (adh scope cl Ca env) ((Y.more Ca x).with H) ifs its)->
  (∀cl Ca H,Y.n≤Ca->Cx base (bJ nm scope x) (adh scope cl Ca env) ((Y.more Ca x).with H)->SE prog w d base RF (bJ nm scope x) (adh scope cl Ca env) ((Y.more Ca x).with H) elt ie')->G [⟨.Name x px,iter,ifs,0⟩] (.comp ie' ii its)):G gens ie:=by
 (refine aC h ?_;clear h;intro gn h1 h)
 erw [hZ h1]
 obtain ⟨tg,iter,ifs,as⟩:=gn
 (refine aC h ?_;clear h;intro x h2 h)
 refine gu (G:=λ tg=>G [⟨tg,iter,ifs,as⟩] ie) h2 λ px=>?_
 obtain ⟨hc,h⟩:=G4 h
 rw [aaQ,aaQ] at hc
 refine aC h λ a ha h=>aC h λ b hb h=>bS h λ c Aa q=>?_
 obtain rfl:=q
 erw [(show as=0 from eq_of_beq hc.1.1)]
 exact k _ _ _ _ _ _ _ hc.1.2 hc.2 (I.i O hb) (λ cl Ca H hn C'=>(I.ts (.more hn C') Aa).2.2) λ cl Ca H hn C'=>I.e (.more hn C') ha
theorem OY(ka:wn prog w d base RF)(dw:∀f xs res,RF (.ref f) xs=some res->∃o fd,base.get? f=some o∧o.data=.func fd){e:acU}{ie:IE}(h:RP r nm e=some ie):SE prog w d base RF nm env Y e ie:=by
 refine d5 (P:=λ v e=>JB r nm v=some ie->SE prog w d base RF nm env Y e ie) (λ v h=>?_) e h
 cases v with
 | const c k p=>exact OX h
 | name x p=>exact λ A s g σ r hA R h'=>dA O.C R h h'
 | bin l op x p=>exact aC h λ a ha h=>bS h λ b hb q=>q▸JO O.hs (I.e O ha) (I.e O hb)
 | un op x p=>exact Z8 I O h
 | cmp l ops xs p=>
   (refine cL (Fq I O h) λ op dL=>?_;refine cL dL λ x eZ=>?_;refine cL eZ λ a oX=>?_;refine cL oX λ b oS=>?_;have q_5:=oS.1;have q_6:=oS.2.1;have h1:=oS.2.2.1;have h2:=oS.2.2.2.1;have h3:=oS.2.2.2.2.1;have q_7:=oS.2.2.2.2.2;clear oS oX eZ dL;obtain rfl:=q_5;obtain rfl:=q_6;obtain rfl:=q_7)
   exact JP h1 h2 h3
 | yx t a b p=>exact aC h λ t' ht h=>aC h λ a' ha h=>bS h λ b' hb q=>q▸JT (I.t O ht) (I.e O ha) (I.e O hb)
 | lst es p=>exact bS h λ a ha q=>q▸JU O.hs (I.es O ha).2.1 (I.es O ha).1
 | tup es k p=>exact bS h λ a ha q=>q▸JV O.hs (I.es O ha).2.1 (I.es O ha).1
 | sub v i p=>exact Z9 I O h
 | call f args yC p=>
   cases yC with
   | nil=>exact Vh I O ka dw h
   | cons _ _=>exact aw h
 | comp elt gens scope p=>exact lcK I O h (G:=λ gens ie=>SE prog w d base RF nm env Y (.ListComp elt gens scope p) ie) λ V V V V V V V h1 h2 h3 h4 h5=>G1 O.hs O.C h1 h2 h3 h4 h5
 | _=>exact aw h
theorem OZ(h:RQ r nm e=some ie):SO prog w d base RF nm env Y e ie:=by
 cases e with
 | none=>cases h;exact Vf
 | some e=>exact Vg (I.e O h)
theorem Kj{es:List acU}{ies:GH}(h:JC r nm es=some ies):NE prog w d base RF nm env Y es ies∧ct es∧(es=[]->ies=.nil):=by
 cases es with
 | nil=>cases h;exact ⟨U1,λ e he=>absurd he aaP,λ V=>rfl⟩
 | cons e es=>
   refine gY (Di h) λ h1 h=>?_
   refine bF (zZ h) λ a ha h=>?_
   (refine bF (n5 h) λ b hb cB=>?_;obtain rfl:=cB)
   exact ⟨OJ (I.e O ha) (I.es O hb).1,λ y hy=>(aaB.mp hy).elim (λ q=>q▸tC h1) ((I.es O hb).2.1 y),λ e=>nomatch e⟩
theorem aac(he:∀(env:Env) (whole:Sem aas),isTrue e env whole=(do let v ←whole;aiz e.pos;ahl [v] (ak6 v)))(h:(r.e nm e).map IT.val=some it):ST prog w d base RF nm env Y e it:=
 bS h λ a ha q=>q▸Av he (I.e O ha)
theorem Sd(he:∀(env:Env) (whole:Sem aas),isTrue (.UnaryOp op x p) env whole=(do let v ←whole;aiz (Expr.UnaryOp op x p).pos;ahl [v] (ak6 v)))(h:(unE r nm x op).map IT.val=some it):ST prog w d base RF nm env Y (.UnaryOp op x p) it:=
 bS h λ a ha q=>q▸Av he (Z8 I O ha)
theorem O0{it:IT}(h:RV r nm e=some it):ST prog w d base RF nm env Y e it:=by
 refine d5 (P:=λ v e=>RU r nm e v=some it->ST prog w d base RF nm env Y e it) (λ v h=>?_) e h
 cases v with
 | un op x p=>
   cases op with
   | Not=>exact bS h λ a ha q=>q▸not_test (I.t O ha)
   | UAdd=>exact aw h
   | USub=>exact Sd I O (λ env whole=>rfl) h
   | Invert=>exact Sd I O (λ env whole=>rfl) h
 | bool op vs p=>
   cases op with
   | And=>exact bS h λ a ha q=>q▸J0 (I.ts O ha).1
   | Or=>exact bS h λ a ha q=>q▸or_test (I.ts O ha).2.1
 | yx t a b p=>exact aw h
 | other e=>exact aw h
 | cmp l ops xs p=>
   refine bS h λ c hc q=>?_
   (refine cL (Fq I O hc) λ op dL=>?_;refine cL dL λ x eZ=>?_;refine cL eZ λ a oX=>?_;refine cL oX λ b oS=>?_;have q_5:=oS.1;have q_6:=oS.2.1;have h1:=oS.2.2.1;have h2:=oS.2.2.2.1;have h3:=oS.2.2.2.2.1;have q_7:=oS.2.2.2.2.2;clear oS oX eZ dL;obtain rfl:=q_5;obtain rfl:=q_6;obtain rfl:=q_7)
   exact q▸JQ h1 h2 h3
 | _=>exact aac I O (λ env whole=>rfl) h
theorem Kk{es:List acU}{its:Aj}(h:JD r nm es=some its):GQ prog w d base RF nm env Y es its∧XU prog w d base RF nm env Y es its∧J9 prog w d base RF nm env Y es its:=by
 cases es with
 | nil=>cases h;exact ⟨OM,U2,wW⟩
 | cons e es=>
   refine bF (zZ h) λ a ha h=>?_
   (refine bF (n5 h) λ b hb cB=>?_;obtain rfl:=cB)
   exact ⟨JZ (I.t O ha) (I.ts O hb).1,OO (I.t O ha) (I.ts O hb).2.1,Df (I.t O ha) (I.ts O hb).2.2⟩
theorem Vi{e:acU}{ii:II}(h:UR r nm e=some ii):SI prog w d base RF nm env Y e ii:=by
 obtain ⟨⟨f,args⟩,h1,h⟩:=zZ h
 refine bF (zZ h) λ x h2 h=>?_
 refine bF (zZ h) λ g h3 h=>?_
 refine bF (zZ h) λ T h4 h=>?_
 refine GJ (G:=λ e=>SI prog w d base RF nm env Y e ii) h1 λ pos=>?_
 refine gu (G:=λ f=>SI prog w d base RF nm env Y (.Call f args [] pos) ii) h2 λ p=>?_
 revert h3
 refine C6 (G:=λ g=>cc nm x=some g->SI prog w d base RF nm env Y (.Call (.Name x p) args [] pos) ii) h4 λ y h3=>?_
 have h0:SE prog w d base RF nm env Y (.Name x p) (.glob y (.obj (.type T))):=λ A s g σ r hA R h'=>dA O.C R h3 h'
 have h:(if T="range" then UQ r nm args else if T="reversed" then ZJ r nm args else none)=some ii:=h
 by_cases q:T="range"
 · subst q
   rw [if_pos rfl] at h
   unfold UQ at h
   cases h5:o9 args with
   | some hi=>
     rw [h5] at h
     refine gY (Di h) λ h6 h=>?_
     (refine bF (n5 h) λ a ha cB=>?_;obtain rfl:=cB)
     erw [hZ h5]
     exact J4 (uL h6) h0 (I.e O ha)
   | none=>
     rw [h5] at h
     obtain ⟨⟨lo,hi⟩,h6,h⟩:=zZ h
     refine gY (Di h) λ h7 h=>?_
     refine bF (zZ h) λ a ha h=>?_
     (refine bF (n5 h) λ b hb cB=>?_;obtain rfl:=cB)
     erw [Fg h6]
     rw [afL] at h7
     exact GX (λ e he=>(aaB.mp he).elim (λ q=>q▸tC h7.1) λ he=>by erw [aaU.mp he];exact tC h7.2) h0 (I.e O ha) (I.e O hb)
 · rw [if_neg q] at h
   by_cases q2:T="reversed"
   · subst q2
     rw [if_pos rfl] at h
     refine bF (zZ h) λ x' h5 h=>?_
     refine gY (Di h) λ h6 h=>?_
     (refine bF (n5 h) λ a ha cB=>?_;obtain rfl:=cB)
     have h5:o9 args=some x':=h5
     erw [hZ h5]
     exact J5 (uL h6) h0 (I.e O ha)
   · rw [if_neg q2] at h;exact aw h
theorem O1{e:acU}{ii:II}(h:JE r nm e=some ii):SI prog w d base RF nm env Y e ii:=by
 unfold JE at h
 cases h1:UR r nm e with
 | some i=>rw [h1] at h;obtain rfl:=aam h;exact Vi I O h1
 | none=>rw [h1] at h;(refine bF (n5 h) λ a ha cB=>?_;obtain rfl:=cB);exact J3 (I.e O ha)
end
theorem dp(ka:wn prog w d base RF)(dw:∀f xs res,RF (.ref f) xs=some res->∃o fd,base.get? f=some o∧o.data=.func fd)(k:Nat):Z7 prog w d base RF (jW k):=by
 induction k with
 | zero=>exact ⟨λ V V V h=>aw h,λ V V V h=>aw h,λ V V V h=>aw h,λ V V V h=>aw h,λ V V V h=>aw h,λ V V V h=>aw h⟩
 | succ k I=>exact ⟨λ O V V h=>OY I O ka dw h,λ O V V h=>OZ I O h,λ O V V h=>Kj I O h,λ O V V h=>O0 I O h,λ O V V h=>Kk I O h,λ O V V h=>O1 I O h⟩
structure Se (prog:aaq) (w:acb) (d:Nat) (base:ac2) (RF:cV) (k:Nat) (nm:NI) (env:Env) (Y:Lay):Prop where
 e:∀e ie,dT k nm e=some ie->SE prog w d base RF nm env Y e ie
 es:∀es ies,C7 k nm es=some ies->NE prog w d base RF nm env Y es ies∧ct es∧(es=[]->ies=.nil)
 t:∀e it,Ap k nm e=some it->ST prog w d base RF nm env Y e it
 i:∀e ii,uw k nm e=some ii->SI prog w d base RF nm env Y e ii
theorem aad(ka:wn prog w d base RF)(dw:∀f xs res,RF (.ref f) xs=some res->∃o fd,base.get? f=some o∧o.data=.func fd)(k:Nat)(nm:NI)(env:Env)(Y:Lay)(C:Cx base nm env Y)(hs:∃a,a∈Y.dO∧Y.n≤a):Se prog w d base RF k nm env Y:=
 ⟨λ V V h=>(dp ka dw k).e ⟨C,hs⟩ h,λ V V h=>(dp ka dw k).es ⟨C,hs⟩ h,λ V V h=>(dp ka dw k).t ⟨C,hs⟩ h,λ V V h=>(dp ka dw k).i ⟨C,hs⟩ h⟩
end
section
mutual
inductive IS where
 | asg (i:Nat) (e:IE) | own (i:Nat) | nx (i j:Nat) (e:IE) | set (o k e:IE) | aug (i:Nat) (op:agc) (e:IE)
 | app (o e:IE) | rev (o:IE) | ret (e:IE) | ifs (t:IT) (a b:eU) | iS (i:Nat) (it:II) (body:eU) | whl (t:IT) (body:eU) | bad
inductive eU where
 | nil | cons (s:IS) (r:eU)
end
noncomputable def bB.put(σ:bB)(i:Nat)(x:AV):bB:={σ with vars:=σ.vars.set i (some x)}
noncomputable def bB.dk(σ:bB)(k:Nat)(xs:List AV):bB:={σ with own:=σ.own.set k xs}
noncomputable def Kl(op:agc)(a b:Int):Option AV:=
 match op with
 | .Add=>some (.int (a+b))
 | .Sub=>some (.int (a - b))
 | .FloorDiv=>bz (decide (b≠0)&&decide (b.natAbs.log2 < 9000)) (.int (a.fdiv b))
 | .LShift=>bz (decide (0≤b)&&decide ((aan a:Int)+b≤2 ^ 27)) (.int (a * 2 ^ b.toNat))
 | .RShift=>bz (decide (0≤b)) (.int (a.fdiv (2 ^ b.toNat)))
 | .BitOr=>some (.int (agd a b))
 | _=>none
noncomputable def wq(op:agc)(x y:AV):Option AV:=
 match x with
 | .int a=>(hV y).bind (Kl op a)
 | .str a=>(rm y).bind (uq op a)
 | _=>none
noncomputable abbrev yK:=Option (bB×Option AV)
noncomputable def eK(o:yK)(f:bB->yK):yK:=o.bind λ p=>match p.2 with | some v=>some (p.1,some v) | none=>f p.1
noncomputable def uM(f:AV->bB->yK):List AV->bB->yK
 | [],σ=>some (σ,none)
 | x::r,σ=>eK (f x σ) (uM f r)
noncomputable def G5(t:bB->Option Bool)(f:bB->yK):Nat->bB->yK
 | 0,_=>none
 | n+1,σ=>(t σ).bind λ c=>if c=true then eK (f σ) (G5 t f n) else some (σ,none)
mutual
noncomputable def AK(RF:cV)(n:Nat):IS->bB->yK
 | .asg i e,σ=>(bj RF e σ).map λ x=>(σ.put i x,none)
 | .own i,σ=>some (⟨σ.vars.set i (some (.own σ.own.length)),σ.own++[[]]⟩,none)
 | .nx i j e,σ=>(bj RF e σ).bind λ x=>match x with | .tup [a,b]=>some ((σ.put i a).put j b,none) | _=>none
 | .set o k e,σ=>(bj RF e σ).bind λ x=>(bj RF o σ).bind λ ov=>(bj RF k σ).bind λ kv=>match ov,kv with
   | .own m,.int z=>σ.own[m]?.bind λ xs=>if 0≤z∧z < xs.length∧z < 2 ^ 62 then some (σ.dk m (xs.set z.toNat x),none) else none
   | _,_=>none
 | .aug i op e,σ=>(σ.vars[i]?.getD none).bind λ old=>(bj RF e σ).bind λ x=>(wq op old x).map λ y=>(σ.put i y,none)
 | .app o e,σ=>(bj RF o σ).bind λ ov=>(bj RF e σ).bind λ x=>match ov with
   | .own m=>σ.own[m]?.bind λ xs=>if xs.length≤aaW then some (σ.dk m (xs++[x]),none) else none
   | _=>none
 | .rev o,σ=>(bj RF o σ).bind λ ov=>match ov with
   | .own m=>σ.own[m]?.bind λ xs=>if xs.length≤aaW then some (σ.dk m xs.reverse,none) else none
   | _=>none
 | .ret e,σ=>(bj RF e σ).map λ x=>(σ,some x)
 | .ifs t a b,σ=>(jV RF t σ).bind λ c=>if c=true then bK RF n a σ else bK RF n b σ
 | .iS i it body,σ=>(wj RF it σ).bind λ items=>uM (λ x σ=>bK RF n body (σ.put i x)) items σ
 | .whl t body,σ=>G5 (jV RF t) (bK RF n body) n σ
 | .bad,_=>none
noncomputable def bK(RF:cV)(n:Nat):eU->bB->yK
 | .nil,σ=>some (σ,none)
 | .cons s r,σ=>eK (AK RF n s σ) (bK RF n r)
end
noncomputable def bC(nm:NI)(x:Str):Option Nat:=if nm.names.lookup x==some .local||nm.names.lookup x==some .cell then nm.slots.lookup x else none
noncomputable def fw(nm:NI)(x:Str):Option Nat:=if nm.names.lookup x==some .local then nm.slots.lookup x else none
noncomputable def Sf:acU->Bool
 | .Starred ..=>true
 | _=>false
noncomputable def uN(px py:Pos)(vs:List acU):Bool:=
 decide (vs.length=2)&&!(vs.any Sf)&&px.line==py.line&&!(vs.all (foldedForSure 8))&&!(vs.all (constantsAlone 8))
noncomputable def tG:EV->Bool
 | .comp ..=>true
 | .other _=>true
 | _=>false
noncomputable abbrev kU(e:acU):Bool:=tG (eW e)
noncomputable def Km:EV->Bool
 | .lst es _=>es.isEmpty
 | _=>false
noncomputable abbrev Dj(e:acU):Bool:=Km (eW e)
noncomputable def Vj:EV->Option (List acU)
 | .tup vs _ _=>some vs
 | _=>none
noncomputable abbrev Fs(e:acU):Option (List acU):=Vj (eW e)
section
variable(ke:Nat)(nm:NI)
noncomputable def aae(v:acU)(x:Str):Option IS:=(bC nm x).bind λ i=>if Dj v then some (.own i) else (dT ke nm v).map λ e=>.asg i e
noncomputable def O2(v:acU)(x y:Str)(i j:Nat)(e:IE)(pa pb:Pos):Option IS:=
 match Fs v with
 | some vs=>if i !=j&&(x !=y&&uN pa pb vs) then some (.nx i j e) else none
 | none=>if i !=j&&!kU v then some (.nx i j e) else none
noncomputable def aaf(v:acU)(es:List acU):Option IS:=(UM es).bind λ p=>(nn p.1).bind λ x=>(nn p.2).bind λ y=>(fw nm x).bind λ i=>(fw nm y).bind λ j=>(dT ke nm v).bind λ e=>O2 v x y i j e p.1.pos p.2.pos
noncomputable def aej(v o i:acU):Option IS:=if kU v then none else (dT ke nm o).bind λ a=>(dT ke nm i).bind λ b=>(dT ke nm v).map λ c=>.set a b c
noncomputable def aag(v:acU):EV->Option IS
 | .name x _=>aae ke nm v x
 | .tup es _ _=>aaf ke nm v es
 | .sub o i _=>aej ke nm v o i
 | _=>none
noncomputable abbrev aek(v:acU)(e:acU):Option IS:=aag ke nm v (eW e)
noncomputable def Sg(args:List acU)(pos:Pos):EV->Option IS
 | .attr o name apos=>if apos.endLine==pos.line&&pe o then (dT ke nm o).bind λ a=>match o9 args with
    | some e=>if name==ac5 "append"&&!kT e then (dT ke nm e).map λ b=>.app a b else none
    | none=>if args.isEmpty&&name==ac5 "reverse" then some (.rev a) else none
   else none
 | _=>none
noncomputable abbrev Sh(args:List acU)(pos:Pos)(e:acU):Option IS:=Sg ke nm args pos (eW e)
noncomputable def Si:EV->Option IS
 | .call f args yC pos=>if yC.isEmpty then Sh ke nm args pos f else none
 | _=>none
noncomputable abbrev aah(e:acU):Option IS:=Si ke nm (eW e)
noncomputable def ael:Option acU->Option IS
 | some e=>(dT ke nm e).map .ret
 | none=>some (.ret .none)
noncomputable def Sj(rb:List agH->eU):agH->Option IS
 | .Assign ts v _=>(o9 ts).bind (aek ke nm v)
 | .AugAssign t op v _=>(nn t).bind λ x=>(bC nm x).bind λ i=>(dT ke nm v).map λ e=>.aug i op e
 | .Expr e _=>aah ke nm e
 | .Return o _=>ael ke nm o
 | .If t a b _=>(Ap ke nm t).map λ t'=>.ifs t' (rb a) (rb b)
 | .For t it body orelse _=>if orelse.isEmpty&&dM it then (nn t).bind λ x=>(bC nm x).bind λ i=>(uw ke nm it).map λ it'=>.iS i it' (rb body) else none
 | .While t body orelse _=>if orelse.isEmpty then (Ap ke nm t).map λ t'=>.whl t' (rb body) else none
 | _=>none
end
noncomputable def cg:Nat->Nat->NI->List agH->eU
 | 0,_,_,_=>.cons .bad .nil
 | _+1,_,_,[]=>.nil
 | k+1,ke,nm,st::r=>.cons ((Sj ke nm (cg k ke nm) st).getD .bad) (cg k ke nm r)
variable{prog:aaq}{w:acb}{A:adn}{Y:Lay}{g:Gh}{σ:bB}{s:aav}{d:Nat}{base:ac2}{nm:NI}{env:Env}{RF:cV}
theorem O3(R:Rel Y g σ s.heap)(hx:RelV Y.n g x v)(hy:RelV Y.n g y u)(h:wq op x y=some r):
 Wv (acr prog w) A Y g σ (inplaceOp op v u) s r:=by
 intro E Q hQ
 cases x with
 | int a=>
   (refine aC h ?_;clear h;intro b e h)
   have:=bU e
   subst this
   apply RelV.cp hx;intro _;apply RelV.cp hy;intro _
   cases op with
   | Add=>cases h;exact iadd_int (d7 (E:=E) R hQ (.int _ _))
   | Sub=>cases h;exact isub_int (d7 (E:=E) R hQ (.int _ _))
   | FloorDiv=>obtain ⟨hc,rfl⟩:=aK h;exact ifloordiv_int (bV hc).1 (d7 (E:=E) R hQ (.int _ _)) (.inl (noPylong_of_log2 (bV hc).2))
   | LShift=>obtain ⟨hc,rfl⟩:=aK h;exact ilshift_int (bV hc).1 (bV hc).2 (d7 (E:=E) R hQ (.int _ _))
   | RShift=>obtain ⟨hc,rfl⟩:=aK h;exact irshift_int (of_decide_eq_true hc) (d7 (E:=E) R hQ (.int _ _))
   | BitOr=>cases h;exact ior_int (d7 (E:=E) R hQ (.int _ _))
   | _=>exact oR h
 | str a=>
   (refine aC h ?_;clear h;intro b e h)
   have:=e9 e
   subst this
   apply RelV.fH hx;intro _;apply RelV.fH hy;intro _
   cases op with
   | Add=>obtain ⟨hc,rfl⟩:=aK h;exact iadd_str (λ t' tk=>d7 (E:=E) R hQ (.str _ _)) (of_decide_eq_true hc)
   | _=>exact oR h
 | _=>exact oR h
noncomputable def Kb(F:Ot)(n:Nat)(h h':ac2):Prop:=∀a o,a < n->h.get? a=some o->Ok F (λ c=>n≤c) h' a o
theorem Kb.ks(k:KS h h'):Kb F n h h':=λ a o V e=>.inl ⟨o.slots,k a o e,λ V=>rfl⟩
theorem Kb.refl(n:Nat)(h:ac2):Kb F n h h:=Kb.ks λ V V e=>e
theorem Rel.kb(R:Rel Y g σ h)(hs:∃a,a∈Y.dO∧Y.n≤a)(k:aR Y.lo h h'):Kb Y.lo Y.n h h':=λ a o l e=>by
 rcases k a o e with x | ⟨ho,hn,t,ht,hP,c,hc,hg,hr⟩
 · exact .inl x
 · refine bF hs λ L hL hnL=>?_
   refine cL (R.R3 L (au.mpr (.inl hL))) λ o' h1=>?_
   exact .inr ⟨ho,hn,t,ht,hP,c,acW hnL (ae4 (hc L o' h1)),hg,hr⟩
theorem Kb.trans(x:Kb F n h h')(y:Kb F n h' yt)(R':Rel Y' g' σ' yt)(hF:F.tb=aT:=by rfl):Kb F n h yt:=λ a o l e=>by
 rcases x a o l e with ⟨s1,e1,n1⟩ | ⟨ho,hn,t,wh,hP,c,hc,hg,hr⟩
 · rcases y a _ l e1 with ⟨s2,e2,n2⟩ | ⟨ho,hn,t,ht,hP,c,hc,hg,hr⟩
   · exact .inl ⟨s2,e2,λ n=>(n2 n).trans (n1 n)⟩
   · rw [n1 hn] at ho
     exact .inr ⟨ho,hn,t,ht,hP,c,hc,hg,hr⟩
 · rcases y a _ l hg with ⟨s2,e2,n2⟩ | ⟨oQ,_⟩
   · rw [n2 hn] at e2
     refine .inr ⟨ho,hn,t,wh,hP,c,hc,e2,?_⟩
     have ht:t∈aT:=hF▸wh
     rcases R'.tabs t ht with q | ⟨t',aen,hp,c',oc,vs,tt,h1,h2,h3,h4⟩
     · rw [hP,e2] at q
       injection q with q;injection q with _ _ q;injection q with q
       exact absurd q (t.ne c)
     · have:=o5 t ht t' aen hp
       subst this
       rw [hP,e2] at h1
       injection h1 with h1;injection h1 with _ _ h1;injection h1 with h1
       have:=t'.inj _ _ h1
       subst this
       exact ⟨c,oc,vs,tt,rfl,R'.fJ _ _ h2,h3,h4⟩
   · injection oQ with _ _ q;injection q with q
     exact absurd q (t.ne c)
theorem Kb.fI{wr:List abh}{h h':ac2}(hk:∀b o,b∉wr->h.get? b=some o->h'.get? b=some o){F:Ot}{n:Nat}(ne:∀a,a < n->a∉wr):Kb F n h h':=λ a o l e=>.inl ⟨o.slots,hk a _ (ne a l) e,λ V=>rfl⟩
theorem Kb.but{F:Ot}{n:Nat}{C:abh}{h h':ac2}(hs:aeJ C h h')(hC:n≤C):Kb F n h h':=
 Kb.fI (wr:=[C]) (λ b o hb e=>hs.extBut b o (by simpa using hb) e) λ a l=>by rw [aaU];exact acS (aaY l hC)
theorem cr(C:Cx base nm env Y)(R:Rel Y g σ s.heap)(hi:bC nm x=some i)(hv:RelV Y.n g av v)
(hQ:∀s',Kb Y.lo Y.n s.heap s'.heap->Rel Y g (σ.put i av) s'.heap->a9 s s'->Q () s'):acn (acr prog w) A (ajI env x v) Q E s:=by
 unfold bC at hi
 split at hi
 · rename_i hk
   simp only [afr,beq_iff_eq] at hk
   obtain ⟨l,hl,h1⟩:=C.slots x i hi
   have hp:(env.scope.kind==.class||(env.scope.kind==.module&&env.locals !=env.globals))=false:=by simp [C.kind]
   rcases h1 with ⟨rfl,gH⟩ | ⟨c,rfl,wV,J8⟩
   · obtain ⟨f,hf,_⟩:=R.ns env.locals (R.dv _ _ _ hl)
     refine agK gH hf (λ h' hn hs=>?_) hp
     exact hQ _ (Kb.but hs (R.low _ (.inl (R.dv _ _ _ hl)))) (R.Fd hl hv hf hn hs) ⟨rfl,rfl,rfl⟩
   · obtain ⟨ov,yE,_⟩:=R.cell i c hl
     have Sl:env.kindOf x=some .cell:=by
      rw [C.names x] at hk
      rcases hk with hk | hk
      · rcases J8 with q | q <;> rw [hk] at q <;> cases q
      · exact hk
     refine ahE C.kind Sl wV yE (λ h' hn hs=>?_)
     exact hQ _ (Kb.but hs (R.low _ (.inr (.inl (bT hl))))) (R.setCell hl hv hn hs) ⟨rfl,rfl,rfl⟩
 · cases hi
end
section
variable{prog:aaq}{w:acb}{A:adn}{Y:Lay}{g:Gh}{σ:bB}{s:aav}{d:Nat}{base:ac2}{nm:NI}{env:Env}{RF:cV}
noncomputable def FlR(n:Nat)(g:Gh):Option AV->agT->Prop
 | none,f=>f=.next
 | some x,f=>∃v,f=.ret v∧RelV n g x v
noncomputable def SS(prog:aaq)(w:acb)(d:Nat)(base:ac2)(RF:cV)(env:Env)(Y:Lay)(t:Sem agT)(ev:Nat->bB->yK):Prop:=
 ∀n A s g σ σ' fl,jX d Y.fr A->Rel Y g σ s.heap->ev n σ=some (σ',fl)->∀(E:aas->aav->Prop) (Q:agT->aav->Prop),
  (∀f s' g',Kb Y.lo Y.n s.heap s'.heap->g.le g'->Rel Y g' σ' s'.heap->a9 s s'->FlR Y.n g' fl f->Q f s')->acn (acr prog w) A t Q E s
noncomputable abbrev lM(prog:aaq)(w:acb)(d:Nat)(base:ac2)(RF:cV)(env:Env)(Y:Lay)(st:agH)(is:IS):Prop:=SS prog w d base RF env Y (exec st env) (λ n σ=>AK RF n is σ)
noncomputable abbrev NK(prog:aaq)(w:acb)(d:Nat)(base:ac2)(RF:cV)(env:Env)(Y:Lay)(AO:List agH)(Sn:eU):Prop:=SS prog w d base RF env Y (aiF AO env) (λ n σ=>bK RF n Sn σ)
theorem d3(C:Cx base nm env Y):ajX env=false:=by unfold ajX;erw [C.kind];rfl
theorem Vk{st:agH}:lM prog w d base RF env Y st .bad:=by
 intro n A s g σ σ' fl hA R h
 exact aw h
theorem cj(h:kU v=false):ahe v t l env=pure false:=by
 refine d5 (P:=λ v e=>tG v=false->ahe e t l env=pure false) (λ v h=>?_) v h
 cases v with
 | comp _ _ _ _=>exact e8 h.symm
 | other _=>exact e8 h.symm
 | _=>rfl
theorem w0(hx:∃a,a∈Y.dO∧Y.n≤a)(C:Cx base nm env Y)(hi:bC nm x=some i)(hv:SE prog w d base RF nm env Y v e)(hs:ahe v (some (.Name x px)) pos.line env=pure false):
 lM prog w d base RF env Y (.Assign [.Name x px] v pos) (.asg i e):=by
 intro n A s g σ σ' fl hA R h E Q hQ
 skip
 (refine bS h ?_;clear h;intro a ha h)
 cases h
 refine afQ ((hv A s g σ a hA R ha).then λ u s₁ aJ k₁ aW aO aP bL=>?_) hs
 exact cr C aO hi bL λ s₂ bg aF aX=>hQ .next s₂ aJ ((R.kb hx k₁).trans bg aF) aW aF (aP.trans aX) rfl
theorem uO(C:Cx base nm env Y)(R:Rel Y g σ s.heap)(hi:bC nm x=some i)(hv:RelV Y.n g av v)
(hQ:∀s' a,a∈Y.bw g->aeJ a s.heap s'.heap->Kb Y.lo Y.n s.heap s'.heap->Rel Y g (σ.put i av) s'.heap->a9 s s'->Q () s'):acn (acr prog w) A (ajI env x v) Q E s:=by
 unfold bC at hi
 split at hi
 · rename_i hk
   simp only [afr,beq_iff_eq] at hk
   obtain ⟨l,hl,h1⟩:=C.slots x i hi
   have hp:(env.scope.kind==.class||(env.scope.kind==.module&&env.locals !=env.globals))=false:=by simp [C.kind]
   rcases h1 with ⟨rfl,gH⟩ | ⟨c,rfl,wV,J8⟩
   · obtain ⟨f,hf,_⟩:=R.ns env.locals (R.dv _ _ _ hl)
     have hm:env.locals∈Y.bw g:=au.mpr (.inl (R.dv _ _ _ hl))
     refine agK gH hf (λ h' hn hs=>?_) hp
     exact hQ _ _ hm hs (Kb.but hs (R.low _ (.inl (R.dv _ _ _ hl)))) (R.Fd hl hv hf hn hs) ⟨rfl,rfl,rfl⟩
   · obtain ⟨ov,yE,_⟩:=R.cell i c hl
     have hm:c∈Y.bw g:=au.mpr (.inr (.inl (bT hl)))
     have Sl:env.kindOf x=some .cell:=by
      rw [C.names x] at hk
      rcases hk with hk | hk
      · rcases J8 with q | q <;> rw [hk] at q <;> cases q
      · exact hk
     refine ahE C.kind Sl wV yE (λ h' hn hs=>?_)
     exact hQ _ _ hm hs (Kb.but hs (R.low _ (.inr (.inl (bT hl))))) (R.setCell hl hv hn hs) ⟨rfl,rfl,rfl⟩
 · cases hi
theorem Kn(hs:∃a,a∈Y.dO∧Y.n≤a)
(C:Cx base nm env Y)(hi:bC nm x=some i)(zY:eI nm scope y=true)(gi:dM iter=true)(hI:SI prog w d base RF nm env Y iter ii)
(hT:∀cl Ca H,Y.n≤Ca->Cx base (bJ nm scope y) (adh scope cl Ca env) ((Y.more Ca y).with H)->J9 prog w d base RF (bJ nm scope y) (adh scope cl Ca env) ((Y.more Ca y).with H) ifs its)
(hE:∀cl Ca H,Y.n≤Ca->Cx base (bJ nm scope y) (adh scope cl Ca env) ((Y.more Ca y).with H)->SE prog w d base RF (bJ nm scope y) (adh scope cl Ca env) ((Y.more Ca y).with H) elt ie)
(O4:ahe (.ListComp elt [⟨.Name y py,iter,ifs,0⟩] scope G6) (some (.Name x px)) pos.line env=pure true):
 lM prog w d base RF env Y (.Assign [.Name x px] (.ListComp elt [⟨.Name y py,iter,ifs,0⟩] scope G6) pos) (.asg i (.comp ie ii its)):=by
 intro n A s g σ σ' fl hA R h E Q hQ
 skip
 (refine bS h ?_;clear h;intro a ha h)
 cases h
 (refine aC ha ?_;clear ha;intro items Fn ha)
 (refine aC ha ?_;clear ha;intro ys hy ha)
 obtain ⟨hc,rfl⟩:=aK ha
 erw [alh _ _ _ _ O4]
 refine aaI (wpAny_standAt (aaI ?_))
 show acn _ A (do let _ ←aid (.ListComp elt [⟨.Name y py,iter,ifs,0⟩] scope G6) scope env _ (ak7 []) false (eval iter env) (some (ajN (.Name x px) env))) _ _ s
 refine aaI (wpAny_mono (AJ (use:=some (ajN (.Name x px) env)) (Q:=λ V s'=>Q .next s') (E:=E) hs C zY gi hI hT hE hA R Fn hy (of_decide_eq_true hc)
  λ s' g' D Ca k l R' m v hn uK hz hm=>?_) (λ V s' hq=>ac3 (ac3 hq)) λ V V e=>e)
 obtain ⟨mm,hn⟩:=hn
 show acn _ A (ajN (.Name x px) env (.ref D)) _ _ _
 refine afP (uO C R' hi v λ s₂ b hb hsb bg aF aX=>?_)
 refine ⟨mm,hn.sameBut hsb (λ q=>hm (q▸hb)),λ h' jo=>?_⟩
 refine hQ .next {s₂ with heap:=h'} g' (λ a o bD e=>by
  have cM:a≠Ca:=λ q=>by subst q;rw [uK] at e;cases e
  rcases ((R.kb hs k).trans bg aF) a o bD e with ⟨sl,e1,n1⟩ | ⟨ho,AP,t,ht,hP,c,hc,hg,c',oc,vs,tt,q,ZN,hd,hv⟩
  · exact .inl ⟨sl,jo.extBut a _ cM e1,n1⟩
  · cases q
    refine .inr ⟨ho,AP,t,ht,hP,c,hc,jo.extBut a _ cM hg,c,oc,vs,tt,rfl,jo.extBut c _ (λ q=>?_) ZN,hd,hv⟩
    subst q
    exact aF.jD hz t ht (hP▸hg)) l (aF.yJ hm hz jo (R.OV uK) (R.OW uK)) ((m.trans aX).trans ⟨rfl,rfl,rfl⟩) rfl
theorem Ko(C:Cx base nm env Y)(hs:∃a,a∈Y.dO∧Y.n≤a)(hi:bC nm x=some i):lM prog w d base RF env Y (.Assign [.Name x px] (.List [] p) pos) (.own i):=by
 intro n A s g σ σ' fl hA R h E Q hQ
 cases h
 have hn:Y.n≤s.heap.objs.size:=dG R (aR.refl _) hs R
 refine afQ (wpAny_List ?_) (cj rfl)
 show acn _ _ (spliced []) _ _ _
 refine adt ⟨adV _,?_⟩
 obtain ⟨g',l',tH,R'⟩:=R.Jo (xs:=[]) (vs:=[]) hn .nil (e:=0)
 refine cr C (s:={s with heap:=_}) R' hi (.own tH) λ s₂ bg aF aX=>?_
 exact hQ .next s₂ g' (Kb.trans (Kb.ks λ V V e=>act _ e) bg aF) l' aF ⟨aX.1,aX.2,aX.3⟩ rfl
theorem Ft(R:Rel Y g σ s.heap)(hv:RelV Y.n g (.tup [a,b]) v):∃t G7 yL,v=.ref t∧s.heap.IsTuple t #[G7,yL]∧RelV Y.n g a G7∧RelV Y.n g b yL:=by
 obtain ⟨t,vs,rfl,ht,nV⟩:=lJ R hv
 cases nV with
 | cons h1 h2=>
   cases h2 with
   | cons h3 h4=>cases h4;exact ⟨t,_,_,rfl,ht,h1,h3⟩
theorem fy(h:fw nm x=some i):bC nm x=some i:=by
 unfold fw at h
 unfold bC
 split at h
 · rename_i e;simp only [e,Bool.true_or,if_true];exact h
 · cases h
theorem Dk(hx:∃a,a∈Y.dO∧Y.n≤a)(C:Cx base nm env Y)(hi:fw nm x=some i)(hj:fw nm y=some j)(hv:SE prog w d base RF nm env Y v e)
(hs:ahe v (some (.Tuple [.Name x px,.Name y py] k tp)) pos.line env=pure false)(hw:ag8 [.Tuple [.Name x px,.Name y py] k tp] v env=pure none):
 lM prog w d base RF env Y (.Assign [.Tuple [.Name x px,.Name y py] k tp] v pos) (.nx i j e):=by
 intro n A s g σ σ' fl hA R h E Q hQ
 skip
 (refine aC h ?_;clear h;intro a ha h)
 split at h
 · cases h
   refine Assign_Tuple ((hv A s g σ _ hA R ha).then λ u s₁ aJ k₁ aW aO aP bL=>?_) hs hw
   obtain ⟨t,G7,yL,rfl,ht,h1,h2⟩:=Ft aO bL
   refine wpAny_assign_Tuple hA.hand ht rfl rfl λ h' he=>?_
   have kp:KS s₁.heap h':=λ b o q=>he b o (acS (acD q)) q
   show acn _ A (akD [ajN (.Name x px) env,ajN (.Name y py) env] [G7,yL]) _ E _
   refine aaI (ahD (afP (cr C (s:={s₁ with heap:=h'}) (aO.keep kp) (fy hi) h1 λ s₂ bg aF aX=>?_)))
   refine aaI (ahD (afP (cr C aF (fy hj) h2 λ ci de bW cW=>?_)))
   exact ac3 (hQ .next ci aJ ((((R.kb hx k₁).trans (Kb.ks kp) (aO.keep kp)).trans bg aF).trans de bW) aW bW ((aP.trans ⟨aX.1,aX.2,aX.3⟩).trans cW) rfl)
 · cases h
theorem Kp(h:i≠j):(σ.put j b).put i a=(σ.put i a).put j b:=by
 unfold bB.put
 simp only [List.set_comm _ _ h.symm]
theorem yM(hx:∃a,a∈Y.dO∧Y.n≤a)(C:Cx base nm env Y)(yw:i≠j)(hi:fw nm x=some i)(hj:fw nm y=some j)(hv:SE prog w d base RF nm env Y v e)
(hs:ahe v (some (.Tuple [.Name x px,.Name y py] k tp)) pos.line env=pure false)(hw:ag8 [.Tuple [.Name x px,.Name y py] k tp] v env=pure (some [x,y])):
 lM prog w d base RF env Y (.Assign [.Tuple [.Name x px,.Name y py] k tp] v pos) (.nx i j e):=by
 intro n A s g σ σ' fl hA R h E Q hQ
 skip
 (refine aC h ?_;clear h;intro a ha h)
 split at h
 · cases h
   refine Assign_Tuple_swapped (names:=[x,y]) ((hv A s g σ _ hA R ha).then λ u s₁ aJ k₁ aW aO aP bL=>?_) hs hw
   obtain ⟨t,G7,yL,rfl,ht,h1,h2⟩:=Ft aO bL
   have hun:=wpAny_unpackItems_tuple (prog:=prog) (w:=w) (A:=A) (E:=E) (Q:=λ items s₂=>acn (acr prog w) A (akD [λ u=>alG env y u,λ u=>alG env x u] items.reverse) (λ V=>Q .next) E s₂) hA.hand ht
   refine hun λ h' he=>?_
   have kp:KS s₁.heap h':=λ b o q=>he b o (acS (acD q)) q
   show acn _ A (akD [λ u=>alG env y u,λ u=>alG env x u] [yL,G7]) _ E _
   refine aaI (ahD (wpAny_bindName (cr C (s:={s₁ with heap:=h'}) (aO.keep kp) (fy hj) h2 λ s₂ bg aF aX=>?_)))
   refine aaI (ahD (wpAny_bindName (cr C aF (fy hi) h1 λ ci de bW cW=>?_)))
   rw [Kp yw] at bW
   exact ac3 (hQ .next ci aJ ((((R.kb hx k₁).trans (Kb.ks kp) (aO.keep kp)).trans bg aF).trans de bW) aW bW ((aP.trans ⟨aX.1,aX.2,aX.3⟩).trans cW) rfl)
 · cases h
theorem pp(R:Rel Y g σ s.heap)(hv:RelV Y.n g (.own m) v)(h:σ.own[m]?=some xs):∃a vs,v=.ref a∧g.ρ[m]?=some a∧s.heap.PlainList a (adE vs)∧aq Y.n g xs vs:=by
 cases hv with
 | own hk=>
   obtain ⟨vs,h1,h2⟩:=R.own _ _ hk
   rw [h] at h2
   exact ⟨_,vs,rfl,hk,h1,h2⟩
theorem Kq(hx:∃a,a∈Y.dO∧Y.n≤a)(hv:SE prog w d base RF nm env Y v e):lM prog w d base RF env Y (.Return (some v) pos) (.ret e):=by
 intro n A s g σ σ' fl hA R h E Q hQ
 skip
 (refine bS h ?_;clear h;intro a ha h)
 cases h
 refine aft ((hv A s g σ a hA R ha).then λ u s₁ aJ k₁ aW aO aP bL=>?_)
 exact hQ _ s₁ aJ (R.kb hx k₁) aW aO aP ⟨u,rfl,bL⟩
theorem Kr:lM prog w d base RF env Y (.Return none pos) (.ret .none):=by
 intro n A s g σ σ' fl hA R h E Q hQ
 cases h
 exact wpAny_Return_none (hQ _ s g (Kb.refl _ _) (Gh.le.refl _) R (a9.refl _) ⟨_,rfl,.none⟩)
theorem aai(hx:∃a,a∈Y.dO∧Y.n≤a)(ht:ST prog w d base RF nm env Y t it)(ha:NK prog w d base RF env Y a ia)(hb:NK prog w d base RF env Y b ib):
 lM prog w d base RF env Y (.If t a b pos) (.ifs it ia ib):=by
 intro n A s g σ σ' fl hA R h E Q hQ
 replace h:((jV RF it σ).bind λ c=>if c=true then bK RF n ia σ else bK RF n ib σ)=some (σ',fl):=h
 refine aC h λ c hc h=>?_
 refine alA (ht A s g σ c hA R hc E _ λ s₁ aJ k₁ aW aO aP=>?_)
 split
 · rename_i e
   rw [if_pos e] at h
   exact ha n A s₁ aJ σ σ' fl hA aO h E Q λ f s₂ bu bg bk aF aX wt=>hQ f s₂ bu ((R.kb hx k₁).trans bg aF) (aW.trans bk) aF (aP.trans aX) wt
 · rename_i e
   rw [if_neg e] at h
   exact hb n A s₁ aJ σ σ' fl hA aO h E Q λ f s₂ bu bg bk aF aX wt=>hQ f s₂ bu ((R.kb hx k₁).trans bg aF) (aW.trans bk) aF (aP.trans aX) wt
theorem O6:NK prog w d base RF env Y [] .nil:=by
 intro n A s g σ σ' fl hA R h E Q hQ
 cases h
 exact aew (hQ _ s g (Kb.refl _ _) (Gh.le.refl _) R (a9.refl _) rfl)
theorem Ks{st:agH}{r:List agH}{is:IS}{ir:eU}(h1:lM prog w d base RF env Y st is)(h2:NK prog w d base RF env Y r ir):NK prog w d base RF env Y (st::r) (.cons is ir):=by
 intro n A s g σ σ' fl hA R h E Q hQ
 skip
 obtain ⟨⟨AQ,AR⟩,h0,h⟩:=adD.mp h
 refine aeN (h1 n A s g σ AQ AR hA R h0 E _ λ f s₁ aJ k₁ aW aO aP Kt=>?_)
 cases AR with
 | none=>
   cases Kt
   exact h2 n A s₁ aJ AQ σ' fl hA aO h E Q λ f s₂ bu bg bk aF aX wt=>hQ f s₂ bu (k₁.trans bg aF) (aW.trans bk) aF (aP.trans aX) wt
 | some x=>
   obtain ⟨v,rfl,hv⟩:=Kt
   cases h
   exact hQ _ s₁ aJ k₁ aW aO aP ⟨v,rfl,hv⟩
end
section
set_option tactic.hygienic true
variable{prog:aaq}{w:acb}{A:adn}{Y:Lay}{g:Gh}{σ:bB}{s:aav}{d:Nat}{base:ac2}{nm:NI}{env:Env}{RF:cV}
theorem mr{l:abh}{items:Array aas}{k:Int}{t:Tok}{v:aas}{Q:Unit->aav->Prop}{E:aas->aav->Prop}(hl:s.heap.PlainList l items)
(h0:0≤k)(aaj:k < 2 ^ 63)(hn:k < items.size)
(hQ:∀h',h'.PlainList l (items.setIfInBounds k.toNat v)->aeJ l s.heap h'->Q () {s with heap:=h'}):
 acn (acr prog w) A (setItem (.ref l) (.int k t) v) Q E s:=by
 obtain ⟨ne,ho⟩:=id hl
 have hT:=hl.isList.typeIs
 unfold setItem
 try with_reducible refine ahD ?_
 first | refine aaI (ac3 ?_) | skip
 refine aaI (wpAny_sequenceKey hT ⋯ ?_)
 refine aaI (akO (name:=ac5 "__setitem__") hT slot_list_setitem
  (wpAny_call_entry slot_list_setitem hT entry_list_setitem ?_ (args_list_setitem _ _ _)))
 show acn _ _ (Builtin.List.listSubscript? (.int k t) >>=_) _ _ s
 refine aaI (wpAny_listSubscript_int (fitsIndex_of h0 aaj) ?_)
 clear aaj
 obtain ⟨j,rfl⟩:=agr h0
 have hj:j < items.size:=%[a<b,(qC a)⊂(qC b)|(aU hn)]
 have hx':items[j]?=some items[j]:=Array.getElem?_eq_getElem hj
 show acn _ _ ((seqItemAt l j >>=λ r=>pure (r.map (j,·))) >>=_) _ _ s
 refine aaI (aaI (wpAny_seqItemAt ho rfl (ac3 ?_)))
 erw [hx']
 show acn _ _ (setSeqItemAt l j v >>=_) _ _ s
 have aak:(s.heap.update l (aiQ (·.setIfInBounds j v))).PlainList l (items.setIfInBounds j v):=
  ⟨_,af7 _ ho rfl⟩
 refine aaI (wpAny_setSeqItemAt ho rfl ?_)
 first
  | exact aaI (ac3 (ac3 ⟨.none,rfl,ac3 (hQ _ aak (aga ..))⟩))
  | exact ac3 ⟨.none,rfl,ac3 (hQ _ aak (aga ..))⟩
theorem uP(R:Rel Y g σ s.heap){m:Nat}{a:abh}(tH:g.ρ[m]?=some a):Y.n≤a:=R.low a (.inr (.inr (acR tH)))
theorem Vl{o i v:acU}{p pos:Pos}{io ii ie:IE}(rW:∃a,a∈Y.dO∧Y.n≤a)(ho:SE prog w d base RF nm env Y o io)(hi:SE prog w d base RF nm env Y i ii)(hv:SE prog w d base RF nm env Y v ie)(hc:kU v=false):
 lM prog w d base RF env Y (.Assign [.Subscript o i p] v pos) (.set io ii ie):=by
 intro n A s g σ σ' fl hA R h E Q hQ
 skip
 (refine aC h ?_;clear h;intro x hx h)
 (refine aC h ?_;clear h;intro ov yE h)
 (refine aC h ?_;clear h;intro kv hkv h)
 cases ov with
 | own m=>
   cases kv with
   | int z=>
     (refine aC h ?_;clear h;intro xs R6 h)
     split at h
     · rename_i hz
       cases h
       refine ak4 ((hv A s g σ x hA R hx).then λ u s₁ aJ k₁ aW aO aP bL=>(ho A s₁ aJ σ _ hA aO yE).then λ yL s₂ bu bg bk aF aX cE=>
        (hi A s₂ bu σ _ hA aF hkv).then λ aig ci gZ de fW bW cW i6=>?_) (cj hc)
       (refine z8 (pp bW (cE.mono fW) R6) λ a vs ju tH hl nV=>?_;obtain rfl:=ju)
       apply RelV.cp i6;intro _
       have e:=nV.length
       refine mr hl hz.1 %[a⊂(qL 2 63),bG (0⊆a) (bG (a⊂(qC a)) (a⊂(qL 2 62)))|(T9 hz)] (by simp;exact %[a⊂(qC a),bG (0⊆a) (bG (a⊂(qC b)) (a⊂(qL 2 62))),b=a|IM hz e]) λ h' Vm jo=>?_
       have yN:h'.PlainList a (vs.set z.toNat u).toArray:=by simpa using Vm
       exact hQ .next {ci with heap:=h'} gZ (Kb.trans (R.kb rW ((k₁.trans bg).trans de)) (Kb.but jo (uP bW tH)) (bW.dk tH (aq.set ((bL.mono bk).mono fW) nV) yN jo)) ((aW.trans bk).trans fW) (bW.dk tH (aq.set ((bL.mono bk).mono fW) nV) yN jo) (((aP.trans aX).trans cW).trans ⟨rfl,rfl,rfl⟩) rfl
     · cases h
   | _=>cases h
 | _=>cases h
theorem uQ(C:Cx base nm env Y)(R:Rel Y g σ s.heap)(hi:bC nm x=some i)(h:σ.vars[i]?.getD none=some av)
(hQ:∀v,RelV Y.n g av v->Q v s):acn (acr prog w) A (loadName env x) Q E s:=by
 unfold bC at hi
 split at hi
 · rename_i hk
   simp only [afr,beq_iff_eq] at hk
   obtain ⟨l,hl,h1⟩:=C.slots x i hi
   rcases h1 with ⟨rfl,hk⟩ | ⟨c,rfl,cU,J8⟩
   · obtain ⟨f,hf,hs⟩:=R.ns env.locals (R.dv _ _ _ hl)
     have h2:=hs i x hl
     rw [h] at h2
     cases JN:f x with
     | none=>rw [JN] at h2;cases h2
     | some v=>
       rw [JN] at h2
       cases h2 with
       | some h3=>exact ahF C.kind hk hf JN (hQ v h3)
   · obtain ⟨ov,yE,h2⟩:=R.cell i c hl
     have Sl:env.kindOf x=some .cell:=by
      rw [C.names x] at hk
      rcases hk with hk | hk
      · rcases J8 with q | q <;> rw [hk] at q <;> cases q
      · exact hk
     rw [h] at h2
     cases h2 with
     | some h3=>exact ai2 C.kind Sl cU yE (hQ _ h3)
 · cases hi
theorem Vn(rW:∃a,a∈Y.dO∧Y.n≤a)(C:Cx base nm env Y)(hi:bC nm x=some i)(hv:SE prog w d base RF nm env Y v e):
 lM prog w d base RF env Y (.AugAssign (.Name x px) op v pos) (.aug i op e):=by
 intro n A s g σ σ' fl hA R h E Q hQ
 skip
 (refine aC h ?_;clear h;intro old hold h)
 (refine aC h ?_;clear h;intro a ha h)
 (refine bS h ?_;clear h;intro y hy h)
 cases h
 refine aiO (uQ C R hi hold λ aal AT=>(hv A s g σ a hA R ha).then λ u s₁ aJ k₁ aW aO aP bL=>(O3 aO (AT.mono aW) bL hy).then λ z s₂ bu bg bk aF aX cE=>?_)
 exact cr C aF hi cE λ ci de bW cW=>hQ .next ci bu ((R.kb rW (k₁.trans bg)).trans de bW) (aW.trans bk) bW ((aP.trans aX).trans cW) rfl
theorem Vo{o e:acU}{apos pos n6:Pos}{io ie:IE}(rW:∃a,a∈Y.dO∧Y.n≤a)(C:Cx base nm env Y)(hline:(apos.endLine==pos.line)=true)(Aw:pe o=true)(hn:ct [e])
(ho:SE prog w d base RF nm env Y o io)(he:SE prog w d base RF nm env Y e ie):lM prog w d base RF env Y (.Expr (.Call (.Attribute o (ac5 "append") apos) [e] [] pos) n6) (.app io ie):=by
 intro n A s g σ σ' fl hA R h E Q hQ
 skip
 (refine aC h ?_;clear h;intro ov yE h)
 (refine aC h ?_;clear h;intro x hx h)
 split at h
 · rename_i m
   (refine aC h ?_;clear h;intro xs R6 h)
   split at h
   · rename_i bY
     cases h
     refine ahp (afe (d8 Aw) (by erw [aM hn ..];rfl) hline ((ho A s g σ _ hA R yE).then λ u s₁ aJ k₁ aW aO aP bL=>?_)) (d3 C) rfl
     (refine z8 (pp aO bL R6) λ a vs ju tH hl nV=>?_;obtain rfl:=ju)
     refine ⟨"list","list.append",aji,slot_list_append,ak5,hl.isList.typeIs,λ b e=>by cases e;obtain ⟨z,q⟩:=hl;exact ⟨_,q,rfl⟩,?_⟩
     erw [aM hn ..]
     refine aee rfl (ac4 (ac0 ((he A s₁ aJ σ _ hA aO hx).then λ yL s₂ bu bg bk aF aX cE=>adt ?_)))
     have e1:=nV.length
     refine ahd (bg.plain hl (aO.o6 tH)) (λ h' Vm jo=>?_) (by simp;exact %[a≤b,c≤b,c=a|cf bY e1])
     have yN:h'.PlainList a (vs++[yL]).toArray:=by simpa using Vm
     have RS:=aF.dk (bk.2 _ _ tH) ((nV.mono bk).append (.cons cE .nil)) yN jo
     exact hQ .next {s₂ with heap:=h'} bu (Kb.trans (R.kb rW (k₁.trans bg)) (Kb.but jo (uP aO tH)) RS) (aW.trans bk) RS ((aP.trans aX).trans ⟨rfl,rfl,rfl⟩) rfl
   · cases h
 · cases h
theorem Vp{o:acU}{apos pos n6:Pos}{io:IE}(rW:∃a,a∈Y.dO∧Y.n≤a)(C:Cx base nm env Y)(hline:(apos.endLine==pos.line)=true)(Aw:pe o=true)
(ho:SE prog w d base RF nm env Y o io):lM prog w d base RF env Y (.Expr (.Call (.Attribute o (ac5 "reverse") apos) [] [] pos) n6) (.rev io):=by
 intro n A s g σ σ' fl hA R h E Q hQ
 skip
 (refine aC h ?_;clear h;intro ov yE h)
 split at h
 · rename_i m
   (refine aC h ?_;clear h;intro xs R6 h)
   split at h
   · rename_i bY
     cases h
     refine ahp (afe (d8 Aw) rfl hline ((ho A s g σ _ hA R yE).then λ u s₁ aJ k₁ aW aO aP bL=>?_)) (d3 C) rfl
     (refine z8 (pp aO bL R6) λ a vs ju tH hl nV=>?_;obtain rfl:=ju)
     refine ⟨"list","list.reverse",aji,alm,F.type_list_reverse,hl.isList.typeIs,λ b e=>by cases e;obtain ⟨z,q⟩:=hl;exact ⟨_,q,rfl⟩,?_⟩
     refine aee rfl (akY ?_)
     have e1:=nV.length
     obtain ⟨z,hg⟩:=id hl
     refine aiA alm hl.isList.typeIs F.entry_list_reverse (F.args_list_reverse_1 _) (AutoListH.list_reverse_list_0 a vs.toArray z (by simp;exact %[a≤b,c≤b,c=a|cf bY e1])) ⟨hg,?_⟩
     have jo:aeJ a s₁.heap (s₁.heap.update a (aiQ λ x=>x.reverse)):=aga ..
     have yN:(s₁.heap.update a (aiQ λ x=>x.reverse)).PlainList a vs.reverse.toArray:=by
      have e2:=af7 (aiQ λ x=>x.reverse) hg rfl
      unfold aiQ at e2
      simp only [List.reverse_toArray] at e2
      exact ⟨_,e2⟩
     have RS:=aO.dk tH nV.reverse yN jo
     exact hQ .next _ aJ (Kb.trans (R.kb rW k₁) (Kb.but jo (uP aO tH)) RS) aW RS (aP.trans ⟨rfl,rfl,rfl⟩) rfl
   · cases h
 · cases h
end
section
variable{prog:aaq}{w:acb}{A:adn}{Y:Lay}{g:Gh}{σ:bB}{s:aav}{d:Nat}{base:ac2}{nm:NI}{env:Env}{RF:cV}
theorem Cx.hold(C:Cx base nm env Y)(H:List (abh×Obj)):Cx base nm env (Y.with H):=⟨C.kind,C.names,C.slots,C.dO,C.ax,C.keep⟩
theorem AU(h:wj RF ii σ=some items):Ao RF ii σ=some items:=by
 cases ii with
 | exp e=>
   replace h:((bj RF e σ).bind lH)=some items:=h
   show ((bj RF e σ).bind λ x=>jE σ x)=some items
   refine aC h λ x hx h=>?_
   rw [hx]
   show jE σ x=some items
   cases x <;> first | exact h | exact aw h
 | _=>exact h
noncomputable def Vq(RF:cV)(Y:Lay)(n i:Nat)(ib:eU)(items:List AV)(r:bB×Option AV)(s₁:aav)(aJ:Gh)(St:Nat->ac2->Prop)(I:abh)(m:Nat)(s':aav):Prop:=∀G:Prop,(∀k g' oI G8,m=items.length+1 - k->k≤items.length->St k s'.heap->Kb Y.lo Y.n s₁.heap s'.heap->aJ.le g'->Rel (Y.with ((I,oI)::Y.hold)) g' G8 s'.heap->a9 s₁ s'->
 uM (λ x σ=>bK RF n ib (σ.put i x)) (items.drop k) G8=some r->G)->G
theorem Vr(hs:∃a,a∈Y.dO∧Y.n≤a)(C:Cx base nm env Y)(hi:bC nm x=some i)(gi:dM it=true)
(hI:SI prog w d base RF nm env Y it ii)(hB:∀H,NK prog w d base RF env (Y.with H) body ib):lM prog w d base RF env Y (.For (.Name x px) it body [] pos) (.iS i ii ib):=by
 intro n A s g σ σ' fl hA R h E Q hQ
 refine aC (show (wj RF ii σ).bind _=_ from h) λ items tE h=>?_
 refine wpAny_For (hI A s g σ items true hA R (AU tE) (λ V=>tE) E _ λ s₁ aJ k₁ aW aO aP=>?_) (lL gi)
 intro o fp P St ho It GN
 have eJ:Y.n≤s₁.heap.objs.size:=dG R k₁ hs aO
 have aF:Rel (Y.with ((s₁.heap.objs.size,o)::Y.hold)) aJ σ (s₁.heap.push o):=Rel.gG (Y:=Y) (H:=Y.hold) aO ho eJ
 have kpu:Kb Y.lo Y.n s₁.heap (s₁.heap.push o):=Kb.ks λ V V e=>act _ e
 generalize s₁.heap.push o=hp at *
 generalize s₁.heap.objs.size=I at *
 have W:=It.walks A hA.hand
 have uR:∀{h h':ac2} {ga gb:Gh} {σa σb:bB} {oI:Obj},Rel (Y.with ((I,oI)::Y.hold)) ga σa h->Rel (Y.with ((I,oI)::Y.hold)) gb σb h'->aJ.le ga->ga.le gb->∀b∈fp,∀o,h.get? b=some o->h'.get? b=some o:=by
  intro h h' ga gb σa σb oI Ra Rb la lb b hb o e
  rcases It.nj rfl b hb with rfl | hz
  · exact (aam ((Ra.held (b,oI) (.head _)).symm.trans e))▸Rb.held (b,oI) (.head _)
  · obtain ⟨o',oQ⟩:=afC.mp hz
    exact (aam ((Ra.fJ _ _ (la.1 _ _ oQ)).symm.trans e))▸Rb.fJ _ _ (lb.1 _ _ (la.1 _ _ oQ))
 refine codeAny_forLoop (Vq RF Y n i ib items (σ',fl) s₁ aJ St I) ?_ (items.length+1)
  λ G f=>f 0 aJ o σ rfl (adV _) GN kpu (Gh.le.refl _) aF ⟨rfl,rfl,rfl⟩ h
 refine λ m s' H=>d6 λ Qa Ea na ea=>H _ λ k g' oI G8 hmk hk wp Sb l' R' m' hf=>?_
 by_cases bD:k < items.length
 · refine W.item k s' _ _ bD wp λ v gk tk U8 gI eg=>na _ _ (d6 λ Qb Eb nb V=>?_)
   obtain ⟨xk,XX,U9⟩:=It.rel k v bD U8
   rw [adr bD,aam ((aaF bD).symm.trans XX)] at hf
   obtain ⟨rr,uH⟩:=It.obj _ _ gI
   have dH:=R'.tF (h':=gk) eg uH
   have uI:Kb Y.lo Y.n s'.heap gk:=Kb.fI eg λ a ha=>by
    rw [aaU];exact acS (aaY ha eJ)
   refine afP (cr (C.hold _) (s:={s' with heap:=gk,toks:=tk}) dH hi (U9.mono l') λ ci de dB cW=>nb _ _ ?_)
   have po:St (k+1) ci.heap:=W.frame _ _ _ gI (uR dH dB l' (Gh.le.refl _))
   refine aC (show (bK RF n ib (G8.put i xk)).bind _=_ from hf) λ p h2 hf=>?_
   obtain ⟨uS,AW⟩:=p
   refine hB ((I,rr)::Y.hold) n A ci g' (G8.put i xk) uS AW hA dB h2 _ _ λ f eo yF jH lX gm fb aap=>?_
   have AX:Kb Y.lo Y.n s₁.heap eo.heap:=((Sb.trans uI dH).trans de dB).trans jH gm
   have nZ:a9 s₁ eo:=(m'.trans (⟨cW.1,cW.2,cW.3⟩ :a9 s' ci)).trans fb
   cases AW with
   | none=>
     cases aap
     exact ⟨_,nS hmk bD,λ G f=>f (k+1) yF rr uS rfl bD (W.frame _ _ _ po (uR dB gm l' lX)) AX (l'.trans lX) gm nZ hf⟩
   | some y=>
     obtain ⟨v',rfl,UW⟩:=aap
     cases hf
     exact hQ _ eo yF ((R.kb hs k₁).trans AX gm) ((aW.trans l').trans lX) (gm.gv λ V V V e=>e) (aP.trans nZ) ⟨v',rfl,UW⟩
 · obtain rfl:k=items.length:=ahC hk (alL bD)
   rw [ah2] at hf
   cases hf
   refine W.done s' _ _ wp λ gk tk eg=>na _ _ (aew ?_)
   have uI:Kb Y.lo Y.n s'.heap gk:=Kb.fI eg λ a ha=>by
    rw [aaU];exact acS (aaY ha eJ)
   have Rd:=R'.gv (h':=gk) λ b o' hb e=>eg b o' (λ q=>hb (aaU.mp q)) e
   exact hQ .next {s' with heap:=gk,toks:=tk} g' (((R.kb hs k₁).trans Sb R').trans uI Rd) (aW.trans l') Rd (aP.trans (m'.trans ⟨rfl,rfl,rfl⟩)) rfl
noncomputable def Vs(RF:cV)(Y:Lay)(n:Nat)(it:IT)(ib:eU)(r:bB×Option AV)(s:aav)(g:Gh)(m:Nat)(s':aav):Prop:=∀G:Prop,(∀g' G8,Kb Y.lo Y.n s.heap s'.heap->g.le g'->Rel Y g' G8 s'.heap->a9 s s'->G5 (jV RF it) (bK RF n ib) m G8=some r->G)->G
theorem Vt(hx:∃a,a∈Y.dO∧Y.n≤a)(hT:ST prog w d base RF nm env Y t it)(hB:NK prog w d base RF env Y body ib):lM prog w d base RF env Y (.While t body [] pos) (.whl it ib):=by
 intro n A s g σ σ' fl hA R h E Q hQ
 refine wpAny_While (codeAny_whileLoop (Vs RF Y n it ib (σ',fl) s g) ?_ n λ G f=>f g σ (Kb.refl _ _) (Gh.le.refl _) R (a9.refl _) h)
 refine λ m s' H=>d6 λ Qa Ea na ea=>H _ λ g' G8 kp l' R' m' hf=>?_
 cases m with
 | zero=>exact aw hf
 | succ m=>
   refine aC (show (jV RF it G8).bind _=_ from hf) λ c hc hf=>?_
   refine hT A s' g' G8 c hA R' hc _ _ λ s₁ aJ k₁ aW aO aP=>na _ _ ?_
   cases c with
   | true=>
     erw [if_pos rfl]
     refine aC (show (bK RF n ib G8).bind _=_ from hf) λ p h2 hf=>?_
     obtain ⟨uS,AW⟩:=p
     refine hB n A s₁ aJ G8 uS AW hA aO h2 _ _ λ f s₂ bu bg bk aF aX wt=>?_
     cases AW with
     | none=>cases wt;exact ⟨m,afc _,λ G f=>f bu uS ((kp.trans (R'.kb hx k₁) aO).trans bg aF) ((l'.trans aW).trans bk) aF ((m'.trans aP).trans aX) hf⟩
     | some y=>
       obtain ⟨v',rfl,UW⟩:=wt
       cases hf
       exact hQ _ s₂ bu ((kp.trans (R'.kb hx k₁) aO).trans bg aF) ((l'.trans aW).trans bk) aF ((m'.trans aP).trans aX) ⟨v',rfl,UW⟩
   | false=>
     erw [if_neg afE]
     cases hf
     exact aew (hQ .next s₁ aJ (kp.trans (R'.kb hx k₁) aO) (l'.trans aW) aO (m'.trans aP) rfl)
end
section
variable{prog:aaq}{w:acb}{A:adn}{Y:Lay}{g:Gh}{σ:bB}{s:aav}{d:Nat}{base:ac2}{nm:NI}{env:Env}{RF:cV}
theorem rv(C:Cx base nm env Y)(h:fw nm x=some i):env.kindOf x=some .local:=by
 unfold fw at h
 split at h
 · rename_i e;erw [←C.names x];exact eq_of_beq e
 · exact aw h
theorem AY(hb:env.blockKind=.function)(e1:env.kindOf x=some .local)(e2:env.kindOf y=some .local)(hxy:(x !=y)=true)(O4:uN px py vs=true):
 ag8 [.Tuple [.Name x px,.Name y py] k tp] (.Tuple vs r q) env=pure (some [x,y]):=by
 unfold uN at O4
 rw [aaQ,aaQ,aaQ,aaQ,decide_eq_true_eq,aeM,aeM,aeM] at O4
 obtain ⟨⟨⟨⟨h1,h2⟩,h3⟩,h4⟩,h5⟩:=O4
 have key:∀names:List Str,names=[x,y]->(if (names.length !=2||names.eraseDups.length !=names.length)=true then pure none else if vs.all (foldedForSure 8)=true then pure none else if vs.all (constantsAlone 8)=true then (do let _ ←(unsupported "assign.tuple-of-constant-expressions:order-of-the-stores":Sem Unit);pure (some names)) else pure (some names):Sem (Option (List Str)))=pure (some [x,y]):=by
  intro names hn
  subst hn
  have hd:([x,y]:List Str).eraseDups=[x,y]:=by
   have ZD:(y==x)=false:=by
    cases e:(y==x) with
    | false=>rfl
    | true=>have:=eq_of_beq e;subst this;rw [bne_self_eq_false] at hxy;exact e8 hxy
   erw [List.eraseDups_cons,adY,ZD]
   rfl
  erw [hd]
  exact (if_neg afE).trans ((if_neg (ne_true_of_eq_false h4)).trans (if_neg (ne_true_of_eq_false h5)))
 refine (if_neg (?_:¬((!(2==2||2==3)||vs.length !=2||env.blockKind !=.function)=true))).trans ((if_neg (?_:¬(vs.any Sf=true))).trans (key _ ?_))
 · erw [h1,hb];decide
 · exact ne_true_of_eq_false h2
 · refine (aj2 (b:=x) ?_).trans (congrArg (x::·) ((aj2 (b:=y) ?_).trans rfl))
   · show (if (env.kindOf x==some .local&&px.line==px.line)=true then some x else none)=some x
     exact if_pos (ahw.mpr ⟨beq_iff_eq.mpr e1,beq_self_eq_true _⟩)
   · show (if (env.kindOf y==some .local&&py.line==px.line)=true then some y else none)=some y
     exact if_pos (ahw.mpr ⟨beq_iff_eq.mpr e2,beq_iff_eq.mpr (eq_of_beq h3).symm⟩)
theorem yO(hc:kU v=false)(hv:Fs v=none):ag8 [.Tuple [.Name x px,.Name y py] k tp] v env=pure none:=by
 refine d5 (P:=λ v e=>tG v=false->Vj v=none->ag8 [.Tuple [.Name x px,.Name y py] k tp] e env=pure none) (λ v hc hv=>?_) v hc hv
 cases v with
 | tup _ _ _=>exact aw hv.symm
 | other _=>exact e8 hc.symm
 | _=>rfl
structure Vu (prog:aaq) (w:acb) (d:Nat) (base:ac2) (RF:cV) (k ke:Nat) (nm:NI) (env:Env) (Y:Lay):Prop where
 b:∀AO,NK prog w d base RF env Y AO (cg k ke nm AO)
theorem O7{st:agH}{o:Option IS}(h:∀is,o=some is->lM prog w d base RF env Y st is):lM prog w d base RF env Y st (o.getD .bad):=by
 cases o with
 | none=>exact Vk
 | some is=>exact h is rfl
theorem Ku{e:acU}{vs:List acU}{G:acU->Prop}(h:Fs e=some vs)(k:∀q p,G (.Tuple vs q p)):G e:=by
 refine d5 (P:=λ v e=>Vj v=some vs->G e) (λ v h=>?_) e h
 cases v with
 | tup _ q p=>obtain rfl:=aam h;exact k q p
 | _=>exact aw h
theorem G9{e:acU}{G:acU->Prop}(h:Dj e=true)(k:∀p,G (.List [] p)):G e:=by
 refine d5 (P:=λ v e=>Km v=true->G e) (λ v h=>?_) e h
 cases v with
 | lst es p=>
   cases es with
   | nil=>exact k p
   | cons _ _=>exact e8 h
 | _=>exact e8 h
section
variable(ka:wn prog w d base RF)(dw:∀f xs res,RF (.ref f) xs=some res->∃o fd,base.get? f=some o∧o.data=.func fd){ke:Nat}(O:NF base nm env Y)
include ka dw O
theorem O8(hi:bC nm x=some i)(he:dT ke nm v=some e):lM prog w d base RF env Y (.Assign [.Name x px] v pos) (.asg i e):=by
 cases hc:kU v with
 | false=>exact w0 O.hs O.C hi ((dp ka dw ke).e O he) (cj hc)
 | true=>
   have hE:=(dp ka dw ke).e O he
   cases ke with
   | zero=>exact aw he
   | succ k=>
     refine d5 (P:=λ v' q=>JB (jW k) nm v'=some e->tG v'=true->SE prog w d base RF nm env Y q e->lM prog w d base RF env Y (.Assign [.Name x px] q pos) (.asg i e)) (λ v he hc hE=>?_) v he hc hE
     cases v with
     | comp elt gens scope G6=>
       have hb:∃b,ahe (.ListComp elt gens scope G6) (some (.Name x px)) pos.line env=pure b:=⟨_,rfl⟩
       refine cL hb λ b hb=>?_
       cases b with
       | false=>exact w0 O.hs O.C hi hE hb
       | true=>
         revert hb
         exact lcK (dp ka dw k) O he (G:=λ gens e=>ahe (.ListComp elt gens scope G6) (some (.Name x px)) pos.line env=pure true->lM prog w d base RF env Y (.Assign [.Name x px] (.ListComp elt gens scope G6) pos) (.asg i e))
          λ y py iter ifs ii its ie' h1 h2 h3 h4 h5 hb=>Kn O.hs O.C hi h1 h2 h3 h4 h5 hb
     | other _=>exact aw he
     | _=>exact e8 hc
theorem Vv{x:Str}{px pos:Pos}{v:acU}{is:IS}(h:aae ke nm v x=some is):lM prog w d base RF env Y (.Assign [.Name x px] v pos) is:=by
 (refine aC h ?_;clear h;intro i hi h)
 cases he:Dj v with
 | true=>
   rw [he] at h
   obtain rfl:=aam h
   exact G9 (G:=λ v=>lM prog w d base RF env Y (.Assign [.Name x px] v pos) (.own i)) he λ p=>Ko O.C O.hs hi
 | false=>
   rw [he] at h
   (refine bF (n5 (show (dT ke nm v).map (λ e=>IS.asg i e)=some is from h)) λ e he cB=>?_;obtain rfl:=cB)
   exact O8 ka dw O hi he
theorem Vw{es:List acU}{k:Nat}{tp pos:Pos}{v:acU}{is:IS}(h:aaf ke nm v es=some is):lM prog w d base RF env Y (.Assign [.Tuple es k tp] v pos) is:=by
 refine ZK λ G kk=>?_
 refine aC h λ p h1 h=>aC h λ x h2 h=>aC h λ y h3 h=>aC h λ i hi h=>aC h λ j hj h=>aC h λ e he hh=>?_
 clear h
 obtain rfl:=Fg h1
 have Z:=(dp ka dw ke).e O he
 refine kk (gu (G:=λ a=>O2 v x y i j e a.pos p.2.pos=some is->lM prog w d base RF env Y (.Assign [.Tuple [a,p.2] k tp] v pos) is) h2 (λ px=>gu (G:=λ b=>O2 v x y i j e px b.pos=some is->lM prog w d base RF env Y (.Assign [.Tuple [.Name x px,b] k tp] v pos) is) h3 (λ py=>?_)) hh)
 have hb:env.blockKind=.function:=by unfold Env.blockKind;erw [O.C.kind];rfl
 unfold O2
 cases ht:Fs v with
 | some vs=>
   intro h
   refine eF h λ hc h=>?_
   obtain rfl:=aam h
   rw [aaQ,aaQ] at hc
   clear h
   revert Z
   refine Ku (G:=λ v=>SE prog w d base RF nm env Y v e->lM prog w d base RF env Y (.Assign [.Tuple [.Name x px,.Name y py] k tp] v pos) (.nx i j e)) ht λ q r Z=>?_
   exact yM O.hs O.C (bne_iff_ne.mp hc.1) hi hj Z rfl (AY hb (rv O.C hi) (rv O.C hj) hc.2.1 hc.2.2)
 | none=>
   intro h
   (refine eF h ?_;clear h;intro hc h)
   obtain rfl:=aam h
   rw [aaQ,aeM] at hc
   exact Dk O.hs O.C hi hj Z (cj hc.2) (yO hc.2 ht)
theorem O9(h:Sh ke nm args pos f=some is):lM prog w d base RF env Y (.Expr (.Call f args [] pos) n6) is:=by
 refine d5 (P:=λ v f=>Sg ke nm args pos v=some is->lM prog w d base RF env Y (.Expr (.Call f args [] pos) n6) is) (λ v h=>?_) f h
 cases v with
 | attr o name apos=>
   obtain ⟨hc,h⟩:=G4 h
   rw [aaQ] at hc
   (refine aC h ?_;clear h;intro a ha h)
   have Z:=(dp ka dw ke).e O ha
   cases h1:o9 args with
   | some e=>
     rw [h1] at h
     obtain ⟨hn,h⟩:=G4 h
     rw [aaQ,aeM] at hn
     refine bS h λ b hb cB=>?_
     obtain rfl:=cB
     erw [hZ h1,eq_of_beq hn.1]
     exact Vo O.hs O.C hc.1 hc.2 (uL hn.2) Z ((dp ka dw ke).e O hb)
   | none=>
     rw [h1] at h
     obtain ⟨hn,h⟩:=G4 h
     rw [aaQ] at hn
     obtain rfl:=aam h
     cases args with
     | nil=>erw [eq_of_beq hn.2];exact Vp O.hs O.C hc.1 hc.2 Z
     | cons _ _=>cases hn.1
 | _=>exact aw h
theorem Pa{rb:List agH->eU}(I:∀H AO,NK prog w d base RF env (Y.with H) AO (rb AO))(I0:∀AO,NK prog w d base RF env Y AO (rb AO)){st:agH}{is:IS}(h:Sj ke nm rb st=some is):lM prog w d base RF env Y st is:=by
 cases st with
 | Assign ts v p=>
   (refine aC h ?_;clear h;intro t h1 h)
   erw [hZ h1]
   refine d5 (P:=λ u t=>aag ke nm v u=some is->lM prog w d base RF env Y (.Assign [t] v p) is) (λ u h=>?_) t h
   cases u with
   | name x px=>exact Vv ka dw O h
   | tup es k tp=>exact Vw ka dw O h
   | sub o i sp=>
     obtain ⟨hc,h⟩:=Di h
     (refine aC h ?_;clear h;intro a ha h)
     (refine aC h ?_;clear h;intro b hb h)
     refine bS h λ c Aa cB=>?_
     obtain rfl:=cB
     exact Vl O.hs ((dp ka dw ke).e O ha) ((dp ka dw ke).e O hb) ((dp ka dw ke).e O Aa) hc
   | _=>exact aw h
 | AugAssign t op v p=>
   refine aC h λ x h1 h=>aC h λ i hi h=>bS h λ e he q=>?_
   obtain rfl:=q
   refine gu (G:=λ t=>lM prog w d base RF env Y (.AugAssign t op v p) (.aug i op e)) h1 λ px=>?_
   exact Vn O.hs O.C hi ((dp ka dw ke).e O he)
 | Expr e p=>
   refine d5 (P:=λ v e=>Si ke nm v=some is->lM prog w d base RF env Y (.Expr e p) is) (λ v h=>?_) e h
   cases v with
   | call f args yC pos=>
     cases yC with
     | nil=>exact O9 ka dw O h
     | cons _ _=>exact aw h
   | _=>exact aw h
 | Return o p=>
   cases o with
   | none=>cases h;exact Kr
   | some e=>refine bS h λ a ha cB=>?_
             obtain rfl:=cB;exact Kq O.hs ((dp ka dw ke).e O ha)
 | If t a b p=>
   refine bS h λ t' ht cB=>?_
   obtain rfl:=cB
   exact aai O.hs ((dp ka dw ke).t O ht) (I0 _) (I0 _)
 | For t it body orelse p=>
   obtain ⟨hc,h⟩:=G4 h
   rw [aaQ] at hc
   refine aC h λ x h1 h=>aC h λ i hi h=>bS h λ it' tE q=>?_
   obtain rfl:=q
   refine gu (G:=λ t=>lM prog w d base RF env Y (.For t it body orelse p) (.iS i it' (rb body))) h1 λ px=>?_
   cases orelse with
   | nil=>exact Vr O.hs O.C hi hc.2 ((dp ka dw ke).i O tE) λ H=>I H _
   | cons _ _=>cases hc.1
 | While t body orelse p=>
   cases orelse with
   | nil=>refine bS h λ t' ht cB=>?_
          obtain rfl:=cB;exact Vt O.hs ((dp ka dw ke).t O ht) (I0 _)
   | cons _ _=>exact aw h
 | _=>exact aw h
end
theorem Dl(ka:wn prog w d base RF)(dw:∀f xs res,RF (.ref f) xs=some res->∃o fd,base.get? f=some o∧o.data=.func fd)(ke k:Nat)(nm:NI)(env:Env)(Y:Lay)(C:Cx base nm env Y)(hs:∃a,a∈Y.dO∧Y.n≤a):Vu prog w d base RF k ke nm env Y:=by
 induction k generalizing Y with
 | zero=>
   refine ⟨λ AO n A s g σ σ' fl hA R h=>?_⟩
   exact aw (show (none:yK)=some (σ',fl) from h)
 | succ k ih=>
   refine ⟨λ AO=>?_⟩
   cases AO with
   | nil=>exact O6
   | cons st r=>exact Ks (O7 λ is h=>Pa ka dw ⟨C,hs⟩ (λ H AO=>(ih (Y.with H) (C.hold H) hs).b AO) (λ AO=>(ih Y C hs).b AO) h) ((ih Y C hs).b r)
end
section
variable{prog:aaq}{w:acb}{A:adn}{Y:Lay}{g:Gh}{σ:bB}{s:aav}{d:Nat}{base:ac2}{nm:NI}{env:Env}{RF:cV}
noncomputable def Dm(f:AV->Bool):AV->Bool
 | .none=>true
 | .bool _=>true
 | .int _=>true
 | .str _=>true
 | .obj _=>true
 | .bor xs=>xs.all f
 | _=>false
noncomputable def cF:Nat->AV->Bool
 | 0=>Dm λ V=>false
 | n+1=>Dm (cF n)
section
variable{n n':Nat}{g':Gh}
theorem rx(hz:∀a o,g.z a=some o->g'.z a=some o)(ih:∀x v,f x=true->RelV n g x v->RelV n' g' x v)(x:AV)(v:aas)(hf:Dm f x=true)(h:RelV n g x v):RelV n' g' x v:=by
 cases x with
 | none=>apply h.rl;exact .none
 | bool _=>apply h.mn;exact .bool _
 | int _=>apply h.cp;intro _;exact .int _ _
 | str _=>apply h.fH;intro _;exact .str _ _
 | obj _=>apply h.nO;exact .obj _
 | bor xs=>exact h.inv (G:=RelV n' g' (.bor xs)) λ vs a o e h2 h3 h4 h5=>.bor (hz _ _ h2) h3 h4 (aq.uA ih hf h5)
 | _=>exact e8 hf
theorem uT(hz:∀a o,g.z a=some o->g'.z a=some o)(k:Nat):∀(x:AV) (v:aas),cF k x=true->RelV n g x v->RelV n' g' x v:=by
 induction k with
 | zero=>exact rx hz λ V V h=>e8 h
 | succ k ih=>exact rx hz ih
theorem uU{f:AV->Option AV}{p:AV->Bool}(hp:∀x y,f x=some y->p y=true){xs:List AV}:∀{ys:List AV},xs.mapM f=some ys->ys.all p=true:=by
 induction xs with
 | nil=>intro ys h;obtain rfl:=aam (show some []=some ys from h);rfl
 | cons x xs ih=>
   intro ys h
   rw [adu] at h
   refine aC h λ y hy h=>aC h λ r hr h=>?_
   obtain rfl:=aam h
   erw [agm,hp x y hy,ih hr]
   rfl
theorem ry{f:AV->Option AV}{p:AV->Bool}(ih:∀x y,f x=some y->p y=true)(x y:AV)(h:Fe σ f x=some y):yD p y=true:=by
 cases x with
 | none=>obtain rfl:=aam h;rfl
 | bool _=>obtain rfl:=aam h;rfl
 | int _=>obtain rfl:=aam h;rfl
 | str _=>obtain rfl:=aam h;rfl
 | lst xs=>exact bS h λ ys hy q=>by subst q;exact uU ih hy
 | tup xs=>exact bS h λ ys hy q=>by subst q;exact uU ih hy
 | own i=>exact aC h λ xs hx h=>bS h λ ys hy q=>by subst q;exact uU ih hy
 | _=>exact aw h
theorem Do(k:Nat):∀(x y:AV),nk σ k x=some y->fresh k y=true:=by
 induction k with
 | zero=>exact ry λ V V h=>aw h
 | succ k ih=>exact ry ih
theorem w5(R:Rel Y g σ s.heap)(ih:∀x y v,f x=some y->RelV Y.n g x v->RelV Y.n ⟨s.heap.get?,[]⟩ y v)(x y:AV)(v:aas)(h:Fe σ f x=some y)(r:RelV Y.n g x v):RelV Y.n ⟨s.heap.get?,[]⟩ y v:=by
 cases x with
 | none=>obtain rfl:=aam h;apply r.rl;exact .none
 | bool _=>obtain rfl:=aam h;apply r.mn;exact .bool _
 | int _=>obtain rfl:=aam h;apply r.cp;intro _;exact .int _ _
 | str _=>obtain rfl:=aam h;apply r.fH;intro _;exact .str _ _
 | lst xs=>
   refine bS h λ ys hy q=>?_
   subst q
   exact r.inv (G:=RelV Y.n ⟨s.heap.get?,[]⟩ (.lst ys)) λ vs a o e h1 h2 h3 h4 h5=>.lst h1 (R.fJ _ _ h2) h3 h4 (gF ih hy h5)
 | tup xs=>
   refine bS h λ ys hy q=>?_
   subst q
   exact r.inv (G:=RelV Y.n ⟨s.heap.get?,[]⟩ (.tup ys)) λ vs a o e h1 h2 h3 h4 h5=>.tup h1 (R.fJ _ _ h2) h3 h4 (gF ih hy h5)
 | own i=>
   (refine aC h ?_;clear h;intro xs hx h)
   refine bS h λ ys hy q=>?_
   subst q
   obtain ⟨a,vs,rfl,tH,⟨e,hg⟩,nV⟩:=pp R r hx
   exact .lst (uP R tH) hg rfl rfl (gF ih hy nV)
 | _=>exact aw h
theorem uV(R:Rel Y g σ s.heap)(k:Nat):∀(x y:AV) (v:aas),nk σ k x=some y->RelV Y.n g x v->RelV Y.n ⟨s.heap.get?,[]⟩ y v:=by
 induction k with
 | zero=>exact w5 R λ V V V h=>aw h
 | succ k ih=>exact w5 R ih
end
noncomputable def evG(np nl:Nat)(ev:bB->yK)(args:List AV):Option AV:=
 if args.length=np∧np≤nl∧args.all (cF 4)=true then (ev ⟨args.map some++aau (nl - np) none,[]⟩).bind λ p=>match p.2 with | some x=>nk p.1 4 x | none=>some .none
 else none
noncomputable abbrev X0(np nl:Nat)(Sn:eU)(RF:cV)(n:Nat)(args:List AV):Option AV:=evG np nl (bK RF n Sn) args
structure bH (base:ac2) (f:abh) (fd:aei) (ps ns:List Str) (body:List agH) (ax:List (Str×AV)):Prop where
 obj:∃o,base.get? f=some o∧o.data=.func fd
 code:base.CodeRec fd.code fd.qualname
 body:fd.body=.stmts body
 clo:fd.closure=[]
 bind:∀vals:List aas,vals.length=ps.length->bindArgs fd ⟨vals,[]⟩=pure (ps.zip vals)
 co:fd.scope.isCoroutine=false
 gen:fd.scope.isGenerator=false
 kind:fd.scope.kind=.function
 nd:ns.Nodup
 pre:ns.take ps.length=ps
 kinds:∀x∈ns,fd.scope.names.lookup x=some .local∨(fd.scope.names.lookup x=some .cell)
 ax:∀x av,ax.lookup x=some av->∃v,(∀n g,RelV n g av v)∧∃mg,base.Ns fd.globals mg∧(mg x=some v∨mg x=none∧∃mb,base.Ns fd.builtins mb∧mb x=some v)
noncomputable def Pb(ns:List Str):List (Str×Nat):=ns.zipIdx
noncomputable def aY(scope:ahH)(ns:List Str)(ax:List (Str×AV)):NI:=⟨scope.names,Pb ns,ns.length,ax⟩
theorem Vx{x y:Str}(h:x≠y):(x==y)=false:=beq_eq_false_iff_ne.mpr h
theorem lN{β:Type}{x:Str}{v:β}{r:List (Str×β)}:((x,v)::r).lookup x=some v:=by (erw [adl,beq_self_eq_true ..,rfl])
theorem n7{β:Type}{x y:Str}{v:β}{r:List (Str×β)}(h:x≠y):((y,v)::r).lookup x=r.lookup x:=by (erw [adl,Vx h,rfl])
theorem wu{x:Str}{i:Nat}{ns:List Str}:∀{k:Nat},(ns.zipIdx k).lookup x=some i->k≤i∧ns[i - k]?=some x:=by
 induction ns with
 | nil=>intro k h;exact aw h
 | cons n ns ih=>
   intro k h
   rw [List.zipIdx_cons] at h
   by_cases e:x=n
   · subst e;rw [lN] at h;obtain rfl:=aam h;erw [Nat.sub_self ..];exact ⟨ac1 _,rfl⟩
   · rw [n7 e] at h
     obtain ⟨h1,h2⟩:=ih h
     refine ⟨Nat.le_of_succ_le h1,?_⟩
     erw [(show i - k=(i - (k+1))+1 by exact %[a=b+1,c<d,qD 0 a d c,qD 0 b d (c+1)|dQ h1 rfl rfl])]
     exact h2
theorem yP{x:Str}(names:List (Str×afX)):∀(n:Nat) (acc:List (Str×abh)),(∃c,acc.lookup x=some c)∨(x,agb)∈names->∃c,(akR n names acc).lookup x=some c:=by
 induction names with
 | nil=>intro n acc h;exact h.elim id λ h=>absurd h aaP
 | cons a r ih=>
   intro n acc h
   unfold akR
   split
   · refine ih _ _ ?_
     rcases h with ⟨c,h⟩ | h
     · by_cases e:x=a.1
       · subst e;exact .inl ⟨_,lN⟩
       · exact .inl ⟨c,(n7 e).trans h⟩
     · rcases aaB.mp h with h | h
       · subst h;exact .inl ⟨_,lN⟩
       · exact .inr h
   · rename_i hk
     refine ih _ _ (h.imp_right λ h=>?_)
     rcases aaB.mp h with h | h
     · subst h;exact absurd rfl hk
     · exact h
theorem AZ{p:Str}{ps:List Str}{vs:List aas}(h1:p∉ps):(ps.zip vs).lookup p=none:=by
 cases q:(ps.zip vs).lookup p with
 | none=>rfl
 | some u=>exact absurd (alM (cK q)).1 h1
theorem Ha{kindOf:Str->Option afX}{x:Str}(hx:kindOf x=some .local)(ps:List Str):∀(vs:List aas) (m:Str->Option aas),ps.Nodup->
 bindL kindOf (ps.zip vs) m x=(((ps.zip vs).lookup x).or (m x)):=by
 induction ps with
 | nil=>intro vs m _;rfl
 | cons p ps ih=>
   intro vs m nd
   obtain ⟨h1,h2⟩:=adf.mp nd
   cases vs with
   | nil=>rfl
   | cons v vs=>
     erw [aiM]
     skip
     erw [ih vs _ h2]
     by_cases e:x=p
     · subst e
       (erw [AZ h1,lN];rw [if_pos hx];rw [if_pos rfl]);rfl
     · erw [n7 e]
       split
       · exact congrArg _ (if_neg e)
       · rfl
theorem Hb{kindOf:Str->Option afX}{x:Str}(hx:kindOf x=some .cell)(ps:List Str):∀(vs:List aas) (m:Str->Option aas),ps.Nodup->
 bindC kindOf (ps.zip vs) m x=(((ps.zip vs).lookup x).or (m x)):=by
 induction ps with
 | nil=>intro vs m _;rfl
 | cons p ps ih=>
   intro vs m nd
   obtain ⟨h1,h2⟩:=adf.mp nd
   cases vs with
   | nil=>rfl
   | cons v vs=>
     erw [aiM]
     skip
     erw [ih vs _ h2]
     by_cases e:x=p
     · subst e
       (erw [AZ h1,lN];rw [if_neg (by rw [hx];decide)];rw [if_pos rfl]);rfl
     · erw [n7 e]
       split
       · rfl
       · exact congrArg _ (if_neg e)
theorem Dq{n:Nat}{g:Gh}{x:Str}{rest:List Str}{m:Nat}{ps:List Str}:∀{args:List AV} {vs:List aas} {i:Nat},args.length=ps.length->aq n g args vs->
 (ps++rest).Nodup->(ps++rest)[i]?=some x->fU n g ((args.map some++aau m none)[i]?.getD none) ((ps.zip vs).lookup x):=by
 induction ps with
 | nil=>
   intro args vs i h hv _ hi
   obtain rfl:=ago.mp h
   show fU n g ((aau m none)[i]?.getD none) none
   erw [List.getElem?_replicate]
   split <;> exact .none
 | cons p ps ih=>
   intro args vs i h hv nd hi
   cases args with
   | nil=>cases h
   | cons a args=>
     apply hv.hU
     intro v us h1 h2
     erw [aiM]
     cases i with
     | zero=>obtain rfl:=aam hi;erw [lN];exact .some h1
     | succ i=>
       rw [acX] at nd
       obtain ⟨n1,n2⟩:=adf.mp nd
       have hi:(ps++rest)[i]?=some x:=hi
       erw [n7 λ(e:x=p)=>n1 (e▸acR hi)]
       exact ih (args:=args) (i:=i) (alq h) h2 n2 hi
theorem Hc{α β:Type}{f:α->β}{l:List α}(nd:l.Nodup)(h:∀x∈l,∀y∈l,f x=f y->x=y):(l.map f).Nodup:=
 List.pairwise_map.mpr (aiU (λ ha hb ne e=>ne (h _ ha _ hb e)) nd)
theorem A0{l:List Loc}(nd:l.Nodup):(l.filterMap λ l=>match l with | .cell c=>some c | _=>none).Nodup:=by
 refine List.pairwise_filterMap.mpr (aiU (λ{a b} ha hb ne c hc c' Aa e=>ne ?_) nd)
 cases a with
 | ns _ _=>exact aw hc
 | cell _=>cases b with
   | ns _ _=>exact aw Aa
   | cell _=>erw [aam hc,aam Aa,e,rfl]
noncomputable def eL(kn:Str->Option afX)(cl:Str->Option abh)(L:abh)(x:Str):Loc:=if kn x=some .local then .ns L x else .cell ((cl x).getD 0)
structure yQ (kn:Str->Option afX) (cl:Str->Option abh) (L:abh) (ns:List Str):Prop where
 nd:ns.Nodup
 kinds:∀x∈ns,kn x=some .local∨kn x=some .cell
 cell:∀x,kn x=some .cell->∃c,cl x=some c
 above:∀x c,cl x=some c->L < c
 apart:∀x y c,cl x=some c->cl y=some c->x=y
section
variable{kn:Str->Option afX}{cl:Str->Option abh}{L:abh}{ns:List Str}(H:yQ kn cl L ns)
include H
theorem uW{x:Str}(hx:x∈ns){G:Loc->Prop}(a:kn x=some .local->G (.ns L x))(b:∀c,kn x=some .cell->cl x=some c->L < c->G (.cell c)):G (eL kn cl L x):=by
 unfold eL
 rcases H.kinds x hx with q | q
 · rw [if_pos q];exact a q
 · refine cL (H.cell x q) λ c hc=>?_
   erw [if_neg (by rw [q];decide),hc]
   exact b c q hc (H.above x c hc)
theorem Hd{x y:Str}(hx:x∈ns)(hy:y∈ns):eL kn cl L x=eL kn cl L y->x=y:=
 uW H (G:=λ l=>l=eL kn cl L y->x=y) hx (λ V=>uW H (G:=λ l=>.ns L x=l->x=y) hy (λ V e=>by injection e) λ V V V V e=>nomatch e)
  λ c V h1 V=>uW H (G:=λ l=>.cell c=l->x=y) hy (λ V e=>nomatch e) λ c' V h2 V e=>H.apart x y c h1 (by injection e with e;erw [e];exact h2)
theorem yR{i:Nat}{l:Loc}(q:(ns.map (eL kn cl L))[i]?=some l){G:Loc->Prop}(a:∀x,ns[i]?=some x->kn x=some .local->G (.ns L x))(b:∀x c,ns[i]?=some x->kn x=some .cell->cl x=some c->L < c->G (.cell c)):G l:=by
 rw [adk] at q
 refine bS q λ x hx e=>?_
 erw [←e]
 exact uW H (acR hx) (a x hx) (b x · hx)
theorem Kv:(ns.map (eL kn cl L)).Nodup:=Hc H.nd λ V hx V hy=>Hd H hx hy
theorem fM{Y:Lay}(hY:Y.lay=ns.map (eL kn cl L)){c:abh}(hc:c∈Y.cells):L < c:=by
 refine bF (ahL.mp hc) λ l hl e=>?_
 rw [hY] at hl
 refine cL (afJ hl) λ i hi=>?_
 revert e
 exact yR H hi (G:=λ l=>(match l with | .cell c=>some c | _=>none)=some c->L < c) (λ V V V e=>aw e) λ V c' V V V bD e=>by erw [←aam e];exact bD
end
theorem He{fr:List Env}{H:List (abh×Obj)}{args:List AV}{vs:List aas}{kn:Str->Option afX}{cl:Str->Option abh}{L:abh}{ps ns:List Str}{s₁:aav}{mL:Str->Option aas}
(PK:yQ kn cl L ns)(hL:s.heap.objs.size=L)(hb:KS base s.heap)(jY:s.heap.FunFrames base fr)(hT:uy base s.heap fr)
(hHn:(H.map (·.1)).Nodup)(hH:∀p∈H,s.heap.get? p.1=some p.2∧base.get? p.1=none∧p.1∉iQ fr)(hHc:∀p∈H,∀(vs:Array aas) q tt,p.2.data=.fields vs->vs[1]?≠some (.str q tt))
(bc:args.length=ps.length)(j9:ps.length≤ns.length)(uX:aq L ⟨gE (iQ fr) H s.heap,[]⟩ args vs)(Dr:ns.take ps.length=ps)(f6:KS s.heap s₁.heap)
(rW:s₁.heap.Ns L mL)(Vy:∀x,kn x=some .local->mL x=(ps.zip vs).lookup x)(cU:∀x c,kn x=some .cell->cl x=some c->s₁.heap.IsCell c ((ps.zip vs).lookup x))
(hf2:env.frame=some L)(Sp:s₁.heap.FunFrames base (env::fr)):
 Rel ⟨base,L,[L],ns.map (eL kn cl L),H,env::fr⟩ ⟨gE (iQ fr) H s.heap,[]⟩ ⟨args.map some++aau (ns.length - ps.length) none,[]⟩ s₁.heap:=by
 have hsplit:ns=ps++ns.drop ps.length:=by conv=>lhs;rw [←aii ps.length ns,Dr]
 have Dd:∀{a o},s.heap.get? a=some o->a < L:=λ e=>hL▸acD e
 have Vz:∀a,L≤a->gE (iQ fr) H s.heap a=none:=λ a ha=>by
  cases e:gE (iQ fr) H s.heap a with
  | none=>rfl
  | some o'=>exact absurd (Dd (dU.mp e).2) (aiR.mpr ha)
 have VA:∀a∈H.map (·.1),a < L:=λ a ha=>by
  (refine bF (adb.mp ha) λ p hp cB=>?_;obtain rfl:=cB)
  exact Dd (hH p hp).1
 have Kw:∀t∈aT,∃ps,s.heap.get? t.P=some (jC ps):=λ t ht=>by
  rcases hT.RZ t ht with x | ⟨t',_,_,c,oc,vs,tt,h1,_⟩ <;> exact ⟨_,‹_›⟩
 have aat:∀t∈aT,t.P < L:=λ t ht=>(Kw t ht).elim λ V hp=>Dd hp
 have VB:∀{L'},L'∈d0 (env::fr)->L'=L∨L'∈d0 fr:=λ{L'} VC=>by
  unfold d0 at VC ⊢
  rw [agS,hf2] at VC
  exact aaB.mp VC
 have hz0:∀{a},a∈iQ fr->gE (iQ fr) H s.heap a=none:=λ{a} hm=>by
  cases e:gE (iQ fr) H s.heap a with
  | none=>rfl
  | some o'=>exact absurd hm (dU.mp e).1.2
 have Sq:∀{i x},ns[i]?=some x->fU L ⟨gE (iQ fr) H s.heap,[]⟩ ((args.map some++aau (ns.length - ps.length) none)[i]?.getD none) ((ps.zip vs).lookup x):=λ hi=>Dq (rest:=ns.drop ps.length) bc uX (hsplit▸PK.nd) (hsplit▸hi)
 refine ⟨λ a o e=>f6 a o (dU.mp e).2,λ a o e=>dU.mpr ⟨⟨λ hm=>?_,λ hm=>?_⟩,hb a o e⟩,?_,Kv PK,λ a ha=>?_,λ a ha=>?_,λ i a x q=>?_,?_,rfl,λ a ha=>?_,λ i c q=>?_,λ k a q=>aw q,λ p hp=>f6 _ _ (hH p hp).1,Sp,λ L' VC q=>?_,λ L' VC=>⟨?_,aaP⟩,λ t ht=>⟨hz0 (aev _ (acV ht)),λ q=>?_,λ q=>?_⟩,λ t ht=>?_⟩
 · (refine bF (adb.mp hm) λ p hp cB=>?_;obtain rfl:=cB)
   rw [(hH p hp).2.1] at e;exact aw e
 · rcases abC.mp hm with hm | hm
   · have:=(afd jY hm).1
     rw [e] at this;exact aw this.symm
   · refine bF (adb.mp hm) λ t ht q=>?_
     have:=hT.off t ht
     rw [q,e] at this;exact aw this.symm
 · show ([L]++(_++(List.map (λ(p:abh×Obj)=>p.1) H++[]))).Nodup
   (erw [abg ..,aij];rw [adf];rw [adj])
   refine ⟨λ hm=>?_,A0 (Kv PK),hHn,λ a ha b Ii q=>?_⟩
   · rcases abC.mp hm with hm | hm
     · exact adg _ (fM PK rfl hm)
     · exact adg _ (VA _ hm)
   · exact aif (fM PK rfl ha) (q▸VA _ Ii)
 · rcases au.mp ha with ha | ha | ha | ha
   · exact Vz _ (agt (aaU.mp ha).symm)
   · exact Vz _ (ae4 (fM PK rfl ha))
   · cases e:gE (iQ fr) H s.heap a with
     | none=>exact e
     | some o'=>exact absurd ha (dU.mp e).1.1
   · exact absurd ha aaP
 · rcases ha with ha | ha | ha
   · exact agt (aaU.mp ha).symm
   · exact ae4 (fM PK rfl ha)
   · exact absurd ha aaP
 · exact yR PK q (G:=λ l=>l=.ns a x->a∈[L]) (λ V V V e=>by injection e with e;exact e▸.head _) (λ V V V V V V e=>nomatch e) rfl
 · show (args.map some++aau (ns.length - ps.length) none).length=(ns.map _).length
   erw [aao,aar ..,aar ..,adp,bc]
   exact aiI j9
 · erw [aaU.mp ha]
   refine ⟨mL,rW,λ i x q=>?_⟩
   exact yR PK q (G:=λ l=>l=.ns L x->fU L _ _ (mL x)) (λ y hy hk e=>by injection e with _ e;subst e;erw [Vy _ hk];exact Sq hy) (λ V V V V V V e=>nomatch e) rfl
 · exact yR PK q (G:=λ l=>l=.cell c->∃ov,s₁.heap.IsCell c ov∧fU L _ _ ov) (λ V V V e=>nomatch e) (λ y c' hy hk hc V e=>by injection e with e;subst e;exact ⟨_,cU y _ hk hc,Sq hy⟩) rfl
 · rcases VB VC with q2 | q2
   · exact adg _ (q2▸VA _ q)
   · refine bF (adb.mp q) λ p hp e=>?_
     exact (hH p hp).2.2 (ad4 _ (e▸q2))
 · rcases VB VC with q2 | q2
   · exact Vz _ (agt q2.symm)
   · exact hz0 (ad4 _ q2)
 · have bD:=aat t ht
   rcases au.mp q with q | q | q | q
   · rw [aaU.mp q] at bD;exact adg _ bD
   · exact aif bD (fM PK rfl q)
   · refine bF (adb.mp q) λ p hp e=>?_
     exact (hH p hp).2.2 (aev _ (e▸acV ht))
   · exact absurd q aaP
 · rcases VB q with q2 | q2
   · have bD:=aat t ht
     rw [q2] at bD;exact adg _ bD
   · refine NW (afd jY q2) λ _ o' oQ Ds=>?_
     refine cL (Kw t ht) λ ps hp=>?_
     rw [hp] at oQ
     exact Ds ps (aam oQ▸rfl)
 · rcases hT.RZ t ht with x | ⟨t',wh,hp,c,oc,CW,tt,h1,h2,h3,h4,h5⟩
   · exact .inl (f6 _ _ x)
   · refine .inr ⟨t',wh,hp,c,oc,CW,tt,f6 _ _ h1,dU.mpr ⟨⟨λ hm=>?_,h2⟩,h3⟩,h4,h5⟩
     refine bF (adb.mp hm) λ p hp' e=>?_
     have e2:=(hH p hp').1
     rw [e,h3] at e2
     exact hHc p hp' CW _ tt (aam e2▸h4) h5
theorem Kx{f:abh}{fd:aei}{ps ns:List Str}{body:List agH}{ax:List (Str×AV)}(D:bH base f fd ps ns body ax)(ew:base.NoLimit)
{fr:List Env}{H:List (abh×Obj)}{args:List AV}{vs:List aas}{R:Result->aav->Prop}(hA:jX (d+1) fr A)(hb:KS base s.heap)(jY:s.heap.FunFrames base fr)(hT:uy base s.heap fr)
(hHn:(H.map (·.1)).Nodup)(hH:∀p∈H,s.heap.get? p.1=some p.2∧base.get? p.1=none∧p.1∉iQ fr)(hHc:∀p∈H,∀(vs:Array aas) q tt,p.2.data=.fields vs->vs[1]?≠some (.str q tt))
(bc:args.length=ps.length)(j9:ps.length≤ns.length)(uX:aq s.heap.objs.size ⟨gE (iQ fr) H s.heap,[]⟩ args vs)
(h:∀bh Y s₁,(bh.code=fd.code∧bh.qual=fd.qualname++".<locals>."∧bh.globals=fd.globals)->Cx base (aY fd.scope ns ax) bh Y->(∃a,a∈Y.dO∧Y.n≤a)->Y.n=s.heap.objs.size->Y.hold=H->Y.fr=bh::fr->Y.base=base->bh.frame=some s.heap.objs.size->jX d Y.fr (A.deeper bh)->
  Rel Y ⟨gE (iQ fr) H s.heap,[]⟩ ⟨args.map some++aau (ns.length - ps.length) none,[]⟩ s₁.heap->KS s.heap s₁.heap->a9 s s₁->
  acn (acr prog w) (A.deeper bh) (aiF body bh) (λ f s'=>R (.ok (.ret (match f with | .ret v=>v | _=>.none))) s')
   (λ e s'=>acn (acr prog w) (A.deeper bh) (leaving bh e) (λ V uY=>R (.error e) uY) (λ e' uY=>R (.error e') uY) s') s₁):
 aiW (acr prog w) A (.call (.ref f) ⟨vs,[]⟩) R s:=by
 refine bF D.obj λ o ho hd=>?_
 have R8:vs.length=ps.length:=uX.length.symm.trans bc
 have Sr:ps.Nodup:=by erw [←D.pre];exact D.nd.sublist (List.take_sublist _ _)
 have wV:∀x,fd.scope.names.lookup x=some .cell->∃c,(akR (s.heap.objs.size+1) fd.scope.names []).lookup x=some c:=λ x q=>yP _ _ [] (.inr (cK q))
 refine codeAny_call_cells (acZ (acW (ajl _ _) hA.depth) ⋯) (hb _ _ ho) hd (ew.keeps hb) (D.code.keeps hb) D.body (D.bind vs R8) D.clo (λ x hx=>?_) (λ s₁ X=>?_) D.co D.gen D.kind
 · exact (D.kinds x.1 (by have hx:=(alM hx).1;rw [←D.pre] at hx;exact aiw hx)).imp_right λ q=>⟨q,by (refine cL (wV _ q) λ c hc=>?_);erw [hc];rfl⟩
 generalize hL:s.heap.objs.size=L at X uX h wV ⊢
 generalize yS:callEnvC fd L f=bh at X ⊢
 have Ky:bh.scope=fd.scope:=by erw [←yS];rfl
 have gH:bh.locals=L:=by erw [←yS];rfl
 have VD:bh.cells=akR (L+1) fd.scope.names []:=by erw [←yS];rfl
 have ef:∀x,bh.kindOf x=fd.scope.names.lookup x:=λ x=>by erw [←yS];rfl
 have A2:bh.globals=fd.globals:=by erw [←yS];rfl
 have aeq:bh.builtins=fd.builtins:=by erw [←yS];rfl
 have hf2:bh.frame=some L:=by erw [←yS];rfl
 refine Yd X.toInCall.same λ jK tk uZ=>?_
 have f6:=X.toInCall.keep
 have rW:=X.toInCall.ns
 rw [gH] at rW
 have PK:yQ (fd.scope.names.lookup ·) (bh.cells.lookup ·) L ns:=⟨D.nd,D.kinds,λ x q=>VD▸wV x q,λ x c hc=>by have:=X.above x c (cK hc);rwa [gH] at this,λ x y c h1 h2=>name_of_addr X.apart (cK h1) (cK h2)⟩
 have u0:=He (ps:=ps) (s₁:=s₁) PK hL hb jY hT hHn hH hHc bc j9 uX D.pre f6 rW (λ x hk=>by (erw [Ha ((ef x).trans hk) ps vs _ Sr,alp,rfl])) (λ x c hk hc=>by have:=X.cell x c hc;rwa [Hb ((ef x).trans hk) ps vs _ Sr,alp] at this) hf2
  (amg (by (erw [Ky,D.kind]);decide) (L:=L) hf2 rW (by
   cases e:base.get? L with
   | none=>rfl
   | some o'=>exact absurd (hL▸acD (hb _ _ e)) (adg _)) (FunFrames.keep (F:=⟨[],[]⟩) (aR.of f6) jY))
 refine h bh ⟨base,L,[L],ns.map (eL (fd.scope.names.lookup ·) (bh.cells.lookup ·) L),H,bh::fr⟩ s₁ ⟨by erw [←yS];rfl,by erw [←yS];rfl,A2⟩ ⟨by erw [Ky];exact D.kind,λ x=>(ef x).symm,λ x i q=>?_,(aar (as:=ns) _).symm,λ x av q=>?_,λ V V e=>e⟩ ⟨L,.head _,ac1 _⟩ rfl rfl rfl rfl hf2
  ⟨Around.frames_deeper hA.frames,hA.hand,by have:=hA.depth;show A.depth+1+d≤900;exact %[a+1+b≤900,a+(b+1)≤900|aU this],by have:=hA.units;show A.units+3+100 * d≤9000;exact %[a+3+100*b≤9000,a+100*(b+1)≤9000|aU this]⟩ u0 f6 (by erw [uZ];exact ⟨rfl,rfl,rfl⟩)
 · have hi:ns[i]?=some x:=(wu (show (ns.zipIdx).lookup x=some i from q)).2
   refine ⟨eL _ _ L x,(adk ..).trans (congrArg (Option.map _) hi),?_⟩
   erw [gH,ef x]
   exact uW PK (acR hi) (G:=λ l=>l=.ns L x∧fd.scope.names.lookup x=some .local∨∃c,l=.cell c∧bh.cells.lookup x=some c∧(fd.scope.names.lookup x=some .cell∨fd.scope.names.lookup x=some .free)) (λ hk=>.inl ⟨rfl,hk⟩) λ c hk hc V=>.inr ⟨c,rfl,hc,.inl hk⟩
 · (refine cL (D.ax x av q) λ v dL=>?_;have hv:=dL.1;refine cL dL.2 λ mg eZ=>?_;have hg:=eZ.1;have hm:=eZ.2;clear eZ dL)
   exact ⟨v,hv,mg,A2▸hg,by erw [aeq];exact hm⟩
theorem Kz(D:bH base f fd ps ns body ax)(ew:base.NoLimit)
(hA:jX (d+1) fr A)(hb:KS base s.heap)(jY:s.heap.FunFrames base fr)(hT:uy base s.heap fr)
(hHn:(H.map (·.1)).Nodup)(hH:∀p∈H,s.heap.get? p.1=some p.2∧base.get? p.1=none∧p.1∉iQ fr)(hHc:∀p∈H,∀(vs:Array aas) q tt,p.2.data=.fields vs->vs[1]?≠some (.str q tt))
(bc:args.length=ps.length)(j9:ps.length≤ns.length)(uX:aq s.heap.objs.size ⟨gE (iQ fr) H s.heap,[]⟩ args vs)
(h:∀bh Y s₁,Cx base (aY fd.scope ns ax) bh Y->(∃a,a∈Y.dO∧Y.n≤a)->Y.n=s.heap.objs.size->Y.hold=H->Y.fr=bh::fr->Y.base=base->bh.frame=some s.heap.objs.size->jX d Y.fr (A.deeper bh)->
  Rel Y ⟨gE (iQ fr) H s.heap,[]⟩ ⟨args.map some++aau (ns.length - ps.length) none,[]⟩ s₁.heap->KS s.heap s₁.heap->a9 s s₁->
  acn (acr prog w) (A.deeper bh) (aiF body bh) (λ f s'=>R (.ok (.ret (match f with | .ret v=>v | _=>.none))) s')
   (λ e s'=>acn (acr prog w) (A.deeper bh) (leaving bh e) (λ V uY=>R (.error e) uY) (λ e' uY=>R (.error e') uY) s') s₁):
 aiW (acr prog w) A (.call (.ref f) ⟨vs,[]⟩) R s:=
 Kx D ew hA hb jY hT hHn hH hHc bc j9 uX λ bh Y s₁ V=>h bh Y s₁
theorem u5(D:bH base f fd ps ns body ax)(ew:base.NoLimit)
(hB:∀env Y,Cx base (aY fd.scope ns ax) env Y->(∃a,a∈Y.dO∧Y.n≤a)->SS prog w d base (λ V V=>none) env Y (aiF body env) ev)
(h:evG ps.length ns.length (ev n) args=some res):fresh 4 res=true∧uz prog w (d+1) base (.ref f) args res:=by
 unfold evG at h
 split at h
 · rename_i hc
   (have bc:=hc.1;have j9:=hc.2.1;have uD:=hc.2.2;clear hc)
   obtain ⟨⟨σ',fl⟩,hev,h⟩:=adD.mp h
   refine ⟨?_,?_⟩
   · cases fl with
     | none=>obtain rfl:=aam h;rfl
     | some x=>exact Do 4 x res h
   intro fr A s vs E Q hA hb jY hT nV hQ
   have uX:aq s.heap.objs.size ⟨gE (iQ fr) [] s.heap,[]⟩ args vs:=aq.uA (λ x v=>uT (λ a o e=>e) 4 x v) uD nV
   refine aix (Kz D ew (H:=[]) hA hb jY hT ⋯ (λ p hp=>by simp at hp) (λ p hp=>by simp at hp) bc j9 uX λ bh Y s₁ VE hs Hf Ij wv CX sa Fu u0 f6 u9=>?_)
   refine hB bh Y VE hs n (A.deeper bh) s₁ _ _ σ' fl Fu u0 hev _ _ λ f' s' g' kb l' R' m' hf=>?_
   have aer:∀a o,s.heap.get? a=some o->a∉d0 fr->a∉d0 Y.fr:=λ a o e hn hm=>by
    rw [wv] at hm
    unfold d0 at hm hn
    rw [agS,sa] at hm
    rcases aaB.mp hm with q | q
    · exact acS (acD e) q
    · exact hn q
   have kp:aR ⟨d0 fr,aT⟩ s.heap s'.heap:=λ a o e=>by
    rcases kb a o (by erw [Hf];exact acD e) (f6 a o e) with ⟨sl,e1,n1⟩ | ⟨ho,AP,t,ht,hP,c,hc,hg,hr⟩
    · exact .inl ⟨sl,e1,λ hn=>n1 (aer a o e hn)⟩
    · refine .inr ⟨ho,λ hn=>?_,t,ht,hP,c,λ b ob eb=>aaY (acD eb) (by erw [←Hf];exact hc),hg,hr⟩
      refine NW (afd jY hn) λ _ o' oQ Ds=>?_
      rw [e,ho] at oQ;obtain rfl:=aam oQ
      exact Ds _ rfl
   have sm:a9 s s':=u9.trans m'
   cases fl with
   | none=>
     cases hf
     obtain rfl:=aam h
     exact hQ .none s' kp sm .none
   | some x=>
     obtain ⟨v,rfl,hv⟩:=hf
     have hr:=uV R' 4 x res v h hv
     rw [Hf] at hr
     exact hQ v s' kp sm hr
 · exact aw h
theorem Pg(D:bH base f fd ps ns body ax)(ew:base.NoLimit)
(ka:wn prog w d base RF)(dw:∀f xs res,RF (.ref f) xs=some res->∃o fd,base.get? f=some o∧o.data=.func fd)
(h:X0 ps.length ns.length (cg k ke (aY fd.scope ns ax) body) RF n args=some res):fresh 4 res=true∧uz prog w (d+1) base (.ref f) args res:=
 u5 (ev:=λ n σ=>bK RF n (cg k ke (aY fd.scope ns ax) body) σ) D ew (λ env Y C hs=>(Dl ka dw ke k _ env Y C hs).b body) h
end
section
set_option tactic.hygienic true
variable{prog:aaq}{w:acb}{A:adn}{Y:Lay}{g:Gh}{σ:bB}{s:aav}{d:Nat}{base:ac2}{nm:NI}{env:Env}{RF:cV}
theorem Dt(k:KS h h')(x:h.SetOf (ag9 prog w) a S m):h'.SetOf (ag9 prog w) a S m:=
 (by obtain ⟨o,es,ep,t,ho,r⟩:=x;exact ⟨o,es,ep,t,k _ _ ho,r⟩)
theorem vb(k:KS h h')(x:h.MapOf (ag9 prog w) a f):h'.MapOf (ag9 prog w) a f:=
 (by obtain ⟨o,es,ep,ho,r⟩:=x;exact ⟨o,es,ep,k _ _ ho,r⟩)
theorem ja(C:Cx base nm env Y)(R:Rel Y g σ s.heap)(h:cc nm x=some (.glob x (.obj (.ref a))))
(hQ:∀s' g',aR Y.lo s.heap s'.heap->g.le g'->Rel Y g' σ s'.heap->a9 s s'->Q (.ref a) s'):acn (acr prog w) A (eval (.Name x pos) env) Q E s:=by
 refine (dA (RF:=λ V V=>none) C R h rfl).then λ v s₁ aJ k₁ aW aO aP bL=>?_
 apply RelV.nO bL
 exact hQ s₁ aJ k₁ aW aO aP
theorem Hg(rW:∃a,a∈Y.dO∧Y.n≤a)(C:Cx base nm env Y)(he:SE prog w d base RF nm env Y e ie)(hy:cc nm y=some (.glob y (.obj (.ref a))))(hS:base.SetOf (ag9 prog w) a S m):
 SS prog w d base RF env Y (aiF [.Return (some (.Compare e [.In] [.Name y p4] p5)) p6] env) (λ V σ=>(bj RF ie σ).bind λ x=>match x with | .int i=>some (σ,some (.bool (S i))) | _=>none):=by
 intro n A s g σ σ' fl hA R h E Q hQ
 (refine aC h ?_;clear h;intro x hx h)
 split at h
 · rename_i i
   cases h
   refine aeN (aft (wpAny_Compare1 ((he A s g σ _ hA R hx).then λ v s₁ aJ k₁ aW aO aP bL=>ja C aO hy λ s₂ bu bg bk aF aX=>?_) rfl))
   apply RelV.cp bL;intro _
   refine wpAny_inSet_of (knd:=ag9 prog w) (k:=i) (by simp [ag9,agX]) rfl (Dt (C.keep.trans aF.cD) hS) ?_
   exact hQ _ {s₂ with toks:=s₂.toks+1} bu (R.kb rW (k₁.trans bg)) (aW.trans bk) aF ((aP.trans aX).trans ⟨rfl,rfl,rfl⟩) ⟨_,rfl,.bool _⟩
 · cases h
theorem Ph{e:acU}{ie:IE}{r y:Str}{a:abh}{f:Int->Option aas}{G:Int->Option AV}{j:Nat}{pr pd apos pos n6:Pos}(rW:∃a,a∈Y.dO∧Y.n≤a)(C:Cx base nm env Y)(he:SE prog w d base RF nm env Y e ie)(hn:ct [e])
(hr:bC nm r=some j)(hy:cc nm y=some (.glob y (.obj (.ref a))))(hM:base.MapOf (ag9 prog w) a f)(hG:∀i x,G i=some x->∀n g,RelV n g x ((f i).getD .none))(ha:(a==aiy)=false)(hline:(apos.endLine==pos.line)=true):
 SS prog w d base RF env Y (exec (.Assign [.Name r pr] (.Call (.Attribute (.Name y pd) (ac5 "get") apos) [e] [] pos) n6) env)
  (λ V σ=>(bj RF ie σ).bind λ x=>match x with | .int i=>(G i).map λ z=>(σ.put j z,none) | _=>none):=by
 intro n A s g σ σ' fl hA R h E Q hQ
 (refine aC h ?_;clear h;intro x hx h)
 split at h
 · rename_i i
   (refine bS h ?_;clear h;intro z hz h)
   cases h
   refine afQ (afe (d8 rfl) (by erw [aM hn ..];rfl) hline (ja C R hy λ s₁ aJ k₁ aW aO aP=>?_)) rfl
   have Ss:=vb (C.keep.trans aO.cD) hM
   refine ⟨"dict","dict.get",F.plainAttrs_dict,F.slot_dict_get,F.type_dict_get,Ss.typeIs,λ b q=>by cases q;obtain ⟨o,es,ep,ho,hc,_⟩:=Ss;exact ⟨o,ho,hc.2.1⟩,?_⟩
   erw [aM hn ..]
   refine wpAny_dict_get1 (knd:=ag9 prog w) ha ((he A s₁ aJ σ _ hA aO hx).then λ v s₂ bu bg bk aF aX cE=>?_)
   apply RelV.cp cE;intro _
   refine ⟨i,f,by simp [ag9,agX],vb (C.keep.trans aF.cD) hM,?_⟩
   exact cr C (s:={s₂ with toks:=s₂.toks+1}) aF hr (hG i z hz _ _) λ ci de bW cW=>hQ .next ci bu ((R.kb rW (k₁.trans bg)).trans de bW) (aW.trans bk) bW ((aP.trans aX).trans (⟨cW.1,cW.2,cW.3⟩ :a9 s₂ ci)) rfl
 · cases h
theorem Pj{st:agH}{r:List agH}{e1 e2:Nat->bB->yK}(h1:SS prog w d base RF env Y (exec st env) e1)(h2:SS prog w d base RF env Y (aiF r env) e2):
 SS prog w d base RF env Y (aiF (st::r) env) (λ n σ=>eK (e1 n σ) (e2 n)):=by
 intro n A s g σ σ' fl hA R h E Q hQ
 simp only [eK] at h
 obtain ⟨⟨AQ,AR⟩,h0,h⟩:=adD.mp h
 refine aeN (h1 n A s g σ AQ AR hA R h0 E _ λ f s₁ aJ k₁ aW aO aP Kt=>?_)
 cases AR with
 | none=>
   cases Kt
   exact h2 n A s₁ aJ AQ σ' fl hA aO h E Q λ f s₂ bu bg bk aF aX wt=>hQ f s₂ bu (k₁.trans bg aF) (aW.trans bk) aF (aP.trans aX) wt
 | some x=>
   obtain ⟨v,rfl,hv⟩:=Kt
   cases h
   exact hQ _ s₁ aJ k₁ aW aO aP ⟨v,rfl,hv⟩
theorem d9(C:Cx base nm env Y)(R:Rel Y g σ s.heap)(hc:cc nm x=some ie)(h:bj RF ie σ=some r)
(hQ:∀v,RelV Y.n g r v->Q v s):acn (acr prog w) A (eval (.Name x pos) env) Q E s:=by
 unfold cc at hc
 split at hc
 · cases hc
 · rename_i hx
   simp only [afr,not_or,alz] at hx
   split at hc
   · rename_i i hi
     cases hc
     obtain ⟨l,hl,h1⟩:=C.slots x i hi
     have hv:σ.vars[i]?.getD none=some r:=h
     rcases h1 with ⟨rfl,hk⟩ | ⟨c,rfl,cU,hk⟩
     · obtain ⟨f,hf,hs⟩:=R.ns env.locals (R.dv _ _ _ hl)
       have h2:=hs i x hl
       rw [hv] at h2
       cases JN:f x with
       | none=>rw [JN] at h2;cases h2
       | some v=>
         rw [JN] at h2
         cases h2 with
         | some h3=>exact ahz (ahF C.kind hk hf JN (hQ v h3)) hx.1
     · obtain ⟨ov,yE,h2⟩:=R.cell i c hl
       rw [hv] at h2
       cases h2 with
       | some h3=>
         rcases hk with hk | hk
         · exact ahz (ai2 C.kind hk cU yE (hQ _ h3)) hx.1
         · exact ahz (ahQ C.kind hk cU yE (hQ _ h3) hx.2) hx.1
   · split at hc
     · rename_i hk
       refine bS hc λ av hav cB=>?_
       obtain rfl:=cB
       cases h
       obtain ⟨v,hv,mg,hg,hm⟩:=C.ax x _ hav
       refine ajy C.kind ((C.names x).symm.trans hk) ?_ hx.1
       exact mq (λ a o e=>R.cD a o (C.keep a o e)) hg hm (hQ v (hv _ _))
     · cases hc
theorem ig(C:Cx base nm env Y)(R:Rel Y g σ s.heap)(hi:bC nm x=some i)(hv:RelV Y.n g av v)
(hQ:∀s' a,Y.n≤a->a∈Y.bw g->aeJ a s.heap s'.heap->Rel Y g (σ.put i av) s'.heap->a9 s s'->Q () s'):acn (acr prog w) A (ajI env x v) Q E s:=by
 unfold bC at hi
 split at hi
 · rename_i hk
   simp only [afr,beq_iff_eq] at hk
   obtain ⟨l,hl,h1⟩:=C.slots x i hi
   have hp:(env.scope.kind==.class||(env.scope.kind==.module&&env.locals !=env.globals))=false:=by simp [C.kind]
   rcases h1 with ⟨rfl,gH⟩ | ⟨c,rfl,wV,J8⟩
   · obtain ⟨f,hf,_⟩:=R.ns env.locals (R.dv _ _ _ hl)
     refine agK gH hf (λ h' hn hs=>?_) hp
     exact hQ _ _ (R.low _ (.inl (R.dv _ _ _ hl))) (au.mpr (.inl (R.dv _ _ _ hl))) hs (R.Fd hl hv hf hn hs) ⟨rfl,rfl,rfl⟩
   · obtain ⟨ov,yE,_⟩:=R.cell i c hl
     have Sl:env.kindOf x=some .cell:=by
      rw [C.names x] at hk
      rcases hk with hk | hk
      · rcases J8 with q | q <;> rw [hk] at q <;> cases q
      · exact hk
     refine ahE C.kind Sl wV yE (λ h' hn hs=>?_)
     exact hQ _ _ (R.low _ (.inr (.inl (bT hl)))) (au.mpr (.inr (.inl (bT hl)))) hs (R.setCell hl hv hn hs) ⟨rfl,rfl,rfl⟩
 · cases hi
end
section
variable{prog:aaq}{w:acb}{A:adn}{Y:Lay}{g:Gh}{σ:bB}{s:aav}{d:Nat}{base:ac2}{nm:NI}{env:Env}{RF:cV}
structure Xc (F wr:List abh) (s0 h:ac2) (e:abh) (fl:Option aas):Prop where
 lY:∀a o,a∉wr->s0.get? a=some o->∃sl,h.get? a=some {o with slots:=sl}∧(a∉F->sl=o.slots)
 new:s0.get? e=none
 wl:∀a∈wr,a < e
 there:∃oe vs,h.get? e=some oe∧oe.cls=.type "StopIteration"∧oe.data=.fields vs∧
  ((fl=none∧vs[1]?=some .none)∨∃x T oT ts,fl=some x∧vs[1]?=some (.ref T)∧T≠e∧s0.get? T=none∧h.get? T=some oT∧oT.data=.fields ts∧ts[3]?=some x)
section
variable{M:Model}{E:aas->aav->Prop}{F wr:List abh}{s0:ac2}{e L:abh}
theorem Xc.typeIs(X:Xc F wr s0 s.heap e fl):s.TypeIs (.ref e) "StopIteration":=(by obtain ⟨oe,_,h1,h2,_⟩:=X.there;exact ⟨oe,h1,h2⟩)
theorem Hh(hf:env.frame=some L)(X:Xc F wr s0 s.heap e (some (rawInt L)))(h:Q () s):acn M A (noteFrame (.ref e) env) Q E s:=by
 refine z8 X.there λ oe vs h1 h2 h3 h4=>?_
 rcases h4 with ⟨q,_⟩ | ⟨x,T,oT,ts,hx,hv,cM,Sv,hT,KA,h5⟩
 · exact aw q.symm
 · obtain rfl:=aam hx
   exact wpAny_noteFrame_inFlight hf h1 h3 hv hT KA h5 h
theorem n8(X:Xc F wr s0 s.heap e (some x))(h:∀h',Xc F wr s0 h' e (some (fr.elim .none λ f=>rawInt f))->(∀b o,s.heap.get? b=some o->(∀vs,o.data≠.fields vs)->h'.get? b=some o)->Q () {s with heap:=h'}):
 acn M A (setFlight (.ref e) fr) Q E s:=by
 refine z8 X.there λ oe vs h1 h2 h3 h4=>?_
 rcases h4 with ⟨q,_⟩ | ⟨x,T,oT,ts,hx,hv,cM,Sv,hT,KA,h5⟩
 · exact aw q.symm
 · skip
   refine aaI (ahG h1 h3 hv ?_)
   erw [if_pos (show (ahh T !=ahi)=true from by simp)]
   have bY:3 < ts.size:=(agI.mp h5).1
   refine ahY hT KA bY (h _ ⟨λ a o ha hs=>?_,X.new,X.wl,oe,vs,?_,h2,h3,.inr ⟨_,T,_,_,rfl,hv,cM,Sv,af7 _ hT (aim (ag2 KA _)),ag2 KA _,?_⟩⟩ λ b o hb AP=>?_)
   · refine bF (X.lY a o ha hs) λ sl e1 e2=>?_
     have VF:T≠a:=λ q=>by subst q;rw [Sv] at hs;exact aw hs
     exact ⟨sl,by erw [afR _ _ VF];exact e1,e2⟩
   · erw [afR _ _ cM];exact h1
   · simp [bY]
   · have VF:T≠b:=λ q=>by subst q;rw [hT] at hb;obtain rfl:=aam hb;exact AP _ KA
     erw [afR _ _ VF];exact hb
theorem vd{jK:ac2}{tb o:Obj}{f:Obj->Obj}{b:abh}(hbe:b≠e)(hb:jK.get? b=some o):((jK.push tb).update e f).get? b=some o:=
 (afR _ _ (Ne.symm hbe)).trans (act _ hb)
noncomputable def Sw(F wr:List abh)(s0 h:ac2):Prop:=∀a o,a∉wr->s0.get? a=some o->∃sl,h.get? a=some {o with slots:=sl}∧(a∉F->sl=o.slots)
theorem Pk{jK:ac2}{tb oe:Obj}{vs ts:Array aas}{x:aas}(lY:Sw F wr s0 jK)(hn:s0.get? e=none)(wl:∀a∈wr,a < e)(he:jK.get? e=some oe)(hc:oe.cls=.type "StopIteration")(hd:oe.data=.fields vs)(bY:1 < vs.size)
(hf:tb.isFreed=false)(htd:tb.data=.fields ts)(h3:ts[3]?=some x):Xc F wr s0 ((jK.push tb).update e (ahs (·.setIfInBounds 1 (.ref jK.objs.size)))) e (some x):=by
 have bD:=acD he
 have Sv:s0.get? jK.objs.size=none:=by
  cases q:s0.get? jK.objs.size with
  | none=>rfl
  | some o=>
    refine bF (lY _ o (λ hm=>aif (wl _ hm) bD) q) λ sl e1 _=>?_
    exact absurd (acD e1) (adg _)
 have hd3:=ag2 hd (·.setIfInBounds 1 (.ref jK.objs.size))
 have cM:jK.objs.size≠e:=akm bD
 refine ⟨λ a o ha hs=>?_,hn,wl,_,_,af7 _ (act _ he) (aim hd3),(alk _ _).trans hc,hd3,.inr ⟨x,jK.objs.size,tb,ts,rfl,by simp [bY],cM,Sv,(afR _ _ cM.symm).trans (acT _ hf),htd,h3⟩⟩
 refine bF (lY a o ha hs) λ sl e1 e2=>?_
 exact ⟨sl,vd (λ q=>by subst q;rw [hn] at hs;exact aw hs) e1,e2⟩
variable{outer:List Env}{fl:Option aas}{Q:Unit->aav->Prop}
theorem w6(jY:A.frames=some (env::outer))(hf:env.frame=some L)(hF:∀b∈d0 (env::outer),b∈F∨s0.get? b=none)
(hX:s0.get? e=none)(wl:∀a∈wr,a < e)(h1:s.heap.get? e=some oe)(h2:oe.cls=.type "StopIteration")(h3:oe.data=.fields vs)(bY:1 < vs.size)
(GO:hh.FunFrames base (env::outer))(hp1:Sw F wr s0 hh)(he1:hh.get? e=some oe)(aaw:∀b o,s.heap.get? b=some o->(∀vs,o.data≠.fields vs)->hh.get? b=some o)
(h:∀h',Xc F wr s0 h' e (some (rawInt L))->(∀b o,s.heap.get? b=some o->(∀vs,o.data≠.fields vs)->∃sl,h'.get? b=some {o with slots:=sl}∧(b∉d0 (env::outer)->sl=o.slots))->Q () {s with heap:=h'}):
 acn M A (do let a ←frameOf env;let pl ←entryPlaceOf L hn;let b ←EntryCells.newEntry head a .none (rawInt L) .none pl;setField (.ref e) 1 b) Q E {s with heap:=hh}:=by
 have aes:e∉d0 (env::outer):=λ hm=>by
  refine NW (GO.mem hm) λ _ o ho AP=>?_
  rw [he1] at ho;obtain rfl:=aam ho;exact AP vs h3
 refine aaI (wpAny_frameOf_fun jY GO hf λ jK uZ=>?_)
 refine aaI (wpAny_entryPlaceOf λ pl z5=>?_)
 refine aaI (aho ?_ (z5.sizeOk5 _ _ _ _ _))
 have Sx:jK.get? e=some oe:=(uZ.2.1 e aes).trans he1
 refine ahY (act _ Sx) h3 bY (h _ (Pk (λ a o ha hs=>?_) hX wl Sx h2 h3 bY rfl rfl ?_) λ b o hb AP=>?_)
 · refine bF (hp1 a o ha hs) λ sl e1 e2=>?_
   by_cases hm:a∈d0 (env::outer)
   · refine cL (uZ.2.2 a _ e1) λ GK e3=>?_
     refine ⟨GK,e3,λ hnF=>?_⟩
     rcases hF a hm with q | q
     · exact absurd q hnF
     · rw [hs] at q;exact aw q.symm
   · exact ⟨sl,(uZ.2.1 a hm).trans e1,e2⟩
 · rcases z5 with rfl | ⟨_,_,_,_,_,_,_,rfl⟩ <;> rfl
 · have z6:=aaw b o hb AP
   have hbe:b≠e:=λ q=>by subst q;rw [h1] at hb;obtain rfl:=aam hb;exact AP vs h3
   by_cases hm:b∈d0 (env::outer)
   · refine cL (uZ.2.2 b _ z6) λ GK e3=>?_
     exact ⟨GK,vd hbe e3,λ q=>absurd hm q⟩
   · exact ⟨o.slots,vd hbe ((uZ.2.1 b hm).trans z6),λ V=>rfl⟩
theorem VG(jY:A.frames=some (env::outer))(hl:s.heap.FunFrames base (env::outer))(hf:env.frame=some L)
(hF:∀b∈d0 (env::outer),b∈F∨s0.get? b=none)(X:Xc F wr s0 s.heap e fl)(hx:fl≠some (rawInt L))
(h:∀h',Xc F wr s0 h' e (some (rawInt L))->(∀b o,s.heap.get? b=some o->(∀vs,o.data≠.fields vs)->∃sl,h'.get? b=some {o with slots:=sl}∧(b∉d0 (env::outer)->sl=o.slots))->Q () {s with heap:=h'}):acn M A (noteFrame (.ref e) env) Q E s:=by
 refine z8 X.there λ oe vs h1 h2 h3 h4=>?_
 unfold noteFrame
 rw [hf]
 rcases h4 with ⟨q,hv⟩ | ⟨x,T,oT,ts,hx',hv,cM,Sv,hT,KA,h5⟩
 · refine aaI (ahG h1 h3 hv ?_)
   erw [if_neg ⋯]
   exact w6 (hh:=s.heap) jY hf hF X.new X.wl h1 h2 h3 (agI.mp hv).1 hl X.lY h1 (λ b o hb V=>hb) h
 · subst hx'
   refine aaI (ahG h1 h3 hv ?_)
   erw [if_pos (show (ahh T !=ahi)=true from by simp)]
   refine aaI (ahG hT KA h5 ?_)
   erw [if_neg (show ¬((x==rawInt L)=true) from λ q=>hx (by erw [eq_of_beq q,rfl]))]
   refine aaI (ahY hT KA (agI.mp h5).1 ?_)
   have other:∀b,b≠T->(s.heap.update T (ahs (·.setIfInBounds 3 ahi))).get? b=s.heap.get? b:=λ b hb=>afR _ _ (Ne.symm hb)
   generalize s.heap.update T (ahs (·.setIfInBounds 3 ahi))=hh at other ⊢
   have A4:∀b o,s.heap.get? b=some o->(∀vs,o.data≠.fields vs)->hh.get? b=some o:=λ b o hb AP=>(other b λ q=>by
    rw [q,hT] at hb;obtain rfl:=aam hb;exact AP ts KA).trans hb
   refine w6 jY hf hF X.new X.wl h1 h2 h3 (agI.mp hv).1 (hl.of_keeps λ b o hb AP=>⟨o,A4 b o hb AP,rfl⟩) (λ a o ha hs=>?_) ((other e (Ne.symm cM)).trans h1) A4 h
   refine bF (X.lY a o ha hs) λ sl e1 e2=>?_
   exact ⟨sl,(other a (λ q=>by subst q;rw [Sv] at hs;exact aw hs)).trans e1,e2⟩
end
end
end Mine.Internal
end
section
open PySem PyProof PyProof.Rows PySem.W
namespace Mine.Internal
section
variable{prog:aaq}{w:acb}{A:adn}{Y:Lay}{g:Gh}{σ:bB}{s:aav}{d:Nat}{base:ac2}{nm:NI}{env:Env}{RF:cV}
theorem Hi(hl:s.heap.IsList l items)
(hQ:Q (.ref s.heap.objs.size) {s with heap:=s.heap.push {cls:=.type "list_iterator",data:=.fields #[.ref l,.int 0 0]}}):
 acn (acr prog w) A (call (.builtin "iter") [.ref l]) Q E s:=by
 refine ait (by decide+kernel) (by decide+kernel) kdk_entry_iter (kdk_args_iter _) ?_
 unfold aiZ.«iter»
 refine aaI (m:=someArgs "iter" 1 2 _) (agz (a:=[ahh l]) (by first | rfl | kernel_rfl!) ?_)
 show acn _ _ (ajJ (.ref l) >>=_) _ _ _
 exact aaI (wpAny_pyIter_list hl (ac3 ⟨_,rfl,hQ⟩))
theorem Hj(hh:A.handled=none)(tE:s.heap.IsListIter it l i)(hl:s.heap.IsList l items)
(hQ:∀x,items[i]?=some x->∀h',h'.IsListIter it l (i+1)->aeJ it s.heap h'->Q x {s with heap:=h'})
(hE:items[i]?=none->∀h' e,Xc F [it] s.heap h' e none->Heap.ExtBut it s.heap h'->E (.ref e) {s with heap:=h'}):
 acn (acr prog w) A (call (.builtin "next") [.ref it]) Q E s:=by
 obtain ⟨o,ho,hc,hd⟩:=id tE
 obtain ⟨ol,hol,_,nl,Ik⟩:=hl
 refine ait (by decide+kernel) (by decide+kernel) kdk_entry_next (kdk_args_next _) ?_
 unfold aiZ.«next»
 refine aaI (m:=someArgs "next" 1 2 _) (agz (a:=[ahh it]) (by first | rfl | kernel_rfl!) ?_)
 skip
 refine aaI (wpAny_specialOf (name:=ac5 "__next__") tE.typeIs ajf.lookup ?_)
 refine wpAny_ite_split (λ Fv=>absurd Fv ⋯) (λ V=>?_)
 refine aaI (akO (name:=ac5 "__next__") tE.typeIs ajf
  (wpAny_call_entry ajf tE.typeIs entry_listiter_next ?_ (args_listiter_next _)))
 show acn _ _ (field (.ref it) 0 >>=_) _ _ s
 refine aaI (ahG ho hd (x:=.ref l) rfl ?_)
 show acn _ _ (if (ahh l==ahi)=true then _ else _) _ _ s
 erw [if_neg (show ¬((ahh l==ahi)=true) from afE)]
 show acn _ _ (field (.ref it) 1 >>=_) _ _ s
 refine aaI (ahG ho hd (x:=.int i 0) rfl ?_)
 show acn _ _ (seqItems? (.ref l) >>=_) _ _ s
 refine aaI (akf hol Ik ?_)
 cases hx:items[i]? with
 | some x=>
   simp only [aaV,hx]
   refine aaI (ahY ho hd (by simp) (ac3 ⟨x,rfl,ac3 ⟨_,rfl,hQ x hx _ ?_ (aga ..)⟩⟩))
   exact ⟨_,af7 _ ho (aim (ag2 hd _)),(alk ..).trans hc,by
    erw [ag2 hd ..];simp [rawInt]⟩
 | none=>
   simp only [aaV,hx]
   refine aaI (wpAny_rule (aaI (ahY ho hd (by simp) ?_)))
   show acn _ _ (newExc (.type "StopIteration") [] >>=_) _ _ _
   refine aaI ?_
   skip
   refine aaI (aho ?_ (by size_fits))
   refine aaI (m:=firstArgMember _ _) (agz (a:=ahi) (by first | rfl | (simp only [firstArgMember];rfl)) ?_)
   refine aho ?_ (by size_fits)
   skip
   refine aaI (wpAny_handled ?_)
   erw [(show A.in1.in1.handled=none from hh)]
   refine aaI (ac3 (wpAny_throw ?_))
   have KC:Heap.ExtBut it s.heap ((((s.heap.update it (ahs (·.setIfInBounds 0 .none))).push {cls:=.type "tuple",data:=.seq ([]:List aas).toArray}).push {cls:=.type "StopIteration",data:=.fields #[.ref (s.heap.update it (ahs (·.setIfInBounds 0 .none))).objs.size,.none,.none,.none,.bool false,.none]})):=
    (((aga ..).extBut.push _).push _)
   have bY:=Heap.size_after_update s.heap it (ahs (·.setIfInBounds 0 .none))
   have:=acD ho
   refine hE hx _ _ ⟨λ a o' ha hs=>⟨o'.slots,KC a o' (by simpa using ha) hs,λ V=>rfl⟩,?_,λ a ha=>?_,_,_,acT _ rfl,rfl,rfl,.inl ⟨rfl,rfl⟩⟩ KC
   · refine agJ ?_
     erw [af3 ..,bY];exact Nat.le_succ _
   · have ha:a=it:=by simpa using ha
     subst ha
     erw [af3 ..,bY];exact ahU this
end
section
variable{prog:aaq}{w:acb}{A:adn}{Y:Lay}{g:Gh}{σ:bB}{s:aav}{d:Nat}{base:ac2}{nm:NI}{env:Env}{RF:cV}
noncomputable def gJ:Int->Int->List Int->Option (Option (Int×List Int))
 | val,b,[]=>if ac6 b 64=0 then some (some (val,[])) else if (aan val:Int)+6≤2 ^ 27 then some none else none
 | val,b,b'::r=>if ac6 b 64=0 then some (some (val,b'::r)) else
  if (aan val:Int)+6≤2 ^ 27 then gJ (agd (val * 2 ^ (6:Int).toNat) (ac6 b' 63)) b' r else none
noncomputable def pv:List Int->Option (Option (Int×List Int))
 | []=>some none
 | b::r=>gJ (ac6 b 63) b r
section
variable{E:aas->aav->Prop}{F wr:List abh}{s0:ac2}{e L:abh}
theorem Hk(jY:A.frames=some (env::fr))(hf:env.frame=some L)(hl:s.heap.FunFrames base (env::fr))(hF:∀b∈d0 (env::fr),b∈F∨s0.get? b=none)
(X:Xc F wr s0 s.heap e fl)(hE:∀h',Xc F wr s0 h' e (some .none)->(∀b o,s.heap.get? b=some o->(∀vs,o.data≠.fields vs)->∃sl,h'.get? b=some {o with slots:=sl})->Q () {s with heap:=h'}):acn (acr prog w) A (leaving env (.ref e)) Q E s:=by
 skip
 by_cases hx:fl=some (rawInt L)
 · subst hx
   refine aaI (Hh hf X (n8 (fr:=none) X λ h' X' k=>hE h' X' λ b o hb hn=>⟨o.slots,k b o hb hn⟩))
 · refine aaI (VG jY hl hf hF X hx λ h' X' k=>n8 (s:={s with heap:=h'}) (fr:=none) X' λ yt Sy k'=>hE yt Sy λ b o hb hn=>?_)
   refine bF (k b o hb hn) λ sl e1 _=>?_
   exact ⟨sl,k' b _ e1 hn⟩
theorem Hl(hf:env.frame=some L)(X:Xc F wr s0 s.heap e (some x))(hE:∀h',Xc F wr s0 h' e (some (rawInt L))->(∀b o,s.heap.get? b=some o->(∀vs,o.data≠.fields vs)->h'.get? b=some o)->E (.ref e) {s with heap:=h'}):
 cameBackBy (acr prog w) A env E (.ref e) s:=by
 refine z8 X.there λ oe vs h1 h2 h3 h4=>?_
 rcases h4 with ⟨q,_⟩ | ⟨x,T,oT,ts,hx,hv,cM,Sv,hT,KA,h5⟩
 · exact aw q.symm
 · skip
   refine aaI (ahG h1 h3 hv ?_)
   erw [if_neg (show ¬((ahh T==ahi)=true) from by simp)]
   show acn _ _ (setFlight (.ref e) env.frame) _ _ _
   erw [hf]
   exact n8 (fr:=some L) X λ h' X' k=>hE h' X' k
end
noncomputable abbrev dC(zs:List Int)(vs:List aas):Prop:=aq 0 ⟨λ V=>none,[]⟩ (zs.map AV.int) vs
theorem dC.get{zs:List Int}{vs:List aas}(h:dC zs vs){i:Nat}{v:aas}(hv:vs[i]?=some v):∃z t,zs[i]?=some z∧v=.int z t:=by
 have hl:=h.length
 have bD:i < (zs.map AV.int).length:=by erw [hl];exact (aaZ.mp hv).1
 have aax:i < zs.length:=by simpa using bD
 have hx:(zs.map AV.int)[i]?=some (.int zs[i]):=by simp [aax]
 refine bF (aq.get h hx) λ v' h1 h2=>?_
 rw [hv] at h1;obtain rfl:=aam h1
 apply RelV.cp h2;intro _
 exact ⟨_,_,by simp [aax],rfl⟩
theorem dC.none(h:dC zs vs)(hv:vs[i]?=none):zs.drop i=[]:=by
 have hl:=h.length
 simp at hl
 rw [List.drop_eq_nil_iff]
 have:=ajR.mp hv
 exact %[a≤b,a=c,c≤b|cf hl this]
structure jL (s0:aav) (I l:abh) (Y:Lay) (p:Nat) (σ:bB) (s:aav) (g:Gh) (oI:Obj):Prop where
 rel:Rel (Y.with [(I,oI)]) g σ s.heap
 it:oI.cls=.type "list_iterator"∧oI.data=.fields #[.ref l,.int p 0]
 kx:∀a o,a≠I->s0.heap.get? a=some o->s.heap.get? a=some o
 same:a9 s0 s
theorem jL.tok(T:jL s0 I l Y p σ s g oI)(tk:Nat):jL s0 I l Y p σ {s with toks:=tk} g oI:=⟨T.rel,T.it,T.kx,T.same.trans ⟨rfl,rfl,rfl⟩⟩
theorem jL.put(T:jL s0 I l Y p σ s g oI)(hn:Y.n=s0.heap.objs.size)(ha:Y.n≤a)(hs:aeJ a s.heap s'.heap)(R:Rel (Y.with [(I,oI)]) g σ' s'.heap)(m:a9 s s'):
 jL s0 I l Y p σ' s' g oI:=⟨R,T.it,λ b o hb e=>hs.extBut b o (acS (aaY (acD e) (hn▸ha))) (T.kx b o hb e),T.same.trans m⟩
theorem jL.isList(T:jL s0 I l Y p σ s g oI)(hl:s0.heap.IsList l items)(NM:l≠I):s.heap.IsList l items:=by
 obtain ⟨o,ho,hc,n,hd⟩:=hl
 exact ⟨_,T.kx l o NM ho,hc,n,hd⟩
theorem jL.VH(T:jL s0 I l Y p σ s g oI):s.heap.IsListIter I l p:=⟨oI,T.rel.held (I,oI) (.head _),T.it⟩
theorem A5{s0:aav}{I l:abh}{vs:List aas}{p:Nat}{oI:Obj}{b it:Str}{j k:Nat}{pb pn pi pc ps:Pos}{zs:List Int}{E:aas->aav->Prop}{Q:agT->aav->Prop}
(C:Cx base nm env Y)(hA:jX d Y.fr A)(T:jL s0 I l Y p σ s g oI)(KD:dC zs vs)(hl:s0.heap.IsList l vs.toArray)(NM:l≠I)(hn:Y.n=s0.heap.objs.size)(hbs:bC nm b=some j)(aay:cc nm "next"=some (.glob "next" (.obj (.builtin "next"))))(tE:cc nm it=some (.var k))
(hk:σ.vars[k]?.getD none=some (.obj (.ref I)))
(hQ:∀z r,zs.drop p=z::r->∀s' g' lO,jL s0 I l Y (p+1) (σ.put j (.int z)) s' g' lO->Q .next s')
(hE:zs.drop p=[]->∀s' e,Xc (d0 Y.fr) [I] s0.heap s'.heap e none->s'.heap.FunFrames Y.base Y.fr->a9 s0 s'->E (.ref e) s'):
 acn (acr prog w) A (exec (.Assign [.Name b pb] (.Call (.Name "next" pn) [.Name it pi] [] pc) ps) env) Q E s:=by
 refine afQ (afi (aM (by intro e he x q;simp at he;subst he;exact λ h=>by cases h) pc) ?_) (cj rfl)
 refine d9 (RF:=λ V V=>none) (C.hold _) T.rel aay rfl λ v bL=>?_
 apply RelV.nO bL
 refine aee rfl (ac4 (ac0 (d9 (RF:=λ V V=>none) (C.hold _) T.rel tE hk λ v cE=>adt ?_)))
 apply RelV.nO cE
 refine Hj (F:=d0 Y.fr) hA.hand T.VH (T.isList hl NM) (λ x hx h' aeu jo=>?_) λ hx h' e X KC=>?_
 · (refine cL (KD.get (by simpa using hx)) λ z dL=>?_;refine cL dL λ t eZ=>?_;have hz:=eZ.1;have ju:=eZ.2;clear eZ dL;obtain rfl:=ju)
   have aaz:zs.drop p=z::zs.drop (p+1):=by
    have bD:=(aaZ.mp hz).1
    erw [adr bD,(aaZ.mp hz).2,rfl]
   obtain ⟨lO,oQ,Aa,hd'⟩:=aeu
   have bW:Rel (Y.with [(I,lO)]) g σ h':=T.rel.yH (H':=[(I,lO)]) rfl (λ b o hb e=>jo.extBut b o (by simpa using hb) e) (λ q hq=>by simp at hq;subst hq;exact oQ)
   have Du:jL s0 I l Y (p+1) σ {s with heap:=h'} g lO:=⟨bW,⟨Aa,hd'⟩,λ a o ha e=>jo.extBut a o ha (T.kx a o ha e),T.same.trans ⟨rfl,rfl,rfl⟩⟩
   exact ig (C.hold [(I,lO)]) (s:={s with heap:=h'}) bW hbs (.int z t) λ eo a ha V KE fX fb=>hQ z _ aaz eo g lO (Du.put hn ha KE fX fb)
 · have hno:=KD.none (by simpa using hx)
   have KG:I∉d0 Y.fr:=λ hm=>T.rel.ni I hm (.head _)
   refine z8 X.there λ oe CW x1 x2 x3 x4=>?_
   have x5:CW[1]?=some .none:=by
    rcases x4 with ⟨_,q⟩ | ⟨x,_,_,_,q,_⟩
    · exact q
    · exact aw q
   refine hE hno {s with heap:=h'} e ⟨λ a o ha hs=>?_,?_,X.wl,oe,CW,x1,x2,x3,.inl ⟨rfl,x5⟩⟩ (FunFrames.step (λ b hb o e hd=>⟨o,KC b o (λ q=>KG (q▸hb)) e,hd⟩) T.rel.frames) (T.same.trans ⟨rfl,rfl,rfl⟩)
   · have U5:a≠I:=by simpa using ha
     exact ⟨o.slots,KC a o U5 (T.kx a o U5 hs),λ V=>rfl⟩
   · cases q:s0.heap.get? e with
     | none=>rfl
     | some o=>
       have cM:e≠I:=λ q2=>by
        have h2:=T.rel.held (I,oI) (.head _)
        simp only at h2
        rw [←q2,X.new] at h2;exact aw h2
       have e1:=T.kx e o cM q
       rw [X.new] at e1;exact aw e1
end
section
variable{prog:aaq}{w:acb}{A:adn}{Y:Lay}{g:Gh}{σ:bB}{s:aav}{d:Nat}{base:ac2}{nm:NI}{env:Env}{RF:cV}
noncomputable abbrev VI:cV:=λ V V=>none
theorem A6(h:Q (i !=0) s):acn (acr prog w) A (ak6 (.int i t)) Q E s:=truthy_int h
theorem rf0:wn prog w d base (λ V V=>none):=λ V V V h=>by exact aw h
inductive pq (nm:NI):List agH->Prop
 | mk (b it val:Str) (p1 p2 p3 p4 p5 p6 p7 p8 p9 A7 Dv Il Hm Fw Im Io Ip Iq Ir Iu KH KI KJ Sz SA SD SF SG SH:Pos) (k1 k2 k3 k4:Nat)
   (nb:cc nm b=some (.var 1)) (nit:cc nm it=some (.var 0)) (aaA:cc nm val=some (.var 2)) (sb:bC nm b=some 1) (Hn:bC nm val=some 2) (KL:cc nm "next"=some (.glob "next" (.obj (.builtin "next")))):
   pq nm [.Assign [.Name b p1] (.Call (.Name "next" p2) [.Name it p3] [] p4) p5,
    .Assign [.Name val p6] (.BinOp (.Name b p7) .BitAnd (.Constant (.int 63) k1 p8) p9) A7,
    .While (.BinOp (.Name b Dv) .BitAnd (.Constant (.int 64) k2 Il) Hm)
     [.AugAssign (.Name val Fw) .LShift (.Constant (.int 6) k3 Im) Io,
      .Assign [.Name b Ip] (.Call (.Name "next" Iq) [.Name it Ir] [] Iu) KH,
      .AugAssign (.Name val KI) .BitOr (.BinOp (.Name b KJ) .BitAnd (.Constant (.int 63) k4 Sz) SA) SD] [] SF,
    .Return (some (.Name val SG)) SH]
theorem bl(h:c=true):bz c x=some x:=by subst h;rfl
theorem VJ{RF:cV}{n i:Nat}{op:agc}{e:IE}{σ:bB}:AK RF n (.aug i op e) σ=(σ.vars[i]?.getD none).bind λ old=>(bj RF e σ).bind λ x=>(wq op old x).map λ y=>(σ.put i y,none):=rfl
theorem bs{α β:Type}{a:α}{o:Option α}{f:α->Option β}(h:o=some a):o.bind f=f a:=by subst h;rfl
theorem Ho{RF:cV}{n i:Nat}{op:agc}{e:IE}{σ:bB}{x y z:AV}(h1:σ.vars[i]?.getD none=some x)(h2:bj RF e σ=some y)(h3:wq op x y=some z):AK RF n (.aug i op e) σ=some (σ.put i z,none):=by
 erw [VJ,h1,bs rfl,h2,bs rfl,h3];rfl
theorem w7(h:ac6 b 64=0):gJ v b r=some (some (v,r)):=by
 cases r with
 | nil=>unfold gJ;erw [if_pos h,rfl]
 | cons y ys=>unfold gJ;erw [if_pos h,rfl]
theorem A8(h:ac6 b 64≠0)(e:gJ v b []=some r):(aan v:Int)+6≤2 ^ 27∧r=none:=by
 unfold gJ at e
 rw [if_neg h] at e
 split at e
 · rename_i q;exact ⟨q,(aam e).symm⟩
 · exact aw e
theorem w8(h:ac6 b 64≠0)(e:gJ v b (y::ys)=some r):(aan v:Int)+6≤2 ^ 27∧gJ (agd (v * 2 ^ (6:Int).toNat) (ac6 y 63)) y ys=some r:=by
 unfold gJ at e
 rw [if_neg h] at e
 split at e
 · rename_i q;exact ⟨q,e⟩
 · exact aw e
theorem Dw{Q:agT->aav->Prop}
(PT:pq nm body)(C:Cx base nm env Y)(hs:∃a,a∈Y.dO∧Y.n≤a)(hA:jX d Y.fr A)(T:jL s0 I l Y p ⟨[some (.obj (.ref I)),none,none],[]⟩ s g oI)(KD:dC zs vs)(hl:s0.heap.IsList l vs.toArray)(NM:l≠I)(hn:Y.n=s0.heap.objs.size)
(hf:env.frame=some L)(jY:Y.fr=env::fr)
(KN:pv (zs.drop p)=some r)
(hQ:∀v rest,r=some (v,rest)->∀t s' g' lO σ' q,jL s0 I l Y q σ' s' g' lO->rest=zs.drop q->Q (.ret (.int v t)) s')
(hE:r=none->∀s' e fl,Xc (d0 Y.fr) [I] s0.heap s'.heap e fl->s'.heap.FunFrames Y.base Y.fr->a9 s0 s'->E (.ref e) s'):
 acn (acr prog w) A (aiF body env) Q E s:=by
 cases PT with
 | mk b it val p1 p2 p3 p4 p5 p6 p7 p8 p9 A7 Dv Il Hm Fw Im Io Ip Iq Ir Iu KH KI KJ Sz SA SD SF SG SH k1 k2 k3 k4 nb nit aaA sb Hn KL=>
 have CH:∀H,Cx base nm env (Y.with H):=λ H=>C.hold H
 have band:∀{s:aav} {g:Gh} {oI:Obj} {p:Nat} {σ:bB} {z c:Int} {q q' q'':Pos} {k:Nat} {E Q:aas->aav->Prop},jL s0 I l Y p σ s g oI->bj VI (.var 1) σ=some (.int z)->
  (∀t tk,jL s0 I l Y p σ {s with toks:=tk} g oI->Q (.int (ac6 z c) t) {s with toks:=tk})->acn (acr prog w) A (eval (.BinOp (.Name b q) .BitAnd (.Constant (.int c) k q') q'') env) Q E s:=by
  intro s g oI p σ z c q q' q'' k E Q T hz hQ
  refine ah7 (d9 (RF:=VI) (CH [(I,oI)]) T.rel nb hz λ v hv=>?_)
  apply RelV.cp hv;intro _
  exact wpAny_Constant_int (and_int (hQ _ _ (T.tok _)))
 refine bf λ Hp Hq pz V VK=>A5 C hA T KD hl NM hn sb KL nit rfl (λ z rest hz s₁ aJ SJ aex=>pz _ ?_) λ hz s₁ e X Sp hsm=>VK _ _ ?_
 rotate_left
 · rw [hz] at KN
   skip
   obtain rfl:=aam KN
   exact hE rfl s₁ e none X Sp hsm
 rw [hz] at KN
 skip
 have hz1:rest=zs.drop (p+1):=by
  have:=congrArg (List.drop 1) hz
  simpa using this.symm
 refine bf λ KO KP yT V V=>afQ (band (z:=z) aex rfl λ t tk SK=>ig (CH [(I,SJ)]) (s:={s₁ with toks:=tk}) SK.rel Hn (.int _ t) λ s₂ a ha V aaC aF aX=>yT _ ?_) (cj rfl)
 have aey:=SK.put hn ha aaC aF aX
 refine bf λ Hr KQ se V VL=>wpAny_While (codeAny_whileLoop (λ m s'=>∀G:Prop,(∀q g' lO v' b',m=(zs.drop q).length->jL s0 I l Y q ⟨[some (.obj (.ref I)),some (.int b'),some (.int v')],[]⟩ s' g' lO->gJ v' b' (zs.drop q)=some r->G)->G) ?_ _
  λ G f=>f (p+1) aJ SJ (ac6 z 63) z rfl aey (hz1▸KN))
 refine λ m s' H=>d6 λ VM VN Dx aaD=>H _ λ q g' lO v' b' hm T' NN=>?_
 refine alY (band (z:=b') T' rfl λ t tk Du=>A6 (Dx _ _ ?_)) rfl
 by_cases oU:ac6 b' 64=0
 · have e0:(ac6 b' 64 !=0)=false:=by simp [oU]
   erw [e0]
   skip
   refine aew (se _ ?_)
   have hr:r=some (v',zs.drop q):=by
    rw [w7 oU] at NN
    exact (aam NN).symm
   refine aeN (aft (d9 (RF:=VI) (CH [(I,lO)]) Du.rel aaA rfl λ u OL=>?_))
   apply RelV.cp OL;intro _
   exact hQ v' _ hr _ {s' with toks:=tk} g' lO _ q Du rfl
 · have e0:(ac6 b' 64 !=0)=true:=by simp [oU]
   erw [e0]
   skip
   have hgd:(aan v':Int)+6≤2 ^ 27:=by
    cases hd:zs.drop q with
    | nil=>rw [hd] at NN;exact (A8 oU NN).1
    | cons y ys=>rw [hd] at NN;exact (w8 oU NN).1
   refine d6 λ VO VP Dy aez=>bf λ aeA aeB VQ V V=>aiO (uQ (CH [(I,lO)]) (s:={s' with toks:=tk}) Du.rel Hn rfl λ aal AT=>?_)
   apply RelV.cp AT;intro _
   refine wpAny_Constant_int (ilshift_int ⋯ hgd ?_)
   refine ig (CH [(I,lO)]) (s:={s' with toks:=tk+1+1}) (Du.tok (tk+1+1)).rel Hn (.int _ _) λ eo a ha V KE fX fb=>VQ _ ?_
   have aeC:=(Du.tok (tk+1+1)).put hn ha KE fX fb
   refine bf λ aeD aeE VR V aeF=>A5 C hA aeC KD hl NM hn sb KL nit rfl (λ y ys hy gj nr KR aaE=>VR _ ?_) λ hy gj e X Sp hsm=>aeF _ _ (aez _ _ ?_)
   · have hy1:ys=zs.drop (q+1):=by
      have:=congrArg (List.drop 1) hy
      simpa using this.symm
     refine bf λ aiq air aeG V V=>aiO (uQ (CH [(I,KR)]) aaE.rel Hn rfl λ aal AT=>?_)
     apply RelV.cp AT;intro _
     refine band (z:=y) aaE rfl λ t tk SM=>ior_int ?_
     refine ig (CH [(I,KR)]) (s:={gj with toks:=tk+1}) (SM.tok (tk+1)).rel Hn (.int _ _) λ n9 a ha V n0 dB pA=>aeG _ ?_
     have aeH:=(SM.tok (tk+1)).put hn ha n0 dB pA
     refine aew (Dy .next _ ⟨(zs.drop (q+1)).length,?_,λ G f=>f (q+1) nr KR _ y rfl aeH ?_⟩)
     · erw [hm,hy,←hy1];simp
     · rw [hy] at NN
       erw [←hy1];exact (w8 oU NN).2
   · rw [hy] at NN
     have X1:r=none:=(A8 oU NN).2
     have aeI:d0 (env::fr)=d0 Y.fr:=by erw [jY,rfl]
     refine VG (F:=d0 Y.fr) (s0:=s0.heap) (wr:=[I]) (hA.frames.trans (by erw [jY,rfl])) (jY▸Sp) hf (λ b hb=>.inl (aeI▸hb)) X (by simp) λ h' X' kk=>?_
     refine Hl (s:={gj with heap:=h'}) hf X' λ yt Sy kk'=>VL _ _ <| hE X1 {gj with heap:=yt} e _ Sy ?_ (hsm.trans ⟨rfl,rfl,rfl⟩)
     refine FunFrames.step (λ b hb o ho hd=>?_) Sp
     refine bF (kk b o ho hd) λ sl e1 _=>?_
     exact ⟨_,kk' b _ e1 hd,hd⟩
end
section
variable{prog:aaq}{w:acb}{A:adn}{Y:Lay}{g:Gh}{σ:bB}{s:aav}{d:Nat}{base:ac2}{nm:NI}{env:Env}{RF:cV}
noncomputable def Hs(o:Obj)(l:abh)(p:Nat):Prop:=o.cls=.type "list_iterator"∧o.data=.fields #[.ref l,.int p 0]
theorem ve(hf:env.frame=some L):d0 (env::fr)=L::d0 fr:=by
 unfold d0;erw [agS,hf,rfl]
theorem Dz
(D:bH base fp X2 [it] [it,b,val] body ax)(PT:pq (aY X2.scope [it,b,val] ax) body)(ew:base.NoLimit)(hA:jX (d+1) fr A)(hb:KS base s.heap)(jY:s.heap.FunFrames base fr)(hT:uy base s.heap fr)
(hI:s.heap.get? I=some oI)(tE:Hs oI l p)(hl:s.heap.IsList l vs.toArray)(NM:l≠I)(hbI:base.get? I=none)(hIf:I∉iQ fr)(KD:dC zs vs)(KN:pv (zs.drop p)=some r)
(hQ:∀v rest,r=some (v,rest)->∀t s' q lO,rest=zs.drop q->a9 s s'->s'.heap.get? I=some lO->Hs lO l q->
  (∀a o,a≠I->s.heap.get? a=some o->∃sl,s'.heap.get? a=some {o with slots:=sl}∧(a∉d0 fr->sl=o.slots))->Q (.int v t) s')
(hE:r=none->∀s' e,a9 s s'->Xc (d0 fr) [I] s.heap s'.heap e (some .none)->E (.ref e) s'):
 acn (acr prog w) A (call (.ref fp) [.ref I] []) Q E s:=by
 refine aix (Kz (d:=d) D ew (H:=[(I,oI)]) (args:=[.obj (.ref I)]) hA hb jY hT (by simp) (λ q hq=>by simp at hq;subst hq;exact ⟨hI,hbI,hIf⟩) (λ q hq CW nm' tt hd hv=>by
  simp at hq;subst hq
  rw [tE.2] at hd;cases hd;simp at hv) rfl (by simp) (.cons (.obj _) .nil) λ bh Y s₁ C hs Hf Ij wv CX sa Fu u0 f6 u9=>?_)
 have hYw:Y.with [(I,oI)]=Y:=by cases Y;simp only at Ij;subst Ij;rfl
 have hF:d0 Y.fr=s.heap.objs.size::d0 fr:=by erw [wv];exact ve sa
 have conv:∀{a o sl},s.heap.get? a=some o->(a∉d0 Y.fr->sl=o.slots)->(a∉d0 fr->sl=o.slots):=λ{a o sl} e h hn=>h (by
  (erw [hF];rw [aaB];rw [not_or]);exact ⟨acS (acD e),hn⟩)
 have aeK:jL s I l Y p ⟨[some (.obj (.ref I)),none,none],[]⟩ s₁ ⟨gE (iQ fr) [(I,oI)] s.heap,[]⟩ oI:=
  ⟨by erw [hYw];exact u0,tE,λ a o V e=>f6 a o e,u9⟩
 refine Dw PT C hs Fu aeK KD hl NM Hf sa wv KN (λ v rest hr t s' g' lO σ' q T i9=>?_) λ hr s' e fl X Sp hsm=>?_
 · refine hQ v rest hr t s' q lO i9 T.same (T.rel.held (I,lO) (by simp)) T.it λ a o ha e=>?_
   exact ⟨o.slots,T.kx a o ha e,λ V=>rfl⟩
 · refine Hk (F:=d0 Y.fr) (s0:=s.heap) (wr:=[I]) (base:=base) (Fu.frames.trans (by erw [wv,rfl])) sa (wv▸CX▸Sp) (λ b hb=>.inl (by erw [wv];exact hb)) X λ h' X' V=>?_
   refine hE hr {s' with heap:=h'} e (hsm.trans ⟨rfl,rfl,rfl⟩) ⟨λ a o ha e=>?_,X'.new,X'.wl,X'.there⟩
   refine bF (X'.lY a o ha e) λ sl e1 n1=>?_
   exact ⟨sl,e1,conv e n1⟩
end
section
variable{prog:aaq}{w:acb}{A:adn}{Y:Lay}{g:Gh}{σ:bB}{s:aav}{d:Nat}{base:ac2}{nm:NI}{env:Env}{RF:cV}
noncomputable def pB:Nat->List Int->Option (List Int)
 | 0,_=>none
 | m+1,l=>match pv l with
   | none=>none
   | some none=>some []
   | some (some (v,r))=>(pB m r).map (v::·)
theorem A9:∀{v b:Int} {l:List Int} {u:Int} {r:List Int},gJ v b l=some (some (u,r))->r.length≤l.length
 | v,b,[],u,r,h=>by
   unfold gJ at h
   split at h
   · cases h;exact ac1 _
   · split at h <;> cases h
 | v,b,y::l,u,r,h=>by
   unfold gJ at h
   split at h
   · cases h;exact ac1 _
   · split at h
     · exact acW (A9 h) (Nat.le_succ _)
     · cases h
theorem VS(h:pv l=some (some (u,r))):r.length < l.length:=by
 cases l with
 | nil=>cases h
 | cons y l=>exact ahV (A9 h)
theorem Rel.pC{h h':ac2}{H H':List (abh×Obj)}{X:List abh}(R:Rel (Y.with H) g σ h)(hm:List.Sublist (H'.map (·.1)) (H.map (·.1)))(hX:∀a∈X,a∈H.map (·.1))
(hk:∀b o,b∉X->h.get? b=some o->∃sl,h'.get? b=some {o with slots:=sl}∧(b∉d0 Y.fr->sl=o.slots))(hh:∀p∈H',h'.get? p.1=some p.2):Rel (Y.with H') g σ h':=by
 have nd:=R.yu
 have DA:∀b o,b∉X->b∉d0 Y.fr->h.get? b=some o->h'.get? b=some o:=λ b o hb hf e=>by
  obtain ⟨sl,e1,n1⟩:=hk b o hb e
  rw [n1 hf] at e1;exact e1
 have KU:∀b o,b∉X->h.get? b=some o->∃o',h'.get? b=some o'∧o'.data=o.data:=λ b o hb e=>by
  obtain ⟨sl,e1,_⟩:=hk b o hb e
  exact ⟨_,e1,rfl⟩
 have aeL:∀a∈X,g.z a=none:=λ a ha=>R.off a (au.mpr (.inr (.inr (.inl (hX a ha)))))
 have sub:∀a,a∈(Y.with H').bw g->a∈(Y.with H).bw g:=λ a ha=>by
  rw [au] at ha ⊢
  rcases ha with ha | ha | ha | ha
  · exact .inl ha
  · exact .inr (.inl ha)
  · exact .inr (.inr (.inl (hm.subset ha)))
  · exact .inr (.inr (.inr ha))
 refine ⟨λ a o q=>DA a o (λ hx=>by rw [aeL a hx] at q;cases q) (R.Ov q) (R.fJ a o q),R.base,?_,R.dz,λ a ha=>R.off a (sub a ha),R.low,R.dv,R.len,R.eG,λ a ha=>?_,λ i c hc=>?_,λ k a ha=>?_,hh,?_,λ L hL q=>R.ni L hL (hm.subset q),R.nj,λ t ht=>⟨(R.eH t ht).1,λ q=>(R.eH t ht).2.1 (sub _ q),(R.eH t ht).2.2⟩,λ t ht=>(R.tabs t ht).of (λ V V q=>q) λ o q=>DA _ o (λ hx=>(R.eH t ht).2.1 (au.mpr (.inr (.inr (.inl (hX _ hx)))))) (R.eH t ht).2.2 q⟩
 · refine ajH ?_ R.nodup
   skip
   exact (agq _).append ((agq _).append (hm.append (agq _)))
 · obtain ⟨f,⟨o,es,ep,h1,h2,h3⟩,h4⟩:=R.ns a ha
   obtain ⟨o',e1,e2⟩:=KU a o (λ hx=>(nd.2.1 a ha).2.1 _ (hX a hx) rfl) h1
   exact ⟨f,⟨o',es,ep,e1,e2.trans h2,h3⟩,h4⟩
 · obtain ⟨ov,⟨o,h1,h2⟩,h3⟩:=R.cell i c hc
   obtain ⟨o',e1,e2⟩:=KU c o (λ hx=>(nd.2.2.1 c (bT hc)).1 _ (hX c hx) rfl) h1
   exact ⟨ov,⟨o',e1,e2.trans h2⟩,h3⟩
 · obtain ⟨vs,⟨n,h1⟩,h3⟩:=R.own k a ha
   exact ⟨vs,⟨n,DA a _ (λ hx=>nd.2.2.2 _ (hX a hx) a (acR ha) rfl) (R.o6 ha) h1⟩,h3⟩
 · refine FunFrames.step (λ b hb o e hd=>?_) R.frames
   obtain ⟨o',e1,e2⟩:=KU b o (λ hx=>R.ni b hb (hX b hx)) e
   exact ⟨o',e1,λ vs=>e2▸hd vs⟩
inductive NumText (nm:NI) (fp:abh) (comp kP:acU):List agH->Prop
 | mk (DB numbers turn VU:Str) (p1 p2 p3 p4 p5 p6 p7 p8 p9 A7 Dv Il Hm Fw Im Io Ip Iq Ir Iu KH KI KJ:Pos) (hline:(A7.endLine==Fw.line)=true)
   (SN:cc nm "iter"=some (.glob "iter" (.obj (.builtin "iter")))) (SQ:bC nm DB=some 1) (aaG:bC nm numbers=some 2) (SR:bC nm turn=some 3) (KV:cc nm numbers=some (.var 2)) (Fx:cc nm DB=some (.var 1))
   (npv:cc nm VU=some (.glob VU (.obj (.ref fp)))) (Fy:cc nm "StopIteration"=some (.glob "StopIteration" (.obj (.type "StopIteration")))):
   NumText nm fp comp kP [.Assign [.Name DB p1] (.Call (.Name "iter" p2) [comp] [] p3) p4,.Assign [.Name numbers p5] (.List [] p6) p7,
    .For (.Name turn p8) kP [.Try [.Expr (.Call (.Attribute (.Name numbers p9) (ac5 "append") A7) [.Call (.Name VU Dv) [.Name DB Il] [] Hm] [] Fw) Im]
     [.ExceptHandler (some (.Name "StopIteration" Io)) none [.Return (some (.Name numbers Ip)) Iq] Ir] [] [] Iu] [] KH,
    .Return (some (.List [] KI)) KJ]
end
section
set_option tactic.hygienic true
variable{prog:aaq}{w:acb}{A:adn}{Y:Lay}{g:Gh}{σ:bB}{s:aav}{d:Nat}{base:ac2}{nm:NI}{env:Env}{RF:cV}
noncomputable abbrev gK:cV:=λ V V=>none
theorem yU:∀(f:abh) (xs:List AV) (res:AV),gK (.ref f) xs=some res->∃o fd,base.get? f=some o∧o.data=.func fd:=λ V V V h=>by exact aw h
theorem jM(C:Cx base nm env Y)(hs:∃a,a∈Y.dO∧Y.n≤a)(ke:Nat):Se prog w d base gK ke nm env Y:=aad rf0 yU ke nm env Y C hs
theorem pD:∀{vs:List aas},aq n g (zs.map AV.int) vs->dC zs vs:=by
 induction zs with
 | nil=>intro vs h;apply h.o4;exact .nil
 | cons z zs ih=>intro vs h;apply h.hU;intro v us a b;apply a.cp;intro _;exact .cons (.int _ _) (ih b)
theorem w9(zs:List Int):(zs.map AV.int).mapM (nk σ (k+1))=some (zs.map AV.int):=by
 induction zs with
 | nil=>rfl
 | cons z zs ih=>erw [aaX,adu,ih];rfl
theorem mw(vars:List (Option AV))(zs:List Int)(k:Nat):nk ⟨vars,[zs.map AV.int]⟩ (k+2) (.own 0)=some (.lst (zs.map AV.int)):=by
 show (some (zs.map AV.int)).bind (λ xs=>(xs.mapM (nk _ (k+1))).map AV.lst)=_
 erw [aaT ..,w9 ..]
 rfl
theorem Pl:ct [aln x p]:=λ e he y q=>by
 rw [aaU] at he;subst he;exact λ h=>by cases h
theorem Fz:ct [Expr.Call f l k p]:=λ e he y q=>by
 rw [aaU] at he;subst he;exact λ h=>by cases h
theorem Pm
(C:Cx base nm env Y)(hs:∃a,a∈Y.dO∧Y.n≤a)(hA:jX (d+1) Y.fr A)(CX:Y.base=base)(wv:Y.fr=env::fr)(sa:env.frame=some L)(R:Rel (Y.with [(J,oJ),(I,oI)]) g σ s.heap)(hJI:J≠I)(hIn:Y.n≤I)
(hline:(A7.endLine==Fw.line)=true)(KV:cc nm numbers=some (.var 2))(Fx:cc nm DB=some (.var 1))(npv:cc nm VU=some (.glob VU (.obj (.ref fp))))(Fy:cc nm "StopIteration"=some (.glob "StopIteration" (.obj (.type "StopIteration"))))
(ZM:bj gK (.var 1) σ=some (.obj (.ref I)))(RX:bj gK (.var 2) σ=some (.own 0))(Pn:σ.own[0]?=some xs)(bY:xs.length < aaW)
(Dp:bH base fp X2 [it] [it,b,val] KW DC)(PT:pq (aY X2.scope [it,b,val] DC) KW)(ew:base.NoLimit)
(hIt:Hs oI D q)(zD:g.z D=some oD)(hD3:oD.cls=.type "list")(hD4:oD.data=.seq vs.toArray eD)(hDI:D≠I)(hbI:base.get? I=none)(VV:I∉iQ Y.fr)(KD:dC zs vs)(hpr:pv (zs.drop q)=some pr)
(hQ:∀v rest q' lO s' g',pr=some (v,rest)->rest=zs.drop q'->Hs lO D q'->g.le g'->a9 s s'->Kb Y.lo Y.n s.heap s'.heap->Rel (Y.with [(J,oJ),(I,lO)]) g' {σ with own:=σ.own.set 0 (xs++[.int v])} s'.heap->Q .next s')
(hE:pr=none->∀u s' g',a9 s s'->Kb Y.lo Y.n s.heap s'.heap->Rel (Y.with []) g' σ s'.heap->RelV Y.n g' (.own 0) u->Q (.ret u) s'):
 acn (acr prog w) A (exec (.Try [.Expr (.Call (.Attribute (.Name numbers p9) (ac5 "append") A7) [.Call (.Name VU Dv) [.Name DB Il] [] Hm] [] Fw) Im]
  [.ExceptHandler (some (.Name "StopIteration" Io)) none [.Return (some (.Name numbers Ip)) Iq] Ir] [] [] Iu) env) Q E s:=by
 have CH:∀H,Cx base nm env (Y.with H):=λ H=>C.hold H
 have KG:I∉d0 Y.fr:=λ hm=>R.ni I hm (by simp)
 obtain ⟨ofp,aeO,aeP⟩:=Dp.obj
 refine wpAny_Try_except (d6 λ Hp Hq pz VK=>bf λ KO KP yT V UG=>ahp (d6 λ Hr KQ se VL=>afe (d8 rfl) (by rw [aM Fz];rfl) hline
  ((dA (RF:=gK) (CH [(J,oJ),(I,oI)]) R KV RX).then λ u Ht Pp KX yV Rc KY KZ=>?_)) (d3 C) rfl)
 obtain ⟨a,us,rfl,tH,z5,aeQ⟩:=pp Rc KZ Pn
 refine ⟨"list","list.append",aji,slot_list_append,ak5,z5.isList.typeIs,λ b e=>by cases e;obtain ⟨z,q⟩:=z5;exact ⟨_,q,rfl⟩,?_⟩
 rw [aM Fz]
 refine aee rfl (ac4 (ac0 (d6 λ VM VN Dx aaD=>afi (aM Pl Hm) (ja (CH [(J,oJ),(I,oI)]) Rc npv λ Pq aiu Ba aaJ Rd K0=>?_))))
 refine afN (o:=ofp) (fd:=X2) (ac4 (ac0 ((dA (RF:=gK) (CH [(J,oJ),(I,oI)]) Rd Fx ZM).then λ u tI fA Pt oa Re Pu Pw=>adt ⟨⟨?_,aeP⟩,?_⟩)))
 · exact Re.cD _ _ (C.keep _ _ aeO)
 apply RelV.nO Pw
 have Bb:Kb Y.lo Y.n s.heap tI.heap:=Rel.kb (Y:=Y.with [(J,oJ),(I,oI)]) R hs ((KX.trans Ba).trans Pt)
 have Bc:a9 s tI:=(KY.trans K0).trans Pu
 have Bd:g.le fA:=(yV.trans aaJ).trans oa
 refine Dz (d:=d) Dp PT ew (fr:=Y.fr) (l:=D) hA (CX▸Re.cD) (CX▸Re.frames) (Re.R2 (CX▸λ V V e=>e)) (Re.held (I,oI) (by simp)) hIt ⟨oD,Re.fJ _ _ (Bd.1 _ _ zD),hD3,eD,hD4⟩ hDI hbI VV KD hpr (λ v uJ hr t' ik q' lO i9 yW OU VW lY=>Dx _ _ ?_) λ hr ik e yW X=>aaD _ _ (VL _ _ (UG _ _ (VK _ _ ?_)))
 ·
  have Rf:Rel (Y.with [(J,oJ),(I,lO)]) fA _ ik.heap:=Re.pC (X:=[I]) (H':=[(J,oJ),(I,lO)]) (by simp) (λ b hb=>by simp at hb;subst hb;simp) (λ b o hb e=>lY b o (by simpa using hb) e) (λ p hp=>by
   simp at hp
   rcases hp with rfl | rfl
   · obtain ⟨sl,e1,n1⟩:=lY J oJ hJI (Re.held (J,oJ) (by simp))
     rw [n1 (Re.tB (p:=(J,oJ)) (by simp))] at e1;exact e1
   · exact OU)
  have pE:fA.ρ[0]?=some a:=(aaJ.trans oa).2 _ _ tH
  obtain ⟨Be,Hu,pF⟩:=Rf.own 0 a pE
  rw [Pn] at pF
  have vf:xs.length=Be.length:=pF.length
  refine adt (ahd Hu (λ Px K1 Bf=>se _ _ (yT _ (aew (pz .next _ (aew ?_))))) (by simp at vf ⊢;exact %[a≤b,c<b,c=a|cf bY vf]))
  have yN:Px.PlainList a (Be++[Value.int v t']).toArray:=by simpa using K1
  have Rg:=Rf.dk (xs:=xs++[.int v]) pE (pF.append (.cons (.int v t') .nil)) yN Bf
  exact hQ v uJ q' lO _ fA hr i9 VW Bd ((Bc.trans yW).trans ⟨rfl,rfl,rfl⟩) ((Bb.trans (λ b o hb e=>.inl (lY b o (acS (aaY hb hIn)) e)) Rf).trans (Kb.but Bf (Rf.low a (.inr (.inr (acR pE))))) Rg) Rg
 ·
  have hFe:d0 Y.fr=d0 (env::fr):=by rw [wv]
  have Hv:ik.heap.FunFrames base (env::fr):=by
   have h0:tI.heap.FunFrames base (env::fr):=by rw [←wv,←CX];exact Re.frames
   refine FunFrames.step (λ b hb o ho hd=>?_) h0
   obtain ⟨sl,e1,_⟩:=X.lY b o (by rw [aaU];rintro rfl;exact KG (hFe▸hb)) ho
   exact ⟨_,e1,hd⟩
  refine VG (F:=d0 Y.fr) (s0:=tI.heap) (wr:=[I]) (base:=base) (outer:=fr) (L:=L) (hA.frames.trans (by rw [wv])) Hv sa (λ b hb=>.inl (hFe▸hb)) X (by simp [rawInt]) λ h' X' kk=>?_
  refine n8 (s:={ik with heap:=h'}) (fr:=none) X' λ yt Sy kk'=>?_
  have Rh:Rel (Y.with [(J,oJ)]) fA _ yt:=Re.pC (X:=[I]) (H':=[(J,oJ)]) (by simp) (λ b hb=>by simp at hb;subst hb;simp) (λ b o hb e=>Sy.lY b o hb e) (λ p hp=>by
   simp at hp
   subst hp
   obtain ⟨sl,e1,n1⟩:=Sy.lY J oJ (by simpa using hJI) (Re.held (J,oJ) (by simp))
   rw [n1 (Re.tB (p:=(J,oJ)) (by simp))] at e1;exact e1)
  refine wpAny_handleBy_builtin (X:="StopIteration") (T:="StopIteration") (b:=true) owsi_raise.isExc (by rw [akh];kernel_rfl) owsi_facts.sub (d6 λ VO VP Dy V=>?_)
  refine d9 (s:={ik with heap:=yt}) (RF:=gK) (CH [(J,oJ)]) Rh Fy rfl λ u Py=>?_
  apply RelV.nO Py
  refine Dy _ _ ⟨rfl,Sy.typeIs,?_⟩
  rw [if_pos rfl]
  refine n8 (s:={ik with heap:=yt}) (fr:=none) Sy λ yX FA aaK=>?_
  have Rj:Rel (Y.with []) fA _ yX:=Re.pC (X:=[I]) (H':=[]) (by simp) (λ b hb=>by simp at hb;subst hb;simp) (λ b o hb e=>FA.lY b o hb e) (λ p hp=>by simp at hp)
  refine aeN (aft (d9 (s:={ik with heap:=yX}) (RF:=gK) (CH []) Rj KV RX λ u yY=>?_))
  exact hE hr u {ik with heap:=yX} fA (Bc.trans (yW.trans ⟨rfl,rfl,rfl⟩)) (Bb.trans (λ b o hb e=>.inl (FA.lY b o (by rw [aaU];exact acS (aaY hb hIn)) e)) Rj) Rj yY
theorem Pz(hk:k < n)(h:pB (n - k) zs=some rest)(hp:pv zs=some (some (v,r)))(e:r=zq):∃tJ,pB (n - (k+1)) zq=some tJ∧rest=v::tJ:=by
 rw [show n - k=(n - (k+1))+1 by exact %[a=b+1,c<d,qD 0 a d c,qD 0 b d (c+1)|dQ hk rfl rfl]] at h
 unfold pB at h
 rw [hp] at h
 refine bS h λ PA h1 h2=>⟨PA,e▸h1,h2.symm⟩
theorem VX(hk:k < n)(h:pB (n - k) zs=some rest):∃pr,pv zs=some pr∧(pr=none->rest=[]):=by
 rw [show n - k=(n - (k+1))+1 by exact %[a=b+1,c<d,qD 0 a d c,qD 0 b d (c+1)|dQ hk rfl rfl]] at h
 unfold pB at h
 cases e:pv zs with
 | none=>rw [e] at h;exact aw h
 | some o=>cases o with
   | none=>rw [e] at h;exact ⟨_,rfl,λ V=>(aam h).symm⟩
   | some _=>exact ⟨_,rfl,λ q=>aw q.symm⟩
noncomputable def VY(Y:Lay)(s₁:aav)(St:Nat->ac2->Prop)(ww:Gh)(x:Str)(zs res:List Int)(D:abh)(J I:abh)(n:Nat)(m:Nat)(s':aav):Prop:=∀G:Prop,(∀k g' oI oJ q acc rest tn,m=n+1 - k->k+(zs.drop q).length≤zs.length->St k s'.heap->Kb Y.lo Y.n s₁.heap s'.heap->ww.le g'->
 Rel (Y.with [(J,oJ),(I,oI)]) g' ⟨[some (.str x),some (.obj (.ref I)),some (.own 0),tn],[acc.map AV.int]⟩ s'.heap->a9 s₁ s'->Hs oI D q->pB (zs.length+1 - k) (zs.drop q)=some rest->acc++rest=res->acc.length≤k->G)->G
theorem Bg
(Dn:bH base fnn fdn [tx] [tx,ta,nu,tu] body yZ)(NT:NumText (aY fdn.scope [tx,ta,nu,tu] yZ) fp comp kP body)
(Dp:bH base fp X2 [it] [it,b,val] KW DC)(PT:pq (aY X2.scope [it,b,val] DC) KW)(ew:base.NoLimit)
(aaL:dT ke (aY fdn.scope [tx,ta,nu,tu] yZ) comp=some ic)(aeR:uw ke (aY fdn.scope [tx,ta,nu,tu] yZ) kP=some ir)(gi:dM kP=true)(hcs:ct [comp])
(hev:bj gK ic ⟨[some (.str x),none,none,none],[]⟩=some (.lst (zs.map .int)))
(NP:∀I,∃items,wj gK ir ⟨[some (.str x),some (.obj (.ref I)),some (.own 0),none],[[]]⟩=some items∧zs.length < items.length)
(bY:zs.length < aaW)(jN:pB (zs.length+1) zs=some res):uz prog w (d+2) base (.ref fnn) [.str x] (.lst (res.map .int)):=by
 intro fr A s vs E Q hA hb jY hT nV hQ
 apply aq.hU nV;intro v us h1 h2
 apply aq.o4 h2
 apply RelV.fH h1;intro t
 refine aix (Kz (d:=d+1) Dn ew (H:=[]) (args:=[.str x]) hA hb jY hT (by simp) (λ q hq=>by simp at hq) (λ q hq=>by simp at hq) rfl (by simp) (.cons (.str x t) .nil) λ bh Y s₁ C hs Hf Ij wv CX sa Fu u0 f6 u9=>d6 λ Qa Ea hQa V=>?_)
 generalize R7:aY fdn.scope [tx,ta,nu,tu] yZ=nm at *
 cases NT with
 | mk DB numbers turn VU p1 p2 p3 p4 p5 p6 p7 p8 p9 A7 Dv Il Hm Fw Im Io Ip Iq Ir Iu KH KI KJ hline SN SQ aaG SR KV Fx npv Fy=>
 have hYw:Y.with []=Y:=by cases Y;simp only at Ij;subst Ij;rfl
 have CH:∀H,Cx base nm bh (Y.with H):=λ H=>C.hold H
 refine bf λ Qb Eb nb V V=>afQ (afi (aM hcs p3) ((dA (RF:=gK) C u0 SN rfl).then λ v s₂ bu bg bk aF aX cE=>?_)) (cj rfl)
 apply RelV.nO cE
 refine aee rfl (ac4 (ac0 (((jM C hs ke).e _ _ aaL _ s₂ bu _ _ Fu aF hev).then λ u ci gZ de fW bW cW i6=>adt ?_)))
 cases i6 with
 | lst hD1 hD2 hD3 hD4 hD5=>
 rename_i CW D oD eD
 refine Hi ⟨oD,bW.fJ _ _ hD2,hD3,eD,hD4⟩ ?_
 have aaM:Hs ({cls:=.type "list_iterator",data:=.fields #[.ref D,.int 0 0]}) D 0:=⟨rfl,rfl⟩
 have K2:({cls:=.type "list_iterator",data:=.fields #[.ref D,.int 0 0]}:Obj).isFreed=false:=rfl
 generalize ({cls:=.type "list_iterator",data:=.fields #[.ref D,.int 0 0]}:Obj)=NQ at aaM K2 ⊢
 have hIn:Y.n≤ci.heap.objs.size:=dG u0 (bg.trans de) hs bW
 have fX:Rel (Y.with [(ci.heap.objs.size,NQ)]) gZ _ (ci.heap.push NQ):=
  Rel.gG (Y:=Y) (H:=[]) (hYw.symm▸bW) K2 hIn
 have hDI:D≠ci.heap.objs.size:=acS (acD (bW.fJ _ _ hD2))
 have KG:ci.heap.objs.size∉d0 Y.fr:=λ hm=>adg _ (FunFrames.live bW.frames hm)
 have VV:ci.heap.objs.size∉iQ Y.fr:=fX.JI (au.mpr (.inr (.inr (.inl (by simp))))) KG
 have hbI:base.get? ci.heap.objs.size=none:=by
  cases e:base.get? ci.heap.objs.size with
  | none=>rfl
  | some o=>exact absurd (acD (bW.cD _ _ (CX▸e))) (adg _)
 generalize ci.heap.objs.size=I at *
 have KD:dC zs CW:=pD hD5
 refine cr (CH [(I,NQ)]) (s:={ci with heap:=ci.heap.push NQ}) fX SQ (.obj (.ref I)) λ eo jH dH fb=>nb _ ?_
 have K3:Kb Y.lo Y.n s₁.heap eo.heap:=(u0.kb hs ((bg.trans de).trans (cq _ _))).trans jH dH
 have nZ:a9 s₁ eo:=(aX.trans cW).trans ⟨fb.1,fb.2,fb.3⟩
 refine bf λ Qc Ec nc V V=>Ko (RF:=gK) (CH [(I,NQ)]) hs aaG 0 _ eo gZ _ _ none Fu dH rfl _ _ λ f gj nr Bh uC dB iR aeT=>?_
 cases aeT
 refine nc _ ?_
 obtain ⟨items,K4,bc⟩:=NP I
 refine bf λ Qd Ed nd rd V=>wpAny_For ((jM (CH [(I,NQ)]) hs ke).i _ _ aeR _ gj nr _ items true Fu dB (AU K4) (λ V=>K4) _ _ λ n9 ww vg y7 gm pA=>?_) (lL gi)
 intro o fp' P St ho It GN
 have hJn:Y.n≤n9.heap.objs.size:=dG dB vg hs gm
 have dy:Rel (Y.with ((n9.heap.objs.size,o)::[(I,NQ)])) ww _ (n9.heap.push o):=Rel.gG (Y:=Y) (H:=[(I,NQ)]) gm ho hJn
 generalize hJ':n9.heap.objs.size=J at *
 have W:=It.walks (A.deeper bh) Fu.hand
 refine codeAny_forLoop (VY Y s₁ St ww x zs res D J I items.length) ?_ (items.length+1)
  λ G f=>f 0 ww NQ o 0 [] res none rfl (by simp) GN ((K3.trans Bh dB).trans (Rel.kb (Y:=Y.with [(I,NQ)]) dB hs (vg.trans (cq _ _))) dy) (Gh.le.refl _) dy ((nZ.trans iR).trans (pA.trans ⟨rfl,rfl,rfl⟩)) aaM (by simpa using jN) rfl (ac1 _)
 refine λ m s' H=>d6 λ Qe Ee ne V=>H _ λ k g' oI oJ q acc rest tn hm hk wp kb' l' R' m' hIt Bi nw FC=>?_
 have bD:k < items.length:=%[a<b,c<b,a+d≤c|(dQ bc hk)]
 refine W.item k s' _ _ bD wp λ v gk tk U8 gI eg=>ne _ _ ?_
 obtain ⟨xk,XX,U9⟩:=It.rel k v bD U8
 obtain ⟨SU,VZ⟩:=It.obj _ _ gI
 have hJI:J≠I:=by
  have XW:=R'.yu.1.2.2.1
  simp at XW;exact XW
 have Ra:=R'.tF (h':=gk) eg VZ
 have kpa:Kb Y.lo Y.n s'.heap gk:=Kb.fI eg λ a ha=>by
  rw [aaU];exact acS (aaY ha hJn)
 refine afP (cr (CH [(J,SU),(I,oI)]) (s:={s' with heap:=gk,toks:=tk}) Ra SR (U9.mono l') λ wx aaN Rb y8=>?_)
 have uR:∀{h h':ac2} {ga gb:Gh} {σa σb:bB} {oJ oI lO:Obj},Rel (Y.with [(J,oJ),(I,oI)]) ga σa h->Rel (Y.with [(J,oJ),(I,lO)]) gb σb h'->ww.le ga->ga.le gb->∀b∈fp',∀o,h.get? b=some o->h'.get? b=some o:=by
  intro h h' ga gb σa σb oJ oI lO Ra Rb la lb b hb o e
  rcases It.nj rfl b hb with rfl | hz
  · have e1:=Ra.held (b,oJ) (by simp)
    have e2:=Rb.held (b,oJ) (by simp)
    simp only at e1 e2
    rw [e1] at e;obtain rfl:=aam e;exact e2
  · obtain ⟨o',oQ⟩:=afC.mp hz
    have e1:=Ra.fJ _ _ (la.1 _ _ oQ)
    rw [e1] at e;obtain rfl:=aam e
    exact Rb.fJ _ _ (lb.1 _ _ (la.1 _ _ oQ))
 have V0:St (k+1) wx.heap:=W.frame _ _ _ gI (uR Ra Rb l' (Gh.le.refl _))
 have K5:Kb Y.lo Y.n s₁.heap wx.heap:=(kb'.trans kpa Ra).trans aaN Rb
 have SV:a9 s₁ wx:=m'.trans (⟨y8.1,y8.2,y8.3⟩ :a9 s' wx)
 obtain ⟨pr,hpr,aeU⟩:=VX %[a<b+1,a+c≤b|(cf hk)] Bi
 have zD:g'.z D=some oD:=(uC.trans (y7.trans l')).1 _ _ hD2
 refine bf λ Qf Ef nf rf V=>Pm (CH []) hs Fu CX wv sa Rb hJI hIn hline KV Fx npv Fy rfl rfl rfl (by rw [aar];exact %[a<b,c<b,d+e≤c,a≤d|rU bY hk FC]) Dp PT ew hIt zD hD3 hD4 hDI hbI VV KD hpr (λ v uJ q' lO FD fA hr i9 VW oa ms vh Rg=>nf _ (aew ?_)) λ hr u FD fA ms vh Rj yY=>rf _ _ (rd _ _ (hQa _ _ (hQ u FD (λ a o e=>?_) (u9.trans (SV.trans ms)) ?_)))
 · obtain ⟨tJ,aaO,rfl⟩:=Pz %[a<b+1,a+c≤b|(cf hk)] Bi (hr▸hpr) i9
   have Ik:uJ.length < (zs.drop q).length:=VS (hr▸hpr)
   rw [i9] at Ik
   refine ⟨_,nS hm bD,λ G f=>f (k+1) fA lO SU q' (acc++[v]) tJ _ rfl %[a+1+b≤c,a+d≤c,b<d|(dQ hk Ik)] (W.frame _ _ _ V0 (uR Rb Rg l' oa)) (K5.trans vh Rg) (l'.trans oa) (by rw [aa6];exact Rg) (SV.trans ms) VW aaO (by rw [←nw];simp) (by simp;exact %[a≤b,a≤b|aU FC])⟩
 · have Iv:a∉d0 fr->a∉d0 Y.fr:=λ hn=>by
    rw [wv,ve sa,aaB,not_or];exact ⟨acS (acD e),hn⟩
   rcases (K5.trans vh Rj) a o (by rw [Hf];exact acD e) (f6 a o e) with ⟨sl,e1,n1⟩ | ⟨ho,AP,t,ht,hP,c,hc,hg,hr⟩
   · exact .inl ⟨sl,e1,λ hn=>n1 (Iv hn)⟩
   · refine .inr ⟨ho,λ hn=>?_,t,ht,hP,c,λ b ob eb=>aaY (acD eb) (by rw [←Hf];exact hc),hg,hr⟩
     obtain ⟨_,o',oQ,Ds⟩:=afd jY hn
     rw [e,ho] at oQ;obtain rfl:=aam oQ
     exact Ds _ rfl
 · have XZ:acc=res:=by rw [←nw,aeU hr,abg]
   exact Hf▸uV Rj 4 _ _ _ (XZ▸mw _ _ _) yY
end
section
variable{prog:aaq}{w:acb}{A:adn}{s:aav}{env:Env}
noncomputable def pG(op:agc)(a b:Int):Option Int:=
 match op with
 | .Add=>some (a+b)
 | .Sub=>some (a - b)
 | .Mult=>if aan a+aan b≤2 ^ 20 then some (a * b) else none
 | .RShift=>if 0≤b then some (a.fdiv (2 ^ b.toNat)) else none
 | .LShift=>if 0≤b∧(aan a:Int)+b≤2 ^ 27 then some (a * 2 ^ b.toNat) else none
 | .BitXor=>some (agD a b)
 | _=>none
theorem FE(h:pG op a b=some c)(hQ:∀t tk,Q (.int c t) {s with toks:=tk}):acn (acr prog w) A (aiP op (.int a t) (.int b u)) Q E s:=by
 unfold pG at h
 split at h
 · obtain rfl:=aam h;exact add_int (hQ _ _)
 · obtain rfl:=aam h;exact sub_int (hQ _ _)
 · split at h
   · rename_i hc;obtain rfl:=aam h;exact mul_int (hQ _ _) (RW hc)
   · exact aw h
 · split at h
   · rename_i hc;obtain rfl:=aam h;exact rshift_int hc (hQ _ _)
   · exact aw h
 · split at h
   · rename_i hc;obtain rfl:=aam h;exact lshift_int hc.1 hc.2 (hQ _ _)
   · exact aw h
 · obtain rfl:=aam h;exact xor_int (hQ _ _)
 · exact aw h
noncomputable def rz(prog:aaq)(w:acb)(A:adn)(env:Env)(s:aav)(mi:Str->Option Int):Prop:=
 ∀x z,mi x=some z->(x==("__debug__":Str))=false∧∀(E Q:aas->aav->Prop) tk,(∀t,Q (.int z t) {s with toks:=tk})->acn (acr prog w) A (loadName env x) Q E {s with toks:=tk}
noncomputable def aeV:Const->Option Int
 | .int i=>some i
 | _=>none
noncomputable def xa(mi:Str->Option Int):Nat->acU->Option Int
 | 0,_=>none
 | k+1,e=>match e with
   | .Name x _=>mi x
   | .Constant c _ _=>aeV c
   | .BinOp l op r _=>(xa mi k l).bind λ a=>(xa mi k r).bind λ b=>pG op a b
   | _=>none
theorem cG(hl:rz prog w A env s mi):∀{e:acU} {z:Int} {E Q:aas->aav->Prop} {tk:Nat},xa mi k e=some z->(∀t tk,Q (.int z t) {s with toks:=tk})->
 acn (acr prog w) A (eval e env) Q E {s with toks:=tk}:=by
 induction k with
 | zero=>exact λ h V=>aw h
 | succ k ih=>
   intro e z E Q tk h hQ
   cases e with
   | Name x p=>exact ahz ((hl x z h).2 E Q tk λ t=>hQ t tk) (hl x z h).1
   | Constant c n p=>cases c with
     | int i=>obtain rfl:=aam h;exact wpAny_Constant_int (hQ _ _)
     | _=>exact aw h
   | BinOp l op r p=>
     refine aC (show (xa mi k l).bind _=_ from h) λ a ha h=>aC h λ b hb h=>?_
     exact ah7 (ih ha λ t tk'=>ih hb λ u PB=>FE (s:={s with toks:=PB}) h λ t tk=>hQ t tk)
   | _=>exact aw h
structure IA (W:abh->Prop) (s0:aav) (env:Env) (li:Str->Option Int) (s:aav):Prop where
 ns:∃m,s.heap.Ns env.locals m∧∀x z,li x=some z->∃t,m x=some (.int z t)
 keep:∀b o,¬W b->s0.heap.get? b=some o->s.heap.get? b=some o
 new:s0.heap.get? env.locals=none
 same:a9 s0 s
theorem IA.tok(X:IA W s0 env li s)(tk:Nat):IA W s0 env li {s with toks:=tk}:=⟨X.ns,X.keep,X.new,X.same.trans ⟨rfl,rfl,rfl⟩⟩
theorem IA.store(X:IA W s0 env li s)(hk:env.scope.kind=.function)(hl:env.kindOf x=some .local)
(hQ:∀s',IA W s0 env (λ y=>if y=x then some z else li y) s'->Q () s'):acn (acr prog w) A (ajI env x (.int z t)) Q E s:=by
 obtain ⟨m,hn,hm⟩:=X.ns
 refine agK hl hn (λ h' Iv jo=>hQ _ ⟨⟨_,Iv,λ y u hu=>?_⟩,λ b o hb e=>?_,X.new,X.same.trans ⟨rfl,rfl,rfl⟩⟩) (by erw [hk];rfl)
 · by_cases q:y=x
   · subst q;simp at hu;subst hu;exact ⟨t,by simp⟩
   · simp [q] at hu ⊢;exact hm y u hu
 · exact jo.extBut b o (λ q=>by rw [q,X.new] at e;exact aw e) (X.keep b o hb e)
theorem V1(X:IA W s0 env li s)(hk:env.scope.kind=.function)(hl:env.kindOf x=some .local)
(hL:rz prog w A env s mi)(hv:xa mi k v=some z)(hc:kU v=false)(hQ:∀s',IA W s0 env (λ y=>if y=x then some z else li y) s'->Q .next s'):acn (acr prog w) A (exec (.Assign [.Name x px] v ps) env) Q E s:=
 afQ (cG (tk:=s.toks) hL hv λ t tk=>IA.store (X.tok tk) hk hl λ s' X'=>hQ s' X') (cj hc)
theorem IA.loads{W:abh->Prop}{s0:aav}{li fi:Str->Option Int}(X:IA W s0 env li s)(hk:env.scope.kind=.function)(gH:∀x z,li x=some z->env.kindOf x=some .local∧(x==("__debug__":Str))=false)
(jZ:∀x z,fi x=some z->env.kindOf x=some .free∧(x==("__debug__":Str))=false∧(x==("__classdict__":Str))=false∧∃c t,env.cells.lookup x=some c∧s0.heap.IsCell c (some (.int z t))∧¬W c):
 rz prog w A env s (λ x=>(li x).or (fi x)):=by
 intro x z h
 rcases ahc.mp h with h | ⟨_,h⟩
 · obtain ⟨h1,h2⟩:=gH x z h
   refine ⟨h2,λ E Q tk hQ=>?_⟩
   obtain ⟨m,hn,hm⟩:=X.ns
   obtain ⟨t,ht⟩:=hm x z h
   exact ahF (s:={s with toks:=tk}) hk h1 hn ht (hQ t)
 · obtain ⟨h1,h2,h3,c,t,hc,⟨o,ho,hd⟩,hW⟩:=jZ x z h
   refine ⟨h2,λ E Q tk hQ=>?_⟩
   exact ahQ (s:={s with toks:=tk}) hk h1 hc ⟨o,X.keep c o hW ho,hd⟩ (hQ t) h3
end
section
variable{prog:aaq}{w:acb}{A:adn}{s:aav}{env:Env}
noncomputable def K6(n:Int):Nat->Int->Int->Int->List Int->Option (List Int)
 | 0,_,_,_,_=>none
 | k+1,x,L,R,it=>
   if L+1=R then (if 0≤L∧L < it.length∧L < 2 ^ 62 then some (it.set L.toNat x) else none)
   else (pG .Mult ((L+R).fdiv (2 ^ (1:Int).toNat) - L) n).bind λ sh=>(pG .RShift x sh).bind λ up=>(pG .LShift up sh).bind λ ul=>
    (K6 n k (agD x ul) L ((L+R).fdiv (2 ^ (1:Int).toNat)) it).bind λ it1=>K6 n k up ((L+R).fdiv (2 ^ (1:Int).toNat)) R it1
structure K7 (fd:aei) (ns:List Str) (da:Str):Prop where
 kind:fd.scope.kind=.function
 co:fd.scope.isCoroutine=false
 gen:fd.scope.isGenerator=false
 cell:∀x∈fd.scope.names,x.2≠.cell
 loc:∀x∈ns,fd.scope.names.lookup x=some .local
 free:∀x∈[da,("inner":Str),"n"],fd.scope.names.lookup x=some .free
structure NR (fd:aei) (env:Env):Prop where
 kind:env.scope.kind=.function
 ko:∀y,env.kindOf y=fd.scope.names.lookup y
 cel:env.cells=fd.closure
theorem ine(h:fd.scope.kind=.function):NR fd (callEnv fd L f):=⟨h,λ V=>rfl,rfl⟩
structure K8 (h:ac2) (f:abh) (fd:aei) (da:Str) (al:abh) (n:Int):Prop where
 obj:∃o,h.get? f=some o∧o.data=.func fd
 lim:h.NoLimit
 code:h.CodeRec fd.code fd.qualname
 ad:∃c,fd.closure.lookup da=some c∧h.IsCell c (some (.ref al))
 tK:∃c,fd.closure.lookup ("inner":Str)=some c∧h.IsCell c (some (.ref f))
 n:∃c t,fd.closure.lookup ("n":Str)=some c∧h.IsCell c (some (.int n t))
theorem K8.step{h h':ac2}{f al:abh}{fd:aei}{da:Str}{n:Int}(X:K8 h f fd da al n)(k:∀b o,(∀its e,o.data≠.seq its e)->h.get? b=some o->h'.get? b=some o):K8 h' f fd da al n:=
 ⟨(by obtain ⟨o,ho,hd⟩:=X.obj;exact ⟨o,k f o (λ a b q=>by rw [hd] at q;cases q) ho,hd⟩),
  (by obtain ⟨mc,⟨o,es,ep,ho,hd,r⟩,q⟩:=X.lim;exact ⟨mc,⟨o,es,ep,k _ o (λ a b q=>by rw [hd] at q;cases q) ho,hd,r⟩,q⟩),
  (by obtain ⟨c,o,vs,t,e,ho,hd,hv⟩:=X.code;exact ⟨c,o,vs,t,e,k _ o (λ a b q=>by rw [hd] at q;cases q) ho,hd,hv⟩),
  (by obtain ⟨c,e,o,ho,hd⟩:=X.ad;exact ⟨c,e,o,k _ o (λ a b q=>by rw [hd] at q;cases q) ho,hd⟩),
  (by obtain ⟨c,e,o,ho,hd⟩:=X.tK;exact ⟨c,e,o,k _ o (λ a b q=>by rw [hd] at q;cases q) ho,hd⟩),
  (by obtain ⟨c,t,e,o,ho,hd⟩:=X.n;exact ⟨c,t,e,o,k _ o (λ a b q=>by rw [hd] at q;cases q) ho,hd⟩)⟩
noncomputable def lk(l:List (Str×Int)):Str->Option Int:=λ y=>l.lookup y
theorem PC(x:Str)(z:Int)(l:List (Str×Int)):(λ y=>if y=x then some z else lk l y)=lk ((x,z)::l):=by
 funext y
 unfold lk
 rw [adl]
 by_cases q:y=x
 · subst q;simp
 · have:(y==x)=false:=by simpa using q
   erw [this];simp [q]
theorem DE(h:lk l y=some z):y∈l.map (·.1):=adb.mpr ⟨_,cK h,rfl⟩
section
variable{fd:aei}{ns:List Str}{da:Str}{f al:abh}{n:Int}{E Q:aas->aav->Prop}{W:abh->Prop}{s0:aav}{l:List (Str×Int)}
theorem vi(T:K7 fd ns da)(Ee:NR fd env)(hx:x∈[da,("inner":Str),"n"])(hc:fd.closure.lookup x=some c)(hv:s.heap.IsCell c (some v))
(hd:(x==("__debug__":Str))=false)(hcd:(x==("__classdict__":Str))=false)(hQ:Q v s):acn (acr prog w) A (eval (.Name x p) env) Q E s:=
 ahz (ahQ Ee.kind ((Ee.ko x).trans (T.free x hx)) (Ee.cel▸hc) hv hQ hcd) hd
theorem Bj(T:K7 fd ns da)(Ee:NR fd env)(X:K8 s.heap f fd da al n)(hQ:Q (.ref f) s):acn (acr prog w) A (eval (.Name "inner" p) env) Q E s:=
 let ⟨_,hc,hv⟩:=X.tK
 vi T Ee (.tail _ (.head _)) hc hv ⋯ ⋯ hQ
noncomputable def InL(ns:List Str)(l:List (Str×Int)):Prop:=(l.all λ y=>ns.contains y.1&&!(y.1==("__debug__":Str)))=true
theorem fc(T:K7 fd ns da)(Ee:NR fd env)(X:IA W s0 env (lk l) s)(C3:InL ns l)(hn:∃c t,fd.closure.lookup ("n":Str)=some c∧s0.heap.IsCell c (some (.int n t))∧¬W c):rz prog w A env s (λ y=>(lk l y).or (lk [(("n":Str),n)] y)):=by
 refine X.loads Ee.kind (λ y z hz=>?_) λ y z hz=>?_
 · have hm:=acP.mp C3 _ (cK hz)
   rw [aaQ] at hm
   exact ⟨(Ee.ko y).trans (T.loc y (ahk.mp hm.1)),(aeM _).mp hm.2⟩
 · have hm:y=("n":Str):=aaU.mp (DE hz)
   subst hm
   obtain rfl:n=z:=aam hz
   obtain ⟨c,t,h1,h2,h3⟩:=hn
   exact ⟨(Ee.ko _).trans (T.free _ (.tail _ (.tail _ (.head _)))),⋯,⋯,c,t,Ee.cel▸h1,h2,h3⟩
theorem lP{z:Int}{x:Str}{v:acU}{px ps:Pos}{Q:agT->aav->Prop}(T:K7 fd ns da)(Ee:NR fd env)(X:IA W s0 env (lk l) s)(C3:InL ns l)(hn:∃c t,fd.closure.lookup ("n":Str)=some c∧s0.heap.IsCell c (some (.int n t))∧¬W c)(hx:x∈ns)
(hv:xa (λ y=>(lk l y).or (lk [(("n":Str),n)] y)) 9 v=some z)(hc:kU v=false)(hQ:∀s',IA W s0 env (lk ((x,z)::l)) s'->Q .next s'):acn (acr prog w) A (exec (.Assign [.Name x px] v ps) env) Q E s:=
 V1 X Ee.kind ((Ee.ko x).trans (T.loc x hx)) (fc T Ee X C3 hn) hv hc λ s' X'=>hQ s' (by erw [←PC ..];exact X')
theorem FG{l:List (Str×Pos)}:ct (l.map λ x=>aln x.1 x.2):=λ e he y q=>by
 obtain ⟨x,_,rfl⟩:=adb.mp he
 exact λ h=>by cases h
theorem Bk{mi:Str->Option Int}{n1 n2 n3:Str}{q1 q2 q3 p pc:Pos}{a b c:Int}{tk:Nat}(T:K7 fd ns da)(Ee:NR fd env)(hL:rz prog w A env s mi)(X:K8 s.heap f fd da al n)(h1:mi n1=some a)(h2:mi n2=some b)(h3:mi n3=some c)
(hc:∀t1 t2 t3 tk,acn (acr prog w) A (call (.ref f) [.int a t1,.int b t2,.int c t3] []) Q E {s with toks:=tk}):acn (acr prog w) A (eval (.Call (.Name "inner" p) [.Name n1 q1,.Name n2 q2,.Name n3 q3] [] pc) env) Q E {s with toks:=tk}:=
 let ⟨_,ho,hd⟩:=X.obj
 afi (aM (FG (l:=[(n1,q1),(n2,q2),(n3,q3)])) pc) (Bj (s:={s with toks:=tk}) T Ee X (afN (ac4 (ac0 (cG (k:=9) hL h1 λ t1 V=>ac0 (cG (k:=9) hL h2 λ t2 V=>ac0 (cG (k:=9) hL h3 λ t3 tk3=>adt ⟨⟨ho,hd⟩,hc t1 t2 t3 tk3⟩)))))))
theorem Bm{mi:Str->Option Int}{n1 n2:Str}{q1 q2 p pc:Pos}{a b:Int}{tk:Nat}(T:K7 fd ns da)(Ee:NR fd env)(hL:rz prog w A env s mi)(X:K8 s.heap f fd da al n)(h1:mi n1=some a)(h2:mi n2=some b)
(hc:∀t1 t2 tk,acn (acr prog w) A (call (.ref f) [.int a t1,.int b t2] []) Q E {s with toks:=tk}):acn (acr prog w) A (eval (.Call (.Name "inner" p) [.Name n1 q1,.Name n2 q2] [] pc) env) Q E {s with toks:=tk}:=
 let ⟨_,ho,hd⟩:=X.obj
 afi (aM (FG (l:=[(n1,q1),(n2,q2)])) pc) (Bj (s:={s with toks:=tk}) T Ee X (afN (ac4 (ac0 (cG (k:=9) hL h1 λ t1 V=>ac0 (cG (k:=9) hL h2 λ t2 tk2=>adt ⟨⟨ho,hd⟩,hc t1 t2 tk2⟩))))))
theorem xc(T:K7 fd ns da)(X:K8 s.heap f fd da al n)(hd:A.depth < 1000)(K9:fd.body=.stmts body)(aaR:bindArgs fd ⟨args,[]⟩=pure SW)(gH:∀x∈SW,x.1∈ns)
(hb:∀y z,lk zl y=some z->∃t,SW.reverse.lookup y=some (.int z t))(hQ:∀env s' Q' E',NR fd env->IA (λ V=>False) s env (lk zl) s'->KS s.heap s'.heap->(∀v uY,Q v uY->Q' (.ret v) uY)->(∀uY,Q .none uY->Q' .next uY)->acn (acr prog w) (A.deeper env) (aiF body env) Q' E' s'):
 acn (acr prog w) A (call (.ref f) args []) Q E s:=by
 obtain ⟨o,ho,aeW⟩:=X.obj
 refine aix (codeAny_call_def (by show A.depth < 1000;exact hd) ho aeW X.lim X.code K9 (BindsTo.of_eq aaR) T.cell (λ y hy=>T.loc _ (gH y hy)) (λ h₀ rW hk=>?_) T.co T.gen T.kind)
 refine hQ _ _ _ _ (ine T.kind) ⟨⟨_,rW,hb⟩,λ b o V e=>hk b o e,agJ (ac1 _),⟨rfl,rfl,rfl⟩⟩ (λ b o e=>hk b o e) (λ v uY h=>h) λ uY h=>h
end
inductive aaS:FuncBody->Prop
 | mk (p1 p2 p3 p4 p5 p6 p7 p8 p9 A7 Dv Il Hm Fw Im Io Ip Iq Ir Iu KH KI KJ Sz SA SD SF SG SH p30 p31 p32 p33 p34 p35 p36 p37 p38 p39 p40 p41 p42 p43 p44 p45 p46 p47 p48 p49 p50:Pos) (k1 k2:Nat):aaS (.stmts
   [.If (.Compare (.BinOp (.Name "L" p1) .Add (.Constant (.int 1) k1 p2) p3) [.Eq] [.Name "R" p4] p5)
     [.Assign [.Subscript (.Name "a_digits" p6) (.Name "L" p7) p8] (.Name "x" p9) A7,.Return none Dv] [] Il,
    .Assign [.Name "mid" Hm] (.BinOp (.BinOp (.Name "L" Fw) .Add (.Name "R" Im) Io) .RShift (.Constant (.int 1) k2 Ip) Iq) Ir,
    .Assign [.Name "shift" Iu] (.BinOp (.BinOp (.Name "mid" KH) .Sub (.Name "L" KI) KJ) .Mult (.Name "n" Sz) SA) SD,
    .Assign [.Name "upper" SF] (.BinOp (.Name "x" SG) .RShift (.Name "shift" SH) p30) p31,
    .Assign [.Name "lower" p32] (.BinOp (.Name "x" p33) .BitXor (.BinOp (.Name "upper" p34) .LShift (.Name "shift" p35) p36) p37) p38,
    .Expr (.Call (.Name "inner" p39) [.Name "lower" p40,.Name "L" p41,.Name "mid" p42] [] p43) p44,
    .Expr (.Call (.Name "inner" p45) [.Name "upper" p46,.Name "mid" p47,.Name "R" p48] [] p49) p50])
noncomputable def La:List Str:=["x","L","R","mid","shift","upper","lower"]
structure In1 (fd:aei):Prop where
 tK:K7 fd La "a_digits"
 text:aaS fd.body
 bind:∀a b c:aas,bindArgs fd ⟨[a,b,c],[]⟩=pure [(("x":Str),a),(("L":Str),b),(("R":Str),c)]
noncomputable abbrev V2(h:ac2)(f:abh)(fd:aei)(al:abh)(n:Int):Prop:=K8 h f fd "a_digits" al n
theorem V2.step(X:V2 h f fd al n)(hl:h.PlainList al items)(k:∀b o,b≠al->h.get? b=some o->h'.get? b=some o):V2 h' f fd al n:=
 K8.step X λ b o hd hb=>k b o (λ q=>by subst q;obtain ⟨e,SX⟩:=hl;rw [SX] at hb;obtain rfl:=aam hb;exact hd _ _ rfl) hb
noncomputable def l3(x L R:Int):List (Str×Int):=[("x",x),("L",L),("R",R)]
noncomputable def V3(prog:aaq)(w:acb)(f al:abh)(fd:aei)(n:Int)(k:Nat):Prop:=∀(x L R:Int) (items vj:List Int),K6 n k x L R items=some vj->∀(A:adn) (s:aav) (vs:List aas) (tx tL tR:Tok) (E Q:aas->aav->Prop),A.depth+k < 950->
 V2 s.heap f fd al n->s.heap.PlainList al vs.toArray->dC items vs->
 (∀s' CW,(∀b o,b≠al->s.heap.get? b=some o->s'.heap.get? b=some o)->s'.heap.PlainList al (adE CW)->dC vj CW->a9 s s'->Q .none s')->
 acn (acr prog w) A (call (.ref f) [.int x tx,.int L tL,.int R tR] []) Q E s
theorem IA.moved{W:abh->Prop}{s0 s':aav}{li:Str->Option Int}{al:abh}(X:IA (λ V=>False) s0 env li s)(cM:env.locals≠al)(k:∀b o,b≠al->s.heap.get? b=some o->s'.heap.get? b=some o)(m:a9 s s'):IA (λ b=>b=al) s0 env li s':=
 ⟨(by obtain ⟨m,hn,hm⟩:=X.ns;exact ⟨m,hn.at' λ o e=>k _ o cM e,hm⟩),λ b o hb e=>k b o hb (X.keep b o (λ q=>q) e),X.new,X.same.trans m⟩
theorem Bo(T:K7 fd La "a_digits")(Ee:NR fd env)(X:K8 h₀.heap f fd "a_digits" al n)
(hL:rz prog w A env h₀ (λ y=>(lk (l3 x L R) y).or (lk [(("n":Str),n)] y)))(hl:h₀.heap.PlainList al vs.toArray)(hv:dC items vs)(h0:0≤L)(h1:L < items.length)(h2:L < 2 ^ 62)
(hQ:∀s' CW,(∀b o,b≠al->h₀.heap.get? b=some o->s'.heap.get? b=some o)->s'.heap.PlainList al (adE CW)->dC (items.set L.toNat x) CW->a9 h₀ s'->Q (.ret .none) s'):
 acn (acr prog w) A (aiF [.Assign [.Subscript (.Name "a_digits" p1) (.Name "L" p2) p3] (.Name "x" p4) p5,.Return none p6] env) Q E {h₀ with toks:=tk}:=by
 obtain ⟨ca,uK,V4⟩:=X.ad
 refine bf λ Hp Hq pz V V=>ak4 (cG (k:=9) (z:=x) hL rfl λ t tk=>vi (s:={h₀ with toks:=tk}) T Ee (.head _) uK V4 ⋯ ⋯ (cG (k:=9) (z:=L) hL rfl λ t' tk'=>?_)) rfl
 have bc:=hv.length
 rw [aar] at bc
 refine mr (s:={h₀ with toks:=tk'}) hl h0 %[a⊂(qL 2 63),a⊂(qL 2 62)|(fZ h2)] (by erw [aha];exact %[a⊂(qC a),a⊂(qC b),b=a|IM h1 bc]) λ h' Vm jo=>pz _ (aeN (wpAny_Return_none ?_))
 refine hQ _ (vs.set L.toNat (.int x t)) (λ b o Ii e=>jo.extBut b o Ii e) (by simpa using Vm) ?_ ⟨rfl,rfl,rfl⟩
 show aq 0 ⟨λ V=>none,[]⟩ ((items.set L.toNat x).map AV.int) _
 erw [List.map_set]
 exact aq.set (.int x t) hv
theorem V5{f al:abh}{fd:aei}{n:Int}(T:In1 fd)(k:Nat):V3 prog w f al fd n k:=by
 induction k with
 | zero=>exact λ x L R items vj h=>aw h
 | succ k ih=>
   intro x L R items vj h A s vs tx tL tR E Q hd X hl hv hQ
   have hB:=T.text
   generalize hbd:fd.body=B at hB
   cases hB with
   | mk p1 p2 p3 p4 p5 p6 p7 p8 p9 A7 Dv Il Hm Fw Im Io Ip Iq Ir Iu KH KI KJ Sz SA SD SF SG SH p30 p31 p32 p33 p34 p35 p36 p37 p38 p39 p40 p41 p42 p43 p44 p45 p46 p47 p48 p49 p50 k1 k2=>
   refine xc (zl:=l3 x L R) T.tK X %[a<1000,a+(b+1)<950|(aU hd)] hbd (T.bind _ _ _) (λ y hy=>?_) (λ y z hz=>?_) λ env y9 aeY aeZ Ee Bp hk PD n₀=>?_
   · simp only [aaB,aaP,or_false] at hy
     rcases hy with rfl | rfl | rfl
     · exact .head _
     · exact .tail _ (.head _)
     · exact .tail _ (.tail _ (.head _))
   · have hm:=DE hz
     simp only [l3,aaX,afG,aaB,aaP,or_false] at hm
     rcases hm with rfl | rfl | rfl
     · obtain rfl:x=z:=aam hz;exact ⟨tx,rfl⟩
     · obtain rfl:L=z:=aam hz;exact ⟨tL,rfl⟩
     · obtain rfl:R=z:=aam hz;exact ⟨tR,rfl⟩
   have cU:∃c t,fd.closure.lookup ("n":Str)=some c∧s.heap.IsCell c (some (.int n t))∧¬False:=(by obtain ⟨c,t,h1,h2⟩:=X.n;exact ⟨c,t,h1,h2,id⟩)
   have DF:=fc (prog:=prog) (w:=w) (A:=A.deeper env) T.tK Ee Bp rfl cU
   have mv:∀{b o},s.heap.get? b=some o->y9.heap.get? b=some o:=λ{b o} e=>hk b o e
   refine bf λ Hp Hq pz V6 V=>alA (aiG (cG (s:=y9) (tk:=y9.toks) (k:=9) (z:=L+1) DF rfl λ t tk=>cG (k:=9) (z:=R) DF rfl λ u tk'=>eq_int (wpAny_truthy_bool ?_)) rfl)
   unfold K6 at h
   by_cases PE:L+1=R
   · rw [if_pos PE] at h
     erw [(show (L+1==R)=true from beq_iff_eq.mpr PE),if_pos rfl]
     (refine eF h ?_;clear h;intro hb h)
     obtain rfl:=aam h
     exact Bo (h₀:=y9) T.tK Ee (V2.step X hl λ b o V e=>mv e) DF (hl.at λ o e=>mv e) hv hb.1 hb.2.1 hb.2.2 λ s' CW k' Vm UW m'=>V6 _ _ (PD _ _ (hQ s' CW (λ b o Ii e=>k' b o Ii (mv e)) Vm UW (Bp.same.trans m')))
   · rw [if_neg PE] at h
     erw [(show (L+1==R)=false from beq_eq_false_iff_ne.mpr PE),if_neg afE]
     refine aC h λ sh SY h=>aC h λ up N1 h=>aC h λ ul hul h=>aC h λ it1 ae0 h=>aew (pz _ ?_)
     refine bf λ KO KP yT V V=>lP (z:=(L+R).fdiv (2 ^ (1:Int).toNat)) T.tK Ee (Bp.tok _) rfl cU (.tail _ (.tail _ (.tail _ (.head _)))) rfl rfl λ s₁ V7=>yT _ ?_
     generalize ae1:(L+R).fdiv (2 ^ (1:Int).toNat)=mid at *
     refine bf λ Hr KQ se V V=>lP (z:=sh) T.tK Ee V7 rfl cU (.tail _ (.tail _ (.tail _ (.tail _ (.head _))))) SY rfl λ s₂ Bq=>se _ ?_
     refine bf λ VM VN Dx V V=>lP (z:=up) T.tK Ee Bq rfl cU (.tail _ (.tail _ (.tail _ (.tail _ (.tail _ (.head _)))))) N1 rfl λ ci Lb=>Dx _ ?_
     refine bf λ VO VP Dy V V=>lP (z:=agD x ul) T.tK Ee Lb rfl cU (.tail _ (.tail _ (.tail _ (.tail _ (.tail _ (.tail _ (.head _))))))) (show (al5 (pG .LShift up sh) λ b=>pG .BitXor x b)=_ by erw [hul];rfl) rfl λ eo V8=>Dy _ ?_
     have hni:ajX env=false:=by unfold ajX;erw [Ee.kind];rfl
     have ae2:=fc (prog:=prog) (w:=w) (A:=A.deeper env) T.tK Ee V8 rfl cU
     have AX:KS s.heap eo.heap:=λ b o e=>V8.keep b o (λ q=>q) e
     have FH:V2 eo.heap f fd al n:=V2.step X hl λ b o V e=>AX b o e
     have Lc:eo.heap.PlainList al vs.toArray:=hl.at λ o e=>AX al o e
     refine bf λ aeA aeB VQ V V=>ahp (Bk (s:=eo) (tk:=eo.toks) (a:=agD x ul) (b:=L) (c:=mid) T.tK Ee ae2 FH rfl rfl rfl λ t1 t2 t3 tk3=>?_) hni rfl
     refine ih (agD x ul) L mid items it1 ae0 (A.deeper env) {eo with toks:=tk3} vs t1 t2 t3 _ _ (by show A.depth+1+k < 950;exact %[a+1+b<950,a+(b+1)<950|aU hd]) FH Lc hv λ gj aa0 nW aa1 aa2 iR=>VQ _ ?_
     have V9:=V8.moved (W:=λ V=>False) (s':=gj) (al:=al) (λ q=>by
      have:=Bp.new
      obtain ⟨e,SX⟩:=hl
      rw [q,SX] at this;exact aw this.symm) nW ⟨iR.1,iR.2,iR.3⟩
     have Wa:∃c t,fd.closure.lookup ("n":Str)=some c∧s.heap.IsCell c (some (.int n t))∧¬c=al:=by
      obtain ⟨c,t,h1,o,h2,h3⟩:=X.n
      refine ⟨c,t,h1,⟨o,h2,h3⟩,λ q=>?_⟩
      obtain ⟨e,SX⟩:=hl
      rw [q,SX] at h2;obtain rfl:=aam h2;cases h3
     refine bf λ aeD aeE VR V V=>ahp (Bk (s:=gj) (tk:=gj.toks) (a:=up) (b:=mid) (c:=R) T.tK Ee (fc T.tK Ee V9 rfl Wa) (FH.step Lc λ b o hb e=>nW b o hb e) rfl rfl rfl λ t1 t2 t3 tk3=>?_) hni rfl
     exact ih up mid R it1 vj h (A.deeper env) {gj with toks:=tk3} aa0 t1 t2 t3 _ _ (by show A.depth+1+k < 950;exact %[a+1+b<950,a+(b+1)<950|aU hd]) (FH.step Lc λ b o hb e=>nW b o hb e) aa1 aa2 λ n9 aa3 vg AF aa4 pA=>VR _ (aew (n₀ _ (hQ n9 aa3 (λ b o hb e=>vg b o hb (V9.keep b o hb e)) AF aa4 (V9.same.trans ⟨pA.1,pA.2,pA.3⟩))))
end
section
variable{prog:aaq}{w:acb}{A:adn}{Y:Lay}{g:Gh}{σ:bB}{s:aav}{d:Nat}{base:ac2}{nm:NI}{env:Env}{RF:cV}{h h':ac2}
theorem Rel.Wc(R:Rel Y g σ h)(hk:g.ρ[k]?=some a)(hv:aq Y.n g xs vs)
(hn:h'.PlainList a vs.toArray)(hs:∀b o,b≠a->h.get? b=some o->h'.get? b=some o):Rel Y g {σ with own:=σ.own.set k xs} h':=by
 have ha:a∈g.ρ:=acR hk
 have Jm:a∈Y.bw g:=by simp [Lay.bw,ha]
 have bD:k < σ.own.length:=by erw [R.eG];exact (aaZ.mp hk).1
 obtain ⟨UG,nP⟩:=id hn
 refine ⟨λ b o e=>hs b o (λ q=>by subst q;rw [R.off b Jm] at e;cases e) (R.fJ b o e),R.base,R.nodup,R.dz,R.off,R.low,R.dv,R.len,by simpa using R.eG,λ b hb=>?_,λ j c hc=>?_,λ j b hj=>?_,λ p hp=>?_,?_,R.ni,R.nj,R.eH,λ t ht=>(R.tabs t ht).of (λ V V e=>e) λ o e=>hs _ o (R.uk Jm t ht) e⟩
 · obtain ⟨f',h1,h2⟩:=R.ns b hb
   exact ⟨f',h1.at' λ o e=>hs b o (R.o7 hb ha) e,h2⟩
 · obtain ⟨ov,⟨o,h1,h2⟩,h3⟩:=R.cell j c hc
   exact ⟨ov,⟨o,hs c o (R.kO (bT hc) ha) h1,h2⟩,h3⟩
 · by_cases UH:k=j
   · subst UH
     rw [hk] at hj;obtain rfl:=aam hj
     refine ⟨vs,hn,?_⟩
     erw [aia bD];exact hv
   · obtain ⟨us,h1,h3⟩:=R.own j b hj
     have cM:b≠a:=by
      rintro rfl
      exact UH ((ahT (aaZ.mp hk).1 R.yu.1.2.2.2).mp (hk.trans hj.symm))
     refine ⟨us,h1.at λ o e=>hs b o cM e,?_⟩
     erw [ahu UH];exact h3
 · exact hs _ _ (R.yu.2.2.2 _ (acV hp) a ha) (R.held p hp)
 · exact FunFrames.step (λ b hb o e hd=>⟨o,hs b o (λ q=>(R.nj b hb).2 (q▸ha)) e,hd⟩) R.frames
theorem lQ(C:Cx base nm env Y)(R:Rel Y g σ h)(hx:nm.names.lookup x=some .cell)(hi:nm.slots.lookup x=some i)(hv:σ.vars[i]?.getD none=some av):
 ∃c v,Y.lay[i]?=some (.cell c)∧env.cells.lookup x=some c∧h.IsCell c (some v)∧RelV Y.n g av v:=by
 obtain ⟨l,hl,h1⟩:=C.slots x i hi
 rcases h1 with ⟨_,hk⟩ | ⟨c,rfl,hc,_⟩
 · rw [←C.names,hx] at hk;cases hk
 · obtain ⟨ov,h1,h2⟩:=R.cell i c hl
   rw [hv] at h2
   cases h2 with
   | some h2=>exact ⟨c,_,hl,hc,h1,h2⟩
noncomputable def kW(cells:List (Str×abh)):List (Str×afX)->List (Str×abh)->List (Str×abh)
 | [],acc=>acc
 | (x,k)::r,acc=>kW cells r (if k==.free then (x,(cells.lookup x).getD 0)::acc else acc)
theorem pH(h:∀x∈scope.names,x.2=.free->(env.cells.lookup x.1).isSome=true):ajg scope env=pure (kW env.cells scope.names []):=by
 unfold ajg
 suffices hs:∀(names:List (Str×afX)) (acc:List (Str×abh)),(∀x∈names,x.2=.free->(env.cells.lookup x.1).isSome=true)->
  (forIn names acc (λ(x:Str×afX) (r:List (Str×abh))=>match x with
   | (name,kind)=>if (kind==adA)=true then (do let c ←cellOf env name;pure (agN ((name,c)::r))) else pure (agN r)):Sem (List (Str×abh)))=pure (kW env.cells names acc) by
  have:=hs scope.names [] h
  simp only [bind_pure] at this ⊢
  exact this
 intro names
 induction names with
 | nil=>intro acc _;rfl
 | cons x r ih=>
   intro acc hx
   obtain ⟨x,k⟩:=x
   have hr:=λ acc=>ih acc λ y hy=>hx y (ado _ hy)
   (erw [ae6 ..];rw [kW])
   by_cases hk:k=.free
   · subst hk
     obtain ⟨c,hc⟩:=afC.mp (hx (x,.free) aiN rfl)
     have e:cellOf env x=pure c:=by unfold cellOf;erw [hc,rfl]
     simp only [beq_self_eq_true,if_true,e,pure_bind,hc,afu]
     exact hr _
   · have e:(k==adA)=false:=by simpa using hk
     simp only [e,aeh,if_false,pure_bind]
     exact hr _
theorem od(hc:cells.lookup x=some c)(names:List (Str×afX)):∀(acc:List (Str×abh)),(acc.lookup x=some c∨(acc.lookup x=none∧(x,adA)∈names))->(kW cells names acc).lookup x=some c:=by
 induction names with
 | nil=>
   intro acc h
   rcases h with h | ⟨_,h⟩
   · exact h
   · simp at h
 | cons a_ r ih=>
   intro acc h
   obtain ⟨y,k⟩:=a_
   rw [kW]
   refine ih _ ?_
   by_cases hk:k=.free
   · subst hk
     simp only [beq_self_eq_true,if_true,adl]
     by_cases hy:x=y
     · subst hy;simp [hc]
     · have e:(x==y)=false:=by simpa using hy
       rw [e]
       rcases h with h | ⟨h,hm⟩
       · exact .inl h
       · rcases aaB.mp hm with q | q
         · cases q;exact absurd rfl hy
         · exact .inr ⟨h,q⟩
   · have e:(k==adA)=false:=by simpa using hk
     simp only [e,aeh,if_false]
     rcases h with h | ⟨h,hm⟩
     · exact .inl h
     · rcases aaB.mp hm with q | q
       · cases q;exact absurd rfl hk
       · exact .inr ⟨h,q⟩
noncomputable abbrev Ld(env:Env)(fd:aei):Prop:=env.code=fd.code∧env.qual=fd.qualname++".<locals>."∧env.globals=fd.globals
theorem ip(D:bH base f fd ps ns body ax)(ew:base.NoLimit)
(bc:args.length=ps.length)(j9:ps.length≤ns.length)(uD:args.all (cF 4)=true)
(hB:∀bh Y A s g,Ld bh fd->Cx base (aY fd.scope ns ax) bh Y->(∃a,a∈Y.dO∧Y.n≤a)->Y.hold=[]->Y.base=base->jX d Y.fr A->(∃rest,Y.fr=bh::rest)->Rel Y g ⟨args.map some++aau (ns.length - ps.length) none,[]⟩ s.heap->
  ∀(E:aas->aav->Prop) (Q:agT->aav->Prop),(∀v s' g' σ' x,Kb Y.lo Y.n s.heap s'.heap->Rel Y g' σ' s'.heap->a9 s s'->RelV Y.n g' x v->nk σ' 4 x=some res->Q (.ret v) s')->acn (acr prog w) A (aiF body bh) Q E s):
 uz prog w (d+1) base (.ref f) args res:=by
 intro fr A s vs E Q hA hb jY hT nV hQ
 have uX:aq s.heap.objs.size ⟨gE (iQ fr) [] s.heap,[]⟩ args vs:=aq.uA (λ x v=>uT (λ a o e=>e) 4 x v) uD nV
 refine aix (Kx D ew (H:=[]) hA hb jY hT ⋯ (λ p hp=>by simp at hp) (λ p hp=>by simp at hp) bc j9 uX λ bh Y s₁ hE VE hs Hf Ij wv CX sa Fu u0 f6 u9=>?_)
 refine hB bh Y (A.deeper bh) s₁ _ hE VE hs Ij CX Fu ⟨fr,wv⟩ u0 _ _ λ v s' g' σ' x kb R' m' hv aa5=>?_
 have hr:=uV R' 4 x res v aa5 hv
 rw [Hf] at hr
 refine hQ v s' (λ a o e=>?_) (u9.trans m') hr
 have Iv:a∉d0 fr->a∉d0 Y.fr:=λ hn=>by
  (erw [wv,ve sa];rw [aaB];rw [not_or]);exact ⟨acS (acD e),hn⟩
 rcases kb a o (by erw [Hf];exact acD e) (f6 a o e) with ⟨sl,e1,n1⟩ | ⟨ho,AP,t,ht,hP,c,hc,hg,hr⟩
 · exact .inl ⟨sl,e1,λ hn=>n1 (Iv hn)⟩
 · refine .inr ⟨ho,λ hn=>?_,t,ht,hP,c,λ b ob eb=>aaY (acD eb) (by erw [←Hf];exact hc),hg,hr⟩
   obtain ⟨_,o',oQ,Ds⟩:=afd jY hn
   rw [e,ho] at oQ;obtain rfl:=aam oQ
   exact Ds _ rfl
structure za (base:ac2) (fd:aei) (P:abh):Prop where
 code:∃c,fd.code=.ref c∧CodeHd base c P
 glob:fd.globals=mainGlobals
 mg:∃mg,base.Ns mainGlobals mg∧∃bm ob,mg "__builtins__"=some (.ref bm)∧bm≠builtinsNs∧bm≠mainGlobals∧bm≠P∧base.get? bm=some ob∧ob.cls=.type "module"∧ob.dict=some builtinsNs∧ob.data=.plain
noncomputable def xd(g:Gh)(c:abh)(q:Str):Prop:=∃oc vs tt,g.z c=some oc∧oc.data=.fields vs∧vs[1]?=some (.str q tt)
theorem xd.tA(x:xd g c q)(R:Rel Y g σ h):h.CodeRec (.ref c) q:=(by obtain ⟨oc,vs,tt,h1,h2,h3⟩:=x;exact ⟨c,oc,vs,tt,rfl,R.fJ _ _ h1,h2,h3⟩)
theorem xd.mono(x:xd g c q)(l:g.le g'):xd g' c q:=(by obtain ⟨oc,vs,tt,h1,h2,h3⟩:=x;exact ⟨oc,vs,tt,l.1 _ _ h1,h2,h3⟩)
theorem FI
(C:Cx base nm env Y)(hs:∃a,a∈Y.dO∧Y.n≤a)(R:Rel Y g σ s.heap)(ht:t∈aT)(hE:Ld env fd)(N:za base fd t.P)(UE:mainGlobals≠t.P)
(hd0:params.defaults=[])(XV:params.kw_defaults=[])(ha:annTrees params none env=[])
(Le:∀c',#[rawInt pos.line,rawInt pos.col,.ref c']=t.item c')(aa7:qualnameIn env name name=t.qual)(wV:ajg scope env=pure og)(hj:bC nm name=some j)
(hQ:∀s' g' f o doc pm sf c',Kb Y.lo Y.n s.heap s'.heap->g.le g'->Rel Y g' (σ.put j (.obj (.ref f))) s'.heap->a9 s s'->g'.z f=some o->o.data=.func (fnX name t.qual params body scope og .none .none doc pm none (.ref c') sf)->xd g' c' t.qual->Q .next s'):
 acn (acr prog w) A (exec (.FunctionDef name params body [] none [] scope none name pos) env) Q E s:=by
 obtain ⟨c,hc,hCd⟩:=N.code
 obtain ⟨mg,hmg,bm,ob,b1,b2,b3,b4,b5,b6,b7,b8⟩:=N.mg
 have kB:KS base s.heap:=λ a o e=>R.cD a o (C.keep a o e)
 have hg:s.heap.Ns mainGlobals mg:=hmg.keeps kB
 have hC:=hCd.keeps kB
 have hb:s.heap.BuiltinsAt mg t.P:=⟨bm,ob,b1,b2,b3,b4,kB _ _ b5,b6,b7,b8⟩
 have key:∀(h':ac2) (tk:Tok) (c':abh) (sf doc:aas),aR Y.lo s.heap h'->(∃oc vs tt,(g.add (above s.heap (h'.push (aki name t.qual params body scope og doc ((mg "__name__").getD .none) c' sf)))).z c'=some oc∧oc.data=.fields vs∧vs[1]?=some (.str t.qual tt))->
  acn (acr prog w) A (ajI env name (.ref h'.objs.size)) (λ V uY=>Q .next uY) E {s with heap:=h'.push (aki name t.qual params body scope og doc ((mg "__name__").getD .none) c' sf),toks:=tk}:=λ h' tk c' sf doc k hr=>by
  have k2:aR Y.lo s.heap (h'.push (aki name t.qual params body scope og doc ((mg "__name__").getD .none) c' sf)):=k.trans (cq _ _)
  have R':=R.take (s':={s with heap:=h'.push (aki name t.qual params body scope og doc ((mg "__name__").getD .none) c' sf),toks:=tk}) k2
  have aa8:s.heap.get? h'.objs.size=none:=by
   cases e:s.heap.get? h'.objs.size with
   | none=>rfl
   | some o=>exact absurd (k.live e) (adg _)
  refine cr (s:={s with heap:=h'.push (aki name t.qual params body scope og doc ((mg "__name__").getD .none) c' sf),toks:=tk}) C R' hj (.obj _) λ s₂ bg aF aX=>?_
  have hz:(g.add (above s.heap (h'.push (aki name t.qual params body scope og doc ((mg "__name__").getD .none) c' sf)))).z h'.objs.size=some (aki name t.qual params body scope og doc ((mg "__name__").getD .none) c' sf):=by
   have e1:g.z h'.objs.size=none:=by
    cases e:g.z h'.objs.size with
    | none=>rfl
    | some o=>have:=R.fJ _ _ e;rw [aa8] at this;cases this
   simp only [Gh.add,e1,aih]
   rw [lK aa8]
   exact acT _ rfl
  refine hQ s₂ _ h'.objs.size _ doc _ sf c' ((R.kb hs k2).trans bg aF) (Gh.d4 _ _) aF ⟨aX.1,aX.2,aX.3⟩ hz rfl hr
 refine nestDef_K hd0 XV ha ?_
 erw [aa7]
 have A2:env.globals=mainGlobals:=hE.2.2.trans N.glob
 have Ta:env.code=.ref c:=hE.1.trans hc
 rcases R.tabs t ht with hP | ⟨t',wh,hp,c',oc,vs,tt,h1,h2,h3,h4⟩
 · refine makeFunction_K (mg:=mg) wV A2 hg Ta hC hP trivial rfl UE hb λ c' sf doc h' tk hx Dd bD aa9 Z6=>?_
   refine key h' tk c' sf doc (λ a o e=>?_) (by
    obtain ⟨c₂,oc,vs,tt,e,ho,hd,hv⟩:=aa9
    cases e
    have Db:s.heap.get? c'=none:=by
     cases e:s.heap.get? c' with
     | none=>rfl
     | some o=>exact absurd (aaY (acD e) Dd) (adg _)
    refine ⟨oc,vs,tt,?_,hd,hv⟩
    have e1:g.z c'=none:=by
     cases e:g.z c' with
     | none=>rfl
     | some o=>have:=R.fJ _ _ e;rw [Db] at this;cases this
    simp only [Gh.add,e1,aih]
    rw [lK Db];exact act _ ho)
   by_cases q:a=t.P
   · subst q
     rw [hP] at e;obtain rfl:=aam e
     refine .inr ⟨rfl,(R.eH t ht).2.2,t,ht,rfl,c',λ b o eb=>aaY (acD eb) Dd,?_,aa9⟩
     erw [Z6,←Le ..];simp
   · exact .inl ⟨o.slots,hx a o q e,λ V=>rfl⟩
 · have:=o5 t ht t' wh hp
   subst this
   refine makeFunction_hit (mg:=mg) (cv:=.ref c') wV A2 hg Ta hC h1 (by erw [←Le ..];exact trivial) (by erw [←Le ..];simp [codeAmong,rawInt]) hb λ sf doc h' tk hk bY=>?_
   exact key h' tk c' sf doc (aR.of hk) ⟨oc,vs,tt,(Gh.d4 _ _).1 _ _ h2,h3,h4⟩
end
section
variable{prog:aaq}{w:acb}{A:adn}{Y:Lay}{g:Gh}{σ:bB}{s:aav}{d:Nat}{base:ac2}{nm:NI}{env:Env}{RF:cV}{h h':ac2}
theorem xf:∀{zs:List Int} {vs:List aas},dC zs vs->aq n g (zs.map AV.int) vs
 | [],_,.nil=>.nil
 | z::zs,_,.cons h1 h2=>by cases h1;exact .cons (.int _ _) (xf h2)
structure zb (t:C5) (fd:aei) (name:Str) (params:ajO) (scope:ahH) (pos:Pos):Prop where
 mem:t∈aT
 main:mainGlobals≠t.P
 dflt:params.defaults=[]
 kw:params.kw_defaults=[]
 ann:∀env,annTrees params none env=[]
 item:∀c',#[rawInt pos.line,rawInt pos.col,.ref c']=t.item c'
 qual:fd.qualname++".<locals>."++name=t.qual
inductive abb (params:ajO) (j0:List agH) (cC:ahH) (pos:Pos) (E0 Lf mx:acU) (f7:List acU):List agH->Prop
 | mk (p1 p4 p5 p6 p7 p8 p9 A7 Dv:Pos):abb params j0 cC pos E0 Lf mx f7 [.Assign [.Name "a_digits" p1] (.BinOp E0 .Mult Lf p4) p5,.FunctionDef "inner" params j0 [] none [] cC none "inner" pos,
   .If mx [.Expr (.Call (.Name "inner" p6) f7 [] p7) p8] [] p9,.Return (some (.Name "a_digits" A7)) Dv]
theorem pI(h1:nm.names.lookup x=some .cell)(h2:nm.slots.lookup x=some i):bC nm x=some i:=by
 unfold bC
 rw [h1];exact h2
theorem pJ(h1:(x==("__debug__":Str)||x==("__classdict__":Str))=false)(h2:nm.slots.lookup x=some i):cc nm x=some (.var i):=by
 unfold cc
 rw [h1,h2];rfl
theorem gx(C:Cx base nm env Y)(h1:nm.names.lookup x=some .cell)(h2:nm.slots.lookup x=some i):(env.cells.lookup x).isSome=true:=by
 obtain ⟨l,hl,h3⟩:=C.slots _ _ h2
 rcases h3 with ⟨_,hk⟩ | ⟨c,_,hc,_⟩
 · rw [←C.names,h1] at hk;exact nomatch (aam hk)
 · erw [hc];rfl
theorem vk(C:Cx base nm env Y)(hE:Ld env fd)(h:nm.names.lookup ("inner":Str)=some .cell)(T:zb t fd "inner" params scope pos):qualnameIn env "inner" "inner"=t.qual:=by
 unfold qualnameIn
 (rw [←C.names];erw [h,hE.2.1])
 exact T.qual
theorem vm{scope:ahH}{l:List Str}(hf:∀x∈scope.names,x.2=.free->x.1∈l)(hc:∀x∈l,(env.cells.lookup x).isSome=true):ajg scope env=pure (kW env.cells scope.names []):=pH λ x hx h=>hc _ (hf x hx h)
theorem PF{f:abh}{fd:aei}{body j0:List agH}{params:ajO}{cC:ahH}{pos:Pos}{E0 Lf mx:acU}{f7:List acU}{ax:List (Str×AV)}{t:C5}{ke k:Nat}{im X3:IE}{ies:GH}{it:IT}{a n m:Int}{res:List Int}
(D:bH base f fd ["a","n"] ["a","n","a_digits","inner"] body ax)(ew:base.NoLimit)(O:abb params j0 cC pos E0 Lf mx f7 body)(T:zb t fd "inner" params cC pos)(N:za base fd t.P)
(hn1:fd.scope.names.lookup ("n":Str)=some .cell)(X4:fd.scope.names.lookup ("a_digits":Str)=some .cell)(hn3:fd.scope.names.lookup ("inner":Str)=some .cell)
(jZ:∀x∈cC.names,x.2=.free->x.1∈(["n","a_digits","inner"]:List Str))(DG:∀x∈(["n","a_digits","inner"]:List Str),(x,adA)∈cC.names)
(Dc:∀og doc pm sf c',In1 (fnX "inner" t.qual params j0 cC og .none .none doc pm none (.ref c') sf))
(h0:dT ke (aY fd.scope ["a","n","a_digits","inner"] ax) E0=some X3)(h0v:bj gK X3 ⟨[some (.int a),some (.int n),none,none],[]⟩=some (.lst [.int 0]))
(hmul:dT ke (aY fd.scope ["a","n","a_digits","inner"] ax) Lf=some im)(abd:bj gK im ⟨[some (.int a),some (.int n),none,none],[]⟩=some (.int m))
(Br:Ap ke (aY fd.scope ["a","n","a_digits","inner"] ax) mx=some it)(DH:∀x y o,jV gK it ⟨[some (.int a),some (.int n),x,y],o⟩=some (a !=0))
(Lg:C7 ke (aY fd.scope ["a","n","a_digits","inner"] ax) f7=some ies)(DI:∀y,i5 gK ies ⟨[some (.int a),some (.int n),some (.own 0),y],[aau m.toNat (.int 0)]⟩=some [.int a,.int 0,.int m])
(cM:f7≠[])(hm0:0≤m)(NS:m≤2 ^ 20)(hk:k≤40)(jN:(if a≠0 then K6 n k a 0 m (aau m.toNat 0) else some (aau m.toNat 0))=some res):
 uz prog w (d+1) base (.ref f) [.int a,.int n] (.lst (res.map .int)):=by
 refine ip D ew rfl ⋯ rfl λ bh Y A s g hE C hs Ij CX hA ⟨rest,wv⟩ R E Q hQ=>?_
 have c1:(aY fd.scope ["a","n","a_digits","inner"] ax).names.lookup ("n":Str)=some .cell:=hn1
 have c2:(aY fd.scope ["a","n","a_digits","inner"] ax).names.lookup ("a_digits":Str)=some .cell:=X4
 have c3:(aY fd.scope ["a","n","a_digits","inner"] ax).names.lookup ("inner":Str)=some .cell:=hn3
 have sl1:(aY fd.scope ["a","n","a_digits","inner"] ax).slots.lookup ("n":Str)=some 1:=rfl
 have GK:(aY fd.scope ["a","n","a_digits","inner"] ax).slots.lookup ("a_digits":Str)=some 2:=rfl
 have PG:(aY fd.scope ["a","n","a_digits","inner"] ax).slots.lookup ("inner":Str)=some 3:=rfl
 generalize aY fd.scope ["a","n","a_digits","inner"] ax=nm at *
 cases O with
 | mk p1 p4 p5 p6 p7 p8 p9 A7 Dv=>
 have R0:Rel Y g ⟨[some (.int a),some (.int n),none,none],[]⟩ s.heap:=R
 have S:=jM (prog:=prog) (w:=w) (d:=d) C hs ke
 refine bf λ Hp Hq pz V V=>afQ (ah7 ((S.e _ _ h0 A s g _ _ hA R0 h0v).then λ v s₁ aJ k₁ aW aO aP bL=>(S.e _ _ hmul A s₁ aJ _ _ hA aO abd).then λ u s₂ bu bg bk aF aX cE=>?_)) (cj rfl)
 apply RelV.cp cE;intro _
 (refine IB (bo aF (bL.mono bk) rfl) λ la vs ju hl hv=>?_;obtain rfl:=ju)
 revert hl
 apply aq.hU hv;intro v0 _ ZM RX
 apply aq.o4 RX
 intro hl
 refine ux hl hm0 NS rfl ?_
 erw [pf ..,aiK]
 have hnn:Y.n≤s₂.heap.objs.size:=dG R0 (k₁.trans bg) hs aF
 refine Yc (aF.Jo hnn (aq.replicate ZM m.toNat) (e:=0)) λ gZ fW tH bW=>?_
 refine cr C (s:={s₂ with heap:=_}) bW (pI c2 GK) (.own tH) λ eo jH fX fb=>pz _ ?_
 have K3:Kb Y.lo Y.n s.heap eo.heap:=(R0.kb hs ((k₁.trans bg).trans (cq _ _))).trans jH fX
 have nZ:a9 s eo:=(aP.trans aX).trans ⟨fb.1,fb.2,fb.3⟩
 have abf:Rel Y gZ ⟨[some (.int a),some (.int n),some (.own 0),none],[aau m.toNat (.int 0)]⟩ eo.heap:=fX
 have wV:=vm jZ λ x hx=>by
  simp only [aaB,aaP,or_false] at hx
  rcases hx with rfl | rfl | rfl
  · exact gx C c1 sl1
  · exact gx C c2 GK
  · exact gx C c3 PG
 refine bf λ KO KP yT V V=>FI C hs abf T.mem hE N T.main T.dflt T.kw (T.ann bh) T.item (vk C hE c3 T) wV (pI c3 PG) λ gj nr fi o doc pm sf c' Bh uC dH iR hzf hdf hcr=>yT _ ?_
 have Bs:Rel Y nr ⟨[some (.int a),some (.int n),some (.own 0),some (.obj (.ref fi))],[aau m.toNat (.int 0)]⟩ gj.heap:=dH
 have Wd:=K3.trans Bh dH
 have Lh:=nZ.trans iR
 refine bf λ Hr KQ se V V=>?_
 have d7:∀s' g',Kb Y.lo Y.n s.heap s'.heap->a9 s s'->Rel Y g' ⟨[some (.int a),some (.int n),some (.own 0),some (.obj (.ref fi))],[res.map AV.int]⟩ s'.heap->Hr .next s':=λ s' g' kb m R'=>
  se _ (aeN (aft (d9 (RF:=gK) C R' (pJ rfl GK) rfl λ u vu=>hQ u s' g' _ _ kb R' m vu (mw _ _ _))))
 refine alA ((S.t _ _ Br A gj nr _ _ hA Bs (DH _ _ _)) _ _ λ n9 ww vg y7 dB pA=>?_)
 have Bt:=Wd.trans (Bs.kb hs vg) dB
 have Bu:=Lh.trans pA
 by_cases Tb:a=0
 · subst Tb
   rw [if_neg (λ q=>q rfl)] at jN
   obtain rfl:=aam jN
   exact aew (d7 n9 ww Bt Bu (by erw [ag0];exact dB))
 · rw [if_pos Tb] at jN
   erw [(show (a !=0)=true from bne_iff_ne.mpr Tb),if_pos rfl]
   refine Ye (S.es _ _ Lg) λ Wf Wg _=>?_
   refine bf λ VM VN Dx V V=>ahp (d6 λ VO VP Dy V=>afi (aM Wg p7) ((dA (RF:=gK) C dB (pJ rfl PG) rfl).then λ fv wx Li Lj Bv gm y8 Lk=>?_)) (d3 C) rfl
   apply RelV.nO Lk
   obtain ⟨e1,r1,Ln⟩ :∃e1 r1,f7=e1::r1:=by
    cases f7 with
    | nil=>exact absurd rfl cM
    | cons e1 r1=>exact ⟨e1,r1,rfl⟩
   have ev:=Wf A wx Li _ _ hA gm (DI _)
   rw [Ln] at ev ⊢
   refine afN (o:=o) (fd:=fnX "inner" t.qual params j0 cC (kW bh.cells cC.names []) .none .none doc pm none (.ref c') sf) (ac4 (ev _ _ λ abi Ht Pp KX yV dy KY KZ=>⟨⟨dy.fJ _ _ (yV.1 _ _ (Bv.1 _ _ (y7.1 _ _ hzf))),hdf⟩,?_⟩))
   apply aq.hU KZ;intro _ _ w1 w2
   apply aq.hU w2;intro _ _ w2 w3
   apply aq.hU w3;intro _ _ w3 w4
   apply aq.o4 w4
   apply RelV.cp w1;intro _
   apply RelV.cp w2;intro _
   apply RelV.cp w3;intro _
   have abj:=Bt.trans (dB.kb hs (Lj.trans KX)) dy
   have abk:=(Bu.trans y8).trans KY
   refine z8 (lQ (i:=1) (av:=.int n) C dy c1 sl1 rfl) λ cN vN hlN hcN Wh hrN=>?_
   refine z8 (lQ (i:=2) (av:=.own 0) C dy c2 GK rfl) λ cA vA hlA hcA hvA hrA=>?_
   refine z8 (lQ (i:=3) (av:=.obj (.ref fi)) C dy c3 PG rfl) λ cI vI NM hcI Wi hrI=>?_
   revert Wh Wi
   apply RelV.cp hrN;intro tN
   apply RelV.nO hrI
   intro Wh Wi
   (refine z8 (pp dy hrA (xs:=aau m.toNat (.int 0)) rfl) λ al vsl ju Lp z5 Wj=>?_;obtain rfl:=ju)
   have DJ:∀{x:Str} {c:abh},bh.cells.lookup x=some c->x∈(["n","a_digits","inner"]:List Str)->(kW bh.cells cC.names []).lookup x=some c:=λ{x c} hc hx=>od hc _ _ (.inr ⟨rfl,DG x hx⟩)
   have kB:KS base Ht.heap:=λ a o e=>dy.cD a o (C.keep a o e)
   refine V5 (al:=al) (n:=n) (Dc _ _ _ _ _) k a 0 m _ res jN A Ht vsl _ _ _ _ _ (by have:=hA.depth;exact %[a+b<950,b≤40,a+c≤900|cf hk this]) ⟨⟨o,dy.fJ _ _ (yV.1 _ _ (Bv.1 _ _ (y7.1 _ _ hzf))),hdf⟩,ew.keeps kB,(hcr.mono ((y7.trans Bv).trans yV)).tA dy,
    ⟨cA,DJ hcA (.tail _ (.head _)),hvA⟩,⟨cI,DJ hcI (.tail _ (.tail _ (.head _))),Wi⟩,⟨cN,_,DJ hcN (.head _),Wh⟩⟩ z5 (pD (by erw [ag0];exact Wj)) λ Pq agV Ba abl abm K0=>Dy _ _ ?_
   have G0:=dy.Wc (xs:=res.map AV.int) Lp (xf abm) abl Ba
   refine Dx _ (aew (d7 Pq Pp (abj.trans (Kb.fI (wr:=[al]) (λ b o hb e=>Ba b o (by simpa using hb) e) λ b hb=>?_) G0) (abk.trans K0) G0))
   rw [aaU]
   exact acS (aaY hb (uP dy Lp))
end
section
variable{prog:aaq}{w:acb}{A:adn}{Y:Lay}{g:Gh}{σ:bB}{s:aav}{d:Nat}{base:ac2}{nm:NI}{env:Env}{RF:cV}{h h':ac2}
noncomputable def Lq(n:Int)(items:List Int):Nat->Int->Int->Option Int
 | 0,_,_=>none
 | k+1,L,R=>
   if L+1=R then (if 0≤L∧L < 2 ^ 62 then items[L.toNat]? else none)
   else (pG .Mult ((L+R).fdiv (2 ^ (1:Int).toNat) - L) n).bind λ sh=>(Lq n items k ((L+R).fdiv (2 ^ (1:Int).toNat)) R).bind λ hi=>(pG .LShift hi sh).bind λ up=>
    (Lq n items k L ((L+R).fdiv (2 ^ (1:Int).toNat))).map λ lo=>up+lo
noncomputable def Lr:List Str:=["L","R","mid","shift"]
inductive abn:FuncBody->Prop
 | mk (p1 p2 p3 p4 p5 p6 p7 p8 p9 A7 Dv Il Hm Fw Im Io Ip Iq Ir Iu KH KI KJ Sz SA SD SF SG SH p30 p31 p32 p33 p34 p35 p36:Pos) (k1 k2:Nat):abn (.stmts
   [.If (.Compare (.BinOp (.Name "L" p1) .Add (.Constant (.int 1) k1 p2) p3) [.Eq] [.Name "R" p4] p5)
     [.Return (some (.Subscript (.Name "digits" p6) (.Name "L" p7) p8)) p9] [] A7,
    .Assign [.Name "mid" Dv] (.BinOp (.BinOp (.Name "L" Il) .Add (.Name "R" Hm) Fw) .RShift (.Constant (.int 1) k2 Im) Io) Ip,
    .Assign [.Name "shift" Iq] (.BinOp (.BinOp (.Name "mid" Ir) .Sub (.Name "L" Iu) KH) .Mult (.Name "n" KI) KJ) Sz,
    .Return (some (.BinOp (.BinOp (.Call (.Name "inner" SA) [.Name "mid" SD,.Name "R" SF] [] SG) .LShift (.Name "shift" SH) p30) .Add (.Call (.Name "inner" p31) [.Name "L" p32,.Name "mid" p33] [] p34) p35)) p36])
structure In2 (fd:aei):Prop where
 tK:K7 fd Lr "digits"
 text:abn fd.body
 bind:∀a b:aas,bindArgs fd ⟨[a,b],[]⟩=pure [(("L":Str),a),(("R":Str),b)]
structure X5 (h:ac2) (f:abh) (fd:aei) (al:abh) (vs:List aas) (n:Int):Prop where
 at_:K8 h f fd "digits" al n
 lst:h.IsList al vs.toArray
theorem X5.step(X:X5 h f fd al vs n)(k:KS h h'):X5 h' f fd al vs n:=
 ⟨X.at_.step λ b o V e=>k b o e,(by obtain ⟨o,ho,hc,e,hd⟩:=X.lst;exact ⟨o,k _ _ ho,hc,e,hd⟩)⟩
noncomputable def l2(L R:Int):List (Str×Int):=[("L",L),("R",R)]
noncomputable def Wk(prog:aaq)(w:acb)(f al:abh)(fd:aei)(n:Int)(items:List Int)(vs:List aas)(k:Nat):Prop:=∀(L R z:Int),Lq n items k L R=some z->∀(A:adn) (s:aav) (tL tR:Tok) (E Q:aas->aav->Prop),A.depth+k < 950->
 X5 s.heap f fd al vs n->(∀s' t,KS s.heap s'.heap->a9 s s'->Q (.int z t) s')->
 acn (acr prog w) A (call (.ref f) [.int L tL,.int R tR] []) Q E s
theorem Bw(T:K7 fd Lr "digits")(Ee:NR fd env)(X:X5 h₀.heap f fd al vs n)
(hL:rz prog w A env h₀ (λ y=>(lk (l2 L R) y).or (lk [(("n":Str),n)] y)))(hv:dC items vs)(h0:0≤L)(h2:L < 2 ^ 62)(h:items[L.toNat]?=some z)
(hQ:∀t tk,Q (.int z t) {h₀ with toks:=tk}):acn (acr prog w) A (eval (.Subscript (.Name "digits" p6) (.Name "L" p7) p8) env) Q E {h₀ with toks:=tk}:=by
 refine bF X.at_.ad λ ca uK V4=>?_
 refine ajq (vi (s:={h₀ with toks:=tk}) T Ee (.head _) uK V4 ⋯ ⋯ (cG (k:=9) (z:=L) hL rfl λ t' PB=>?_))
 have bD:L.toNat < vs.length:=by
  have:=(aaZ.mp h).1
  have e:=hv.length
  rw [aar] at e;exact %[a<b,a<c,c=b|cf this e]
 (refine cL (hv.get (aaF bD)) λ z' dL=>?_;refine cL dL λ t'' eZ=>?_;have hz':=eZ.1;have hu:=eZ.2;clear eZ dL)
 obtain rfl:=aam (h.symm.trans hz')
 exact nU (s:={h₀ with toks:=PB}) X.lst.typeIs aju.lookup (alZ X.lst h0 %[a⊂(qL 2 63),a⊂(qL 2 62)|(fZ h2)] (by (erw [afv,aaF bD,hu,rfl])) (hQ _ _))
theorem Wl(T:In2 fd)(hv:dC items vs)(k:Nat):Wk prog w f al fd n items vs k:=by
 induction k with
 | zero=>exact λ L R z h=>aw h
 | succ k ih=>
   intro L R z h A s tL tR E Q hd X hQ
   have hB:=T.text
   generalize hbd:fd.body=B at hB
   cases hB with
   | mk p1 p2 p3 p4 p5 p6 p7 p8 p9 A7 Dv Il Hm Fw Im Io Ip Iq Ir Iu KH KI KJ Sz SA SD SF SG SH p30 p31 p32 p33 p34 p35 p36 k1 k2=>
   refine xc (zl:=l2 L R) T.tK X.at_ %[a<1000,a+(b+1)<950|(aU hd)] hbd (T.bind _ _) (λ y hy=>?_) (λ y z hz=>?_) λ env y9 aeY aeZ Ee Bp hk PD V=>?_
   · simp only [aaB,aaP,or_false] at hy
     rcases hy with rfl | rfl
     · exact .head _
     · exact .tail _ (.head _)
   · have hm:=DE hz
     simp only [l2,aaX,afG,aaB,aaP,or_false] at hm
     rcases hm with rfl | rfl
     · obtain rfl:L=z:=aam hz;exact ⟨tL,rfl⟩
     · obtain rfl:R=z:=aam hz;exact ⟨tR,rfl⟩
   have cU:∃c t,fd.closure.lookup ("n":Str)=some c∧s.heap.IsCell c (some (.int n t))∧¬False:=(by obtain ⟨c,t,h1,h2⟩:=X.at_.n;exact ⟨c,t,h1,h2,id⟩)
   have DF:=fc (prog:=prog) (w:=w) (A:=A.deeper env) T.tK Ee Bp rfl cU
   refine bf λ Hp Hq pz V6 V=>alA (aiG (cG (s:=y9) (tk:=y9.toks) (k:=9) (z:=L+1) DF rfl λ t tk=>cG (k:=9) (z:=R) DF rfl λ u tk'=>eq_int (wpAny_truthy_bool ?_)) rfl)
   unfold Lq at h
   by_cases PE:L+1=R
   · rw [if_pos PE] at h
     erw [(show (L+1==R)=true from beq_iff_eq.mpr PE),if_pos rfl]
     exact eF h λ hb h=>aeN (aft (Bw (h₀:=y9) T.tK Ee (X.step hk) DF hv hb.1 hb.2 h λ t' PB=>V6 _ _ (PD _ _ (hQ _ _ hk (Bp.same.trans ⟨rfl,rfl,rfl⟩)))))
   · rw [if_neg PE] at h
     erw [(show (L+1==R)=false from beq_eq_false_iff_ne.mpr PE),if_neg afE]
     refine aC h λ sh SY h=>aC h λ hi UV h=>aC h λ up N1 h=>bS h λ lo RY hz=>aew (pz _ ?_)
     refine bf λ KO KP yT V V=>lP (z:=(L+R).fdiv (2 ^ (1:Int).toNat)) T.tK Ee (Bp.tok _) rfl cU (.tail _ (.tail _ (.head _))) rfl rfl λ s₁ V7=>yT _ ?_
     generalize ae1:(L+R).fdiv (2 ^ (1:Int).toNat)=mid at *
     refine bf λ Hr KQ se V V=>lP (z:=sh) T.tK Ee V7 rfl cU (.tail _ (.tail _ (.tail _ (.head _)))) SY rfl λ s₂ Bq=>se _ ?_
     have afg:=fc (prog:=prog) (w:=w) (A:=A.deeper env) T.tK Ee Bq rfl cU
     have FJ:X5 s₂.heap f fd al vs n:=X.step λ b o e=>Bq.keep b o (λ q=>q) e
     refine aeN (aft (ah7 (ah7 (Bm (s:=s₂) (tk:=s₂.toks) (a:=mid) (b:=R) T.tK Ee afg FJ.at_ rfl rfl λ t1 t2 tk2=>?_))))
     refine ih mid R hi UV (A.deeper env) {s₂ with toks:=tk2} t1 t2 _ _ (by show A.depth+1+k < 950;exact %[a+1+b<950,a+(b+1)<950|aU hd]) FJ λ ci t3 de cW=>?_
     have Lb:IA (λ V=>False) s env _ ci:=⟨(by obtain ⟨m,hn,hm⟩:=Bq.ns;exact ⟨m,hn.keeps de,hm⟩),λ b o hb e=>de b o (Bq.keep b o hb e),Bq.new,Bq.same.trans ⟨cW.1,cW.2,cW.3⟩⟩
     have abo:=fc (prog:=prog) (w:=w) (A:=A.deeper env) T.tK Ee Lb rfl cU
     refine cG (k:=9) (z:=sh) (tk:=ci.toks) abo rfl λ t4 tk4=>FE (s:={ci with toks:=tk4}) N1 λ t5 tk5=>?_
     refine Bm (s:=ci) (tk:=tk5) (a:=L) (b:=mid) T.tK Ee abo (FJ.step de).at_ rfl rfl λ t1 t2 tk2=>?_
     refine ih L mid lo RY (A.deeper env) {ci with toks:=tk2} t1 t2 _ _ (by show A.depth+1+k < 950;exact %[a+1+b<950,a+(b+1)<950|aU hd]) (FJ.step de) λ eo t6 jH fb=>?_
     exact add_int (PD _ _ (hz▸hQ _ _ (λ b o e=>jH b o (Lb.keep b o (λ q=>q) e)) (Lb.same.trans ⟨fb.1,fb.2,fb.3⟩)))
end
section
variable{prog:aaq}{w:acb}{A:adn}{Y:Lay}{g:Gh}{σ:bB}{s:aav}{d:Nat}{base:ac2}{nm:NI}{env:Env}{RF:cV}{h h':ac2}
inductive abp (params:ajO) (j0:List agH) (cC:ahH) (pos:Pos) (mx FK:acU) (f7:List acU):List agH->Prop
 | mk (p1 p2 p3 p4:Pos):abp params j0 cC pos mx FK f7 [.FunctionDef "inner" params j0 [] none [] cC none "inner" pos,.Return (some (.IfExp mx (.Call (.Name "inner" p1) f7 [] p2) FK p3)) p4]
theorem DK(zs:List Int):cF 4 (.bor (zs.map .int))=true:=acP.mpr λ x hx=>let ⟨z,_,e⟩:=adb.mp hx;e▸rfl
theorem PH
(D:bH base f fd ["digits","n"] ["digits","n","inner"] body ax)(ew:base.NoLimit)(O:abp params j0 cC pos mx FK f7 body)(T:zb t fd "inner" params cC pos)(N:za base fd t.P)
(hn1:fd.scope.names.lookup ("digits":Str)=some .cell)(X4:fd.scope.names.lookup ("n":Str)=some .cell)(hn3:fd.scope.names.lookup ("inner":Str)=some .cell)
(jZ:∀x∈cC.names,x.2=.free->x.1∈(["digits","n","inner"]:List Str))(DG:∀x∈(["digits","n","inner"]:List Str),(x,adA)∈cC.names)
(Dc:∀og doc pm sf c',In2 (fnX "inner" t.qual params j0 cC og .none .none doc pm none (.ref c') sf))
(h0:dT ke (aY fd.scope ["digits","n","inner"] ax) FK=some X3)(h0v:∀y o,bj gK X3 ⟨[some (.bor (zs.map .int)),some (.int n),y],o⟩=some (.int 0))
(Br:Ap ke (aY fd.scope ["digits","n","inner"] ax) mx=some it)(DH:∀y o,jV gK it ⟨[some (.bor (zs.map .int)),some (.int n),y],o⟩=some (zs.length !=0))
(Lg:C7 ke (aY fd.scope ["digits","n","inner"] ax) f7=some ies)(DI:∀y o,i5 gK ies ⟨[some (.bor (zs.map .int)),some (.int n),y],o⟩=some [.int 0,.int zs.length])
(cM:f7≠[])(hk:k≤40)(jN:(if zs.length≠0 then Lq n zs k 0 zs.length else some 0)=some res):
 uz prog w (d+1) base (.ref f) [.bor (zs.map .int),.int n] (.int res):=by
 refine ip D ew rfl ⋯ (by (erw [agm,DK ..]);rfl) λ bh Y A s g hE C hs Ij CX hA ⟨rest,wv⟩ R E Q hQ=>?_
 have c1:(aY fd.scope ["digits","n","inner"] ax).names.lookup ("digits":Str)=some .cell:=hn1
 have c2:(aY fd.scope ["digits","n","inner"] ax).names.lookup ("n":Str)=some .cell:=X4
 have c3:(aY fd.scope ["digits","n","inner"] ax).names.lookup ("inner":Str)=some .cell:=hn3
 have sl1:(aY fd.scope ["digits","n","inner"] ax).slots.lookup ("digits":Str)=some 0:=rfl
 have GK:(aY fd.scope ["digits","n","inner"] ax).slots.lookup ("n":Str)=some 1:=rfl
 have PG:(aY fd.scope ["digits","n","inner"] ax).slots.lookup ("inner":Str)=some 2:=rfl
 generalize aY fd.scope ["digits","n","inner"] ax=nm at *
 cases O with
 | mk p1 p2 p3 p4=>
 have R0:Rel Y g ⟨[some (.bor (zs.map .int)),some (.int n),none],[]⟩ s.heap:=R
 have S:=jM (prog:=prog) (w:=w) (d:=d) C hs ke
 have wV:=vm jZ λ x hx=>by
  simp only [aaB,aaP,or_false] at hx
  rcases hx with rfl | rfl | rfl
  · exact gx C c1 sl1
  · exact gx C c2 GK
  · exact gx C c3 PG
 refine bf λ Hp Hq pz V V=>FI C hs R0 T.mem hE N T.main T.dflt T.kw (T.ann bh) T.item (vk C hE c3 T) wV (pI c3 PG) λ gj nr fi o doc pm sf c' Bh uC dH iR hzf hdf hcr=>pz _ ?_
 have Bs:Rel Y nr ⟨[some (.bor (zs.map .int)),some (.int n),some (.obj (.ref fi))],[]⟩ gj.heap:=dH
 refine bf λ KO KP V PA V=>aft (d6 λ Hr KQ se V=>wpAny_IfExp ((S.t _ _ Br A gj nr _ _ hA Bs (DH _ _)) _ _ λ n9 ww vg y7 dB pA=>?_))
 have Bt:=Bh.trans (Bs.kb hs vg) dB
 have Bu:=iR.trans pA
 by_cases Tb:zs.length=0
 · rw [if_neg (λ q=>q Tb)] at jN
   obtain rfl:=aam jN
   erw [(show (zs.length !=0)=false from bne_eq_false_iff_eq.mpr Tb),if_neg afE]
   exact (S.e _ _ h0 A n9 ww _ _ hA dB (h0v _ _)).then λ v wx Li Lj Bv gm y8 Lk=>se _ _ (PA _ _ (hQ v wx Li _ _ (Bt.trans (dB.kb hs Lj) gm) gm (Bu.trans y8) Lk rfl))
 · rw [if_pos Tb] at jN
   erw [(show (zs.length !=0)=true from bne_iff_ne.mpr Tb),if_pos rfl]
   refine Ye (S.es _ _ Lg) λ Wf Wg _=>?_
   refine afi (aM Wg p2) ((dA (RF:=gK) C dB (pJ rfl PG) rfl).then λ fv wx Li Lj Bv gm y8 Lk=>?_)
   apply RelV.nO Lk
   obtain ⟨e1,r1,Ln⟩ :∃e1 r1,f7=e1::r1:=by
    cases f7 with
    | nil=>exact absurd rfl cM
    | cons e1 r1=>exact ⟨e1,r1,rfl⟩
   have ev:=Wf A wx Li _ _ hA gm (DI _ _)
   rw [Ln] at ev ⊢
   refine afN (o:=o) (fd:=fnX "inner" t.qual params j0 cC (kW bh.cells cC.names []) .none .none doc pm none (.ref c') sf) (ac4 (ev _ _ λ abi Ht Pp KX yV dy KY KZ=>⟨⟨dy.fJ _ _ (yV.1 _ _ (Bv.1 _ _ (y7.1 _ _ hzf))),hdf⟩,?_⟩))
   apply aq.hU KZ;intro _ _ w1 w2
   apply aq.hU w2;intro _ _ w2 w3
   apply aq.o4 w3
   apply RelV.cp w1;intro _
   apply RelV.cp w2;intro _
   refine z8 (lQ (i:=0) (av:=.bor (zs.map .int)) C dy c1 sl1 rfl) λ cA vA hlA hcA hvA hrA=>?_
   refine z8 (lQ (i:=1) (av:=.int n) C dy c2 GK rfl) λ cN vN hlN hcN Wh hrN=>?_
   refine z8 (lQ (i:=2) (av:=.obj (.ref fi)) C dy c3 PG rfl) λ cI vI NM hcI Wi hrI=>?_
   revert Wh Wi
   apply RelV.cp hrN;intro tN
   apply RelV.nO hrI
   intro Wh Wi
   (refine IB (bo dy hrA rfl) λ al vsl ju z5 Wj=>?_;obtain rfl:=ju)
   have DJ:∀{x:Str} {c:abh},bh.cells.lookup x=some c->x∈(["digits","n","inner"]:List Str)->(kW bh.cells cC.names []).lookup x=some c:=λ{x c} hc hx=>od hc _ _ (.inr ⟨rfl,DG x hx⟩)
   have kB:KS base Ht.heap:=λ a o e=>dy.cD a o (C.keep a o e)
   refine Wl (al:=al) (n:=n) (Dc _ _ _ _ _) (pD Wj) k 0 zs.length res jN A Ht _ _ _ _ (by have:=hA.depth;exact %[a+b<950,b≤40,a+c≤900|cf hk this]) ⟨⟨⟨o,dy.fJ _ _ (yV.1 _ _ (Bv.1 _ _ (y7.1 _ _ hzf))),hdf⟩,ew.keeps kB,(hcr.mono ((y7.trans Bv).trans yV)).tA dy,
    ⟨cA,DJ hcA (.head _),hvA⟩,⟨cI,DJ hcI (.tail _ (.tail _ (.head _))),Wi⟩,⟨cN,_,DJ hcN (.tail _ (.head _)),Wh⟩⟩,z5⟩ λ Pq afh Ba K0=>se _ _ (PA _ _ ?_)
   exact hQ _ Pq Pp _ _ ((Bt.trans (dB.kb hs (Lj.trans KX)) dy).trans (Kb.ks Ba) (dy.keep Ba)) (dy.keep Ba) (((Bu.trans y8).trans KY).trans K0) (.int res afh) rfl
end
section
variable{prog:aaq}{w:acb}{A:adn}{Y:Lay}{g:Gh}{σ:bB}{s:aav}{d:Nat}{base:ac2}{nm:NI}{env:Env}{RF:cV}{h h':ac2}
theorem Rel.Wm(R:Rel Y g σ h)(hD:h.PlainList D vs.toArray)(hv:aq Y.n g xs vs)(hn:Y.n≤D)(hm:D∉Y.bw g)(hz:g.z D=none)(hf:D∉d0 Y.fr)(ht:∀t∈aT,t.P≠D):
 ∃g':Gh,g.le g'∧(g'.z=g.z∧g'.ρ=g.ρ++[D])∧g'.ρ[σ.own.length]?=some D∧Rel Y g' {σ with own:=σ.own++[xs]} h:=by
 have j9:g.le ⟨g.z,g.ρ++[D]⟩:=⟨λ V V q=>q,λ k a q=>by erw [acO (aaZ.mp q).1];exact q⟩
 have Ve:Y.bw ⟨g.z,g.ρ++[D]⟩=Y.bw g++[D]:=by simp [Lay.bw]
 refine ⟨⟨g.z,g.ρ++[D]⟩,j9,⟨rfl,rfl⟩,by erw [R.eG];simp,R.fJ,R.base,?_,R.dz,?_,?_,R.dv,R.len,by simp [R.eG],?_,?_,?_,R.held,R.frames,R.ni,λ L hL=>⟨(R.nj L hL).1,λ hm=>?_⟩,λ t wh=>⟨(R.eH t wh).1,λ wi=>?_,(R.eH t wh).2.2⟩,R.tabs⟩
 · (erw [Ve];rw [adj])
   refine ⟨R.nodup,by simp,λ a ha b hb q=>?_⟩
   simp at hb;subst hb q
   exact hm ha
 · intro a ha
   rw [Ve,abC] at ha
   rcases ha with ha | ha
   · exact R.off a ha
   · simp at ha;subst ha;exact hz
 · intro a ha
   rcases ha with ha | ha | ha
   · exact R.low a (.inl ha)
   · exact R.low a (.inr (.inl ha))
   · rcases abC.mp ha with ha | ha
     · exact R.low a (.inr (.inr ha))
     · simp at ha;subst ha;exact hn
 · intro a ha
   refine bF (R.ns a ha) λ f h1 h2=>?_
   exact ⟨f,h1,λ i x hx=>(h2 i x hx).mono j9⟩
 · intro i c hc
   refine bF (R.cell i c hc) λ ov h1 h2=>?_
   exact ⟨ov,h1,h2.mono j9⟩
 · intro k a hk
   by_cases Jp:k < g.ρ.length
   · have hk':g.ρ[k]?=some a:=by simpa [acO Jp] using hk
     refine bF (R.own k a hk') λ us h1 h2=>?_
     refine ⟨us,h1,?_⟩
     erw [acO (by erw [R.eG];exact Jp)]
     exact h2.mono j9
   · have h0:k=g.ρ.length:=by
      have:=(aaZ.mp hk).1
      simp at this;exact %[a=b,cY (a<b),a<b+1|aU Jp this]
     subst h0
     simp at hk
     subst hk
     refine ⟨vs,hD,?_⟩
     erw [←R.eG]
     simp
     exact hv.mono j9
 · rcases abC.mp hm with hm | hm
   · exact (R.nj L hL).2 hm
   · simp at hm;subst hm;exact hf hL
 · rw [Ve,abC] at wi
   rcases wi with wi | wi
   · exact (R.eH t wh).2.1 wi
   · simp at wi
     exact ht t wh wi
theorem Rel.Bx(R:Rel (Y.with ((D,{cls:=.type "list",data:=.seq (adE vs) e})::H)) g σ h)(hv:aq Y.n g xs vs)(hn:Y.n≤D):
 ∃g':Gh,g.le g'∧(g'.z=g.z∧g'.ρ=g.ρ++[D])∧g'.ρ[σ.own.length]?=some D∧Rel (Y.with H) g' {σ with own:=σ.own++[xs]} h:=by
 have nd:=R.yu
 have hp:D∈((D,({cls:=.type "list",data:=.seq (adE vs) e}:Obj))::H).map (·.1):=by simp
 refine (R.gv (h':=h) λ b o V e=>e).Wm (D:=D) ⟨e,R.held (D,_) (.head _)⟩ hv hn (λ q=>?_) (R.off D (au.mpr (.inr (.inr (.inl hp))))) (λ q=>R.ni D q hp) (λ t ht q=>(R.eH t ht).2.1 (au.mpr (.inr (.inr (.inl (q▸hp))))))
 rw [au] at q
 rcases q with q | q | q | q
 · exact (nd.2.1 _ q).2.1 _ hp rfl
 · exact (nd.2.2.1 _ q).1 _ hp rfl
 · have:=nd.1.2.2.1
   rw [aaX,adf] at this
   exact this.1 q
 · exact nd.2.2.2 _ hp _ q rfl
noncomputable abbrev Lay.f9(Y:Lay)(c:abh):Lay:=⟨Y.base,Y.n,Y.dO,Y.lay++[.cell c],Y.hold,Y.fr⟩
theorem iq:(Y.f9 c).cells=Y.cells++[c]:=by
 simp [Lay.cells,ako]
theorem gL(a:abh):a∈(Y.f9 c).bw g↔a∈Y.bw g∨a=c:=by
 (rw [au];rw [au];erw [iq])
 simp only [abC,aaU]
 constructor
 · rintro (ha | (ha | ha) | ha | ha)
   · exact .inl (.inl ha)
   · exact .inl (.inr (.inl ha))
   · exact .inr ha
   · exact .inl (.inr (.inr (.inl ha)))
   · exact .inl (.inr (.inr (.inr ha)))
 · rintro ((ha | ha | ha | ha) | ha)
   · exact .inl ha
   · exact .inr (.inl (.inl ha))
   · exact .inr (.inr (.inl ha))
   · exact .inr (.inr (.inr ha))
   · exact .inr (.inl (.inr ha))
theorem vn:List.Perm ((Y.f9 c).bw g) (c::Y.bw g):=by
 unfold Lay.bw
 rw [iq]
 simp only [aaH,aij]
 exact (ag7 _ ahn).trans ahn
theorem Rel.Ls(R:Rel Y g σ h)(hk:KS h h')(hC:h.get? c=none)(Dd:h.objs.size≤c)(cU:h'.IsCell c none)(hn:Y.n≤h.objs.size):
 Rel (Y.f9 c) g {σ with vars:=σ.vars++[none]} h':=by
 have R':=R.keep hk
 have ZW:c∉Y.bw g:=λ hm=>adg _ (aaY (R.live c hm) Dd)
 have hz:g.z c=none:=by
  cases e:g.z c with
  | none=>rfl
  | some o=>have:=R.fJ _ _ e;rw [hC] at this;exact aw this
 have hCc:c∉Y.cells:=λ q=>ZW (au.mpr (.inr (.inl q)))
 have AA:∀(i:Nat) (l:Loc),(Y.lay++[Loc.cell c])[i]?=some l->(Y.lay[i]?=some l∧i < Y.lay.length)∨(i=Y.lay.length∧l=.cell c):=λ i l q=>by
  by_cases hi:i < Y.lay.length
  · rw [acO hi] at q;exact .inl ⟨q,hi⟩
  · rw [ahM (aiR.mp hi)] at q
    by_cases he:i - Y.lay.length=0
    · rw [he] at q;simp at q;exact .inr ⟨%[a=b,cY (a<b),c=0,qD 0 c a b|(cf hi he rfl)],q.symm⟩
    · rw [aj7,if_neg he] at q;exact aw q
 have uE:∀i,i < Y.lay.length->(σ.vars++[none])[i]?.getD none=σ.vars[i]?.getD none:=λ i hi=>by erw [acO (by erw [R.len];exact hi),rfl]
 have U6:(σ.vars++[none])[Y.lay.length]?.getD none=none:=by erw [←R.len];simp
 refine ⟨R'.fJ,R'.base,?_,?_,λ a ha=>?_,λ a ha=>?_,λ i a y hy=>?_,by simp [R.len],R'.eG,λ a ha=>?_,λ i c' hc=>?_,R'.own,R'.held,R'.frames,R'.ni,R'.nj,λ t ht=>⟨(R.eH t ht).1,λ q=>?_,(R.eH t ht).2.2⟩,R'.tabs⟩
 · exact (agf vn).mpr (adf.mpr ⟨ZW,R.nodup⟩)
 · show (Y.lay++[Loc.cell c]).Nodup
   rw [adj]
   refine ⟨R.dz,by simp,λ a ha b hb q=>?_⟩
   simp at hb;subst hb q
   refine cL (afJ ha) λ i hi=>?_
   exact hCc (bT hi)
 · rcases (gL a).mp ha with ha | ha
   · exact R.off a ha
   · subst ha;exact hz
 · rw [iq] at ha
   rcases ha with ha | ha | ha
   · exact R.low a (.inl ha)
   · rcases abC.mp ha with ha | ha
     · exact R.low a (.inr (.inl ha))
     · simp at ha;subst ha;exact acW hn Dd
   · exact R.low a (.inr (.inr ha))
 · rcases AA i _ hy with ⟨q,_⟩ | ⟨_,q⟩
   · exact R.dv _ _ _ q
   · cases q
 · refine bF (R'.ns a ha) λ f h1 h2=>?_
   refine ⟨f,h1,λ i y hy=>?_⟩
   rcases AA i _ hy with ⟨q,hi⟩ | ⟨_,q⟩
   · erw [uE i hi];exact h2 i y q
   · cases q
 · rcases AA i _ hc with ⟨q,hi⟩ | ⟨hi,q⟩
   · refine bF (R'.cell i c' q) λ ov h1 h2=>?_
     exact ⟨ov,h1,by erw [uE i hi];exact h2⟩
   · cases q
     exact ⟨none,cU,by (erw [hi,U6]);exact .none⟩
 · rcases (gL _).mp q with q | q
   · exact (R.eH t ht).2.1 q
   · refine cL ((R.tabs t ht).there) λ ps hp=>?_
     rw [q,hC] at hp;exact aw hp
theorem Rel.PI(R:Rel (Y.f9 c) g {σ with vars:=σ.vars++[ov]} h):Rel Y g σ h∧c∉Y.bw g∧g.z c=none:=by
 have bc:σ.vars.length=Y.lay.length:=by have:=R.len;simpa using this
 have GY:∀(i:Nat) (l:Loc),Y.lay[i]?=some l->(Y.lay++[Loc.cell c])[i]?=some l∧i < Y.lay.length:=λ i l q=>by
  have hi:=(aaZ.mp q).1
  exact ⟨by erw [acO hi];exact q,hi⟩
 have uE:∀i,i < Y.lay.length->(σ.vars++[ov])[i]?.getD none=σ.vars[i]?.getD none:=λ i hi=>by erw [acO (by rw [bc];exact hi),rfl]
 have nd:=adf.mp ((agf vn).mp R.nodup)
 refine ⟨⟨R.fJ,R.base,nd.2,?_,λ a ha=>R.off a ((gL a).mpr (.inl ha)),λ a ha=>R.low a (by erw [iq];rcases ha with ha | ha | ha;exact .inl ha;exact .inr (.inl (ad4 _ ha));exact .inr (.inr ha)),λ i a y hy=>R.dv i a y (GY _ _ hy).1,bc,R.eG,λ a ha=>?_,λ i c hc=>?_,R.own,R.held,R.frames,R.ni,R.nj,λ t ht=>⟨(R.eH t ht).1,λ q=>(R.eH t ht).2.1 ((gL _).mpr (.inl q)),(R.eH t ht).2.2⟩,R.tabs⟩,nd.1,R.off c ((gL c).mpr (.inr rfl))⟩
 · have:=R.dz
   exact (adj.mp this).1
 · obtain ⟨f,h1,h2⟩:=R.ns a ha
   refine ⟨f,h1,λ i y hy=>?_⟩
   obtain ⟨q,hi⟩:=GY _ _ hy
   have:=h2 i y q
   rwa [uE i hi] at this
 · obtain ⟨q,hi⟩:=GY _ _ hc
   obtain ⟨ov,h1,h2⟩:=R.cell i c q
   exact ⟨ov,h1,by rwa [uE i hi] at h2⟩
theorem PJ(Iw:scope.names=[((".0":Str),.local),(x,.cell),(("range":Str),.globalImplicit)])
(hQ:Q (newEnv scope s.heap.objs.size globals [(x,s.heap.objs.size+1)] qual none .none (some env) builtinsNs) {s with heap:=(s.heap.push {cls:=.type "dict",data:=.dict #[]}).push {cls:=.type "cell",data:=.cell none}}):
 acn M A (newFunctionEnv scope globals [] [] qual none .none (some env)) Q E s:=by
 simp only [newFunctionEnv,akx,if_true]
 refine aaI (wpAny_alloc ?_)
 refine aaI (wpAny_layCells _ (λ name kind cells=>by cases Sl:kind==agb <;> simp) _ _ _ _ ?_)
 erw [Iw]
 show acn M A _ Q E _
 refine aaI (agz (a:=ahI) rfl (ac3 ?_))
 erw [(show ({s with heap:=s.heap.push {cls:=.type "dict",data:=.dict #[]}}:aav).heap.objs.size=s.heap.objs.size+1 from af3 ..)]
 exact hQ
noncomputable def jO(nm:NI)(scope:ahH)(x:Str):NI:=⟨scope.names,[(x,nm.fV+1)],nm.fV+2,nm.ax⟩
theorem Lv(C:Cx base nm env Y)(ef:scope.kind=.function)(Iw:scope.names=[((".0":Str),.local),(x,.cell),(("range":Str),.globalImplicit)])(X6:x≠(".0":Str)):
 Cx base (jO nm scope x) (adh scope [(x,c)] Ca env) (((Y.more Ca (".0":Str)).f9 c).with H):=by
 have hko:∀y,(adh scope [(x,c)] Ca env).kindOf y=scope.names.lookup y:=λ y=>by
  show aht y (scope.names.map _)=_
  erw [Iw]
  rfl
 refine ⟨ef,λ y=>(hko y).symm,λ y i hi=>?_,?_,C.ax,C.keep⟩
 · have Fn:aht y [(x,nm.fV+1)]=some i:=hi
   rw [adl] at Fn
   split at Fn
   · rename_i e
     have:=eq_of_beq e;subst this
     obtain rfl:=aam Fn
     refine ⟨.cell c,?_,.inr ⟨c,rfl,by show aht y [(y,c)]=some c;simp,.inl ?_⟩⟩
     · show ((Y.lay++[Loc.ns Ca _])++[Loc.cell c])[nm.fV+1]?=_
       erw [C.dO];simp
     · erw [hko ..,Iw]
       have e0:(y==(".0":Str))=false:=by simpa using X6
       simp [adl,e0]
   · simp at Fn
 · show nm.fV+2=((Y.lay++[Loc.ns Ca _])++[Loc.cell c]).length
   erw [C.dO];simp
end
section
variable{prog:aaq}{w:acb}{A:adn}{Y:Lay}{g:Gh}{σ:bB}{s:aav}{d:Nat}{base:ac2}{nm:NI}{env:Env}{RF:cV}{h h':ac2}
theorem Lw(hs:∃a,a∈Y.dO∧Y.n≤a)
(C:Cx base nm env Y)(zY:eI nm scope x=true)(gi:dM iter=true)(hI:uw ke nm iter=some ii)(hE:dT ke (bJ nm scope x) elt=some ie)
(hA:jX d Y.fr A)(R:Rel Y g σ s.heap)(hi:Ao gK ii σ=some items)(hy:dR (wX gK ie .nil σ) items=some ys)(bc:ys.length≤aaW)
(hQ:∀s' g' D,aR Y.lo s.heap s'.heap->g.le g'->Rel Y g' {σ with own:=σ.own++[ys]} s'.heap->a9 s s'->RelV Y.n g' (.own σ.own.length) (.ref D)->Q (.ref D) s'):
 acn (acr prog w) A (eval (.ListComp elt [⟨.Name x px,iter,[],0⟩] scope pos) env) Q E s:=by
 erw [eval_ListComp ..]
 refine wZ (RF:=gK) (its:=.nil) (use:=none) hs C zY gi ((jM C hs ke).i _ _ hI) (λ cl Ca H hn cx=>wW) (λ cl Ca H hn cx=>(jM cx ⟨Ca,by simp,hn⟩ ke).e _ _ hE) hA R hi hy bc λ s' g' D Ca vs e k l R' m hv hD hn uK hz hm=>?_
 refine cL hn λ mm hn=>?_
 have abq:∀H,Ca∉(Y.with ((D,({cls:=.type "list",data:=.seq (adE vs) e}:Obj))::H)).bw g'->Ca≠D∧Ca∉(Y.with H).bw g':=λ H hm=>⟨λ q=>hm (au.mpr (.inr (.inr (.inl (by simp [q]))))),λ q=>hm (by
  rw [au] at q ⊢
  rcases q with q | q | q | q
  · exact .inl q
  · exact .inr (.inl q)
  · exact .inr (.inr (.inl (by simp only [Lay.with,aaX] at q ⊢;exact ado _ q)))
  · exact .inr (.inr (.inr q)))⟩
 refine gY (abq Y.hold hm) λ cM PL=>?_
 (refine cL (Rel.Bx (Y:=Y) R' hv hD) λ bu dL=>?_;have bk:=dL.1;have ez:=dL.2.1.1;have eρ:=dL.2.1.2;have tH:=dL.2.2.1;have aF:=dL.2.2.2;clear dL)
 have hz2:bu.z Ca=none:=by erw [ez];exact hz
 have hm3:Ca∉Y.bw bu:=λ q=>by
  rw [au,eρ] at q
  rcases q with q | q | q | q
  · exact PL (au.mpr (.inl q))
  · exact PL (au.mpr (.inr (.inl q)))
  · exact PL (au.mpr (.inr (.inr (.inl q))))
  · rcases abC.mp q with q | q
    · exact PL (au.mpr (.inr (.inr (.inr q))))
    · exact cM (by simpa using q)
 refine ⟨mm,hn,λ h' jo=>?_⟩
 refine hQ {s' with heap:=h'} bu D (k.i3 jo (λ a o e q=>by subst q;rw [uK] at e;exact aw e) (R'.jD hz)) (l.trans bk) (aF.yJ hm3 hz2 jo (R.OV uK) (R.OW uK)) ⟨m.1,m.2,m.3⟩ (.own tH)
theorem FL{α β:Type}{f:α->Option β}:∀{l:List α} {r:List β},l.mapM f=some r->r.length=l.length∧∀{k:Nat} {x:α},l[k]?=some x->∃y,r[k]?=some y∧f x=some y:=by
 intro l
 induction l with
 | nil=>intro r h;obtain rfl:=aam h;exact ⟨rfl,λ e=>aw e⟩
 | cons a l ih=>
   intro r h
   rw [adu] at h
   refine aC h λ y hy h=>aC h λ r' XZ h=>?_
   obtain rfl:=aam h
   refine ⟨congrArg Nat.succ (ih XZ).1,λ{k x} e=>?_⟩
   cases k with
   | zero=>obtain rfl:=aam e;exact ⟨y,rfl,hy⟩
   | succ k=>exact (ih XZ).2 e
noncomputable abbrev Yr(Y:Lay)(C c:abh)(H:List (abh×Obj)):Lay:=((Y.more C (".0":Str)).f9 c).with H
noncomputable def vo(n k:Nat):List AV:=(abD k).map λ i=>.own (n+i)
theorem DL(n k:Nat):vo n (k+1)=vo n k++[.own (n+k)]:=by unfold vo;erw [List.range_succ,aa6];rfl
theorem Hw(n k:Nat):(vo n k).length=k:=by unfold vo;erw [aar ..,agE,rfl]
noncomputable def Wn(Y:Lay)(σ:bB)(items:List AV)(rows:List (List AV))(s₁:aav)(aJ:Gh)(St:Nat->ac2->Prop)(I D C c:abh)(n:Nat)(s':aav):Prop:=∀G:Prop,(∀k g' ov oI vs e,n=items.length+1 - k->k≤items.length->St k s'.heap->aR Y.lo s₁.heap s'.heap->aJ.le g'->
 Rel (Yr Y C c ((I,oI)::(D,{cls:=.type "list",data:=.seq (adE vs) e})::Y.hold)) g' ⟨σ.vars++[none]++[ov],σ.own++rows.take k⟩ s'.heap->a9 s₁ s'->aq Y.n g' (vo σ.own.length k) vs->G)->G
theorem Hx{elt iter:acU}{x:Str}{px:Pos}{scope:ahH}{pos:Pos}{s₁:aav}{aJ:Gh}{I D C c Kd:Nat}{o:Obj}{fp:List abh}{P:Nat->aas->Prop}{St:Nat->ac2->Prop}{bh:Env}{row:AV->Option (List AV)}{R':Result->aav->Prop}
(U7:bh.kindOf x=some .cell)(J8:bh.scope.kind=.function)(hlk:bh.cells.lookup x=some c)
(hE:∀H (A:adn) (s:aav) (g:Gh) (xk:AV) (own ys:List (List AV)) (y:List AV),jX d Y.fr A->Rel (Yr Y C c H) g ⟨σ.vars++[none]++[some xk],own⟩ s.heap->row xk=some y->∀(E Q:aas->aav->Prop),
  (∀s' g' D,aR Y.lo s.heap s'.heap->g.le g'->Rel (Yr Y C c H) g' ⟨σ.vars++[none]++[some xk],own++[y]⟩ s'.heap->a9 s s'->RelV Y.n g' (.own own.length) (.ref D)->Q (.ref D) s')->acn (acr prog w) A (eval elt bh) Q E s)
(hA:jX d Y.fr A)(R8:σ.vars.length=Y.lay.length){items:List AV}{rows:List (List AV)}(It:U3 prog w (iQ Y.fr) false Y.n aJ items I fp P St)(hr:items.mapM row=some rows)(bc:items.length≤aaW)
(cM:∀a o,s₁.heap.get? a=some o->a < I)(OT:I < D)(hDC:D < C)(hCc:C < c)(hn:Y.n≤I)(uF:∀b∈fp,b∉iQ Y.fr)(Dc:∀(i:Nat) (a:abh) (x:Str),Y.lay[i]?=some (Loc.ns a x)->a∈Y.dO)
(jJ:St 0 s.heap)(uG:aR Y.lo s₁.heap s.heap)(fX:Rel (Yr Y C c ((I,o)::(D,{cls:=.type "list",data:=.seq (adE []) Kd})::Y.hold)) aJ ⟨σ.vars++[none]++[none],σ.own⟩ s.heap)(aP:a9 s₁ s)
(hQ:∀s' g' vs e,aR Y.lo s₁.heap s'.heap->aJ.le g'->Rel (Y.with ((D,{cls:=.type "list",data:=.seq (adE vs) e})::Y.hold)) g' ⟨σ.vars,σ.own++rows⟩ s'.heap->a9 s₁ s'->aq Y.n g' (vo σ.own.length items.length) vs->(∃m,s'.heap.Ns C m)->g'.z C=none->C∉(Y.with ((D,{cls:=.type "list",data:=.seq (adE vs) e})::Y.hold)).bw g'->R' (.ok .next) s'):
 aiW (acr prog w) A (.compLoop (.ListComp elt [⟨.Name x px,iter,[],0⟩] scope pos) 0 (.ref I) (.ref D) bh) R' s:=by
 have W:=It.walks A hA.hand
 obtain ⟨hrl,afl⟩:=FL hr
 refine ala (Wn Y σ items rows s₁ aJ St I D C c) ?_ (items.length+1) λ G f=>f 0 aJ none o [] Kd rfl (adV _) jJ uG (Gh.le.refl _) (by (erw [aiv,abg ..]);exact fX) aP .nil
 refine λ n s' H=>d6 λ Qa Ea na V=>H _ λ k g' ov oI vs eD hnk hk wp Sb l' R' m' nw=>?_
 have XW:=R'.yu.1.2.2.1
 simp only [Lay.with,aaX,adf,aaB,not_or] at XW
 by_cases bD:k < items.length
 · refine W.item k s' _ _ bD wp λ v gk tk U8 gI eg=>na _ _ ?_
   obtain ⟨xk,XX,U9⟩:=It.rel k v bD U8
   obtain ⟨y,hyk,abr⟩:=afl XX
   obtain ⟨rr,uH⟩:=It.obj _ _ gI
   have dH:=R'.tF (h':=gk) eg uH
   have uI:aR Y.lo s₁.heap gk:=nY Sb eg cM (R'.gw (.head _))
   have hly:(Yr Y C c ((I,rr)::(D,{cls:=.type "list",data:=.seq (adE vs) eD})::Y.hold)).lay[Y.lay.length+1]?=some (.cell c):=by
    show ((Y.lay++[_])++[_])[_]?=_;simp
   refine bF (dH.cell _ _ hly) λ ovc Wo _=>?_
   refine afP (ahE (s:={s' with heap:=gk,toks:=tk}) J8 U7 hlk Wo λ Dh Fo rt=>?_)
   have dB:=dH.setCell hly (U9.mono l') Fo rt
   have gi:(σ.vars++[none]++[ov]).set (Y.lay.length+1) (some xk)=σ.vars++[none]++[some xk]:=by erw [←R8];simp
   rw [gi] at dB
   have ltc:∀{a},a≤D->a < c:=λ h=>acZ h (afk hDC hCc)
   have Fp:aR Y.lo s₁.heap Dh:=uI.i3 rt (λ a o' e=>acS (ltc (ae4 (afk (cM a o' e) OT)))) (dH.jD (dH.off _ (au.mpr (.inr (.inl (bT hly))))))
   have po:St (k+1) Dh:=W.frame _ _ _ gI λ b hb o' e=>rt.extBut b o' (acS (ltc (acW (It.low b hb) (ae4 OT)))) e
   refine ac3 ?_
   erw [if_pos rfl]
   refine hE _ A {s' with heap:=Dh,toks:=tk} g' xk _ rows y hA dB abr _ _ λ gj nr Da nW uC dy iR JY=>?_
   have Lh:a9 s₁ gj:=m'.trans (⟨iR.1,iR.2,iR.3⟩ :a9 s' gj)
   have hvk:vs.length=k:=nw.length.symm.trans (Hw _ _)
   refine ahd (items:=vs.toArray) (x:=.ref Da) ⟨eD,dy.held _ (.tail _ (.head _))⟩ (λ Va AF n0=>?_) (by erw [aha];exact %[a≤b,c≤b,d≤c,a=d|dQ bc hk hvk])
   obtain ⟨Vb,AG⟩:=AF
   rw [ai0] at AG
   have G0:=dy.Az (h':=Va) (λ b x hb=>n0.extBut b x hb) AG
   have Pn:(σ.own++rows.take k).length=σ.own.length+k:=by
    erw [aao,aem,hrl,ajA hk,rfl]
   refine ⟨_,nS hnk bD,λ G f=>f (k+1) nr (some xk) rr (vs++[.ref Da]) Vb rfl bD ?_ ?_ (l'.trans uC) ?_ (Lh.trans ⟨rfl,rfl,rfl⟩) (by erw [DL ..];exact (nw.mono uC).append (.cons (Pn▸JY) .nil))⟩
   · exact W.frame _ _ _ po λ b hb o' e=>n0.extBut b o' (acS (acZ (It.low b hb) OT)) (nW.get e (λ hm=>uF b hb (ad4 _ hm)) (λ t ht q=>uF b hb (aev _ (q▸acV ht))))
   · exact (Fp.trans nW).i3 n0 (λ a o' e=>acS (afk (cM a o' e) OT)) (dy.gw (.tail _ (.head _)))
   · erw [List.take_add_one,hyk,←aaH ..];exact G0
 · have hke:k=items.length:=%[a=b,a≤b,cY (a<b)|(aU hk bD)]
   subst hke
   refine W.done s' _ _ wp λ gk tk eg=>na _ _ ?_
   have dH:=R'.gv (h':=gk) λ b o' hb e=>eg b o' (by simpa using hb) e
   rw [←hrl,List.take_length] at dH
   refine Ye (Rel.PI (Y:=(Y.more C (".0":Str)).with ((D,_)::Y.hold)) (c:=c) (σ:=⟨σ.vars++[none],σ.own++rows⟩) dH) λ dB agZ hzc=>?_
   (have dL:=Rel.R9 (Y:=Y.with ((D,_)::Y.hold)) (C:=C) (x:=(".0":Str)) (σ:=⟨σ.vars,σ.own++rows⟩) dB Dc;have gm:=dL.1;have ru:=dL.2.1;have AH:=dL.2.2.1;have AI:=dL.2.2.2;clear dL)
   exact hQ {s' with heap:=gk,toks:=tk} g' vs eD (nY Sb eg cM (R'.gw (.head _))) l' gm (m'.trans ⟨rfl,rfl,rfl⟩) nw AI AH ru
theorem Hy(hs:∃a,a∈Y.dO∧Y.n≤a)
(C:Cx base nm env Y)(ef:scope.kind=.function)(Iw:scope.names=[((".0":Str),.local),(x,.cell),(("range":Str),.globalImplicit)])(X6:x≠(".0":Str))(gi:dM iter=true)(hI:SI prog w d base gK nm env Y iter ii)
(hE:∀Ca c H,Y.n≤Ca->Cx base (jO nm scope x) (adh scope [(x,c)] Ca env) (((Y.more Ca (".0":Str)).f9 c).with H)->∀(A:adn) (s:aav) (g:Gh) (xk:AV) (own ys:List (List AV)) (y:List AV),jX d Y.fr A->
  Rel (((Y.more Ca (".0":Str)).f9 c).with H) g ⟨σ.vars++[none]++[some xk],own⟩ s.heap->row xk=some y->∀(E Q:aas->aav->Prop),
  (∀s' g' D,aR Y.lo s.heap s'.heap->g.le g'->Rel (((Y.more Ca (".0":Str)).f9 c).with H) g' ⟨σ.vars++[none]++[some xk],own++[y]⟩ s'.heap->a9 s s'->RelV Y.n g' (.own own.length) (.ref D)->Q (.ref D) s')->
  acn (acr prog w) A (eval elt (adh scope [(x,c)] Ca env)) Q E s)
(hA:jX d Y.fr A)(R:Rel Y g σ s.heap)(hi:Ao gK ii σ=some items)(hr:items.mapM row=some rows)(bc:items.length≤aaW)
(hQ:∀s' g' D Ca,aR Y.lo s.heap s'.heap->g.le g'->Rel Y g' ⟨σ.vars,σ.own++rows++[(abD items.length).map λ i=>.own (σ.own.length+i)]⟩ s'.heap->a9 s s'->RelV Y.n g' (.own (σ.own.length+items.length)) (.ref D)->(∃m,s'.heap.Ns Ca m)->s.heap.get? Ca=none->g'.z Ca=none->Ca∉Y.bw g'->
  alF (acr prog w) A E use Q (.ref D) Ca (.ok .next) s'):
 acn (acr prog w) A (aid (.ListComp elt [⟨.Name x px,iter,[],0⟩] scope pos) scope env p2 (ak7 []) false (eval iter env) use) Q E s:=by
 have PN:∀y∈scope.names,y.2≠.free:=λ y hy=>by rw [Iw] at hy;simp at hy;rcases hy with rfl | rfl | rfl <;> (intro q;cases q)
 refine akC (use:=use) rfl (lL gi) (closureFor_none PN) ef (λ y hy hl=>by
  rw [Iw] at hy ⊢;simp at hy;rcases hy with rfl | rfl | rfl
  · rfl
  · cases hl
  · cases hl) ?_
 refine hI A s g σ items false hA R hi (λ e=>by exact e8 e) E _ λ s₁ aJ k₁ aW aO aP=>?_
 intro o fp P St ho It GN
 have eJ:Y.n≤s₁.heap.objs.size:=dG R k₁ hs aO
 have Dc:∀(i:Nat) (a:abh) (x:Str),Y.lay[i]?=some (Loc.ns a x)->a∈Y.dO:=R.dv
 have aF:Rel (Y.with ((s₁.heap.objs.size,o)::Y.hold)) aJ σ (s₁.heap.push o):=Rel.gG (Y:=Y) (H:=Y.hold) aO ho eJ
 refine aho (PJ Iw ?_)
 skip
 generalize OU:s₁.heap.objs.size=I at *
 have yI:(s₁.heap.push o).objs.size=I+1:=by (erw [af3 ..,OU,rfl])
 generalize hh2:(s₁.heap.push o).push {cls:=.type "list",dict:=none,data:=.seq ([]:List aas).toArray}=h2
 have rZ:h2.objs.size=I+1+1:=by (erw [←hh2,af3 ..,yI,rfl])
 generalize hh3:h2.push {cls:=.type "dict",data:=.dict #[]}=h3
 have PO:h3.objs.size=I+1+1+1:=by (erw [←hh3,af3 ..,rZ,rfl])
 generalize hh4:h3.push {cls:=.type "cell",data:=.cell none}=h4
 erw [yI,rZ]
 have bW:=Rel.gG (Y:=Y) (H:=(I,o)::Y.hold) aF (o:={cls:=.type "list",dict:=none,data:=.seq ([]:List aas).toArray}) rfl (by erw [yI];exact %[a≤b+1,a≤b|aU eJ])
 rw [yI,hh2] at bW
 have Wp:KS h2 h3:=λ a o' e=>hh3▸act _ e
 have Wq:KS h3 h4:=λ a o' e=>hh4▸act _ e
 have Lx:∀(hp:ac2) (a:abh),hp.objs.size≤a->hp.get? a=none:=λ hp a ha=>agJ ha
 have fX:=bW.J7 Wp (C:=I+1+1) (x:=(".0":Str)) (m:=λ V=>none) (Lx _ _ (by erw [rZ];exact ac1 _)) (by erw [rZ];exact ac1 _) (by (erw [←hh3,←rZ]);exact Heap.Ns.new h2 (.type "dict")) rfl (by erw [rZ];show Y.n≤_;exact %[a≤b+1+1,a≤b|aU eJ])
 have dH:=fX.Ls Wq (c:=I+1+1+1) (Lx _ _ (by erw [PO];exact ac1 _)) (by erw [PO];exact ac1 _) (by (erw [←hh4,←PO]);exact ⟨_,acT _ rfl,rfl⟩) (by erw [PO];show Y.n≤_;exact %[a≤b+1+1+1,a≤b|aU eJ])
 have uG:aR Y.lo s₁.heap h4:=(((cq _ o).trans (hh2▸cq _ _)).trans (aR.of Wp)).trans (aR.of Wq)
 have W:=It.walks A hA.hand
 have jJ:St 0 h4:=W.frame _ _ _ GN λ b V o' e=>Wq b o' (Wp b o' (hh2▸act _ e))
 have uF:∀b∈fp,b∉iQ Y.fr:=λ b hb=>by
  rcases It.nf b hb with q | q
  · subst q;exact aF.JI (au.mpr (.inr (.inr (.inl (.head _))))) (λ hm=>aF.ni _ hm (.head _))
  · exact q
 have cx:∀H,Cx base (jO nm scope x) (adh scope [(x,I+1+1+1)] (I+1+1) env) (((Y.more (I+1+1) (".0":Str)).f9 (I+1+1+1)).with H):=λ H=>Lv C ef Iw X6
 have U7:(adh scope [(x,I+1+1+1)] (I+1+1) env).kindOf x=some .cell:=by
  erw [←(cx []).names ..]
  show scope.names.lookup x=_
  erw [Iw]
  have e0:(x==(".0":Str))=false:=by simpa using X6
  simp [adl,e0]
 have cM:∀a o,s₁.heap.get? a=some o->a < I:=λ a o e=>OU▸acD e
 have loop:aiW (acr prog w) A (.compLoop (.ListComp elt [⟨.Name x px,iter,[],0⟩] scope pos) 0 (.ref I) (.ref (I+1)) (adh scope [(x,I+1+1+1)] (I+1+1) env)) (alF (acr prog w) A E use Q (.ref (I+1)) (I+1+1)) {s₁ with heap:=h4}:=
  Hx (s₁:=s₁) (C:=I+1+1) (c:=I+1+1+1) U7 ef (show aht x [(x,I+1+1+1)]=some (I+1+1+1) by simp) (λ H=>hE (I+1+1) (I+1+1+1) H %[a≤b+1+1,a≤b|(aU eJ)] (cx H)) hA R.len It hr bc cM (afc _) (afc _) (afc _) eJ uF Dc jJ uG
   (Rel.wY (Y:=(Y.more (I+1+1) (".0":Str)).f9 (I+1+1+1)) dH) ⟨rfl,rfl,rfl⟩ λ s' g' vs e kp l' gm m' nw AI AH ru=>?_
 · exact ak9 loop (W.self 0 _ _ _ jJ loop)
 (refine cL (Rel.Bx (Y:=Y) gm nw %[a≤b+1,a≤b|(aU eJ)]) λ bu dL=>?_;have bk:=dL.1;have ez:=dL.2.1.1;have eρ:=dL.2.1.2;have tH:=dL.2.2.1;have dy:=dL.2.2.2;clear dL)
 have uK:s.heap.get? (I+1+1)=none:=by
  cases e:s.heap.get? (I+1+1) with
  | none=>rfl
  | some o'=>exact absurd rfl (Ka (k₁.live e) OU)
 have hm3:I+1+1∉Y.bw bu:=λ q=>by
  have hh:I+1+1∈Y.hold.map (·.1)∨I+1+1=I+1->False:=λ h=>ru (au.mpr (.inr (.inr (.inl (by
   rcases h with h | h
   · exact ado _ h
   · erw [h];exact aiN)))))
  rw [au,eρ] at q
  rcases q with q | q | q | q
  · exact ru (au.mpr (.inl q))
  · exact ru (au.mpr (.inr (.inl q)))
  · exact hh (.inl q)
  · rcases abC.mp q with q | q
    · exact ru (au.mpr (.inr (.inr (.inr q))))
    · exact hh (.inr (aaU.mp q))
 refine hQ s' bu (I+1) (I+1+1) (k₁.trans kp) ((aW.trans l').trans bk) dy (aP.trans m') (.own ?_) AI uK (by erw [ez];exact AH) hm3
 erw [←tH,aao,(FL hr).1,rfl]
theorem PP{elt iter:acU}{x v:Str}{px pv:Pos}{scope:ahH}{pos n6:Pos}{ii:II}{row:AV->Option (List AV)}{j:Nat}(hs:∃a,a∈Y.dO∧Y.n≤a)
(C:Cx base nm env Y)(hj:bC nm v=some j)(ef:scope.kind=.function)(Iw:scope.names=[((".0":Str),.local),(x,.cell),(("range":Str),.globalImplicit)])(X6:x≠(".0":Str))(gi:dM iter=true)(hI:SI prog w d base gK nm env Y iter ii)
(O4:ahe (.ListComp elt [⟨.Name x px,iter,[],0⟩] scope pos) (some (.Name v pv)) n6.line env=pure true)
(hE:∀Ca c H,Y.n≤Ca->Cx base (jO nm scope x) (adh scope [(x,c)] Ca env) (((Y.more Ca (".0":Str)).f9 c).with H)->∀(A:adn) (s:aav) (g:Gh) (xk:AV) (own ys:List (List AV)) (y:List AV),jX d Y.fr A->
  Rel (((Y.more Ca (".0":Str)).f9 c).with H) g ⟨σ.vars++[none]++[some xk],own⟩ s.heap->row xk=some y->∀(E Q:aas->aav->Prop),
  (∀s' g' D,aR Y.lo s.heap s'.heap->g.le g'->Rel (((Y.more Ca (".0":Str)).f9 c).with H) g' ⟨σ.vars++[none]++[some xk],own++[y]⟩ s'.heap->a9 s s'->RelV Y.n g' (.own own.length) (.ref D)->Q (.ref D) s')->
  acn (acr prog w) A (eval elt (adh scope [(x,c)] Ca env)) Q E s)
(hA:jX d Y.fr A)(R:Rel Y g σ s.heap){items:List AV}{rows:List (List AV)}(hi:Ao gK ii σ=some items)(hr:items.mapM row=some rows)(bc:items.length≤aaW){E:aas->aav->Prop}{Q:agT->aav->Prop}
(hQ:∀s' g',Kb Y.lo Y.n s.heap s'.heap->g.le g'->Rel Y g' ⟨σ.vars.set j (some (.own (σ.own.length+items.length))),σ.own++rows++[(abD items.length).map λ i=>.own (σ.own.length+i)]⟩ s'.heap->a9 s s'->Q .next s'):
 acn (acr prog w) A (exec (.Assign [.Name v pv] (.ListComp elt [⟨.Name x px,iter,[],0⟩] scope pos) n6) env) Q E s:=by
 erw [alh _ _ _ _ O4]
 refine aaI (wpAny_standAt (aaI ?_))
 show acn _ A (do let _ ←aid (.ListComp elt [⟨.Name x px,iter,[],0⟩] scope pos) scope env _ (ak7 []) false (eval iter env) (some (ajN (.Name v pv) env))) _ _ s
 refine aaI (wpAny_mono (Hy (use:=some (ajN (.Name v pv) env)) (Q:=λ V s'=>Q .next s') (E:=E) hs C ef Iw X6 gi hI hE hA R hi hr bc
  λ s' g' D Ca k l R' m v hn uK hz hm=>?_) (λ V s' hq=>ac3 (ac3 hq)) λ V V e=>e)
 obtain ⟨mm,hn⟩:=hn
 show acn _ A (ajN (.Name _ pv) env (.ref D)) _ _ _
 refine afP (uO C R' hj v λ s₂ b hb hsb bg aF aX=>?_)
 refine ⟨mm,hn.sameBut hsb (λ q=>hm (q▸hb)),λ h' jo=>?_⟩
 refine hQ {s₂ with heap:=h'} g' (λ a o bD e=>by
  have cM:a≠Ca:=λ q=>by subst q;rw [uK] at e;exact aw e
  rcases ((R.kb hs k).trans bg aF) a o bD e with ⟨sl,e1,n1⟩ | ⟨ho,AP,t,ht,hP,c,hc,hg,c',oc,vs,tt,q,ZN,hd,hv⟩
  · exact .inl ⟨sl,jo.extBut a _ cM e1,n1⟩
  · cases q
    refine .inr ⟨ho,AP,t,ht,hP,c,hc,jo.extBut a _ cM hg,c,oc,vs,tt,rfl,jo.extBut c _ (λ q=>?_) ZN,hd,hv⟩
    subst q
    exact aF.jD hz t ht (hP▸hg)) l (aF.yJ hm hz jo (R.OV uK) (R.OW uK)) ((m.trans aX).trans ⟨rfl,rfl,rfl⟩)
end
section
variable{prog:aaq}{w:acb}{A:adn}{Y:Lay}{g:Gh}{σ:bB}{s:aav}{d:Nat}{base:ac2}{nm:NI}{env:Env}{RF:cV}{h h':ac2}
noncomputable def Ly:AV->Option (List AV)
 | .int k=>some ((bI 0 5).map λ y=>match y with | .int y=>.bool (k==y) | _=>.none)
 | _=>none
theorem Lz(h:Ly x=some y)(a b c d e:Option AV)(own:List (List AV)):dR (wX gK (.cmp .Eq (.var 5) (.var 6)) .nil ⟨[a,b,c,d]++[e]++[some x],own⟩) (bI 0 5)=some y:=by
 cases x with
 | int k=>cases h;rfl
 | _=>exact aw h
structure LA (body rest:List agH) (nm:NI) (ke:Nat):Prop where
 text:∃(PQ By iter:acU) (sc2 sc:ahH) (py px pv Wr pos n6:Pos),body=.Assign [.Name "knows" pv] (.ListComp (.ListComp PQ [⟨.Name "other" py,By,[],0⟩] sc2 Wr) [⟨.Name "one" px,iter,[],0⟩] sc pos) n6::rest∧
  sc.kind=.function∧sc.names=[((".0":Str),.local),(("one":Str),.cell),(("range":Str),.globalImplicit)]∧dM iter=true∧dM By=true∧uw ke nm iter=some (.kP (.int 5))∧
  eI (jO nm sc "one") sc2 "other"=true∧uw ke (jO nm sc "one") By=some (.kP (.int 5))∧dT ke (bJ (jO nm sc "one") sc2 "other") PQ=some (.cmp .Eq (.var 5) (.var 6))∧(pv.line==pos.line)=true
theorem Hz
(D:bH base f fd ["heap"] ["heap","one","other","knows"] body ax)(ew:base.NoLimit)(T:LA body rest (aY fd.scope ["heap","one","other","knows"] ax) ke)(gH:fd.scope.names.lookup ("knows":Str)=some .local)
(FM:(bI 0 5).mapM Ly=some rows)
(hev:bK gK n (cg k ke (aY fd.scope ["heap","one","other","knows"] ax) rest) ⟨[some (.int z),none,none,some (.own 5)],rows++[(abD 5).map λ i=>.own i]⟩=some (uS,some x))(jN:nk uS 4 x=some res):
 uz prog w (d+1) base (.ref f) [.int z] res:=by
 refine ip D ew rfl ⋯ rfl λ bh Y A s g hE C hs Ij CX hA ⟨uJ,wv⟩ R E Q hQ=>?_
 obtain ⟨PQ,By,iter,sc2,sc,py,px,pv,Wr,pos,n6,rfl,hsk,hsn,gi,abu,tE,afo,afp,afq,hline⟩:=T.text
 have R0:Rel Y g ⟨[some (.int z),none,none,none],[]⟩ s.heap:=R
 have S:=jM (prog:=prog) (w:=w) (d:=d) C hs ke
 have hso:bC (aY fd.scope ["heap","one","other","knows"] ax) "knows"=some 3:=by
  unfold bC
  rw [show (aY fd.scope ["heap","one","other","knows"] ax).names.lookup ("knows":Str)=some .local from gH]
  rfl
 have O4:ahe (.ListComp (.ListComp PQ [⟨.Name "other" py,By,[],0⟩] sc2 Wr) [⟨.Name "one" px,iter,[],0⟩] sc pos) (some (.Name "knows" pv)) n6.line bh=pure true:=by
  have e1:bh.kindOf "knows"=some .local:=by erw [←C.names ..];exact gH
  have e2:bh.blockKind=.function:=by unfold Env.blockKind;simp [C.kind]
  have e3:(sc.names.any λ(n,k)=>n==("knows":Str)&&(k==.local||k==.cell))=false:=by erw [hsn];rfl
  show (pure (bh.blockKind==.function&&bh.kindOf "knows"==some .local&&pv.line==pos.line&&!(sc.names.any λ(n,k)=>n==("knows":Str)&&(k==.local||k==.cell))):Sem Bool)=pure true
  erw [e1,e2,e3,hline]
  rfl
 refine aeN (PP (row:=Ly) (rows:=rows) (items:=bI 0 5) hs C hso hsk hsn ⋯ gi (S.i _ _ tE) O4 (λ Ca c H hn cx A' s' g' xk own ys y Fu R' hy E' Q' ZV=>?_) hA R0 rfl FM ⋯ λ s₁ aJ abv aW aO aP=>?_)
 · have hl5:y.length=5:=by
    cases xk with
    | int k=>cases hy;rfl
    | _=>exact aw hy
   exact Lw (Y:=((Y.more Ca (".0":Str)).f9 c).with H) (ke:=ke) ⟨Ca,by simp,hn⟩ cx afo abu afp afq Fu R' (show Ao gK (.kP (.int 5)) _=some (bI 0 5) from rfl) (Lz hy _ _ _ _ _ _) (by erw [hl5];decide) λ uY g'' D k l R'' m v=>ZV uY g'' D k l R'' m v
 · have e5:(bI 0 5).length=5:=rfl
   have R1:Rel Y aJ ⟨[some (.int z),none,none,some (.own 5)],rows++[(abD 5).map λ i=>.own i]⟩ s₁.heap:=by
    have R1:=aO
    rw [e5] at R1
    simpa using R1
   refine (Dl (prog:=prog) (w:=w) (d:=d) rf0 yU ke k _ bh Y C hs).b rest n A s₁ aJ ⟨[some (.int z),none,none,some (.own 5)],rows++[(abD 5).map λ i=>.own i]⟩ _ _ hA R1 hev E Q λ f s₂ bu abw bk aF aX hf=>?_
   · obtain ⟨v,rfl,hv⟩:=hf
     exact hQ v s₂ bu _ _ (abv.trans abw aF) aF (aP.trans aX) hv jN
end
end Mine.Internal
end
section
open PySem
namespace Mine.Internal
section
open Sre
noncomputable def rA:Array Nat:=#[14,4,0,1,1,6,1,16,46,1]
noncomputable def gf:Array Nat:=#[14,9,4,1,2,16,10,16,13,0,7,7,16,13,16,10,15,18,5,16,10,15,13,11,16,13,5,5,0,16,10,1,15,2,0,1]
noncomputable def iter:Nat->M->M
 | 0,m=>m
 | n+1,m=>iter n m.step
theorem jb:∀(a b:Nat) (m:M),iter (a+b) m=iter b (iter a m)
 | 0,b,m=>by simp [iter]
 | a+1,b,m=>by erw [akl ..];exact jb a b m.step
theorem jc(h:m.outcome.isSome=true):∀n,iter n m=m
 | 0=>rfl
 | n+1=>by
   have:m.step=m:=by unfold M.step;erw [if_pos h,rfl]
   (rw [iter];erw [this]);exact jc h n
theorem cH(h:m.step=m')(h':iter n m'=PR):iter (n+1) m=PR:=by (rw [iter];erw [h]);exact h'
structure Ends (m:M) (n:Nat) (r:Option (Nat×Nat)):Prop where
 e:∃k m',k≤n∧iter k m=m'∧match r with | none=>m'.outcome=some .failed | some (a,b)=>m'.outcome=some .matched∧m'.start=a∧m'.handed=b
theorem Ends.after(h:iter a m=m')(x:Ends m' n r):Ends m (a+n) r:=by
 obtain ⟨k,PR,hk,he,hr⟩:=x.e
 exact ⟨a+k,PR,%[a+b≤a+c,b≤c|(cf hk)],by (erw [jb ..,h]);exact he,hr⟩
theorem Ends.le(x:Ends m a r)(h:a≤n):Ends m n r:=by
 obtain ⟨k,PR,hk,he,hr⟩:=x.e
 exact ⟨k,PR,%[a≤b,c≤b,a≤c|(cf h hk)],he,hr⟩
noncomputable abbrev DM(t:Array Nat)(s:Nat)(first:Bool)(sd:Seen):M:=
 {code:=rA,text:=t,lim:=t.size,start:=s,lastStart:=t.size,pc:=5,pos:=s,handed:=s,outermost:=first,marks:=#[],frames:=[{wait:=.nextStart,pc:=5,pos:=s,outermost:=first}],weight:=1,seen:=sd}
noncomputable def iT(t:Array Nat)(s:Nat):Bool:=s==0||t.getD (s - 1) 0==10
theorem LC(t:Array Nat)(s:Nat)(first:Bool)(sd:Seen):(DM t s first sd).step=if iT t s=true then {DM t s first ((sd.add 6).add 44) with pc:=7} else {DM t s first ((sd.add 6).add 44) with answer:=some false}:=by
 rfl
theorem LD(t:Array Nat)(s:Nat)(first:Bool)(sd:Seen)(p:Nat):({DM t s first sd with pc:=p,answer:=some false}:M).step=if s < t.size then DM t (s+1) false sd else {DM t s first sd with frames:=[],weight:=0,answer:=some false}:=by
 rfl
theorem PS(t:Array Nat)(s:Nat)(first:Bool)(sd:Seen):({DM t s first sd with pc:=7}:M).step=if s ≥ t.size then {DM t s first (sd.add 16) with pc:=7,answer:=some false} else
 match (t.getD s 0==46) with | false=>{DM t s first (sd.add 16) with pc:=7,answer:=some false} | true=>{DM t s first (sd.add 16) with pc:=9,pos:=s+1}:=by
 show (if s ≥ t.size then _ else match (ahg (t.getD s 0==46,sd.add 16):Except String (Bool×Seen)) with | .error Ws=>_ | .ok (false,seen)=>_ | .ok (true,seen)=>_)=_
 split
 · rfl
 · cases t.getD s 0==46 <;> rfl
theorem Wt(t:Array Nat)(s:Nat)(first:Bool)(sd:Seen):iter 3 ({DM t s first sd with pc:=9,pos:=s+1}:M)={DM t s first (sd.add 1) with frames:=[],weight:=0,handed:=s+1,answer:=some true,outcome:=some .matched}:=by
 cases first <;> rfl
noncomputable def fN(t:Array Nat):Nat->Nat->Option (Nat×Nat)
 | 0,s=>none
 | n+1,s=>if iT t s=true∧s < t.size∧t.getD s 0=46 then some (s,s+1) else fN t n (s+1)
theorem Tc(t:Array Nat):∀(n s:Nat) (first:Bool) (sd:Seen),s+n=t.size+1->0 < n->Ends (DM t s first sd) (4 * n+1) (fN t n s)
 | 0,s,first,sd,h,h0=>by lia
 | n+1,s,first,sd,h,h0=>by
   have HA:∀(p:Nat) (FN:Seen),Ends ({DM t s first FN with pc:=p,answer:=some false}:M) (4 * n+2) (fN t n (s+1)):=λ p FN=>by
    by_cases hs:s < t.size
    · have h1:=LD t s first FN p
      rw [if_pos hs] at h1
      exact (Ends.after (a:=1) (cH h1 rfl) (Tc t n (s+1) false FN %[a+1+b=c+1,a+(b+1)=c+1|(cf h)] %[0<a,b+(a+1)=c+1,b<c|(cf h hs)])).le %[1+(4*a+1)≤4*a+2|(aV)]
    · have h1:=LD t s first FN p
      rw [if_neg hs] at h1
      have hn:n=0:=%[a=0,b+(a+1)=c+1,cY (b<c)|(cf h hs)]
      subst hn
      exact ⟨2,_,%[2≤4*0+2|(Rq)],cH h1 rfl,rfl⟩
   unfold fN
   by_cases hb:iT t s=true
   · have h1:=LC t s first sd
     rw [if_pos hb] at h1
     have h2:=PS t s first ((sd.add 6).add 44)
     by_cases hs:s < t.size
     · rw [if_neg %[cY (a≤b),b<a|(aU hs)]] at h2
       by_cases hd:t.getD s 0=46
       · rw [if_pos ⟨hb,hs,hd⟩]
         have e:(t.getD s 0==46)=true:=by simpa using hd
         rw [e] at h2
         exact ⟨5,_,%[5≤4*(a+1)+1|(aV)],cH h1 (cH h2 (Wt t s first _)),rfl,rfl,rfl⟩
       · erw [if_neg (λ q=>hd q.2.2)]
         have e:(t.getD s 0==46)=false:=by simpa using hd
         rw [e] at h2
         exact (Ends.after (a:=2) (cH h1 (cH h2 rfl)) (HA 7 _)).le %[2+(4*a+2)≤4*(a+1)+1|(aV)]
     · rw [if_pos %[a≤b,cY (b<a)|(aU hs)]] at h2
       erw [if_neg (λ q=>hs q.2.1)]
       exact (Ends.after (a:=2) (cH h1 (cH h2 rfl)) (HA 7 _)).le %[2+(4*a+2)≤4*(a+1)+1|(aV)]
   · erw [if_neg (λ q=>hb q.1)]
     have h1:=LC t s first sd
     rw [if_neg hb] at h1
     exact (Ends.after (a:=1) (cH h1 rfl) (HA 5 _)).le %[1+(4*a+2)≤4*(a+1)+1|(aV)]
theorem PU(t:Array Nat)(s:Nat)(hs:s≤t.size):Ends (ahB rA t 0 s t.size false) (4 * t.size+8) (fN t (t.size+1 - s) s):=by
 by_cases h:s > t.size∨t.size - s < 1
 · have e:ahB rA t 0 s t.size false={code:=rA,text:=t,lim:=t.size,start:=s,pc:=5,pos:=s,handed:=s,marks:=#[],seen:=({}:Seen).add 14,answer:=some false}:=by
    show (if (decide (s > t.size)||decide (t.size - s < 1))=true then _ else _)=_
    erw [if_pos (by simpa using h)];rfl
   have hse:s=t.size:=%[a=b,a≤b,ud (b<a) (c<1),qD 0 c b a|(cf hs h rfl)]
   erw [e]
   have hf:fN t (t.size+1 - s) s=none:=by
    subst hse
    erw [(show t.size+1 - t.size=0+1 by exact %[a=0+1,qD 0 a (b+1) b|aU rfl])]
    unfold fN
    rw [if_neg (λ q=>adg _ q.2.1)];rfl
   erw [hf]
   exact ⟨1,_,%[1≤4*a+8|(aV)],rfl,rfl⟩
 · have e:ahB rA t 0 s t.size false=DM t s true (({}:Seen).add 14):=by
    show (if (decide (s > t.size)||decide (t.size - s < 1))=true then _ else _)=_
    erw [if_neg (by simpa using h)];rfl
   erw [e]
   exact (Tc t (t.size+1 - s) s true _ %[a+b=c+1,a≤c,qD 0 b (c+1) a|(cf hs rfl)] %[0<a,b≤c,qD 0 a (c+1) b|(cf hs rfl)]).le %[4*a<4*b+8,qD 0 a (b+1) c|(cf rfl)]
end
section
open Sre
noncomputable abbrev stB(t:Array Nat)(s:Nat)(sd:Seen):M:=
 {code:=gf,text:=t,lim:=t.size,start:=s,lastStart:=t.size,pc:=10,pos:=s,handed:=s,marks:=#[],frames:=[{wait:=.nextStart,pc:=10,pos:=s,outermost:=true}],weight:=1,seen:=sd}
noncomputable abbrev frB(s jp:Nat):Sre.Frame:={wait:=.nextBranch,pc:=jp,pos:=s,outermost:=true,kept:={lastmark:= -1,lastindex:= -1,whole:=false,marks:=#[]}}
noncomputable abbrev xg(t:Array Nat)(s jp pc pos:Nat)(sd:Seen)(ans:Option Bool):M:=
 {code:=gf,text:=t,lim:=t.size,start:=s,lastStart:=t.size,pc:=pc,pos:=pos,handed:=s,marks:=#[],frames:=[frB s jp,{wait:=.nextStart,pc:=10,pos:=s,outermost:=true}],weight:=2,seen:=sd,answer:=ans}
theorem ny(t:Array Nat)(s:Nat)(sd:Seen):(stB t s sd).step=xg t s 11 12 s (sd.add 7) none:=rfl
theorem BA(t:Array Nat)(s jp pos:Nat)(sd:Seen)(pc w:Nat)(h:pc=12∧w=13∨pc=14∧w=10∨pc=19∧w=10∨pc=24∧w=13):(xg t s jp pc pos sd none).step=if pos ≥ t.size then xg t s jp pc pos (sd.add 16) (some false) else
 match (t.getD pos 0==w) with | false=>xg t s jp pc pos (sd.add 16) (some false) | true=>xg t s jp (pc+2) (pos+1) (sd.add 16) none:=by
 rcases h with ⟨rfl,rfl⟩ | ⟨rfl,rfl⟩ | ⟨rfl,rfl⟩ | ⟨rfl,rfl⟩
 · show (if pos ≥ t.size then _ else match (ahg (t.getD pos 0==13,sd.add 16):Except String (Bool×Seen)) with | .error Ws=>_ | .ok (false,seen)=>_ | .ok (true,seen)=>_)=_
   split
   · rfl
   · cases t.getD pos 0==13 <;> rfl
 · show (if pos ≥ t.size then _ else match (ahg (t.getD pos 0==10,sd.add 16):Except String (Bool×Seen)) with | .error Ws=>_ | .ok (false,seen)=>_ | .ok (true,seen)=>_)=_
   split
   · rfl
   · cases t.getD pos 0==10 <;> rfl
 · show (if pos ≥ t.size then _ else match (ahg (t.getD pos 0==10,sd.add 16):Except String (Bool×Seen)) with | .error Ws=>_ | .ok (false,seen)=>_ | .ok (true,seen)=>_)=_
   split
   · rfl
   · cases t.getD pos 0==10 <;> rfl
 · show (if pos ≥ t.size then _ else match (ahg (t.getD pos 0==13,sd.add 16):Except String (Bool×Seen)) with | .error Ws=>_ | .ok (false,seen)=>_ | .ok (true,seen)=>_)=_
   split
   · rfl
   · cases t.getD pos 0==13 <;> rfl
theorem oh(h:pc=12∧w=13∨pc=14∧w=10∨pc=19∧w=10∨pc=24∧w=13)(h1:pos < t.size)(h2:t.getD pos 0=w):
 (xg t s jp pc pos sd none).step=xg t s jp (pc+2) (pos+1) (sd.add 16) none:=by
 erw [BA t s jp pos sd pc w h,if_neg %[cY (a≤b),b<a|(aU h1)]]
 have e:(t.getD pos 0==w)=true:=by simpa using h2
 erw [e,rfl]
theorem DN(h:pc=12∧w=13∨pc=14∧w=10∨pc=19∧w=10∨pc=24∧w=13)(h1:¬(pos < t.size∧t.getD pos 0=w)):
 (xg t s jp pc pos sd none).step=xg t s jp pc pos (sd.add 16) (some false):=by
 erw [BA t s jp pos sd pc w h]
 split
 · rfl
 · rename_i q
   have e:(t.getD pos 0==w)=false:=by simpa using λ q'=>h1 ⟨%[a<b,cY (b≤a)|(aU q)],q'⟩
   erw [e,rfl]
theorem BD(t:Array Nat)(s pc pos:Nat)(sd:Seen):(xg t s 11 pc pos sd (some false)).step=xg t s 18 19 s sd none:=rfl
theorem HB(t:Array Nat)(s pc pos:Nat)(sd:Seen):(xg t s 18 pc pos sd (some false)).step=xg t s 23 24 s sd none:=rfl
theorem BE(t:Array Nat)(s jp pos:Nat)(sd:Seen):iter 4 (xg t s jp 35 pos sd none)={xg t s jp 10 s (sd.add 1) (some true) with frames:=[],weight:=0,handed:=pos,outcome:=some .matched}:=rfl
theorem abx(t:Array Nat)(s jp pos:Nat)(sd:Seen):(xg t s jp 16 pos sd none).step=xg t s jp 35 pos (sd.add 15) none:=rfl
theorem aby(t:Array Nat)(s jp pos:Nat)(sd:Seen):(xg t s jp 21 pos sd none).step=xg t s jp 35 pos (sd.add 15) none:=rfl
noncomputable abbrev stD(t:Array Nat)(s jp pos:Nat)(sd:Seen)(ans:Option Bool):M:=
 {code:=gf,text:=t,lim:=t.size,start:=s,lastStart:=t.size,pc:=29,pos:=pos,handed:=pos,outermost:=false,marks:=#[],frames:=[{wait:=.lookNot,pc:=26,pos:=pos,outermost:=true,kept:={lastmark:= -1,lastindex:= -1,whole:=false,marks:=#[]}},frB s jp,{wait:=.nextStart,pc:=10,pos:=s,outermost:=true}],weight:=3,seen:=sd,answer:=ans}
theorem PV(t:Array Nat)(s jp pos:Nat)(sd:Seen):(xg t s jp 26 pos sd none).step=stD t s jp pos (sd.add 5) none:=by
 rfl
theorem LI(h:¬(pos < t.size∧t.getD pos 0=10)):(stD t s jp pos sd none).step=stD t s jp pos (sd.add 16) (some false):=by
 show (if pos ≥ t.size then _ else match (ahg (t.getD pos 0==10,sd.add 16):Except String (Bool×Seen)) with | .error Ws=>_ | .ok (false,seen)=>_ | .ok (true,seen)=>_)=_
 split
 · rfl
 · have e:(t.getD pos 0==10)=false:=by simpa using λ q'=>h ⟨by omega,q'⟩
   erw [e]
   rfl
noncomputable abbrev stE(t:Array Nat)(s jp pc pos hd:Nat)(sd:Seen):M:=
 {code:=gf,text:=t,lim:=t.size,start:=s,lastStart:=t.size,pc:=pc,pos:=pos,handed:=hd,marks:=#[],frames:=[frB s jp,{wait:=.nextStart,pc:=10,pos:=s,outermost:=true}],weight:=2,seen:=sd}
theorem LJ(t:Array Nat)(s jp pos:Nat)(sd:Seen):(stD t s jp pos sd (some false)).step=stE t s jp 32 pos pos sd:=rfl
theorem abz(t:Array Nat)(s jp pos hd:Nat)(sd:Seen):(stE t s jp 32 pos hd sd).step=stE t s jp 35 pos hd (sd.add 15):=rfl
noncomputable abbrev stF(t:Array Nat)(s pos:Nat)(sd:Seen):M:=
 {code:=gf,text:=t,lim:=t.size,start:=s,lastStart:=t.size,pc:=10,pos:=s,handed:=pos,marks:=#[],frames:=[],weight:=0,seen:=sd,answer:=some true,outcome:=some .matched}
theorem LK(t:Array Nat)(s jp pos hd:Nat)(sd:Seen):iter 4 (stE t s jp 35 pos hd sd)=stF t s pos (sd.add 1):=rfl
noncomputable def my(t:Array Nat)(s:Nat):Nat:=if t.getD s 0=13∧s+1 < t.size∧t.getD (s+1) 0=10 then s+2 else s+1
theorem abA(t:Array Nat)(s:Nat)(sd:Seen)(hs:s < t.size)(hc:t.getD s 0=10∨t.getD s 0=13):Ends (stB t s sd) 20 (some (s,my t s)):=by
 unfold my
 rcases hc with hc | hc
 · rw [if_neg (λ q=>by rw [hc] at q;exact absurd q.1 ⋯)]
   have n1:¬(s < t.size∧t.getD s 0=13):=λ q=>by rw [hc] at q;exact absurd q.2 ⋯
   exact ⟨9,_,%[9≤20|(Rq)],cH (ny t s sd) (cH (DN (.inl ⟨rfl,rfl⟩) n1) (cH (BD t s 12 s _) (cH (oh (.inr (.inr (.inl ⟨rfl,rfl⟩))) hs hc) (cH (aby t s 18 (s+1) _) (BE t s 18 (s+1) _))))),rfl,rfl,rfl⟩
 · by_cases h2:s+1 < t.size∧t.getD (s+1) 0=10
   · erw [if_pos ⟨hc,h2⟩]
     exact ⟨8,_,%[8≤20|(Rq)],cH (ny t s sd) (cH (oh (.inl ⟨rfl,rfl⟩) hs hc) (cH (oh (.inr (.inl ⟨rfl,rfl⟩)) h2.1 h2.2) (cH (abx t s 11 (s+1+1) _) (BE t s 11 (s+1+1) _)))),rfl,rfl,rfl⟩
   · erw [if_neg (λ q=>h2 q.2)]
     have n1:¬(s < t.size∧t.getD s 0=10):=λ q=>by rw [hc] at q;exact absurd q.2 ⋯
     exact ⟨15,_,%[15≤20|(Rq)],cH (ny t s sd) (cH (oh (.inl ⟨rfl,rfl⟩) hs hc) (cH (DN (.inr (.inl ⟨rfl,rfl⟩)) h2) (cH (BD t s 14 (s+1) _) (cH (DN (.inr (.inr (.inl ⟨rfl,rfl⟩))) n1)
      (cH (HB t s 19 s _) (cH (oh (.inr (.inr (.inr ⟨rfl,rfl⟩))) hs hc) (cH (PV t s 23 (s+1) _) (cH (LI h2) (cH (LJ t s 23 (s+1) _) (cH (abz t s 23 (s+1) (s+1) _) (LK t s 23 (s+1) (s+1) _))))))))))),rfl,rfl,rfl⟩
noncomputable def eM(t:Array Nat):Nat->Nat->Option Nat
 | 0,_=>none
 | n+1,s=>if s ≥ t.size then none else if t.getD s 0=10∨t.getD s 0=13 then some s else eM t n (s+1)
theorem Wu(c:Nat)(sd:Seen):∃FN,inSet gf c gf.size 5 true sd=.ok (decide (c=10∨c=13),FN):=by
 show ∃FN,(if (c==10)=true then (ahg (true,sd.add 16):Except String (Bool×Seen)) else if (c==13)=true then (ahg (true,(sd.add 16).add 16):Except String (Bool×Seen)) else (ahg (false,((sd.add 16).add 16).add 0):Except String (Bool×Seen)))=_
 by_cases h1:c=10
 · subst h1;exact ⟨_,rfl⟩
 · erw [if_neg (by simpa using h1)]
   by_cases h2:c=13
   · subst h2;exact ⟨_,rfl⟩
   · erw [if_neg (by simpa using h2)]
     refine ⟨((sd.add 16).add 16).add 0,?_⟩
     have:decide (c=10∨c=13)=false:=by simp [h1,h2]
     erw [this,rfl]
theorem xh(m:M)(t:Array Nat)(hm:m.code=gf∧m.text=t∧m.lim=t.size):∀(n s:Nat) (sd:Seen),∃FN,alH m n s sd=.ok (eM t n s,FN)
 | 0,s,sd=>⟨sd,rfl⟩
 | n+1,s,sd=>by
   unfold alH eM
   rw [hm.2.2]
   split
   · exact ⟨_,rfl⟩
   · erw [hm.1,hm.2.1]
     obtain ⟨FN,e⟩:=Wu (t.getD s 0) sd
     erw [e]
     by_cases h:t.getD s 0=10∨t.getD s 0=13
     · erw [if_pos h]
       have:decide (t.getD s 0=10∨t.getD s 0=13)=true:=by simpa using h
       erw [this]
       exact ⟨_,rfl⟩
     · erw [if_neg h]
       have:decide (t.getD s 0=10∨t.getD s 0=13)=false:=by simpa using h
       erw [this]
       exact xh m t hm n (s+1) FN
theorem jP:∀{n s k:Nat},eM t n s=some k->s≤k∧k < t.size∧(t.getD k 0=10∨t.getD k 0=13)
 | 0,s,k,h=>by exact aw h
 | n+1,s,k,h=>by
   unfold eM at h
   split at h
   · exact aw h
   · split at h
     · rename_i q1 q2;obtain rfl:=aam h;exact ⟨ac1 _,%[a<b,cY (b≤a)|(aU q1)],q2⟩
     · obtain ⟨h1,h2⟩:=jP h
       exact ⟨%[a≤b,a<b|(aU h1)],h2⟩
noncomputable def j3(t:Array Nat)(s:Nat):Option (Nat×Nat):=(eM t (t.size+1 - s) s).map λ k=>(k,my t k)
theorem PW(t:Array Nat)(s:Nat)(hs:s≤t.size):Ends (ahB gf t 0 s t.size false) 22 (j3 t s):=by
 by_cases h:s > t.size∨t.size - s < 1
 · have e:ahB gf t 0 s t.size false={code:=gf,text:=t,lim:=t.size,start:=s,pc:=10,pos:=s,handed:=s,marks:=#[],seen:=({}:Seen).add 14,answer:=some false}:=by
    show (if (decide (s > t.size)||decide (t.size - s < 1))=true then _ else _)=_
    erw [if_pos (by simpa using h)];rfl
   have hse:s=t.size:=%[a=b,a≤b,ud (b<a) (c<1),qD 0 c b a|(cf hs h rfl)]
   erw [e]
   have hf:j3 t s=none:=by
    subst hse
    unfold j3
    rw [show t.size+1 - t.size=0+1 by exact %[a=0+1,qD 0 a (b+1) b|aU rfl]]
    unfold eM
    rw [if_pos (ac1 _)];rfl
   erw [hf]
   exact ⟨1,_,%[1≤22|(Rq)],rfl,rfl⟩
 · let m0:M:={code:=gf,text:=t,lim:=t.size,start:=s,lastStart:=t.size,pc:=10,pos:=s,handed:=s,marks:=#[],seen:=({}:Seen).add 14}
   have e:ahB gf t 0 s t.size false=m0.attemptFrom s true:=by
    show (if (decide (s > t.size)||decide (t.size - s < 1))=true then _ else _)=_
    erw [if_neg (by simpa using h)];rfl
   obtain ⟨FN,ha⟩:=xh m0 t ⟨rfl,rfl,rfl⟩ (t.size+1 - s) s (({}:Seen).add 14)
   have e2:m0.attemptFrom s true=match alH m0 (t.size+1 - s) s (({}:Seen).add 14) with | .ok (some s,seen)=>{m0 with mustAdvance:=false,seen}.attemptAt s true | .ok (none,seen)=>{m0 with seen}.say false | .error Ws=>m0.stick Ws:=rfl
   erw [e,e2,ha]
   unfold j3
   cases hf:eM t (t.size+1 - s) s with
   | none=>exact ⟨1,_,%[1≤22|(Rq)],rfl,rfl⟩
   | some k=>
     obtain ⟨h1,h2,h3⟩:=jP hf
     exact (abA t k FN h2 h3).le %[20≤22|(Rq)]
end
end Mine.Internal
end
section
open PySem PyProof PyProof.Rows
namespace Mine.Internal
theorem kX:PlainAttrs "re.Pattern":=
 ⟨⟨"object.__getattribute__",by (erw [ahO ..,agL]);kernel_rfl,by decide+kernel⟩,by (erw [ahO ..,agL]);kernel_rfl⟩
theorem oi:Slot "re.Pattern" "sub" "re.Pattern.sub":=
 .of (owner:="re.Pattern") (n:="sub") (by (erw [ahO ..,agL]);kernel_rfl) (by decide+kernel) (by decide+kernel) (by decide+kernel)
  (by first | exact .inl (by decide+kernel) | exact .inr (by decide+kernel)) (by erw [akh ..];kernel_rfl)
theorem BF:typeOf (.builtin "re.Pattern.sub")=pure (.type "method_descriptor"):=by show builtinType _=_;erw [builtinType_eq_fast];kernel_rfl
theorem HC:entryFor table "re.Pattern.sub"=some aiZ.«re.Pattern.sub»:=entryFor_of_tree ∅
theorem DP:entryFor table "re.Pattern.sub.loop"=some aiZ.«re.Pattern.sub.loop»:=entryFor_of_tree ∅
theorem nA:plainId "re.Pattern.sub.loop"=true:=by decide+kernel
theorem HD:Manifest.owners.lookup (String.ofList ['n','r','e','t','t','a','P','.','e','r'].reverse)=some Manifest.sig_re_Pattern:=∅
theorem LL(a b c:aas):argsOk "re.Pattern.sub" ⟨[a,b,c],[]⟩:=by
 unfold argsOk;erw [signature?_of (id:="re.Pattern.sub") (n:=['b','u','s']) (o:=['n','r','e','t','t','a','P','.','e','r']) ∅ HD];kernel_rfl
section
open Sre PySem.Builtin.Re
variable{prog:aaq}{w:acb}{A:adn}{s:aav}
section
variable{Mo:Model}{E:aas->aav->Prop}
theorem rB:∀(n:Nat) (m:M),aj3 n m=iter n m
 | 0,m=>rfl
 | n+1,m=>by
   unfold aj3
   split
   · rename_i h;exact (jc h _).symm
   · exact rB n m.step
theorem BG:∀(Td n:Nat) (m m':M),iter n m=m'->m'.outcome.isSome=true->n < 4 * Td->Q m' s->acn Mo A (reDrive Td m) Q E s
 | 0,n,m,m',h,ho,hn,hQ=>by omega
 | t+1,n,m,m',h,ho,hn,hQ=>by
   skip
   show acn Mo A (if (aj3 aj0 m).outcome.isSome=true then pure (aj3 aj0 m) else (rule "sre.turn" >>=λ V=>reDrive t (aj3 aj0 m))) Q E s
   erw [rB ..]
   have h4:aj0=4:=rfl
   erw [h4]
   by_cases hd:(iter 4 m).outcome.isSome=true
   · erw [if_pos hd]
     have:iter 4 m=m':=by
      by_cases j9:4≤n
      · have e:n=4+(n - 4):=%[a=4+b,4≤a,qD 0 b a (4)|(aU j9 rfl)]
        (erw [←h,e,jb ..];rw [jc hd])
      · have e:4=n+(4 - n):=%[4=a+b,cY (4≤a),qD 0 b (4) a|(aU j9 rfl)]
        erw [e,jb ..,h,jc ho ..,rfl]
     erw [this]
     exact ac3 hQ
   · erw [if_neg hd]
     have hgt:4≤n:=by
      by_cases j9:4≤n
      · exact j9
      · exfalso
        apply hd
        have e:4=n+(4 - n):=%[4=a+b,cY (4≤a),qD 0 b (4) a|(aU j9 rfl)]
        erw [e,jb ..,h,jc ho ..];exact ho
     refine aaI (wpAny_rule (BG t (n - 4) (iter 4 m) m' ?_ ho %[a<4*b,c<4*(b+1),4≤c,qD 0 a c (4)|(cf hn hgt rfl)] hQ))
     have e:n=4+(n - 4):=%[a=4+b,4≤a,qD 0 b a (4)|(aU hgt rfl)]
     erw [←jb ..,←e];exact h
theorem Ww(h:Ends m n r)(hn:n < 2 ^ 64)(hQ:(r=none->Q none s)∧∀a b,r=some (a,b)->∀m':M,m'.start=a->m'.handed=b->Q (some m') s):
 acn Mo A (reRunToEnd m) Q E s:=by
 obtain ⟨k,m',hk,he,hr⟩:=h.e
 skip
 have ho:m'.outcome.isSome=true:=by
  cases r with
  | none=>simp only at hr;erw [hr];rfl
  | some p=>simp only at hr;erw [hr.1];rfl
 refine aaI (BG (2 ^ 64) k m m' he ho %[a<4*(qL 2 64),b<(qL 2 64),a≤b|(aU hn hk)] ?_)
 refine aaI (wpAny_forIn_list _ (λ V V s'=>s'=s) (λ V s'=>acn Mo A _ Q E s') (λ x rest b s' hs=>?_) (λ b s' hs=>?_) _ _ rfl)
 · subst hs
   split
   · exact aaI (wpAny_rule (ac3 rfl))
   · exact ac3 rfl
 · subst hs
   cases r with
   | none=>
     simp only at hr
     erw [hr]
     exact ac3 (hQ.1 rfl)
   | some p=>
     simp only at hr
     erw [hr.1]
     exact ac3 (hQ.2 p.1 p.2 rfl m' hr.2.1 hr.2.2)
end
structure jd (h:ac2) (p:abh) (code:Array Nat):Prop where
 obj:∃o fs c oc its e,h.get? p=some o∧o.cls=.type "re.Pattern"∧o.data=.fields fs∧reRawNat (fs.getD 2 .none)=0∧reRawNat (fs.getD 6 .none)=0∧fs.getD 5 .none=.ref c∧h.get? c=some oc∧oc.data=.seq its e∧(its.map reRawOf).map (·.toNat)=code
theorem jd.typeIs{p:abh}{code:Array Nat}(x:jd s.heap p code):s.TypeIs (.ref p) "re.Pattern":=(by obtain ⟨o,fs,c,oc,its,e,h1,h2,_⟩:=x.obj;exact ⟨o,h1,h2⟩)
theorem jd.keeps{h h':ac2}{p:abh}{code:Array Nat}(x:jd h p code)(k:KS h h'):jd h' p code:=
 (by obtain ⟨o,fs,c,oc,its,e,h1,h2,h3,h4,h5,h6,h7,h8,h9⟩:=x.obj;exact ⟨o,fs,c,oc,its,e,k _ _ h1,h2,h3,h4,h5,h6,k _ _ h7,h8,h9⟩)
theorem BH{p:abh}{code:Array Nat}{x:Str}{t:Tok}{E:aas->aav->Prop}{Q:ReTarget->aav->Prop}{Mo:Model}(X:jd s.heap p code)(hQ:Q ⟨.ref p,.str x t,code,x.cps,0,0,0,x.cps.size⟩ s):acn Mo A (reWholeTarget (.ref p) (.str x t)) Q E s:=by
 obtain ⟨o,fs,c,oc,aiS,e,h1,h2,h3,h4,h5,h6,h7,h8,h9⟩:=X.obj
 skip
 refine aaI (wpAny_fieldsOf h1 h3 ?_)
 refine aaI (agz (a:=(x.cps,0)) rfl ?_)
 simp only [h5]
 refine aaI (agz (a:=()) rfl ?_)
 erw [h6]
 skip
 refine aaI (aaI (akf h7 h8 (ac3 ?_)))
 refine ac3 ?_
 simp only [afu,h9,h4]
 exact hQ
end
section
open Sre PySem.Builtin.Re
variable{prog:aaq}{w:acb}{A:adn}{s:aav}{E:aas->aav->Prop}
noncomputable def gM(find:Nat->Option (Nat×Nat))(t:Array Nat)(r:Str):Nat->Nat->List Str
 | 0,_=>[]
 | n+1,d=>match find d with
   | some (a,b)=>(if d < a then [⟨t.extract d a⟩] else [])++(r::gM find t r n b)
   | none=>if d < t.size then [⟨t.extract d t.size⟩] else []
theorem vp{xs ys:List aas}{as bs:List Str}(h:aj9 xs as)(h2:aj9 ys bs):aj9 (xs++ys) (as++bs):=by
 induction h with
 | nil=>exact h2
 | cons y t h ih=>exact .cons y t ih
theorem LN(hl:s.heap.PlainList l its)(hz:its.size < aaW)
(h:∀h',h'.PlainList l (its.push v)->aeJ l s.heap h'->Q () {s with heap:=h'}):acn Mo A (akQ l (·.push v)) Q E s:=by
 obtain ⟨e,ho⟩:=hl
 refine wpAny_updateSeq ho rfl (h _ ?_ (aga ..)) (ae4 hz) (by simp;exact %[a≤b,a<b|aU hz])
 exact ⟨e+1,by (erw [af7 _ ho (by erw [akw ..];rfl),akw ..,rfl])⟩
noncomputable def DQ(ys:List Str):Nat:=(ys.map (·.length)).sum
theorem pK(ys:List Str)(z:Str):DQ (ys++[z])=DQ ys+z.length:=by
 unfold DQ
 (rw [aa6];erw [List.sum_append]);rfl
structure mz (s0:aav) (l:abh) (acc:List aas) (ys:List Str) (s:aav):Prop where
 kk:KS s0.heap s.heap
 sm:a9 s0 s
 hl:s.heap.PlainList l acc.toArray
 hs:aj9 acc ys
section
variable{l:abh}{s0:aav}{acc:List aas}{ys:List Str}{r:Str}
theorem mz.toks(T:mz s0 l acc ys s)(k:Nat):mz s0 l acc ys {s with toks:=k}:=⟨T.kk,⟨T.sm.1,T.sm.2,T.sm.3⟩,T.hl,T.hs⟩
theorem BI(T:mz s0 l acc ys s)(Ix:s0.heap.get? l=none)(hz:acc.length < aaW)(h:∀s',mz s0 l (acc++[.str z t]) (ys++[z]) s'->Q () s'):acn Mo A (akQ l (·.push (.str z t))) Q E s:=
 LN T.hl hz λ h' hl hs=>h {s with heap:=h'} ⟨λ b o e=>hs.extBut b o (λ q=>by rw [q,Ix] at e;exact aw e) (T.kk b o e),⟨T.sm.1,T.sm.2,T.sm.3⟩,by rw [ai0] at hl;exact hl,vp T.hs (.cons _ _ .nil)⟩
theorem FO{β:Type}{z:Str}{K:Unit->Sem β}{Q:β->aav->Prop}{Mo:Model}(T:mz s0 l acc ys s)(Ix:s0.heap.get? l=none)(hz:acc.length < aaW)(hs:z.length≤aaW)(h:∀s' t,mz s0 l (acc++[.str z t]) (ys++[z]) s'->acn Mo A (K ()) Q E s'):
 acn Mo A (mkStr z) (λ v s1=>acn Mo A (akQ l (·.push v) >>=K) Q E s1) E s:=
 wpAny_mkStr (aaI (BI (T.toks _) Ix hz λ s' T'=>h s' _ T')) hs
noncomputable abbrev Wx(l:abh)(Q:aas->aav->Prop)(E:aas->aav->Prop)(x:Str)(prog:aaq)(w:acb)(A:adn)(s:aav):Prop:=
 acn (acr prog w) A.in1 (reSlice x.cps 0 0 0 >>=λ LO=>seqItems? (.ref l) >>=λ o=>(if (o.getD #[]).isEmpty=true then (pure LO >>=λ text=>ret text) else (call (.builtin "str.join") [LO,.ref l] >>=λ text=>ret text)))
  (λ d7 s'=>match d7 with | .done f=>wants Q E (.ok f) s' | .again c'=>c'.quiet=true∧aiW (acr prog w) A c' (wants Q E) s') (λ e s'=>wants Q E (.error e) s') s
theorem FP(T:mz s0 l acc ys s)(zc:DQ ys≤aaW)(hQ:∀s' t',KS s0.heap s'.heap->a9 s0 s'->Q (.str (agp ⟨#[]⟩ ys) t') s'):Wx l Q E x prog w A s:=by
 have he:(x.cps.extract 0 0)=#[]:=by simp
 show acn _ _ (mkStr ⟨x.cps.extract 0 0⟩ >>=_) _ _ _
 erw [he]
 refine aaI (wpAny_mkStr ?_ (adV _))
 obtain ⟨e',oQ⟩:=id T.hl
 refine aaI (akf (s:={s with toks:=s.toks+1}) oQ rfl ?_)
 erw [afu]
 have d7:∀k t',Q (.str (agp ⟨#[]⟩ ys) t') {s with toks:=k}:=λ k t'=>hQ _ t' T.kk (T.toks k).sm
 clear hQ
 cases T.hs with
 | nil=>exact aaI (ac3 (ac3 (d7 _ _)))
 | cons y t h=>exact aaI (join_list (ys:=_) (s:={s with toks:=s.toks+1}) T.hl.isList T.hs (by show DQ _+_ * 0≤_;erw [agO ..];exact zc) λ t' k'=>ac3 (d7 _ _))
theorem LQ{p:abh}{code:Array Nat}{x:Str}{tx tr:Tok}{find:Nat->Option (Nat×Nat)}{N:Nat}{Q:aas->aav->Prop}(X:jd s0.heap p code)(hx:x.cps.size≤1000000)(hr:r.length≤2)
(BJ:∀d,d≤x.cps.size->Ends (ahB code x.cps 0 d x.cps.size false) N (find d))(hN:N < 2 ^ 64)(hb:∀d a b,d≤x.cps.size->find d=some (a,b)->d≤a∧a < b∧b≤x.cps.size)(Ix:s0.heap.get? l=none)(n:Nat):
 ∀(d:Nat) (k:Int) (acc:List aas) (ys:List Str) (s:aav),x.cps.size - d < n->d≤x.cps.size->mz s0 l acc ys s->acc.length≤2 * d->DQ ys≤3 * d->
  (∀s' t',KS s0.heap s'.heap->a9 s0 s'->Q (.str (agp ⟨#[]⟩ (ys++gM find x.cps r n d)) t') s')->
  aiW (acr prog w) A (.builtin "re.Pattern.sub.loop" ⟨[.ref p,.str x tx,.str r tr,rawInt 0,rawInt 0,rawInt k,rawInt (d:Nat),rawInt (d:Nat),.bool false,.ref l,.bool false],[]⟩) (wants Q E) s:=by
 have bY:aaW=16777216:=rfl
 induction n with
 | zero=>intro d k acc ys s hn;exact absurd hn (alR _)
 | succ n ih=>
   intro d k acc ys s hn hd T ha zc hQ
   refine codeAny_builtin DP ?_
   rw [Around.under_plainId nA _]
   unfold aiZ.«re.Pattern.sub.loop»
   refine aaI (BH (X.keeps T.kk) ?_)
   refine aaI (agz (a:=()) rfl ?_)
   have hdn:(d:Int).toNat=d:=aaV d
   show acn _ _ (reNextFound ⟨.ref p,.str x tx,code,x.cps,0,0,0,x.cps.size⟩ (d:Int).toNat false >>=_) _ _ _
   have SX:acc.length < aaW:=%[a<b,c≤1000000,b=16777216,d≤c,a≤2*d|(dQ hx bY hd ha)]
   rw [hdn]
   refine aaI (Ww (m:=ahB code x.cps 0 d x.cps.size false) (BJ d hd) hN ⟨λ abB=>?_,λ a b Te m' hma hmb=>?_⟩)
   ·
    have hP:gM find x.cps r (n+1) d=if d < x.cps.size then [⟨x.cps.extract d x.cps.size⟩] else []:=by
     unfold gM;rw [abB]
    rw [hP] at hQ
    clear ih hP BJ hb
    dsimp only
    by_cases bD:d < x.cps.size
    · rw [if_pos bD]
      rw [if_pos bD] at hQ
      have hel:(⟨x.cps.extract d x.cps.size⟩ :Str).length=x.cps.size - d:=by show (x.cps.extract d x.cps.size).size=_;rw [akN,Nat.min_self]
      refine aaI ?_
      show acn _ _ (mkStr ⟨x.cps.extract d x.cps.size⟩) _ _ _
      refine FO T Ix SX (by rw [hel];lia) λ s' t T'=>?_
      exact FP T' (by rw [pK,hel];lia) hQ
    · rw [if_neg bD]
      rw [if_neg bD,abg] at hQ
      exact FP T %[a≤b,c≤1000000,b=16777216,d≤c,a≤3*d|(dQ hx bY hd zc)] hQ
   ·
    obtain ⟨h1,h2,h3⟩:=hb d a b hd Te
    have hP:gM find x.cps r (n+1) d=(if d < a then [⟨x.cps.extract d a⟩] else [])++(r::gM find x.cps r n b):=by
     rw [gM,Te]
    rw [hP] at hQ
    have e1:(m'.handed==m'.start)=false:=by rw [hma,hmb];exact beq_eq_false_iff_ne.mpr (akm h2)
    have HA:∀(Wy:List aas) (ys':List Str) (s':aav),mz s0 l Wy ys' s'->Wy.length≤2 * d+1->DQ ys'≤3 * d+(a - d)->
     (∀s' t',KS s0.heap s'.heap->a9 s0 s'->Q (.str (agp ⟨#[]⟩ (ys'++(r::gM find x.cps r n b))) t') s')->
     acn (acr prog w) A.in1 (akQ l (·.push (.str r tr)) >>=λ V=>again (.builtin "re.Pattern.sub.loop" ⟨[.ref p,.str x tx,.str r tr,rawInt 0,rawInt 0,rawInt (k+1),rawInt (m'.handed:Nat),rawInt (m'.handed:Nat),.bool (m'.handed==m'.start),.ref l,.bool false],[]⟩))
      (λ d7 s'=>match d7 with | .done f=>wants Q E (.ok f) s' | .again c'=>c'.quiet=true∧aiW (acr prog w) A c' (wants Q E) s') (λ e s'=>wants Q E (.error e) s') s':=by
     intro Wy ys' s' T' U5 ag5 ZV
     refine aaI (BI T' Ix %[a<b,c≤1000000,b=16777216,d≤c,a≤2*d+1|(dQ hx bY hd U5)] λ uY T''=>ac3 ⟨plainId_quiet nA _,?_⟩)
     rw [e1,hmb]
     refine ih b (k+1) _ _ uY (by lia) h3 T'' (by rw [aao,aik];exact %[a<2*b,c≤d,d<b,a≤2*c+1|dQ h1 h2 U5]) (by rw [pK];lia) λ ci t' k'' PR=>?_
     have:=ZV ci t' k'' PR
     rwa [aaH,aij]
    clear ih hP BJ hb
    dsimp only
    by_cases bD:d < a
    · rw [if_pos (by rw [hma];exact bD),hma]
      rw [if_pos bD] at hQ
      have hel:(⟨x.cps.extract d a⟩ :Str).length=a - d:=by show (x.cps.extract d a).size=_;rw [akN,ajA %[a≤b,a<c,c≤b|(cf h2 h3)]]
      refine aaI ?_
      show acn _ _ (mkStr ⟨x.cps.extract d a⟩) _ _ _
      refine FO T Ix SX (by rw [hel];lia) λ s' t T'=>?_
      have hc:=HA _ _ s' T' (by rw [aao,aik];exact %[a<2*b+1,a≤2*b|aU ha]) (by rw [pK,hel];exact %[a+b≤3*c+b,a≤3*c|cf zc]) (by
       intro uY t' k'' PR
       have:=hQ uY t' k'' PR
       rwa [aaH])
      rw [hma] at hc
      exact hc
    · rw [if_neg (by rw [hma];exact bD)]
      rw [if_neg bD,acQ] at hQ
      exact HA acc ys s T %[a≤2*b+1,a≤2*b|(aU ha)] %[a≤3*b+c,a≤3*b|(cf zc)] hQ
end
end
section
open Sre PySem.Builtin.Re
variable{prog:aaq}{w:acb}{A:adn}{s:aav}{E:aas->aav->Prop}
theorem BK:typeLookup (.type "str") "__call__"=pure none:=by (erw [ahO ..,agL]);kernel_rfl
theorem BL{p:abh}{code:Array Nat}{x r:Str}{tx tr:Tok}{find:Nat->Option (Nat×Nat)}{N:Nat}{Q:aas->aav->Prop}(X:jd s.heap p code)(hx:x.cps.size≤1000000)(hr:r.length≤2)(hbs:r.cps.contains 92=false)
(BJ:∀d,d≤x.cps.size->Ends (ahB code x.cps 0 d x.cps.size false) N (find d))(hN:N < 2 ^ 64)(hb:∀d a b,d≤x.cps.size->find d=some (a,b)->d≤a∧a < b∧b≤x.cps.size)
(hQ:∀s' t',KS s.heap s'.heap->a9 s s'->Q (.str (agp ⟨#[]⟩ (gM find x.cps r (x.cps.size+1) 0)) t') s'):
 acn (acr prog w) A (call (.builtin "re.Pattern.sub") [.ref p,.str r tr,.str x tx]) Q E s:=by
 refine aix (codeAny_call_builtin oi.plain HC (oi.check _ _ _ _ _ _ _ _ X.typeIs (LL _ _ _) ?_))
 unfold aiZ.«re.Pattern.sub» reSubstitute
 refine aaI (agz (a:=[some (.str r tr),some (.str x tx),none]) rfl ?_)
 refine aaI (agz (a:=(0:Int)) rfl ?_)
 refine aaI (wpAny_specialOf (ahA _ _ _) BK ?_)
 skip
 refine aaI (agz (a:=some r) rfl ?_)
 skip
 refine aaI (ac3 ?_)
 erw [hbs]
 refine aaI (ac3 ?_)
 skip
 refine aaI (ahD (BH X ?_))
 refine aaI (wpAny_newList ?_)
 refine ac3 ⟨plainId_quiet nA _,?_⟩
 have Ix:s.heap.get? s.heap.objs.size=none:=agJ (ac1 _)
 have abE:=LQ (prog:=prog) (w:=w) (A:=A) (tx:=tx) (tr:=tr) (E:=E) (Q:=Q) (s0:=s) (l:=s.heap.objs.size) X hx hr BJ hN hb Ix (x.cps.size+1) 0 0 [] [] {s with heap:=s.heap.push {cls:=.type "list",data:=.seq ([]:List aas).toArray}} %[a<b+1,qD 0 a b (0)|(aU rfl)] (adV _) ⟨λ b o e=>act _ e,⟨rfl,rfl,rfl⟩,⟨_,acT _ rfl⟩,.nil⟩ (adV _) (adV _) hQ
 exact abE
end
end Mine.Internal
end
section
open PySem PyProof PyProof.Rows PySem.W
namespace Mine.Internal
section
open Sre PySem.Builtin.Re
variable{prog:aaq}{w:acb}{A:adn}{Y:Lay}{g:Gh}{σ:bB}{s:aav}{d:Nat}{base:ac2}{nm:NI}{env:Env}{RF:cV}{h h':ac2}
theorem kY:∀{n s a b:Nat},fN t n s=some (a,b)->s≤a∧b=a+1∧a < t.size
 | 0,s,a,b,h=>by exact aw h
 | n+1,s,a,b,h=>by
   unfold fN at h
   split at h
   · rename_i q;cases h;exact ⟨ac1 _,rfl,q.2.1⟩
   · obtain ⟨h1,h2⟩:=kY h
     exact ⟨%[a≤b,a<b|(aU h1)],h2⟩
theorem BM(t:Array Nat)(k:Nat):my t k=k+1∨(my t k=k+2∧k+1 < t.size):=by
 unfold my
 by_cases hc:t.getD k 0=13∧k+1 < t.size∧t.getD (k+1) 0=10
 · rw [if_pos hc];exact .inr ⟨rfl,hc.2.1⟩
 · erw [if_neg hc];exact .inl rfl
theorem rC{t:Array Nat}{s a b:Nat}(h:j3 t s=some (a,b)):s≤a∧a < b∧b≤t.size:=by
 skip
 refine bS h λ k hk e=>?_
 cases e
 refine Ye (jP hk) λ h1 h2 _=>?_
 rcases BM t a with e | ⟨e,_⟩ <;> erw [e] <;> (first | exact %[bG (a≤b) (bG (b<b+1) (b<c)),a≤b,b<c|cf h1 h2] | lia)
noncomputable def kZ(x:Str):Str:=agp ⟨#[]⟩ (gM (j3 x.cps) x.cps ⟨#[13,10]⟩ (x.cps.size+1) 0)
noncomputable def sg(x:Str):Str:=agp ⟨#[]⟩ (gM (λ d=>fN x.cps (x.cps.size+1 - d) d) x.cps ⟨#[46,46]⟩ (x.cps.size+1) 0)
theorem HF(X:jd s.heap p gf)(hx:x.cps.size≤1000000)(hQ:∀s' t',KS s.heap s'.heap->a9 s s'->Q (.str (kZ x) t') s'):
 acn (acr prog w) A (call (.builtin "re.Pattern.sub") [.ref p,.str ⟨#[13,10]⟩ tr,.str x tx]) Q E s:=
 BL (find:=j3 x.cps) (N:=22) X hx ⋯ (by simp) (λ d hd=>PW x.cps d hd) ⋯ (λ d a b V h=>rC h) hQ
theorem HG(X:jd s.heap p rA)(hx:x.cps.size≤1000000)(hQ:∀s' t',KS s.heap s'.heap->a9 s s'->Q (.str (sg x) t') s'):
 acn (acr prog w) A (call (.builtin "re.Pattern.sub") [.ref p,.str ⟨#[46,46]⟩ tr,.str x tx]) Q E s:=
 BL (find:=λ d=>fN x.cps (x.cps.size+1 - d) d) (N:=4 * x.cps.size+8) X hx ⋯ (by simp) (λ d hd=>PU x.cps d hd) %[4*a+8<(qL 2 64),a≤1000000|(aV hx)] (λ d a b V h=>by obtain ⟨h1,h2,h3⟩:=kY h;exact %[bG (a≤b) (bG (b<c) (c≤d)),a≤b,c=b+1,b<d|dQ h1 h2 h3]) hQ
structure Wz (base:ac2) (body:List agH) (nm:NI) (q1 q2:abh):Prop where
 text:∃(p1 ap1 p2 p3 ap2 p4 p5 ps2 ps1 p6:Pos) (k:Nat),body=[.Return (some (.Call (.Attribute (.Name "_twin_re_1" p1) "sub" ap1) [.Constant (.str ⟨#[46,46]⟩) k p2,
  .Call (.Attribute (.Name "_twin_re_2" p3) "sub" ap2) [.Name "CRLF" p4,.Name "data" p5] [] ps2] [] ps1)) p6]∧(ap1.endLine==ps1.line)=true∧(ap2.endLine==ps2.line)=true
 n1:cc nm "_twin_re_1"=some (.glob "_twin_re_1" (.obj (.ref q1)))
 n2:cc nm "_twin_re_2"=some (.glob "_twin_re_2" (.obj (.ref q2)))
 n3:cc nm "CRLF"=some (.glob "CRLF" (.str ⟨#[13,10]⟩))
 n4:cc nm "data"=some (.var 0)
 o1:jd base q1 rA
 o2:jd base q2 gf
 d1:∃o,base.get? q1=some o∧o.dict=none
 d2:∃o,base.get? q2=some o∧o.dict=none
theorem HH(D:bH base f fd ["data"] ["data"] body ax)(ew:base.NoLimit)(T:Wz base body (aY fd.scope ["data"] ax) q1 q2)
(hx:x.cps.size≤1000000)(GL:(kZ x).cps.size≤1000000):uz prog w (d+1) base (.ref f) [.str x] (.str (sg (kZ x))):=by
 refine ip D ew rfl (ac1 _) rfl λ bh Y A s g hE C hs Ij CX hA ⟨rest,wv⟩ R E Q hQ=>?_
 (refine cL T.text λ p1 dL=>?_;refine cL dL λ ap1 eZ=>?_;refine cL eZ λ p2 oX=>?_;refine cL oX λ p3 oS=>?_;refine cL oS λ ap2 p_5=>?_;refine cL p_5 λ p4 p_6=>?_;refine cL p_6 λ p5 p_7=>?_;refine cL p_7 λ ps2 p_8=>?_;refine cL p_8 λ ps1 p_9=>?_;refine cL p_9 λ p6 abF=>?_;refine cL abF λ k PX=>?_;have afw:=PX.1;have GO:=PX.2.1;have yN:=PX.2.2;clear PX abF p_9 p_8 p_7 p_6 p_5 oS oX eZ dL;obtain rfl:=afw)
 have R0:Rel Y g ⟨[some (.str x)],[]⟩ s.heap:=R
 have kB:∀{s':aav} {g':Gh} {σ':bB},Rel Y g' σ' s'.heap->KS base s'.heap:=λ R a o e=>R.cD a o (C.keep a o e)
 have abG:ct [Expr.Constant (.str ⟨#[46,46]⟩) k p2,.Call (.Attribute (.Name "_twin_re_2" p3) "sub" ap2) [.Name "CRLF" p4,.Name "data" p5] [] ps2]:=by intro e he y q;simp at he;rcases he with rfl | rfl <;> exact λ h=>by cases h
 have abH:ct [aln "CRLF" p4,.Name "data" p5]:=by intro e he y q;simp at he;rcases he with rfl | rfl <;> exact λ h=>by cases h
 refine aeN (aft (afe (d8 rfl) (by erw [aM abG ..];rfl) GO (ja C R0 T.n1 λ s₁ aJ k₁ aW aO aP=>?_)))
 refine ⟨"re.Pattern","re.Pattern.sub",kX,oi,BF,(T.o1.keeps (kB aO)).typeIs,λ b e=>by cases e;(refine bF T.d1 λ o h1 h2=>?_);exact ⟨o,kB aO _ _ h1,h2⟩,?_⟩
 erw [aM abG ..]
 refine aee rfl (ac4 (ac0 (al0 (ac0 ?_))))
 have abI:Rel Y aJ ⟨[some (.str x)],[]⟩ ({s₁ with toks:=s₁.toks+1}:aav).heap:=aO
 refine afe (d8 rfl) (by erw [aM abH ..];rfl) yN (ja C abI T.n2 λ s₂ bu bg bk aF aX=>?_)
 refine ⟨"re.Pattern","re.Pattern.sub",kX,oi,BF,(T.o2.keeps (kB aF)).typeIs,λ b e=>by cases e;(refine bF T.d2 λ o h1 h2=>?_);exact ⟨o,kB aF _ _ h1,h2⟩,?_⟩
 erw [aM abH ..]
 refine aee rfl (ac4 (ac0 ((dA (RF:=gK) C aF T.n3 rfl).then λ i6 ci gZ de fW bW cW afx=>ac0 ((dA (RF:=gK) C bW T.n4 rfl).then λ OL eo yF jH lX fX fb afy=>adt ?_))))
 apply RelV.fH afx;intro _
 apply RelV.fH afy;intro _
 refine HF (T.o2.keeps (kB fX)) hx λ gj aiV nW iR=>?_
 have dH:=fX.keep nW
 refine adt (HG (T.o1.keeps (kB dH)) GL λ n9 afz vg pA=>?_)
 have dB:=dH.keep vg
 have kb:Kb Y.lo Y.n s.heap n9.heap:=((R0.kb hs (((k₁.trans bg).trans de).trans jH)).trans (Kb.ks nW) dH).trans (Kb.ks vg) dB
 exact hQ _ n9 _ _ _ kb dB (aP.trans ((⟨aX.1,aX.2,aX.3⟩ :a9 s₁ s₂).trans (cW.trans (fb.trans (iR.trans pA))))) (.str _ afz) rfl
end
section
variable{prog:aaq}{w:acb}{A:adn}{Y:Lay}{g:Gh}{σ:bB}{s:aav}{d:Nat}{base:ac2}{nm:NI}{env:Env}{RF:cV}
noncomputable abbrev vq:IE:=.call (.glob "ord" (.obj (.builtin "ord"))) (.cons (.var 0) .nil)
theorem LR{s:Str}{vs:List (Option AV)}{own:List (List AV)}(h:s.length=1):bj gK vq ⟨some (.str s)::vs,own⟩=some (.int (s.cps.getD 0 0:Nat)):=by
 show bz (decide (s.length=1)) (.int (s.cps.getD 0 0:Nat))=_
 erw [h];rfl
structure WB (body:List agH) (nm:NI) (ke:Nat) (a:abh):Prop where
 text:∃(e:acU) (p4 p5 p6:Pos),body=[.Return (some (.Compare e [.In] [.Name "b1_set" p4] p5)) p6]∧dT ke nm e=some vq
 n1:cc nm "b1_set"=some (.glob "b1_set" (.obj (.ref a)))
theorem WC{f a:abh}{fd:aei}{body:List agH}{ax:List (Str×AV)}{ke m:Nat}{S:Int->Bool}{x:Str}(D:bH base f fd ["code"] ["code"] body ax)(ew:base.NoLimit)
(T:WB body (aY fd.scope ["code"] ax) ke a)(hS:base.SetOf (ag9 prog w) a S m)(hx:x.length=1):
 uz prog w (d+1) base (.ref f) [.str x] (.bool (S (x.cps.getD 0 0:Nat))):=by
 refine (u5 (n:=0) (ev:=λ V σ=>(bj gK vq σ).bind λ x=>match x with | .int i=>some (σ,some (.bool (S i))) | _=>none) D ew (λ env Y C hs=>?_) ?_).2
 · obtain ⟨e,p4,p5,p6,rfl,he⟩:=T.text
   exact Hg hs C ((jM C hs ke).e _ _ he) T.n1 hS
 · show ((al5 (bj gK vq ⟨[some (.str x)],[]⟩) _).bind _)=_
   erw [LR hx]
   rfl
theorem WD(h:x.length≤5592405):kS σ (.str x) "lower" []=some (.str (aeX x)):=by
 show lI σ x "lower" []=_
 unfold lI
 rw [if_pos rfl]
 exact bl (decide_eq_true h)
structure WF (body:List agH) (nm:NI) (ke k:Nat) (a:abh):Prop where
 text:∃(e:acU) (rest:List agH) (pr pd ap ps sp:Pos),body=.Assign [.Name "r" pr] (.Call (.Attribute (.Name "b3_exceptions" pd) (ac5 "get") ap) [e] [] ps) sp::rest∧dT ke nm e=some vq∧(ap.endLine==ps.line)=true∧ct [e]∧
  cg k ke nm rest=.cons (.ifs (.val (.cmp .IsNot (.var 1) .none)) (.cons (.ret (.var 1)) .nil) .nil) (.cons (.ret (.o8 (.var 0) "lower" .nil)) .nil)
 n1:cc nm "b3_exceptions"=some (.glob "b3_exceptions" (.obj (.ref a)))
 n2:bC nm "r"=some 1
noncomputable def xi:Option Str->AV
 | some s=>.str s
 | none=>.none
theorem WG{f a:abh}{fd:aei}{body:List agH}{ax:List (Str×AV)}{ke k:Nat}{fm:Int->Option aas}{T3:Int->Option Str}{x:Str}(D:bH base f fd ["code"] ["code","r"] body ax)(ew:base.NoLimit)
(T:WF body (aY fd.scope ["code","r"] ax) ke k a)(hM:base.MapOf (ag9 prog w) a fm)(ha:(a==aiy)=false)(hG:∀i n g,RelV n g (xi (T3 i)) ((fm i).getD .none))(hx:x.length=1):
 uz prog w (d+1) base (.ref f) [.str x] (.str ((T3 (x.cps.getD 0 0:Nat)).getD (aeX x))):=by
 obtain ⟨e,rest,pr,pd,ap,ps,sp,K9,he,hl,GN,hc⟩:=T.text
 refine (u5 (n:=0) (ev:=λ n σ=>eK ((bj gK vq σ).bind λ x=>match x with | .int i=>(some (xi (T3 i))).map λ z=>(σ.put 1 z,none) | _=>none) (λ σ=>bK gK n (cg k ke (aY fd.scope ["code","r"] ax) rest) σ)) D ew (λ env Y C hs=>?_) ?_).2
 · erw [K9]
   exact Pj (Ph (G:=λ i=>some (xi (T3 i))) hs C ((jM C hs ke).e _ _ he) GN T.n2 T.n1 hM (λ i x hx n g=>by cases hx;exact hG i n g) ha hl) ((Dl rf0 yU ke k _ env Y C hs).b rest)
 · erw [hc]
   show ((eK ((bj gK vq ⟨[some (.str x),none],[]⟩).bind _) _).bind _)=_
   erw [LR hx]
   show ((bK gK 0 (.cons (.ifs (.val (.cmp .IsNot (.var 1) .none)) (.cons (.ret (.var 1)) .nil) .nil) (.cons (.ret (.o8 (.var 0) "lower" .nil)) .nil)) ⟨[some (.str x),some (xi (T3 (x.cps.getD 0 0:Nat)))],[]⟩).bind _)=_
   cases T3 (x.cps.getD 0 0:Nat) with
   | some y=>rfl
   | none=>
     have bc:x.length≤5592405:=by erw [hx];decide
     show ((((kS ⟨[some (.str x),some .none],[]⟩ (.str x) "lower" []).map λ z=>((⟨[some (.str x),some .none],[]⟩ :bB),some z)).bind λ p=>match p.2 with | some v=>some (p.1,some v) | none=>some (p.1,none)).bind _)=_
     erw [(show kS ⟨[some (.str x),some .none],[]⟩ (.str x) "lower" []=some (.str (aeX x)) from WD bc)]
     rfl
end
section
section
variable{RF:cV}{σ σ':bB}{n:Nat}{e a b c d f:IE}{es:GH}{t:IT}{ts:Aj}{it:II}{x y z r:AV}{xs ys:List AV}{op:agc}{cop:CmpOp}{p q:Bool}{nm:Str}{i j k:Int}
theorem ah(ha:bj RF a σ=some x)(hb:bj RF b σ=some y)(h:dc σ op x y=some r):bj RF (.bin op a b) σ=some r:=by
 show ((bj RF a σ).bind λ x=>(bj RF b σ).bind λ y=>dc σ op x y)=_
 erw [ha,hb];exact h
theorem nB(ha:bj RF a σ=some (.int i)):bj RF (.neg a) σ=some (.int (-i)):=by
 show ((bj RF a σ).bind λ x=>match x with | AV.int i=>some (AV.int (-i)) | _=>none)=_
 erw [ha];rfl
theorem pL(ha:bj RF a σ=some (.int i)):bj RF (.inv a) σ=some (.int (acp i)):=by
 show ((bj RF a σ).bind λ x=>match x with | AV.int i=>some (AV.int (acp i)) | _=>none)=_
 erw [ha];rfl
theorem bq(ha:bj RF a σ=some x)(hb:bj RF b σ=some y)(h:ur σ cop x y=some p):bj RF (.cmp cop a b) σ=some (.bool p):=by
 show ((bj RF a σ).bind λ x=>(bj RF b σ).bind λ y=>(ur σ cop x y).map AV.bool)=_
 erw [ha,hb];show (ur σ cop x y).map AV.bool=_;erw [h];rfl
theorem nC(ht:jV RF t σ=some p)(ha:bj RF (if p then a else b) σ=some x):bj RF (.yx t a b) σ=some x:=by
 show ((jV RF t σ).bind λ c=>if c=true then bj RF a σ else bj RF b σ)=_
 erw [ht];cases p <;> exact ha
theorem fe(h:i5 RF es σ=some xs)(hl:(decide (xs.length≤aaW))=true):bj RF (.lst es) σ=some (.lst xs):=by
 show ((i5 RF es σ).bind λ xs=>bz (decide (xs.length≤aaW)) (.lst xs))=_
 erw [h];show bz (decide (xs.length≤aaW)) (.lst xs)=_;erw [hl];rfl
theorem gO(h:i5 RF es σ=some xs)(hl:(decide (xs.length≤aaW))=true):bj RF (.tup es) σ=some (.tup xs):=by
 show ((i5 RF es σ).bind λ xs=>bz (decide (xs.length≤aaW)) (.tup xs))=_
 erw [h];show bz (decide (xs.length≤aaW)) (.tup xs)=_;erw [hl];rfl
theorem bt(ha:bj RF a σ=some x)(hb:bj RF b σ=some y)(h:nR σ x y=some r):bj RF (.idx a b) σ=some r:=by
 show ((bj RF a σ).bind λ x=>(bj RF b σ).bind λ y=>nR σ x y)=_
 erw [ha,hb];exact h
theorem pM{u v:AV}(ha:bj RF a σ=some x)(hb:bj RF b σ=some y)(hc:bj RF c σ=some z)(hd:bj RF d σ=some u)(h:Am σ x y z u=some r):bj RF (.ND a b c d) σ=some r:=by
 show ((bj RF a σ).bind λ x=>(bj RF b σ).bind λ l=>(bj RF c σ).bind λ u=>(bj RF d σ).bind λ t=>Am σ x l u t)=_
 erw [ha,hb,hc,hd];exact h
theorem aA(hf:bj RF f σ=some x)(ha:i5 RF es σ=some xs)(h:f5 RF σ x xs=some r):bj RF (.call f es) σ=some r:=by
 show ((bj RF f σ).bind λ fv=>(i5 RF es σ).bind λ xs=>f5 RF σ fv xs)=_
 erw [hf,ha];exact h
theorem lR(hf:bj RF f σ=some x)(ha:i5 RF es σ=some xs)(h:kS σ x nm xs=some r):bj RF (.o8 f nm es) σ=some r:=by
 show ((bj RF f σ).bind λ fv=>(i5 RF es σ).bind λ xs=>kS σ fv nm xs)=_
 erw [hf,ha];exact h
theorem ak:i5 RF .nil σ=some []:=rfl
theorem ae(h:bj RF e σ=some x)(hs:i5 RF es σ=some xs):i5 RF (.cons e es) σ=some (x::xs):=by
 show ((bj RF e σ).bind λ x=>(i5 RF es σ).map λ xs=>x::xs)=_
 erw [h,hs];rfl
theorem tM(h:bj RF e σ=some x)(ht:ut σ x=some p):jV RF (.val e) σ=some p:=by
 show ((bj RF e σ).bind λ x=>ut σ x)=_
 erw [h];exact ht
theorem aG(h:bj RF e σ=some (.bool p)):jV RF (.val e) σ=some p:=tM h rfl
theorem zf(h:bj RF e σ=some (.int i)):jV RF (.val e) σ=some (i !=0):=tM h rfl
theorem PY(h:jV RF t σ=some p):jV RF (.not t) σ=some !p:=by
 show (jV RF t σ).map (!·)=_
 erw [h];rfl
theorem lS:gD RF .nil σ=some true:=rfl
theorem jQ(h:jV RF t σ=some p)(hs:p=true->gD RF ts σ=some q):gD RF (.cons t ts) σ=some (p&&q):=by
 show ((jV RF t σ).bind λ b=>if b=true then gD RF ts σ else some false)=_
 erw [h];cases p
 · rfl
 · exact hs rfl
theorem BO:yB RF .nil σ=some false:=rfl
theorem je(h:jV RF t σ=some p)(hs:p=false->yB RF ts σ=some q):yB RF (.cons t ts) σ=some (p||q):=by
 show ((jV RF t σ).bind λ b=>if b=true then some true else yB RF ts σ)=_
 erw [h];cases p
 · exact hs rfl
 · rfl
theorem LU(h:yB RF ts σ=some p):jV RF (.or ts) σ=some p:=h
theorem BP{P:AV->Option (Option AV)}{f:AV->AV}:∀{l:List AV},(∀x∈l,P x=some (some (f x)))->dR P l=some (l.map f)
 | [],_=>rfl
 | x::l,h=>by
   show ((P x).bind λ o=>match o with | some y=>(dR P l).map (y::·) | none=>dR P l)=_
   erw [h x (.head _),BP λ y hy=>h y (.tail _ hy)];rfl
theorem BQ{P:AV->Option (Option AV)}{f:AV->AV}{g:AV->Bool}:∀{l:List AV},(∀x∈l,P x=some (if g x then some (f x) else none))->dR P l=some ((l.filter g).map f)
 | [],_=>rfl
 | x::l,h=>by
   show ((P x).bind λ o=>match o with | some y=>(dR P l).map (y::·) | none=>dR P l)=_
   erw [h x (.head _),BQ λ y hy=>h y (.tail _ hy),adY]
   cases g x <;> rfl
theorem FQ(hi:Ao RF it σ=some xs)(h:dR (λ x=>(gD RF ts (σ.push x)).bind λ c=>if c=true then (bj RF e (σ.push x)).map some else some none) xs=some ys)(hl:decide (ys.length≤aaW)=true):bj RF (.comp e it ts) σ=some (.lst ys):=by
 show ((Ao RF it σ).bind λ items=>(dR (λ x=>(gD RF ts (σ.push x)).bind λ c=>if c=true then (bj RF e (σ.push x)).map some else some none) items).bind λ ys=>bz (decide (ys.length≤aaW)) (.lst ys))=_
 erw [hi]
 show ((dR _ xs).bind λ ys=>bz (decide (ys.length≤aaW)) (.lst ys))=_
 erw [h];show bz (decide (ys.length≤aaW)) (.lst ys)=_;erw [hl];rfl
theorem jR{g:AV->AV}(hi:Ao RF it σ=some xs)(h:∀x∈xs,bj RF e (σ.push x)=some (g x))(hl:decide (xs.length≤aaW)=true):bj RF (.comp e it .nil) σ=some (.lst (xs.map g)):=
 FQ hi (BP λ x hx=>by show (bj RF e (σ.push x)).map some=_;erw [h x hx];rfl) (by erw [aar ..];exact hl)
theorem WH{g:AV->AV}{c:AV->Bool}(hi:Ao RF it σ=some xs)(hc:∀x∈xs,gD RF ts (σ.push x)=some (c x))(h:∀x∈xs,c x=true->bj RF e (σ.push x)=some (g x))(hl:decide (xs.length≤aaW)=true):bj RF (.comp e it ts) σ=some (.lst ((xs.filter c).map g)):=
 FQ hi (BQ λ x hx=>by
  erw [hc x hx]
  show (if c x=true then _ else _)=_
  cases hcx:c x
  · rfl
  · show (bj RF e (σ.push x)).map some=_
    erw [h x hx hcx];rfl) (by
  erw [aar ..]
  exact decide_eq_true (acW (agC _ _) (of_decide_eq_true hl)))
theorem gp{hi:IE}(h:bj RF hi σ=some (.int i))(hb:decide (-(2 ^ 20)≤i∧i≤2 ^ 20)=true):Ao RF (.kP hi) σ=some (bI 0 i):=by
 show ((bj RF hi σ).bind λ y=>match y with | .int b=>if -(2 ^ 20)≤b∧b≤2 ^ 20 then some (bI 0 b) else none | _=>none)=_
 erw [h];exact if_pos (of_decide_eq_true hb)
theorem oj(h:bj RF e σ=some x)(hx:jE σ x=some xs):Ao RF (.exp e) σ=some xs:=by
 show ((bj RF e σ).bind λ x=>jE σ x)=_
 erw [h];exact hx
theorem tO(h:bj RF e σ=some x)(hx:lH x=some xs):wj RF (.exp e) σ=some xs:=by
 show ((bj RF e σ).bind lH)=_
 erw [h];exact hx
theorem lT{hi:IE}(h:bj RF hi σ=some (.int i))(hb:decide (-(2 ^ 20)≤i∧i≤2 ^ 20)=true):wj RF (.kP hi) σ=some (bI 0 i):=gp h hb
theorem ki(h:nQ op i j=some r):dc σ op (.int i) (.int j)=some r:=h
theorem fO:dc σ .Add (.int i) (.int j)=some (.int (i+j)):=rfl
theorem k_sub:dc σ .Sub (.int i) (.int j)=some (.int (i - j)):=rfl
theorem rD(h:decide (aan i+aan j≤2 ^ 20)=true):dc σ .Mult (.int i) (.int j)=some (.int (i * j)):=ki (by unfold nQ;exact bl h)
theorem LV(h:(decide (j≠0)&&decide (j.natAbs.log2 < 9000))=true):dc σ .FloorDiv (.int i) (.int j)=some (.int (i.fdiv j)):=ki (by unfold nQ;exact bl h)
theorem j4(h:(decide (j≠0)&&decide (j.natAbs.log2 < 9000))=true):dc σ .Mod (.int i) (.int j)=some (.int (i.fmod j)):=ki (by unfold nQ;exact bl h)
theorem Tf(h:(decide (0≤j)&&decide ((aan i:Int) * j≤2 ^ 27))=true):dc σ .Pow (.int i) (.int j)=some (.int (i ^ j.toNat)):=ki (by unfold nQ;exact bl h)
theorem abJ(h:(decide (0≤j)&&decide ((aan i:Int)+j≤2 ^ 27))=true):dc σ .LShift (.int i) (.int j)=some (.int (i * 2 ^ j.toNat)):=ki (by unfold nQ;exact bl h)
theorem Tg(h:decide (0≤j)=true):dc σ .RShift (.int i) (.int j)=some (.int (i.fdiv (2 ^ j.toNat))):=ki (by unfold nQ;exact bl h)
theorem xj:dc σ .BitAnd (.int i) (.int j)=some (.int (ac6 i j)):=rfl
theorem abK:dc σ .BitOr (.int i) (.int j)=some (.int (agd i j)):=rfl
theorem BR{s u:Str}(h:decide (s.length+u.length≤aaW)=true):dc σ .Add (.str s) (.str u)=some (.str (s++u)):=by
 show uq .Add s u=_
 unfold uq;exact bl h
theorem Ti(hx:σ.listOf x=some xs)(h:Ak σ op x y=some r):dc σ op x y=some r:=by
 cases x with
 | int _=>exact oR hx
 | str _=>exact oR hx
 | _=>exact h
theorem j5(hx:σ.listOf x=some xs)(hy:σ.listOf y=some ys)(h:decide (xs.length+ys.length≤aaW)=true):dc σ .Add x y=some (.lst (xs++ys)):=by
 refine Ti hx ?_
 unfold Ak
 simp only [hx,hy,aaT]
 exact bl h
theorem Tj(hx:σ.listOf x=some [y])(h:(decide (0≤j)&&decide (j≤2 ^ 20))=true):dc σ .Mult x (.int j)=some (.lst (aau j.toNat y)):=by
 refine Ti hx ?_
 unfold Ak
 simp only [hx,hV,aaT]
 unfold ZE
 exact bl h
theorem LW:nR σ x (.int k)=if 0≤k∧k < 2 ^ 62 then (Jt σ x).bind (·[k.toNat]?) else none:=by
 skip
 erw [aaT ..,rfl]
theorem df(hx:σ.listOf x=some xs)(h:0≤k∧k < 2 ^ 62)(hy:xs[k.toNat]?=some y):nR σ x (.int k)=some y:=by
 have e:Jt σ x=some xs:=by
  cases x with
  | tup _=>exact oR hx
  | _=>exact hx
 erw [LW,if_pos h,e];exact hy
theorem FR(h:0≤k∧k < 2 ^ 62)(hy:xs[k.toNat]?=some y):nR σ (.tup xs) (.int k)=some y:=by
 erw [LW,if_pos h];exact hy
theorem bM{g:abh}(h:(x::xs).mapM (j7 σ 3)=some ys)(hR:RF (.ref g) ys=some r):f5 RF σ (.obj (.ref g)) (x::xs)=some r:=by
 show (((x::xs).mapM (j7 σ 3)).bind (RF (.ref g)))=_
 erw [h];exact hR
theorem abL:An σ "chr" xs=yy Ju xs:=if_pos rfl
theorem abM:An σ "ord" xs=yy Jv xs:=(if_neg ⋯).trans (if_pos rfl)
theorem abN:An σ "len" xs=yy (UL σ) xs:=(if_neg ⋯).trans ((if_neg ⋯).trans (if_pos rfl))
theorem abO:An σ "sum" xs=yy (Jx σ) xs:=(if_neg ⋯).trans ((if_neg ⋯).trans ((if_neg ⋯).trans (if_pos rfl)))
theorem afA:An σ "divmod" xs=UK ZH xs:=(if_neg ⋯).trans ((if_neg ⋯).trans ((if_neg ⋯).trans ((if_neg ⋯).trans (if_pos rfl))))
theorem cb{b:String}{o:Option AV}(h:An σ b xs=o):f5 RF σ (.obj (.builtin b)) xs=o:=h
theorem ai:hV (.int i)=some i:=rfl
theorem as_{s:Str}:rm (.str s)=some s:=rfl
theorem LX{m:Nat}(h:decide ((m:Int) < 2 ^ 62)=true):Jw m=some (.int m):=by
 unfold Jw;exact bl h
theorem BU(h:(decide (0≤i)&&decide (i≤1114111))=true):f5 RF σ (.obj (.builtin "chr")) [.int i]=some (.str ⟨#[i.toNat]⟩):=by
 refine cb (abL.trans ?_)
 show Ju (.int i)=_
 unfold Ju
 (rw [ai];erw [aaT ..]);exact bl h
theorem xl{s:Str}(h:decide (s.length=1)=true):f5 RF σ (.obj (.builtin "ord")) [.str s]=some (.int (s.cps.getD 0 0:Nat)):=by
 refine cb (abM.trans ?_)
 show Jv (.str s)=_
 unfold Jv
 (rw [as_];erw [aaT ..]);exact bl h
theorem LY{m:Nat}(hx:Ff σ x=some m)(h:decide ((m:Int) < 2 ^ 62)=true):f5 RF σ (.obj (.builtin "len")) [x]=some (.int m):=by
 refine cb (abN.trans ?_)
 show (Ff σ x).bind Jw=_
 erw [hx,aaT ..]
 exact LX h
theorem WK{s:Str}(h:decide ((s.length:Int) < 2 ^ 62)=true):f5 RF σ (.obj (.builtin "len")) [.str s]=some (.int s.length):=LY rfl h
theorem PZ(hx:σ.listOf x=some xs):Ff σ x=some xs.length:=by
 cases x with
 | str _=>exact oR hx
 | own k=>show (σ.listOf (.own k)).map ae3=_;erw [hx];rfl
 | lst l=>cases hx;rfl
 | bor l=>cases hx;rfl
 | _=>exact oR hx
theorem xm(hx:σ.listOf x=some xs)(h:decide ((xs.length:Int) < 2 ^ 62)=true):f5 RF σ (.obj (.builtin "len")) [x]=some (.int xs.length):=LY (PZ hx) h
theorem LZ{l:List Int}(hx:(σ.listOf x).bind cP=some l):f5 RF σ (.obj (.builtin "sum")) [x]=some (.int l.sum):=by
 refine cb (abO.trans ?_)
 show Jx σ x=_
 unfold Jx
 rw [hx];rfl
theorem afB(h:(decide (j≠0)&&decide (j.natAbs.log2 < 9000))=true):f5 RF σ (.obj (.builtin "divmod")) [.int i,.int j]=some (.tup [.int (i.fdiv j),.int (i.fmod j)]):=by
 refine cb (afA.trans ?_)
 show ZH (.int i) (.int j)=_
 unfold ZH
 (rw [ai];erw [aaT ..,ai,aaT ..]);exact bl h
theorem dD:∀l:List Int,cP (l.map AV.int)=some l
 | []=>rfl
 | i::l=>by show (cP (l.map AV.int)).map (i::·)=_;erw [dD l];rfl
theorem bp{i:Nat}(h:bj RF e σ=some x):AK RF n (.asg i e) σ=some (σ.put i x,none):=by
 show ((bj RF e σ).map λ x=>(σ.put i x,none))=_
 erw [h];rfl
theorem eh(h:bj RF e σ=some x):AK RF n (.ret e) σ=some (σ,some x):=by
 show ((bj RF e σ).map λ x=>(σ,some x))=_
 erw [h];rfl
theorem rE{i:Nat}(ho:(σ.vars[i]?.getD none)=some y)(h:bj RF e σ=some x)(hr:wq op y x=some r):AK RF n (.aug i op e) σ=some (σ.put i r,none):=by
 show ((σ.vars[i]?.getD none).bind λ old=>(bj RF e σ).bind λ x=>(wq op old x).map λ y=>(σ.put i y,none))=_
 erw [ho,h];show (wq op y x).map _=_;erw [hr];rfl
theorem om{i j:Nat}(h:bj RF e σ=some (.tup [x,y])):AK RF n (.nx i j e) σ=some ((σ.put i x).put j y,none):=by
 show ((bj RF e σ).bind λ x=>match x with | .tup [a,b]=>some ((σ.put i a).put j b,none) | _=>none)=_
 erw [h];rfl
theorem L0{m:Nat}(ho:bj RF a σ=some (.own m))(h:bj RF e σ=some x)(hm:σ.own[m]?=some xs)(hl:decide (xs.length≤aaW)=true):AK RF n (.app a e) σ=some (σ.dk m (xs++[x]),none):=by
 show ((bj RF a σ).bind λ ov=>(bj RF e σ).bind λ x=>match ov with
  | .own m=>σ.own[m]?.bind λ xs=>if xs.length≤aaW then some (σ.dk m (xs++[x]),none) else none
  | _=>none)=_
 erw [ho,h]
 show (σ.own[m]?.bind λ xs=>if xs.length≤aaW then some (σ.dk m (xs++[x]),none) else none)=_
 erw [hm];exact if_pos (of_decide_eq_true hl)
theorem abP{m:Nat}(ho:bj RF a σ=some (.own m))(hm:σ.own[m]?=some xs)(hl:decide (xs.length≤aaW)=true):AK RF n (.rev a) σ=some (σ.dk m xs.reverse,none):=by
 show ((bj RF a σ).bind λ ov=>match ov with
  | .own m=>σ.own[m]?.bind λ xs=>if xs.length≤aaW then some (σ.dk m xs.reverse,none) else none
  | _=>none)=_
 erw [ho]
 show (σ.own[m]?.bind λ xs=>if xs.length≤aaW then some (σ.dk m xs.reverse,none) else none)=_
 erw [hm];exact if_pos (of_decide_eq_true hl)
theorem ec{A B:eU}{o:yK}(ht:jV RF t σ=some p)(h:bK RF n (if p then A else B) σ=o):AK RF n (.ifs t A B) σ=o:=by
 show ((jV RF t σ).bind λ c=>if c=true then bK RF n A σ else bK RF n B σ)=_
 erw [ht];cases p <;> exact h
theorem gP{i:Nat}{B:eU}{o:yK}(hi:wj RF it σ=some xs)(h:uM (λ x σ=>bK RF n B (σ.put i x)) xs σ=o):AK RF n (.iS i it B) σ=o:=by
 show ((wj RF it σ).bind λ items=>uM (λ x σ=>bK RF n B (σ.put i x)) items σ)=_
 erw [hi];exact h
theorem bQ:bK RF n .nil σ=some (σ,none):=rfl
theorem ao{S:IS}{B:eU}{o:yK}(h:AK RF n S σ=some (σ',none))(hb:bK RF n B σ'=o):bK RF n (.cons S B) σ=o:=by
 show eK (AK RF n S σ) (bK RF n B)=_
 erw [h];exact hb
theorem bE{S:IS}{B:eU}{v:AV}(h:AK RF n S σ=some (σ',some v)):bK RF n (.cons S B) σ=some (σ',some v):=by
 show eK (AK RF n S σ) (bK RF n B)=_
 erw [h];rfl
theorem cQ{np nl:Nat}{Sn:eU}{args:List AV}{v:AV}(hp:(decide (args.length=np∧np≤nl)&&args.all (cF 4))=true)
(h:bK RF n Sn ⟨args.map some++aau (nl - np) none,[]⟩=some (σ',some v))(hr:nk σ' 4 v=some r):X0 np nl Sn RF n args=some r:=by
 rw [aaQ,decide_eq_true_eq] at hp
 unfold X0 evG
 (rw [if_pos ⟨hp.1.1,hp.1.2,hp.2⟩];erw [h])
 exact hr
end
end
section
noncomputable def fr0:Obj:={cls:=.none,data:=.freed}
noncomputable def ej(P:abe):ac2:=⟨((jB pw P).objs.set! 54 fr0).set! 61 fr0,{}⟩
noncomputable def iU(P:abe)(a:abh):aei:=match (ej P).get? a with | some o=>(match o.data with | .func fd=>fd | _=>default) | none=>default
noncomputable def abQ:aas->AV
 | .int i _=>.int i
 | .str s _=>.str s
 | v=>.obj v
theorem L1(n:Nat)(g:Gh):∀v,RelV n g (abQ v) v
 | .int i t=>.int i t
 | .str s t=>.str s t
 | .none=>.obj _ | .ellipsis=>.obj _ | .notImplemented=>.obj _ | .bool _=>.obj _ | .float _ _=>.obj _ | .bytes _ _=>.obj _ | .type _=>.obj _ | .builtin _=>.obj _ | .ref _=>.obj _
noncomputable def gN(s:String)(v:aas):Str×aas:=(ac5 s,v)
noncomputable def gl:List (Str×aas):=[gN "_parse_varint" (.ref 38),gN "_div2n1n" (.ref 45),gN "_div3n2n" (.ref 52),gN "_int2digits" (.ref 59),gN "_digits2int" (.ref 66),gN "_divmod_pos" (.ref 73),gN "int_divmod" (.ref 80),gN "quotedata" (.ref 97),gN "in_table_b1" (.ref 115),gN "map_table_b3" (.ref 161),
 gN "_law_heaps" (.ref 166),gN "_law_hidden" (.ref 173),gN "_law_beside" (.ref 180),gN "_law_form" (.ref 187),gN "_law_kept" (.ref 194),gN "_law_folded" (.ref 199),gN "_law_numbers" (.ref 204),gN "_law_knows" (.ref 209),gN "_law_word" (.ref 214),gN "_law_ones" (.ref 219),gN "_law_posted" (.ref 226),gN "_law_due" (.ref 233),
 gN "_DIV_LIMIT" (.int 4000 295),gN "CRLF" (.str ⟨#[13,10]⟩ 435),gN "b1_set" (.ref 105),gN "b3_exceptions" (.ref 116),gN "_twin_re_1" (.ref 85),gN "_twin_re_2" (.ref 90),
 gN "chr" (.builtin "chr"),gN "ord" (.builtin "ord"),gN "len" (.builtin "len"),gN "sum" (.builtin "sum"),gN "divmod" (.builtin "divmod"),gN "iter" (.builtin "iter"),gN "next" (.builtin "next"),gN "range" (.type "range"),gN "reversed" (.type "reversed"),gN "StopIteration" (.type "StopIteration")]
noncomputable def ax:List (Str×AV):=gl.map λ p=>(p.1,abQ p.2)
theorem abR(P:abe):gl.map (λ p=>((ej P).nsMap 3 p.1).or ((ej P).nsMap 0 p.1))=gl.map λ p=>some p.2:=∅
theorem ns3(P:abe):(ej P).isNs 3=true:=∅
theorem ns0(P:abe):(ej P).isNs 0=true:=∅
theorem nsS(P:abe):(ej P).isNs cStatics=true:=∅
theorem rF(P:abe):(ej P).NoLimit:=⟨_,.of_isNs (nsS P),∅⟩
theorem vr{α β:Type}(f:α->β)(x:Str):∀l:List (Str×α),(l.map λ p=>(p.1,f p.2)).lookup x=(l.lookup x).map f
 | []=>rfl
 | (y,v)::l=>by
   erw [aaX,adl,adl]
   cases x==y
   · exact vr f x l
   · rfl
theorem L2(P:abe)(x:Str)(av:AV)(h:ax.lookup x=some av):∃v,(∀n g,RelV n g av v)∧∃mg,(ej P).Ns 3 mg∧(mg x=some v∨mg x=none∧∃mb,(ej P).Ns 0 mb∧mb x=some v):=by
 unfold ax at h
 rw [vr] at h
 refine bS h λ v hv cB=>?_
 obtain rfl:=cB
 have hm:=cK hv
 have h2:=List.map_inj_left.mp (abR P) _ hm
 refine ⟨v,λ n g=>L1 n g v,_,.of_isNs (ns3 P),?_⟩
 rcases ahc.mp h2 with h3 | ⟨h3,h4⟩
 · exact .inl h3
 · exact .inr ⟨h3,_,.of_isNs (ns0 P),h4⟩
theorem eO{α:Type}{o:Option α}{p:α->Bool}{G:Prop}(h:o.any p=true)(k:∀a,o=some a->p a=true->G):G:=by
 cases o with
 | none=>exact e8 h
 | some a=>exact k a rfl h
theorem fF{a b:Bool}{G:Prop}(h:(a&&b)=true)(k:a=true->b=true->G):G:=by
 cases a with
 | false=>exact e8 h
 | true=>exact k rfl h
noncomputable def X7:aas->Option String
 | .type n=>some n
 | _=>none
noncomputable def L3:aas->Option abh
 | .ref a=>some a
 | _=>none
noncomputable def WL:aas->Bool
 | .str _ _=>true
 | _=>false
noncomputable def WM:aas->Bool
 | .int _ _=>true
 | _=>false
noncomputable def Tk:aas->Bool
 | .bool _=>true
 | _=>false
noncomputable def L4:Data->Option (Array aas)
 | .fields vs=>some vs
 | _=>none
noncomputable def abS:Data->Option (Array aas)
 | .seq vs _=>some vs
 | _=>none
section
variable{v:aas}{d:Data}
theorem vv(h:X7 v=some n):v=.type n:=by
 cases v with
 | type _=>exact congrArg Value.type (aam h)
 | _=>exact aw h
theorem tP(h:L3 v=some n):v=.ref n:=by
 cases v with
 | ref _=>exact congrArg ahh (aam h)
 | _=>exact aw h
theorem FT(h:WL v=true):∃s t,v=.str s t:=by
 cases v with
 | str s t=>exact ⟨s,t,rfl⟩
 | _=>exact e8 h
theorem FU(h:WM v=true):∃s t,v=.int s t:=by
 cases v with
 | int s t=>exact ⟨s,t,rfl⟩
 | _=>exact e8 h
theorem L5(h:Tk v=true):∃b,v=.bool b:=by
 cases v with
 | bool b=>exact ⟨b,rfl⟩
 | _=>exact e8 h
theorem tT(h:L4 d=some vs):d=.fields vs:=by
 cases d with
 | fields _=>exact congrArg Data.fields (aam h)
 | _=>exact aw h
theorem P0(h:abS d=some vs):∃e,d=.seq vs e:=by
 cases d with
 | seq _ e=>exact ⟨e,congrArg (Data.seq · e) (aam h)⟩
 | _=>exact aw h
end
noncomputable def Tl:aas->Option Str
 | .str s _=>some s
 | _=>none
theorem L6(h:Tl v=some s):∃t,v=.str s t:=by
 cases v with
 | str _ t=>exact ⟨t,congrArg (Value.str · t) (aam h)⟩
 | _=>exact aw h
noncomputable def codeOk(h:ac2)(cd:aas)(q:Str):Bool:=(L3 cd).any λ c=>(h.get? c).any λ o=>(L4 o.data).any λ vs=>((vs[1]?:Option aas)).any λ u=>(Tl u).any λ x=>x==q
theorem P1{h:ac2}{cd:aas}{q:Str}(x:codeOk h cd q=true):h.CodeRec cd q:=by
 refine eO x λ c hc x=>eO x λ o ho x=>eO x λ vs hd x=>eO x λ u hv x=>eO x λ y hy x=>?_
 refine cL (L6 hy) λ t e=>?_
 rw [e,eq_of_beq x] at hv
 exact ⟨c,o,vs,t,tP hc,ho,tT hd,hv⟩
structure Look (P:abe) (f:abh) (fd:aei) (ns:List Str) (i:Nat):Prop where
 obj:((ej P).get? f).map (·.data)=some (.func fd)
 code:codeOk (ej P) fd.code fd.qualname=true
 rest:(fd.closure,fd.scope.isCoroutine,fd.scope.isGenerator,fd.globals,fd.builtins)=([],false,false,3,0)
 kind:fd.scope.kind=.function
 body:fd.body=.stmts (cw pw i).2.1
 kinds:(ns.all λ x=>fd.scope.names.lookup x==some .local||fd.scope.names.lookup x==some .cell)=true
theorem Look.dE(L:Look P f fd ns i)(hb:∀vals:List aas,vals.length=ps.length->bindArgs fd ⟨vals,[]⟩=pure (ps.zip vals))
(nd:ns.Nodup)(pre:ns.take ps.length=ps):bH (ej P) f fd ps ns (cw pw i).2.1 ax:=by
 have hr:=L.rest
 simp only [alo] at hr
 obtain ⟨h1,h2,h3,h4,h5⟩:=hr
 refine bF (ah0.mp L.obj) λ o ho hd=>?_
 refine ⟨⟨o,ho,hd⟩,P1 L.code,L.body,h1,hb,h2,h3,L.kind,nd,pre,λ x hx=>?_,λ x av h=>by (erw [h4,h5]);exact L2 P x av h⟩
 have:=acP.mp L.kinds x hx
 simp only [afr,beq_iff_eq] at this
 exact this
theorem jg{fd:aei}{ps:List Str}(hp:ps.length=1)(h:∀a,bindArgs fd ⟨[a],[]⟩=pure (ps.zip [a])):∀vals:List aas,vals.length=ps.length->bindArgs fd ⟨vals,[]⟩=pure (ps.zip vals)
 | [a],_=>h a
 | [],e=>by rw [hp] at e;cases e
 | _::_::_,e=>by rw [hp] at e;cases e
theorem BV{fd:aei}{ps:List Str}(hp:ps.length=2)(h:∀a b,bindArgs fd ⟨[a,b],[]⟩=pure (ps.zip [a,b])):∀vals:List aas,vals.length=ps.length->bindArgs fd ⟨vals,[]⟩=pure (ps.zip vals)
 | [a,b],_=>h a b
 | [],e=>by rw [hp] at e;cases e
 | [_],e=>by rw [hp] at e;cases e
 | _::_::_::_,e=>by rw [hp] at e;cases e
theorem Tm{fd:aei}{ps:List Str}(hp:ps.length=3)(h:∀a b c,bindArgs fd ⟨[a,b,c],[]⟩=pure (ps.zip [a,b,c])):∀vals:List aas,vals.length=ps.length->bindArgs fd ⟨vals,[]⟩=pure (ps.zip vals)
 | [a,b,c],_=>h a b c
 | [],e=>by rw [hp] at e;cases e
 | [_],e=>by rw [hp] at e;cases e
 | [_,_],e=>by rw [hp] at e;cases e
 | _::_::_::_::_,e=>by rw [hp] at e;cases e
theorem Tn{fd:aei}{ps:List Str}(hp:ps.length=4)(h:∀a b c d,bindArgs fd ⟨[a,b,c,d],[]⟩=pure (ps.zip [a,b,c,d])):∀vals:List aas,vals.length=ps.length->bindArgs fd ⟨vals,[]⟩=pure (ps.zip vals)
 | [a,b,c,d],_=>h a b c d
 | [],e=>by rw [hp] at e;cases e
 | [_],e=>by rw [hp] at e;cases e
 | [_,_],e=>by rw [hp] at e;cases e
 | [_,_,_],e=>by rw [hp] at e;cases e
 | _::_::_::_::_::_,e=>by rw [hp] at e;cases e
theorem abT{fd:aei}{ps:List Str}(hp:ps.length=6)(h:∀a b c d e f,bindArgs fd ⟨[a,b,c,d,e,f],[]⟩=pure (ps.zip [a,b,c,d,e,f])):∀vals:List aas,vals.length=ps.length->bindArgs fd ⟨vals,[]⟩=pure (ps.zip vals)
 | [a,b,c,d,e,f],_=>h a b c d e f
 | [],e=>by rw [hp] at e;cases e
 | [_],e=>by rw [hp] at e;cases e
 | [_,_],e=>by rw [hp] at e;cases e
 | [_,_,_],e=>by rw [hp] at e;cases e
 | [_,_,_,_],e=>by rw [hp] at e;cases e
 | [_,_,_,_,_],e=>by rw [hp] at e;cases e
 | _::_::_::_::_::_::_::_,e=>by rw [hp] at e;cases e
noncomputable abbrev si:List Str:=["iterator"]
noncomputable abbrev j6:List Str:=["iterator","b","val"]
theorem vw(P:abe):bH (ej P) 38 (iU P 38) si j6 (cw pw 2).2.1 ax:=
 Look.dE ⟨∅,∅,∅,∅,∅,∅⟩ (jg rfl λ a=>∅) (by decide+kernel) ∅
noncomputable abbrev DR:List Str:=["a","b","n"]
noncomputable abbrev vx:List Str:=["a","b","n","pad","half_n","mask","b1","b2","q1","r","q2"]
theorem xn(P:abe):bH (ej P) 45 (iU P 45) DR vx (cw pw 5).2.1 ax:=
 Look.dE ⟨∅,∅,∅,∅,∅,∅⟩ (Tm rfl λ a b c=>∅) (by decide+kernel) ∅
noncomputable abbrev DS:List Str:=["a12","a3","b","b1","b2","n"]
noncomputable abbrev vy:List Str:=["a12","a3","b","b1","b2","n","q","r"]
theorem HI(P:abe):bH (ej P) 52 (iU P 52) DS vy (cw pw 6).2.1 ax:=
 Look.dE ⟨∅,∅,∅,∅,∅,∅⟩ (abT rfl λ a b c d e f=>∅) (by decide+kernel) ∅
noncomputable abbrev wy:List Str:=["a","n"]
noncomputable abbrev wz:List Str:=["a","n","a_digits","inner"]
theorem oo(P:abe):bH (ej P) 59 (iU P 59) wy wz (cw pw 7).2.1 ax:=
 Look.dE ⟨∅,∅,∅,∅,∅,∅⟩ (BV rfl λ a b=>∅) (by decide+kernel) ∅
noncomputable abbrev wA:List Str:=["digits","n"]
noncomputable abbrev wB:List Str:=["digits","n","inner"]
theorem oq(P:abe):bH (ej P) 66 (iU P 66) wA wB (cw pw 8).2.1 ax:=
 Look.dE ⟨∅,∅,∅,∅,∅,∅⟩ (BV rfl λ a b=>∅) (by decide+kernel) ∅
noncomputable abbrev wC:List Str:=["a","b"]
noncomputable abbrev mA:List Str:=["a","b","n","a_digits","r","q_digits","a_digit","q_digit","q"]
theorem zg(P:abe):bH (ej P) 73 (iU P 73) wC mA (cw pw 9).2.1 ax:=
 Look.dE ⟨∅,∅,∅,∅,∅,∅⟩ (BV rfl λ a b=>∅) (by decide+kernel) ∅
noncomputable abbrev wD:List Str:=["a","b"]
noncomputable abbrev mB:List Str:=["a","b","q","r"]
theorem jS(P:abe):bH (ej P) 80 (iU P 80) wD mB (cw pw 10).2.1 ax:=
 Look.dE ⟨∅,∅,∅,∅,∅,∅⟩ (BV rfl λ a b=>∅) (by decide+kernel) ∅
noncomputable abbrev zh:List Str:=["data"]
noncomputable abbrev zi:List Str:=["data"]
theorem rG(P:abe):bH (ej P) 97 (iU P 97) zh zi (cw pw 15).2.1 ax:=
 Look.dE ⟨∅,∅,∅,∅,∅,∅⟩ (jg rfl λ a=>∅) (by decide+kernel) ∅
noncomputable abbrev vz:List Str:=["code"]
noncomputable abbrev vB:List Str:=["code"]
theorem mC(P:abe):bH (ej P) 115 (iU P 115) vz vB (cw pw 18).2.1 ax:=
 Look.dE ⟨∅,∅,∅,∅,∅,∅⟩ (jg rfl λ a=>∅) (by decide+kernel) ∅
noncomputable abbrev sj:List Str:=["code"]
noncomputable abbrev sk:List Str:=["code","r"]
theorem k5(P:abe):bH (ej P) 161 (iU P 161) sj sk (cw pw 20).2.1 ax:=
 Look.dE ⟨∅,∅,∅,∅,∅,∅⟩ (jg rfl λ a=>∅) (by decide+kernel) ∅
noncomputable abbrev zj:List Str:=["script"]
noncomputable abbrev ot:List Str:=["script","firsts"]
theorem BW(P:abe):bH (ej P) 166 (iU P 166) zj ot (cw pw 22).2.1 ax:=
 Look.dE ⟨∅,∅,∅,∅,∅,∅⟩ (jg rfl λ a=>∅) (by decide+kernel) ∅
noncomputable abbrev wE:List Str:=["draw"]
noncomputable abbrev mD:List Str:=["draw","codes"]
theorem zk(P:abe):bH (ej P) 173 (iU P 173) wE mD (cw pw 23).2.1 ax:=
 Look.dE ⟨∅,∅,∅,∅,∅,∅⟩ (jg rfl λ a=>∅) (by decide+kernel) ∅
noncomputable abbrev wF:List Str:=["draw"]
noncomputable abbrev mE:List Str:=["draw","codes"]
theorem zm(P:abe):bH (ej P) 180 (iU P 180) wF mE (cw pw 24).2.1 ax:=
 Look.dE ⟨∅,∅,∅,∅,∅,∅⟩ (jg rfl λ a=>∅) (by decide+kernel) ∅
noncomputable abbrev BX:List Str:=["letter","draw"]
noncomputable abbrev rH:List Str:=["letter","draw","starts"]
theorem DT(P:abe):bH (ej P) 187 (iU P 187) BX rH (cw pw 25).2.1 ax:=
 Look.dE ⟨∅,∅,∅,∅,∅,∅⟩ (BV rfl λ a b=>∅) (by decide+kernel) ∅
noncomputable abbrev BZ:List Str:=["text"]
noncomputable abbrev rI:List Str:=["text","kept","sign","held"]
theorem DU(P:abe):bH (ej P) 194 (iU P 194) BZ rI (cw pw 26).2.1 ax:=
 Look.dE ⟨∅,∅,∅,∅,∅,∅⟩ (jg rfl λ a=>∅) (by decide+kernel) ∅
noncomputable abbrev wG:List Str:=["text"]
noncomputable abbrev mF:List Str:=["text"]
theorem zn(P:abe):bH (ej P) 199 (iU P 199) wG mF (cw pw 27).2.1 ax:=
 Look.dE ⟨∅,∅,∅,∅,∅,∅⟩ (jg rfl λ a=>∅) (by decide+kernel) ∅
noncomputable abbrev vC:List Str:=["text"]
noncomputable abbrev k8:List Str:=["text","tape","numbers","turn"]
theorem mG(P:abe):bH (ej P) 204 (iU P 204) vC k8 (cw pw 28).2.1 ax:=
 Look.dE ⟨∅,∅,∅,∅,∅,∅⟩ (jg rfl λ a=>∅) (by decide+kernel) ∅
noncomputable abbrev zo:List Str:=["heap"]
noncomputable abbrev ou:List Str:=["heap","one","other","knows"]
theorem rJ(P:abe):bH (ej P) 209 (iU P 209) zo ou (cw pw 29).2.1 ax:=
 Look.dE ⟨∅,∅,∅,∅,∅,∅⟩ (jg rfl λ a=>∅) (by decide+kernel) ∅
noncomputable abbrev B3:List Str:=["letters","known","gap","hidden"]
noncomputable abbrev rK:List Str:=["letters","known","gap","hidden","signs"]
theorem DV(P:abe):bH (ej P) 214 (iU P 214) B3 rK (cw pw 30).2.1 ax:=
 Look.dE ⟨∅,∅,∅,∅,∅,∅⟩ (Tn rfl λ a b c d=>∅) (by decide+kernel) ∅
noncomputable abbrev B4:List Str:=["number"]
noncomputable abbrev rL:List Str:=["number"]
theorem DW(P:abe):bH (ej P) 219 (iU P 219) B4 rL (cw pw 31).2.1 ax:=
 Look.dE ⟨∅,∅,∅,∅,∅,∅⟩ (jg rfl λ a=>∅) (by decide+kernel) ∅
noncomputable abbrev wH:List Str:=["rows","bare","draw"]
noncomputable abbrev mH:List Str:=["rows","bare","draw","text","person"]
theorem zp(P:abe):bH (ej P) 226 (iU P 226) wH mH (cw pw 32).2.1 ax:=
 Look.dE ⟨∅,∅,∅,∅,∅,∅⟩ (Tm rfl λ a b c=>∅) (by decide+kernel) ∅
noncomputable abbrev DX:List Str:=["counts","letters","written","beside"]
noncomputable abbrev vD:List Str:=["counts","letters","written","beside","due","person","code"]
theorem HJ(P:abe):bH (ej P) 233 (iU P 233) DX vD (cw pw 33).2.1 ax:=
 Look.dE ⟨∅,∅,∅,∅,∅,∅⟩ (Tn rfl λ a b c d=>∅) (by decide+kernel) ∅
noncomputable abbrev WN:List Str:=["script"]
noncomputable abbrev L7:List Str:=[.ofString "script",.ofString "heaps",.ofString "knows",.ofString "person",.ofString "letters",.ofString "lacks",.ofString "gap",.ofString "word",.ofString "before",.ofString "behind",.ofString "width",.ofString "turned",.ofString "unit",.ofString "great",.ofString "told",.ofString "known",.ofString "totals",.ofString "one",.ofString "ones",.ofString "even",.ofString "found",.ofString "wish",.ofString "aim",.ofString "met",.ofString "against",.ofString "choice_sent",.ofString "beside",.ofString "rows",.ofString "draw",.ofString "side",.ofString "writer",.ofString "wrote",.ofString "counts",.ofString "due"]
theorem abU(P:abe):bH (ej P) 238 (iU P 238) WN L7 (cw pw 34).2.1 ax:=
 Look.dE ⟨∅,∅,∅,∅,∅,∅⟩ (jg rfl λ a=>∅) (by decide+kernel) ∅
end
abbrev WO:eU:=.cons (.asg 4 (.bin .RShift (.var 2) (.int 1))) (.cons (.asg 5 (.bin .Sub (.bin .LShift (.int 1) (.var 4)) (.int 1))) (.cons (.nx 6 7 (.tup (.cons (.bin .RShift (.var 1) (.var 4)) (.cons (.bin .BitAnd (.var 1) (.var 5)) .nil)))) (.cons (.nx 8 9 (.call (.glob "_div3n2n" (.obj (.ref 52))) (.cons (.bin .RShift (.var 0) (.var 2)) (.cons (.bin .BitAnd (.bin .RShift (.var 0) (.var 4)) (.var 5)) (.cons (.var 1) (.cons (.var 6) (.cons (.var 7) (.cons (.var 4) .nil)))))))) (.cons (.nx 10 9 (.call (.glob "_div3n2n" (.obj (.ref 52))) (.cons (.var 9) (.cons (.bin .BitAnd (.var 0) (.var 5)) (.cons (.var 1) (.cons (.var 6) (.cons (.var 7) (.cons (.var 4) .nil)))))))) (.cons (.ifs (.val (.var 3)) (.cons (.aug 9 .RShift (.int 1)) .nil) .nil) (.cons (.ret (.tup (.cons (.bin .BitOr (.bin .LShift (.var 8) (.var 4)) (.var 10)) (.cons (.var 9) .nil)))) .nil))))))
abbrev To:IS:=.ifs (.val (.var 3)) (.cons (.aug 0 .LShift (.int 1)) (.cons (.aug 1 .LShift (.int 1)) (.cons (.aug 2 .Add (.int 1)) .nil))) .nil
abbrev Tp:IT:=.val (.cmp .LtE (.bin .Sub (.o8 (.var 0) "bit_length" .nil) (.var 2)) (.glob "_DIV_LIMIT" (.int 4000)))
noncomputable def pN:eU:=
(.cons (.ifs Tp (.cons (.ret (.call (.glob "divmod" (.obj (.builtin "divmod"))) (.cons (.var 0) (.cons (.var 1) .nil))))
 .nil) .nil)
 (.cons (.asg 3 (.bin .BitAnd (.var 2) (.int 1)))
 (.cons To
 WO)))
theorem xo(P:abe):cg 60 60 (aY (iU P 45).scope vx ax) (cw pw 5).2.1=pN:=∅
noncomputable def HK:eU:=
(.cons (.ifs (.val (.cmp .Eq (.bin .RShift (.var 0) (.var 5)) (.var 3))) (.cons (.nx 6 7 (.tup (.cons (.bin .Sub (.bin .LShift (.int 1) (.var 5)) (.int 1)) (.cons (.bin .Add (.bin .Sub (.var 0) (.bin .LShift (.var 3) (.var 5))) (.var 3)) .nil))))
 .nil) (.cons (.nx 6 7 (.call (.glob "_div2n1n" (.obj (.ref 45))) (.cons (.var 0) (.cons (.var 3) (.cons (.var 5) .nil)))))
 .nil))
 (.cons (.asg 7 (.bin .Sub (.bin .BitOr (.bin .LShift (.var 7) (.var 5)) (.var 1)) (.bin .Mult (.var 6) (.var 4))))
 (.cons (.whl (.val (.cmp .Lt (.var 7) (.int 0))) (.cons (.aug 6 .Sub (.int 1))
 (.cons (.aug 7 .Add (.var 2))
 .nil)))
 (.cons (.ret (.tup (.cons (.var 6) (.cons (.var 7) .nil))))
 .nil))))
theorem HL(P:abe):cg 60 60 (aY (iU P 52).scope vy ax) (cw pw 6).2.1=HK:=∅
abbrev Tq:eU:=.cons (.nx 7 4 (.call (.glob "_div2n1n" (.obj (.ref 45))) (.cons (.bin .Add (.bin .LShift (.var 4) (.var 2)) (.var 6)) (.cons (.var 1) (.cons (.var 2) .nil))))) (.cons (.app (.var 5) (.var 7)) .nil)
noncomputable def zr:eU:=
(.cons (.asg 2 (.o8 (.var 1) "bit_length" .nil))
 (.cons (.asg 3 (.call (.glob "_int2digits" (.obj (.ref 59))) (.cons (.var 0) (.cons (.var 2) .nil))))
 (.cons (.asg 4 (.int 0))
 (.cons (.own 5)
 (.cons (.iS 6 (.rev (.var 3)) Tq)
 (.cons (.rev (.var 5))
 (.cons (.asg 8 (.call (.glob "_digits2int" (.obj (.ref 66))) (.cons (.var 5) (.cons (.var 2) .nil))))
 (.cons (.ret (.tup (.cons (.var 8) (.cons (.var 4) .nil))))
 .nil))))))))
theorem zt(P:abe):cg 60 60 (aY (iU P 73).scope mA ax) (cw pw 9).2.1=zr:=∅
noncomputable def ow:eU:=
(.cons (.ifs (.val (.cmp .Eq (.var 1) (.int 0))) (.cons .bad
 .nil) (.cons (.ifs (.val (.cmp .Lt (.var 1) (.int 0))) (.cons (.nx 2 3 (.call (.glob "int_divmod" (.obj (.ref 80))) (.cons (.neg (.var 0)) (.cons (.neg (.var 1)) .nil))))
 (.cons (.ret (.tup (.cons (.var 2) (.cons (.neg (.var 3)) .nil))))
 .nil)) (.cons (.ifs (.val (.cmp .Lt (.var 0) (.int 0))) (.cons (.nx 2 3 (.call (.glob "int_divmod" (.obj (.ref 80))) (.cons (.inv (.var 0)) (.cons (.var 1) .nil))))
 (.cons (.ret (.tup (.cons (.inv (.var 2)) (.cons (.bin .Add (.var 1) (.inv (.var 3))) .nil))))
 .nil)) (.cons (.ret (.call (.glob "_divmod_pos" (.obj (.ref 73))) (.cons (.var 0) (.cons (.var 1) .nil))))
 .nil))
 .nil))
 .nil))
 .nil)
theorem jT(P:abe):cg 60 60 (aY (iU P 80).scope mB ax) (cw pw 10).2.1=ow:=∅
noncomputable def B5:eU:=
(.cons (.asg 1 (.lst (.cons (.int 11010010001) (.cons (.int 31100050110) (.cons (.int 700241350) (.cons (.int 5) (.cons (.int 31100) .nil)))))))
 (.cons (.ret (.comp (.bin .Mod (.bin .Add (.idx (.var 1) (.var 2)) (.call (.glob "sum" (.obj (.builtin "sum"))) (.cons (.ND (.var 0) (.var 2) .none (.int 5)) .nil))) (.bin .Pow (.int 10) (.int 12))) (.kP (.int 5)) .nil))
 .nil))
theorem B6(P:abe):cg 60 60 (aY (iU P 166).scope ot ax) (cw pw 22).2.1=B5:=∅
noncomputable def zu:eU:=
(.cons (.asg 1 (.lst (.cons (.int 173) (.cons (.int 847) (.cons (.int 6150) (.cons (.int 6155) (.cons (.int 6156) (.cons (.int 6157) (.cons (.int 8203) (.cons (.int 8204) (.cons (.int 8205) (.cons (.int 8288) (.cons (.int 65279) .nil)))))))))))))
 (.cons (.ret (.call (.glob "chr" (.obj (.builtin "chr"))) (.cons (.yx (.val (.cmp .Lt (.bin .Mod (.var 0) (.int 27)) (.int 11))) (.idx (.var 1) (.bin .Mod (.var 0) (.int 27))) (.bin .Add (.int 65013) (.bin .Mod (.var 0) (.int 27)))) .nil)))
 .nil))
theorem zv(P:abe):cg 60 60 (aY (iU P 173).scope mD ax) (cw pw 23).2.1=zu:=∅
noncomputable def zx:eU:=
(.cons (.asg 1 (.lst (.cons (.int 172) (.cons (.int 174) (.cons (.int 846) (.cons (.int 848) (.cons (.int 6149) (.cons (.int 6151) (.cons (.int 6154) (.cons (.int 6158) (.cons (.int 8202) (.cons (.int 8206) (.cons (.int 8287) (.cons (.int 8289) (.cons (.int 65023) (.cons (.int 65040) (.cons (.int 65278) (.cons (.int 65280) .nil))))))))))))))))))
 (.cons (.ret (.call (.glob "chr" (.obj (.builtin "chr"))) (.cons (.idx (.var 1) (.bin .Mod (.var 0) (.int 16))) .nil)))
 .nil))
theorem zy(P:abe):cg 60 60 (aY (iU P 180).scope mE ax) (cw pw 24).2.1=zx:=∅
noncomputable def DY:eU:=
(.cons (.asg 2 (.lst (.cons (.int 97) (.cons (.int 65) (.cons (.int 119808) (.cons (.int 119860) (.cons (.int 119912) (.cons (.int 120016) (.cons (.int 120172) (.cons (.int 120224) (.cons (.int 120276) (.cons (.int 120328) (.cons (.int 120380) (.cons (.int 120432) .nil))))))))))))))
 (.cons (.ret (.call (.glob "chr" (.obj (.builtin "chr"))) (.cons (.bin .Sub (.bin .Add (.idx (.var 2) (.bin .Mod (.var 1) (.int 12))) (.call (.glob "ord" (.obj (.builtin "ord"))) (.cons (.var 0) .nil))) (.int 97)) .nil)))
 .nil))
theorem DZ(P:abe):cg 60 60 (aY (iU P 187).scope rH ax) (cw pw 25).2.1=DY:=∅
abbrev Tr:eU:=.cons (.asg 3 (.call (.glob "in_table_b1" (.obj (.ref 115))) (.cons (.var 2) .nil))) (.cons (.ifs (.val (.cmp .Is (.var 3) (.bool false))) (.cons (.aug 1 .Add (.var 2)) .nil) (.cons (.ifs (.val (.cmp .IsNot (.var 3) (.bool true))) (.cons (.aug 1 .Add (.str "?")) .nil) .nil) .nil)) .nil)
noncomputable def D0:eU:=
(.cons (.asg 1 (.str ""))
 (.cons (.iS 2 (.exp (.var 0)) Tr)
 (.cons (.ret (.var 1))
 .nil)))
theorem D1(P:abe):cg 60 60 (aY (iU P 194).scope rI ax) (cw pw 26).2.1=D0:=∅
noncomputable def zz:eU:=
(.cons (.ret (.o8 (.str "") "join" (.cons (.comp (.call (.glob "map_table_b3" (.obj (.ref 161))) (.cons (.var 1) .nil)) (.exp (.var 0)) .nil) .nil)))
 .nil)
theorem zA(P:abe):cg 60 60 (aY (iU P 199).scope mF ax) (cw pw 27).2.1=zz:=∅
abbrev Ts:IE:=.call (.glob "chr" (.obj (.builtin "chr"))) (.cons (.bin .Sub (.call (.glob "ord" (.obj (.builtin "ord"))) (.cons (.idx (.var 0) (.var 5)) .nil)) (.int 32)) .nil)
noncomputable def D2:eU:=
(.cons (.asg 4 (.comp (.yx (.val (.idx (.var 1) (.var 5))) Ts (.idx (.var 0) (.var 5))) (.kP (.int 5)) .nil))
 (.cons (.ret (.o8 (.str "") "join" (.cons (.bin .Add (.bin .Add (.ND (.var 4) .none (.var 2) .none) (.lst (.cons (.var 3) .nil))) (.ND (.var 4) (.var 2) .none .none)) .nil)))
 .nil))
theorem D3(P:abe):cg 60 60 (aY (iU P 214).scope rK ax) (cw pw 30).2.1=D2:=∅
noncomputable def D4:eU:=
(.cons (.ret (.call (.glob "sum" (.obj (.builtin "sum"))) (.cons (.comp (.bin .BitAnd (.bin .RShift (.var 0) (.var 1)) (.int 1)) (.kP (.int 5)) .nil) .nil)))
 .nil)
theorem D5(P:abe):cg 60 60 (aY (iU P 219).scope rL ax) (cw pw 31).2.1=D4:=∅
abbrev WP:eU:=.cons (.aug 3 .Add (.bin .Add (.idx (.var 0) (.var 4)) (.idx (.tup (.cons (.str ⟨#[10]⟩) (.cons (.str ⟨#[13]⟩) (.cons (.str ⟨#[13,10]⟩) .nil)))) (.bin .Mod (.bin .Add (.var 2) (.var 4)) (.int 3))))) .nil
abbrev Tt:IS:=.ifs (.not (.val (.idx (.var 1) (.var 4)))) (.cons (.aug 3 .Add (.call (.glob "_law_hidden" (.obj (.ref 173))) (.cons (.bin .Add (.var 2) (.var 4)) .nil))) .nil) .nil
noncomputable def zB:eU:=
(.cons (.asg 3 (.str ""))
 (.cons (.iS 4 (.kP (.int 5)) (.cons Tt
 WP))
 (.cons (.aug 3 .Add (.bin .Add (.bin .Add (.bin .Add (.bin .Add (.bin .Add (.idx (.var 0) (.int 5)) (.str ⟨#[13]⟩)) (.idx (.var 0) (.int 6))) (.str ⟨#[10]⟩)) (.idx (.var 0) (.int 7))) (.idx (.tup (.cons (.str "") (.cons (.str ⟨#[10]⟩) (.cons (.str ⟨#[13]⟩) (.cons (.str ⟨#[13,10]⟩) .nil))))) (.bin .Mod (.var 2) (.int 4)))))
 (.cons (.ret (.o8 (.call (.glob "_law_kept" (.obj (.ref 194))) (.cons (.call (.glob "quotedata" (.obj (.ref 97))) (.cons (.var 3) .nil)) .nil)) "split" (.cons (.str ⟨#[13,10]⟩) .nil)))
 .nil))))
theorem zC(P:abe):cg 60 60 (aY (iU P 226).scope mH ax) (cw pw 32).2.1=zB:=∅
abbrev abV:IE:=.bin .Add (.bin .Add (.var 4) (.bin .Mult (.lst (.cons (.int 46) .nil)) (.bin .Add (.int 1) (.idx (.var 0) (.var 5))))) (.lst (.cons (.call (.glob "_digits2int" (.obj (.ref 66))) (.cons (.lst (.cons (.int 13) (.cons (.bin .Sub (.call (.glob "ord" (.obj (.builtin "ord"))) (.cons (.idx (.var 1) (.var 5)) .nil)) (.int 64)) .nil))) (.cons (.int 6) .nil))) (.cons (.int 10) .nil)))
noncomputable def HM:eU:=
(.cons (.own 4)
 (.cons (.iS 5 (.kP (.int 5)) (.cons (.asg 4 abV)
 .nil))
 (.cons (.asg 4 (.bin .Add (.bin .Add (.bin .Add (.var 4) (.lst (.cons (.int 13) (.cons (.int 10) .nil)))) (.bin .Mult (.lst (.cons (.int 46) .nil)) (.bin .Add (.int 1) (.var 2)))) (.lst (.cons (.int 13) (.cons (.int 10) .nil)))))
 (.cons (.asg 6 (.call (.glob "ord" (.obj (.builtin "ord"))) (.cons (.var 3) .nil)))
 (.cons (.ret (.bin .Add (.var 4) (.yx (.val (.cmp .Eq (.bin .Mod (.bin .FloorDiv (.var 6) (.int 64)) (.int 2)) (.int 1))) (.lst (.cons (.bin .Add (.bin .Mult (.bin .Mod (.var 6) (.int 64)) (.int 64)) (.int 46)) .nil)) (.lst (.cons (.bin .Mod (.var 6) (.int 64)) (.cons (.int 46) .nil))))))
 .nil)))))
theorem HN(P:abe):cg 60 60 (aY (iU P 233).scope vD ax) (cw pw 33).2.1=HM:=∅
abbrev abW:eU:=.cons (.asg 6 (.bin .Mod (.bin .Mod (.bin .FloorDiv (.idx (.var 1) (.int 2)) (.bin .Pow (.int 10) (.var 3))) (.int 10)) (.int 6))) (.cons (.asg 7 (.call (.glob "_law_kept" (.obj (.ref 194))) (.cons (.bin .Add (.call (.glob "_law_word" (.obj (.ref 214))) (.cons (.var 4) (.cons (.idx (.var 2) (.var 3)) (.cons (.var 6) (.cons (.call (.glob "_law_hidden" (.obj (.ref 173))) (.cons (.bin .Add (.bin .FloorDiv (.idx (.var 1) (.int 2)) (.bin .Pow (.int 10) (.int 5))) (.var 3)) .nil)) .nil))))) (.str ⟨#[13]⟩)) .nil))) (.cons (.asg 8 (.call (.glob "_law_numbers" (.obj (.ref 204))) (.cons (.var 7) .nil))) (.cons (.asg 9 (.call (.glob "_law_numbers" (.obj (.ref 204))) (.cons (.call (.glob "_law_folded" (.obj (.ref 199))) (.cons (.var 7) .nil)) .nil))) (.cons (.ifs (.or (.cons (.val (.cmp .NotEq (.call (.glob "len" (.obj (.builtin "len"))) (.cons (.var 8) .nil)) (.int 1))) (.cons (.val (.cmp .NotEq (.call (.glob "len" (.obj (.builtin "len"))) (.cons (.var 9) .nil)) (.int 1))) (.cons (.val (.cmp .NotEq (.call (.glob "_law_numbers" (.obj (.ref 204))) (.cons (.ND (.var 7) .none (.neg (.int 1)) .none) .nil)) (.lst .nil))) .nil)))) (.cons (.ret (.bool false)) .nil) .nil) (.cons (.ifs (.val (.cmp .NotEq (.call (.glob "_int2digits" (.obj (.ref 59))) (.cons (.idx (.var 9) (.int 0)) (.cons (.int 6) .nil))) (.bin .Add (.lst (.cons (.int 13) .nil)) (.comp (.bin .Sub (.call (.glob "ord" (.obj (.builtin "ord"))) (.cons (.var 34) .nil)) (.int 64)) (.exp (.ND (.var 4) .none .none (.neg (.int 1)))) .nil)))) (.cons (.ret (.bool false)) .nil) .nil) (.cons (.app (.var 5) (.bin .Sub (.idx (.var 9) (.int 0)) (.idx (.var 8) (.int 0)))) .nil))))))
abbrev abX:eU:=.cons (.asg 31 (.yx (.val (.cmp .Eq (.var 29) (.int 1))) (.var 25) (.int 31))) (.cons (.asg 32 (.call (.glob "_int2digits" (.obj (.ref 59))) (.cons (.idx (.var 16) (.var 31)) (.cons (.int 6) .nil)))) (.cons (.ifs (.val (.cmp .NotEq (.call (.glob "len" (.obj (.builtin "len"))) (.cons (.var 32) .nil)) (.int 5))) (.cons (.ret (.bool false)) .nil) .nil) (.cons (.asg 33 (.bin .Add (.call (.glob "_law_due" (.obj (.ref 233))) (.cons (.ND (.var 32) .none .none (.neg (.int 1))) (.cons (.var 4) (.cons (.call (.glob "_law_ones" (.obj (.ref 219))) (.cons (.var 31) .nil)) (.cons (.var 26) .nil))))) (.yx (.val (.cmp .Eq (.bin .Mod (.var 28) (.int 4)) (.int 0))) (.lst .nil) (.lst (.cons (.int 13) (.cons (.int 10) .nil)))))) (.cons (.ifs (.val (.cmp .NotEq (.call (.glob "_law_numbers" (.obj (.ref 204))) (.cons (.call (.glob "_law_folded" (.obj (.ref 199))) (.cons (.o8 (.str ⟨#[13,10]⟩) "join" (.cons (.var 27) .nil)) .nil)) .nil)) (.var 33))) (.cons (.ret (.bool false)) .nil) .nil) .nil))))
abbrev abY:eU:=.cons (.asg 22 (.call (.glob "sum" (.obj (.builtin "sum"))) (.cons (.comp (.bin .Pow (.int 64) (.bin .Sub (.int 4) (.var 34))) (.kP (.int 5)) (.cons (.val (.cmp .Eq (.bin .BitAnd (.bin .RShift (.var 21) (.var 34)) (.int 1)) (.int 1))) .nil)) .nil))) (.cons (.asg 23 (.comp (.var 34) (.kP (.int 32)) (.cons (.val (.cmp .Eq (.bin .BitAnd (.idx (.var 16) (.var 34)) (.var 18)) (.var 22))) .nil))) (.cons (.asg 24 (.comp (.var 34) (.exp (.var 19)) (.cons (.val (.cmp .Eq (.bin .Mod (.call (.glob "_law_ones" (.obj (.ref 219))) (.cons (.bin .BitAnd (.var 34) (.var 21)) .nil)) (.int 2)) (.int 1))) .nil))) (.cons (.ifs (.val (.cmp .NotEq (.call (.glob "len" (.obj (.builtin "len"))) (.cons (.var 23) .nil)) (.yx (.val (.var 24)) (.int 0) (.call (.glob "len" (.obj (.builtin "len"))) (.cons (.var 19) .nil))))) (.cons (.ret (.bool false)) .nil) .nil) (.cons (.app (.var 20) (.var 23)) .nil))))
abbrev WQ:IE:=.bin .Add (.comp (.bin .Add (.str ".") (.call (.glob "_law_form" (.obj (.ref 187))) (.cons (.idx (.var 4) (.var 34)) (.cons (.bin .Mod (.bin .FloorDiv (.idx (.var 1) (.int 1)) (.bin .Pow (.int 100) (.bin .Add (.var 34) (.int 1)))) (.int 100)) .nil)))) (.kP (.int 5)) .nil) (.lst (.cons (.str "") (.cons (.str ".") (.cons (.bin .Add (.var 26) (.str ".")) .nil))))
abbrev abZ:eU:=.cons (.ifs (.val (.cmp .Eq (.bin .BitAnd (.bin .RShift (.var 25) (.var 30)) (.int 1)) (.var 29))) (.cons (.asg 28 (.bin .Add (.bin .FloorDiv (.idx (.var 1) (.int 4)) (.bin .Pow (.int 10) (.int 4))) (.bin .Mult (.int 7) (.var 30)))) (.cons (.asg 27 (.call (.glob "_law_posted" (.obj (.ref 226))) (.cons (.var 27) (.cons (.idx (.var 2) (.var 30)) (.cons (.var 28) .nil))))) (.cons (.ifs (.val (.cmp .NotEq (.call (.glob "len" (.obj (.builtin "len"))) (.cons (.var 27) .nil)) (.yx (.val (.cmp .Eq (.bin .Mod (.var 28) (.int 4)) (.int 0))) (.int 8) (.int 9)))) (.cons (.ret (.bool false)) .nil) .nil) .nil))) .nil) .nil
abbrev ab0:IS:=.asg 14 (.call (.glob "int_divmod" (.obj (.ref 80))) (.cons (.bin .Sub (.bin .Mult (.idx (.var 1) (.int 3)) (.var 11)) (.bin .Mult (.bin .Add (.call (.glob "_digits2int" (.obj (.ref 66))) (.cons (.var 5) (.cons (.var 10) .nil))) (.bin .Mult (.int 2048) (.var 13))) (.var 12))) (.cons (.bin .Mult (.int 2048) (.var 12)) .nil)))
abbrev ab1:IS:=.ifs (.or (.cons (.val (.cmp .NotEq (.var 14) (.tup (.cons (.idx (.var 14) (.int 0)) (.cons (.bin .Mult (.idx (.var 1) (.int 3)) (.var 11)) .nil))))) (.cons (.val (.cmp .NotEq (.call (.glob "len" (.obj (.builtin "len"))) (.cons (.var 15) .nil)) (.int 5))) .nil))) (.cons (.ret (.bool false)) .nil) .nil
abbrev Tv:IS:=.asg 12 (.bin .Mult (.bin .Mult (.bin .Sub (.bin .Add (.bin .Pow (.int 2) (.int 4190)) (.bin .Pow (.int 2) (.int 2090))) (.int 1)) (.bin .Pow (.int 2) (.bin .Mod (.idx (.var 1) (.int 3)) (.int 2)))) (.var 11))
abbrev Tw:IS:=.asg 4 (.comp (.call (.glob "chr" (.obj (.builtin "chr"))) (.cons (.bin .Add (.bin .Add (.int 97) (.bin .Mod (.bin .Mod (.idx (.var 1) (.int 1)) (.int 100)) (.int 22))) (.var 34)) .nil)) (.kP (.int 5)) .nil)
abbrev Tx:IS:=.asg 18 (.call (.glob "_digits2int" (.obj (.ref 66))) (.cons (.lst (.cons (.int 1) (.cons (.int 1) (.cons (.int 1) (.cons (.int 1) (.cons (.int 1) .nil)))))) (.cons (.int 6) .nil)))
abbrev Tz:IS:=.asg 25 (.idx (.idx (.var 20) (.int 0)) (.bin .Mod (.idx (.var 1) (.int 3)) (.call (.glob "len" (.obj (.builtin "len"))) (.cons (.idx (.var 20) (.int 0)) .nil))))
abbrev TA:IS:=.asg 26 (.call (.glob "_law_beside" (.obj (.ref 180))) (.cons (.bin .FloorDiv (.idx (.var 1) (.int 2)) (.bin .Pow (.int 10) (.int 8))) .nil))
abbrev TB:IS:=.asg 15 (.call (.glob "_int2digits" (.obj (.ref 59))) (.cons (.bin .Sub (.neg (.idx (.var 14) (.int 0))) (.var 13)) (.cons (.var 10) .nil)))
abbrev TC:IS:=.asg 19 (.comp (.var 34) (.kP (.int 32)) (.cons (.val (.cmp .Eq (.bin .BitAnd (.idx (.var 16) (.var 34)) (.var 18)) (.int 0))) .nil))
abbrev TD:IE:=.tup (.cons (.int 31) (.cons (.bin .Mod (.bin .FloorDiv (.idx (.var 1) (.int 0)) (.bin .Pow (.int 10) (.int 10))) (.int 32)) .nil))
abbrev TE:IS:=.asg 13 (.bin .Sub (.bin .Add (.bin .Pow (.int 2) (.int 4105)) (.bin .Pow (.int 2) (.int 2102))) (.bin .Pow (.int 2) (.int 2080)))
abbrev TF:IS:=.asg 11 (.bin .Sub (.int 1) (.bin .Mult (.bin .Mod (.bin .FloorDiv (.idx (.var 1) (.int 3)) (.int 2)) (.int 2)) (.int 2)))
abbrev TG:IS:=.asg 10 (.bin .Add (.int 40) (.bin .Mod (.bin .Mod (.idx (.var 1) (.int 4)) (.bin .Pow (.int 10) (.int 4))) (.int 1300)))
abbrev TH:eU:=.cons (.asg 16 (.bin .Add (.var 16) (.comp (.bin .Add (.var 34) (.var 17)) (.exp (.var 16)) .nil))) .nil
abbrev TJ:IS:=.ifs (.val (.cmp .Eq (.idx (.var 20) (.int 0)) (.lst .nil))) (.cons (.ret (.bool false)) .nil) .nil
noncomputable def TK:eU:=
(.cons (.asg 1 (.call (.glob "_law_heaps" (.obj (.ref 166))) (.cons (.var 0) .nil)))
 (.cons (.asg 2 (.call (.glob "_law_knows" (.obj (.ref 209))) (.cons (.idx (.var 1) (.int 0)) .nil)))
 (.cons Tw
 (.cons (.own 5)
 (.cons (.iS 3 (.kP (.int 5)) abW)
 (.cons TG
 (.cons TF
 (.cons Tv
 (.cons TE
 (.cons ab0
 (.cons TB
 (.cons ab1
 (.cons (.asg 16 (.lst (.cons (.int 0) .nil)))
 (.cons (.iS 17 (.exp (.var 15)) TH)
 (.cons Tx
 (.cons TC
 (.cons (.own 20)
 (.cons (.iS 21 (.exp TD) abY)
 (.cons TJ
 (.cons Tz
 (.cons TA
 (.cons (.asg 27 WQ)
 (.cons (.asg 28 (.bin .FloorDiv (.idx (.var 1) (.int 4)) (.bin .Pow (.int 10) (.int 4))))
 (.cons (.iS 29 (.exp (.tup (.cons (.int 1) (.cons (.int 0) .nil)))) (.cons (.iS 30 (.kP (.int 5)) abZ)
 abX))
 (.cons (.ret (.bool true))
 .nil)))))))))))))))))))))))))
theorem ab2(P:abe):cg 60 60 (aY (iU P 238).scope L7 ax) (cw pw 34).2.1=TK:=∅
section
variable{prog:aaq}{w:acb}{d:Nat}{P:abe}
theorem pvT(P:abe):pq (aY (iU P 38).scope j6 ax) (cw pw 2).2.1:=
 .mk "b" "iterator" "val" _ _ _ _ _ _ _ _ _ _ _ _ _ _ _ _ _ _ _ _ _ _ _ _ _ _ _ _ _ _ _ _ _ ∅ ∅ ∅ ∅ ∅ ∅
noncomputable abbrev nmN(P:abe):NI:=aY (iU P 204).scope k8 ax
theorem afD(P:abe):∃comp kP,NumText (nmN P) 38 comp kP (cw pw 28).2.1∧dT 60 (nmN P) comp=some (.comp (.call (.glob "ord" (.obj (.builtin "ord"))) (.cons (.var 4) .nil)) (.exp (.var 0)) .nil)∧
 uw 60 (nmN P) kP=some (.kP (.bin .Add (.call (.glob "len" (.obj (.builtin "len"))) (.cons (.var 0) .nil)) (.int 1)))∧dM kP=true∧ct [comp]:=
 ⟨_,_,.mk "tape" "numbers" "turn" "_parse_varint" _ _ _ _ _ _ _ _ _ _ _ _ _ _ _ _ _ _ _ _ _ _ _ ∅ ∅ ∅ ∅ ∅ ∅ ∅ ∅ ∅,
  by kernel_rfl,∅,∅,λ e he y q=>by simp at he;subst he;exact λ h=>by cases h⟩
noncomputable def L8(h:ac2)(c P:abh):Bool:=(h.get? c).any λ o=>(X7 o.cls).any λ n=>(L4 o.data).any λ vs=>
 n=="code"&&(((vs[11]?:Option aas)).any λ u=>(L3 u).any λ q=>WL (vs.getD 18 .none)&&(WM (vs.getD 7 .none)&&(Tk (vs.getD 9 .none)&&(WM (vs.getD 10 .none)&&(q==P&&c !=P)))))
theorem P2{h:ac2}{c P:abh}(x:L8 h c P=true):CodeHd h c P:=by
 refine eO x λ o ho x=>eO x λ n hc x=>eO x λ vs hd x=>fF x λ x1 x=>eO x λ u e1 x=>eO x λ q hq x=>fF x λ y1 x=>fF x λ y2 x=>fF x λ y3 x=>fF x λ y4 x=>fF x λ x2 x3=>?_
 rw [eq_of_beq x1] at hc
 rw [tP hq,eq_of_beq x2] at e1
 refine Yd (FT y1) λ f tf e2=>?_
 refine Yd (FU y2) λ fl tg e3=>?_
 refine cL (L5 y3) λ inF e4=>?_
 refine Yd (FU y4) λ tx tt e5=>?_
 exact ⟨o,vs,f,tf,fl,tg,inF,tx,tt,ho,vv hc,tT hd,e1,Array.getD_eq_getD_getElem?.trans (congrArg (λ z:Option aas=>z.getD .none) e1),e2,e3,e4,e5,bne_iff_ne.mp x3⟩
noncomputable def L9:Data->Bool
 | .plain=>true
 | _=>false
theorem HO{d:Data}(h:L9 d=true):d=.plain:=by
 cases d with
 | plain=>rfl
 | _=>exact e8 h
noncomputable def ab3(h:ac2)(bm:abh):Bool:=(h.get? bm).any λ o=>(X7 o.cls).any λ n=>o.dict.any λ b=>n=="module"&&(b==builtinsNs&&L9 o.data)
theorem xq{P:abe}{fd:aei}{c p:abh}(hc:fd.code=.ref c)(hh:L8 (ej P) c p=true)(hg:fd.globals=mainGlobals)(hp:p=54∨p=61):za (ej P) fd p:=by
 refine ⟨⟨c,hc,P2 hh⟩,hg,_,.of_isNs (ns3 P),4,?_⟩
 refine eO (show ab3 (ej P) 4=true by kernel_rfl) λ o ho x=>eO x λ n h1 x=>eO x λ b h2 x=>fF x λ e1 x=>fF x λ e2 h3=>?_
 rw [eq_of_beq e1] at h1
 rw [eq_of_beq e2] at h2
 refine ⟨o,∅,⋯,⋯,?_,ho,vv h1,h2,HO h3⟩
 rcases hp with rfl | rfl <;> decide
theorem Ma:aT[0]∈aT:=by simp [aT]
theorem Mb:aT[1]∈aT:=by simp [aT]
theorem fB{α:Type}{p:α->Prop}{l:List α}{f:α->Bool}(h:∀x,f x=true->p x)(x:l.all f=true):∀y∈l,p y:=λ y hy=>h y (acP.mp x y hy)
theorem WR{a n m:Int}{res:List Int}{k:Nat}(hk:k≤40)(hmv:bj gK (.bin .FloorDiv (.bin .Sub (.bin .Add (.o8 (.var 0) "bit_length" .nil) (.var 1)) (.int 1)) (.var 1)) ⟨[some (.int a),some (.int n),none,none],[]⟩=some (.int m))
(hm0:0≤m)(NS:m≤2 ^ 20)(jN:(if a≠0 then K6 n k a 0 m (aau m.toNat 0) else some (aau m.toNat 0))=some res):
 uz prog w (d+1) (ej P) (.ref 59) [.int a,.int n] (.lst (res.map .int)):=
 PF (t:=aT[0]) (ke:=60) (oo P) (rF P) (.mk _ _ _ _ _ _ _ _ _)
  ⟨Ma,⋯,rfl,rfl,λ V=>rfl,λ V=>rfl,∅⟩ (xq (c:=58) ∅ ∅ ∅ (.inl rfl)) ∅ ∅ ∅
  (fB (f:=λ x=>x.2 !=.free||(["n","a_digits","inner"]:List Str).contains x.1) (λ x h e=>by rw [e] at h;simpa using h) ∅)
  (fB (λ x=>of_decide_eq_true) ∅)
  (λ og doc pm sf c'=>⟨⟨∅,∅,∅,fB (λ x=>of_decide_eq_true) ∅,fB (λ x=>of_decide_eq_true) ∅,fB (λ x=>of_decide_eq_true) ∅⟩,.mk _ _ _ _ _ _ _ _ _ _ _ _ _ _ _ _ _ _ _ _ _ _ _ _ _ _ _ _ _ _ _ _ _ _ _ _ _ _ _ _ _ _ _ _ _ _ _ _ _ _ _ _,λ a b c=>∅⟩)
  (X3:=.lst (.cons (.int 0) .nil)) ∅ rfl ∅ hmv (it:=.val (.var 0)) ∅ (λ x y o=>rfl)
  (ies:=.cons (.var 0) (.cons (.int 0) (.cons (.call (.glob "len" (.obj (.builtin "len"))) (.cons (.var 2) .nil)) .nil))) ∅ (λ y=>by
   have e:((aau m.toNat (AV.int 0)).length:Int)=m:=by erw [adp];exact afn hm0
   refine ae rfl (ae rfl (ae (aA rfl (ae rfl ak) ?_) ak))
   erw [←e]
   have h2:((aau m.toNat (AV.int 0)).length:Int) < 2 ^ 62:=by erw [e];exact %[a⊂(qL 2 62),a⊆(qL 2 20)|fZ NS]
   erw [(show (((aau m.toNat (AV.int 0)).length:Int).toNat)=m.toNat by erw [e,rfl])]
   exact xm rfl (decide_eq_true h2)) (alu _ _) hm0 NS hk jN
theorem WT{n res:Int}{zs:List Int}{k:Nat}(hk:k≤40)(hz:zs.length < 2 ^ 62)(jN:(if zs.length≠0 then Lq n zs k 0 zs.length else some 0)=some res):
 uz prog w (d+1) (ej P) (.ref 66) [.bor (zs.map .int),.int n] (.int res):=
 PH (t:=aT[1]) (ke:=60) (oq P) (rF P) (.mk _ _ _ _)
  ⟨Mb,⋯,rfl,rfl,λ V=>rfl,λ V=>rfl,∅⟩ (xq (c:=65) ∅ ∅ ∅ (.inr rfl)) ∅ ∅ ∅
  (fB (f:=λ x=>x.2 !=.free||(["digits","n","inner"]:List Str).contains x.1) (λ x h e=>by rw [e] at h;simpa using h) ∅)
  (fB (λ x=>of_decide_eq_true) ∅)
  (λ og doc pm sf c'=>⟨⟨∅,∅,∅,fB (λ x=>of_decide_eq_true) ∅,fB (λ x=>of_decide_eq_true) ∅,fB (λ x=>of_decide_eq_true) ∅⟩,.mk _ _ _ _ _ _ _ _ _ _ _ _ _ _ _ _ _ _ _ _ _ _ _ _ _ _ _ _ _ _ _ _ _ _ _ _ _ _,λ a b=>∅⟩)
  (X3:=.int 0) ∅ (λ y o=>rfl) (it:=.val (.var 0)) ∅ (λ y o=>by
   refine tM rfl ?_
   show (if (zs.map AV.int).length < 2 ^ 62 then some ((zs.map AV.int).length !=0) else none)=_
   erw [aar ..,if_pos hz,rfl])
  (ies:=.cons (.int 0) (.cons (.call (.glob "len" (.obj (.builtin "len"))) (.cons (.var 0) .nil)) .nil)) ∅ (λ y o=>by
   refine ae rfl (ae (aA rfl (ae rfl ak) ?_) ak)
   have e:((zs.map AV.int).length:Int)=zs.length:=by erw [aar ..,rfl]
   erw [←e]
   have h2:((zs.map AV.int).length:Int) < 2 ^ 62:=by erw [e];exact %[(qC a)⊂(qL 2 62),a<(qL 2 62)|aV hz]
   exact xm rfl (decide_eq_true h2)) (alu _ _) hk jN
open PySem.Builtin.Re in
noncomputable def Md(h:ac2)(p:abh)(code:Array Nat):Bool:=(h.get? p).any λ o=>(X7 o.cls).any λ n=>(L4 o.data).any λ fs=>o.dict.isNone&&(n=="re.Pattern"&&(reRawNat (fs.getD 2 .none)==0&&(reRawNat (fs.getD 6 .none)==0&&
 ((L3 (fs.getD 5 .none)).any λ c=>(h.get? c).any λ oc=>(abS oc.data).any λ its=>((its.map reRawOf).map (·.toNat)).toList==code.toList))))
open PySem.Builtin.Re in
theorem zE{h:ac2}{p:abh}{code:Array Nat}(x:Md h p code=true):jd h p code∧∃o,h.get? p=some o∧o.dict=none:=by
 refine eO x λ o ho x=>eO x λ n h1 x=>eO x λ fs h3 x=>fF x λ h2 x=>fF x λ x1 x=>fF x λ x2 x=>fF x λ x3 x=>eO x λ c hc x=>eO x λ oc hoc x=>eO x λ its hd x=>?_
 rw [eq_of_beq x1] at h1
 obtain ⟨e,hd⟩:=P0 hd
 exact ⟨⟨o,fs,c,oc,its,e,ho,vv h1,tT h3,eq_of_beq x2,eq_of_beq x3,tP hc,hoc,hd,afW.mp (eq_of_beq x)⟩,o,ho,ajz.mp h2⟩
theorem ab4(P:abe):Md (ej P) 85 rA=true:=∅
theorem ab5(P:abe):Md (ej P) 90 gf=true:=∅
theorem Mf{x:Str}(hx:x.cps.size≤1000000)(GL:(kZ x).cps.size≤1000000):uz prog w (d+1) (ej P) (.ref 97) [.str x] (.str (sg (kZ x))):=
 HH (q1:=85) (q2:=90) (rG P) (rF P) ⟨⟨_,_,_,_,_,_,_,_,_,_,_,rfl,∅,∅⟩,∅,∅,∅,∅,(zE (ab4 P)).1,(zE (ab5 P)).1,(zE (ab4 P)).2,(zE (ab5 P)).2⟩ hx GL
theorem D6(hl:x.cps.toList.length < 2 ^ 20)(jN:pB (x.cps.toList.length+1) (x.cps.toList.map λ(c:Nat)=>(c:Int))=some res):
 uz prog w (d+2) (ej P) (.ref 204) [.str x] (.lst (res.map .int)):=by
 (refine cL (afD P) λ comp dL=>?_;refine cL dL λ kP eZ=>?_;have NT:=eZ.1;have h1:=eZ.2.1;have h2:=eZ.2.2.1;have h3:=eZ.2.2.2.1;have h4:=eZ.2.2.2.2;clear eZ dL)
 have hz:(x.cps.toList.map λ(c:Nat)=>(c:Int)).length=x.cps.toList.length:=aar _
 refine Bg (ke:=60) (mG P) NT (vw P) (pvT P) (rF P) h1 h2 h3 h4 (zs:=x.cps.toList.map λ(c:Nat)=>(c:Int)) ?_ (λ I=>⟨bI 0 (x.cps.toList.length+1:Int),?_,?_⟩) ?_ (by erw [hz];exact jN)
 · have e:(x.cps.toList.map λ(c:Nat)=>(c:Int)).map AV.int=(x.cps.toList.map λ c=>AV.str ⟨#[c]⟩).map (λ v=>match v with | .str s=>.int (s.cps.getD 0 0:Nat) | _=>.none):=by
    erw [ade,ade];rfl
   erw [e]
   refine jR (oj rfl rfl) (λ y hy=>?_) (decide_eq_true ?_)
   · (refine bF (adb.mp hy) λ c _ cB=>?_;obtain rfl:=cB)
     exact aA rfl (ae rfl ak) (xl rfl)
   · erw [aar ..]
     exact ae4 (aaY hl ⋯)
 · refine lT (i:=(x.cps.toList.length+1:Int)) (ah (aA rfl (ae rfl ak) (WK (decide_eq_true ?_))) rfl ?_) (decide_eq_true ?_)
   · show ((x.cps.size:Nat):Int) < 2 ^ 62
     have:x.cps.size=x.cps.toList.length:=rfl
     erw [this];exact %[(qC a)⊂(qL 2 62),a<(qL 2 20)|aV hl]
   · exact fO
   · exact %[bG ((qG (qL 2 20))⊆(qC a)+1) ((qC a)⊂(qL 2 20)),a<(qL 2 20)|aV hl]
 · show _ < ((abD ((x.cps.toList.length+1:Int) - 0).toNat).map _).length
   erw [hz,aar ..,agE];exact %[a<b,qD 4 b ((qC a)+1-0) (0)|aU rfl]
 · erw [hz]
   exact aaY hl ⋯
noncomputable def cJ:List Int:=[65024,65025,65026,65027,65028,65029,6150,65030,65031,65032,65033,6155,6156,6157,8203,8204,8205,65034,65035,65036,65037,65038,65039,173,847,8288,65279]
noncomputable def iV(v:aas):Option Int:=match v with
 | .int i _=>some i
 | _=>none
noncomputable def ab6:Data->Option (Array (Int×aas)×Nat×SetTable)
 | .set es ep t=>some (es,ep,t)
 | _=>none
theorem P4{d:Data}{p:Array (Int×aas)×Nat×SetTable}(h:ab6 d=some p):d=.set p.1 p.2.1 p.2.2:=by
 cases d with
 | set a b c=>erw [←aam h,rfl]
 | _=>exact aw h
noncomputable def TL(h:ac2)(a:abh)(codes:List Int):Bool:=(h.get? a).any λ o=>(X7 o.cls).any λ n=>(ab6 o.data).any λ p=>o.dict.isNone&&(n=="set"&&(o.slots.size==0&&
 ((p.1.toList.all λ e=>(iV e.2).any λ i=>e.1==hashInt i)&&(p.1.toList.map (λ e=>iV e.2)==codes.map some&&(decide (p.1.size < scanBound)&&p.2.2.fits p.1.size)))))
theorem B7(h:iV v=some i):∃t,v=.int i t:=by
 cases v with
 | int j t=>cases h;exact ⟨t,rfl⟩
 | _=>exact oR h
theorem fg:agX i v=true↔iV v=some i:=by
 cases v with
 | int j t=>exact (beq_iff_eq (a:=j) (b:=i)).trans (by show _↔some j=some i;simp)
 | _=>exact ⟨λ h=>(by exact e8 h),λ h=>(by exact aw h)⟩
theorem WU(x:TL h a codes=true):h.SetOf (ag9 prog w) a (λ i=>codes.contains i) codes.length:=by
 refine eO x λ o ho x=>eO x λ n h1 x=>eO x λ p h3 x=>fF x λ h2 x=>fF x λ x1 x=>fF x λ x2 x=>fF x λ x3 x=>fF x λ x4 x=>fF x λ x5 x6=>?_
 rw [eq_of_beq x1] at h1
 have e4:=eq_of_beq x4
 have hl:p.1.size=codes.length:=by
  have:=congrArg ae3 e4
  rwa [aar,aar] at this
 refine ⟨o,p.1,p.2.1,p.2.2,ho,⟨vv h1,ajz.mp h2,Array.eq_empty_of_size_eq_zero (eq_of_beq x2)⟩,P4 h3,λ e he=>?_,λ k=>?_,of_decide_eq_true x5,x6,hl⟩
 · refine eO (acP.mp x3 e he) λ i hk q=>?_
   refine cL (B7 hk) λ tk ht=>?_
   exact ⟨⟨i,fg.mpr hk,eq_of_beq q⟩,by erw [ht];rfl⟩
 · have hm:k∈codes↔some k∈p.1.toList.map λ e=>iV e.2:=by erw [e4];simp
   rw [ahk,hm,adb]
   exact ⟨λ⟨e,he,hk⟩=>⟨e,he,fg.mpr hk⟩,λ⟨e,he,hk⟩=>⟨e,he,fg.mp hk⟩⟩
theorem ab7(hx:x.length=1):uz prog w (d+1) (ej P) (.ref 115) [.str x] (.bool (cJ.contains (x.cps.getD 0 0:Nat))):=
 WC (S:=λ i=>cJ.contains i) (ke:=60) (a:=105) (mC P) (rF P) ⟨⟨_,_,_,_,rfl,∅⟩,∅⟩ (WU (show TL (ej P) 105 cJ=true by kernel_rfl)) hx
noncomputable def mI(i:Int):Option Str:=match ak8 agX jA.toArray i with
 | some (.str s _)=>some s
 | _=>none
noncomputable def ab8(e:aeS):Bool:=WL e.val&&(iV e.key).any λ i=>e.hash==hashInt i
theorem FV:jA.all ab8=true:=∅
theorem ab9(P:abe):(ej P).get? 116=some {cls:=.type "dict",data:=.dict jA.toArray 650}:=∅
theorem WV(P:abe):(ej P).MapOf (ag9 prog w) 116 (ak8 agX jA.toArray):=by
 refine ⟨_,_,_,ab9 P,⟨rfl,rfl,rfl⟩,rfl,λ e he=>?_,λ k=>rfl⟩
 have:=acP.mp FV e (by simpa using he)
 exact fF this λ V x=>eO x λ i hk x=>⟨i,fg.mpr hk,eq_of_beq x⟩
theorem HQ(i:Int)(n:Nat)(g:Gh):RelV n g (xi (mI i)) ((ak8 agX jA.toArray i).getD .none):=by
 unfold mI
 cases h:ak8 agX jA.toArray i with
 | none=>exact .none
 | some v=>
   skip
   refine bS h λ e he cB=>?_
   obtain rfl:=cB
   refine fF (acP.mp FV e (by simpa using Array.mem_of_find?_eq_some he)) λ x V=>?_
   refine Yd (FT x) λ s t hv=>?_
   show RelV n g (xi (match some e.val with | some (.str s _)=>some s | _=>none)) e.val
   erw [hv];exact .str _ _
theorem aca(hx:x.length=1):uz prog w (d+1) (ej P) (.ref 161) [.str x] (.str ((mI (x.cps.getD 0 0:Nat)).getD (aeX x))):=
 WG (ke:=60) (k:=60) (a:=116) (k5 P) (rF P) ⟨⟨_,_,_,_,_,_,_,rfl,∅,∅,(λ e he y q=>by simp at he;subst he;exact λ h=>by cases h),∅⟩,∅,∅⟩ (WV P) ⋯ HQ hx
end
section
variable{prog:aaq}{w:acb}{d:Nat}{P:abe}
theorem ay(h:f x σ=some (σ',none))(hl:uM f l σ'=o):uM f (x::l) σ=o:=by
 show eK (f x σ) (uM f l)=_
 erw [h];exact hl
theorem cR:uM f [] σ=some (σ,none):=rfl
noncomputable def mat(b0 b1 b2 b3 b4 b5 b6 b7 b8 b9:Bool):List (List AV):=
 [[.bool true,.bool b0,.bool b1,.bool b2,.bool b3],[.bool b0,.bool true,.bool b4,.bool b5,.bool b6],[.bool b1,.bool b4,.bool true,.bool b7,.bool b8],
  [.bool b2,.bool b5,.bool b7,.bool true,.bool b9],[.bool b3,.bool b6,.bool b8,.bool b9,.bool true]]
noncomputable def kz(z:Int):Nat->Int
 | 0=>z
 | m+1=>(kz z m).fdiv 10
noncomputable def kb(z:Int)(m:Nat):Bool:=(kz z m).fmod 2==1
noncomputable def B8(rows:List (List AV))(i j:Nat):List (List AV):=
 let r1:=rows.set i ((rows[i]?.getD []).set j (.bool true))
 r1.set j ((r1[j]?.getD []).set i (.bool true))
noncomputable def eX:List AV:=(abD 5).map λ i=>.own i
noncomputable abbrev D7:eU:=(.cons (.ifs (.val (.cmp .Eq (.bin .Mod (.var 0) (.int 2)) (.int 1))) (.cons (.set (.idx (.var 3) (.var 1)) (.var 2) (.bool true)) (.cons (.set (.idx (.var 3) (.var 2)) (.var 1) (.bool true)) .nil)) .nil) (.cons (.aug 0 .FloorDiv (.int 10)) .nil))
noncomputable abbrev Mg:eU:=(.cons (.iS 1 (.kP (.int 5)) (.cons (.iS 2 (.Jq (.bin .Add (.var 1) (.int 1)) (.int 5)) D7) .nil)) (.cons (.ret (.var 3)) .nil))
noncomputable abbrev nmK(P:abe):NI:=aY (iU P 209).scope ou ax
theorem TN(hx:bj RF e σ=some x)(ho:bj RF o σ=some (.own m))(hk:bj RF k σ=some (.int z))(hm:σ.own[m]?=some xs)(hz:0≤z∧z < xs.length∧z < 2 ^ 62):
 AK RF n (.set o k e) σ=some (σ.dk m (xs.set z.toNat x),none):=by
 show ((bj RF e σ).bind λ x=>(bj RF o σ).bind λ ov=>(bj RF k σ).bind λ kv=>match ov,kv with
  | .own m,.int z=>σ.own[m]?.bind λ xs=>if 0≤z∧z < xs.length∧z < 2 ^ 62 then some (σ.dk m (xs.set z.toNat x),none) else none
  | _,_=>none)=_
 erw [hx,ho,hk]
 show (σ.own[m]?.bind λ xs=>if 0≤z∧z < xs.length∧z < 2 ^ 62 then some (σ.dk m (xs.set z.toNat x),none) else none)=_
 erw [hm,aaT ..,if_pos hz,rfl]
theorem P5{n:Nat}{z:Int}{i j:Nat}(hi:i < 5)(hj:j < 5)(yw:i≠j){r0 r1 r2 r3 r4:List AV}(hl:∀r∈[r0,r1,r2,r3,r4],r.length=5):
 bK gK n D7 ⟨[some (.int z),some (.int i),some (.int j),some (.own 5)],[r0,r1,r2,r3,r4]++[eX]⟩=
  some (⟨[some (.int (z.fdiv 10)),some (.int i),some (.int j),some (.own 5)],(if z.fmod 2==1 then B8 [r0,r1,r2,r3,r4] i j else [r0,r1,r2,r3,r4])++[eX]⟩,none):=by
 have hb:∀rows:List (List AV),bK gK n (.cons (.aug 0 .FloorDiv (.int 10)) .nil) ⟨[some (.int z),some (.int i),some (.int j),some (.own 5)],rows++[eX]⟩=some (⟨[some (.int (z.fdiv 10)),some (.int i),some (.int j),some (.own 5)],rows++[eX]⟩,none):=λ rows=>
  ao (Ho (x:=.int z) (y:=.int 10) rfl rfl rfl) bQ
 have hgi:∀(a:Nat) (rows:List (List AV)),a < 5->rows.length=5->nR ⟨[some (.int z),some (.int i),some (.int j),some (.own 5)],rows++[eX]⟩ (.own 5) (.int a)=some (.own a):=λ a rows ha hr=>by
  refine df (xs:=eX) ?_ %[bG (0⊆(qC a)) ((qC a)⊂(qL 2 62)),a<5|(aV ha)] ?_
  · show (rows++[eX])[5]?=_
    rw [ahM %[a≤5,a=5|(aV hr)],hr];rfl
  · show ((abD 5).map AV.own)[((a:Nat):Int).toNat]?=_
    rw [aaV,adk,akK ha];rfl
 have cM:[r0,r1,r2,r3,r4].length=5:=rfl
 generalize hR:[r0,r1,r2,r3,r4]=R at hl cM
 refine ao (σ':=⟨[some (.int z),some (.int i),some (.int j),some (.own 5)],(if z.fmod 2==1 then B8 R i j else R)++[eX]⟩) ?_ (hb _)
 refine ec (p:=z.fmod 2==1) (aG (bq (ah rfl rfl (j4 rfl)) rfl rfl)) ?_
 cases z.fmod 2==1 with
 | false=>exact bQ
 | true=>
   have hi5:i < R.length:=%[a<b,a<5,b=5|(aU hi cM)]
   have hj5:j < R.length:=%[a<b,a<5,b=5|(aU hj cM)]
   have hR1:(R.set i (R[i].set j (.bool true))).length=5:=by rw [List.length_set];exact cM
   refine ao (σ':=⟨[some (.int z),some (.int i),some (.int j),some (.own 5)],R.set i (R[i].set j (.bool true))++[eX]⟩) ?_ (ao (σ':=⟨[some (.int z),some (.int i),some (.int j),some (.own 5)],B8 R i j++[eX]⟩) ?_ bQ)
   · refine (TN (m:=i) (z:=j) (xs:=R[i]) rfl (bt rfl rfl (hgi i R hi cM)) rfl ?_ ?_).trans ?_
     · show (R++[eX])[i]?=_
       rw [acO hi5,aaF hi5]
     · have:=hl R[i] (afa hi5);exact %[bG (0⊆(qC a)) (bG ((qC a)⊂(qC b)) ((qC a)⊂(qL 2 62))),a<5,b=5|aU hj this]
     · show some ((⟨_,(R++[eX]).set i (R[i].set (j:Int).toNat (.bool true))⟩ :bB),none)=_
       rw [aaV,aky _ _ hi5]
   · have hx:(R.set i (R[i].set j (.bool true)))[j]?=some R[j]:=by
      rw [ahu yw,aaF hj5]
     have hj6:j < (R.set i (R[i].set j (.bool true))).length:=%[a<b,a<5,b=5|(aU hj hR1)]
     refine (TN (m:=j) (z:=i) (xs:=R[j]) rfl (bt rfl rfl (hgi j _ hj hR1)) rfl ?_ ?_).trans ?_
     · show (R.set i (R[i].set j (.bool true))++[eX])[j]?=_
       rw [acO hj6,hx]
     · have:=hl R[j] (afa hj5);exact %[bG (0⊆(qC a)) (bG ((qC a)⊂(qC b)) ((qC a)⊂(qL 2 62))),a<5,b=5|aU hi this]
     · show some ((⟨_,(R.set i (R[i].set j (.bool true))++[eX]).set j (R[j].set (i:Int).toNat (.bool true))⟩ :bB),none)=_
       rw [aaV,aky _ _ hj6]
       unfold B8
       simp only [aaF hi5,afu,hx]
theorem fC{n:Nat}{z:Int}{i j:Nat}(hi:i < 5)(hj:j < 5)(yw:i≠j){b0 b1 b2 b3 b4 b5 b6 b7 b8 b9 c0 c1 c2 c3 c4 c5 c6 c7 c8 c9:Bool}
(h:(if z.fmod 2==1 then B8 (mat b0 b1 b2 b3 b4 b5 b6 b7 b8 b9) i j else mat b0 b1 b2 b3 b4 b5 b6 b7 b8 b9)=mat c0 c1 c2 c3 c4 c5 c6 c7 c8 c9):
 bK gK n D7 ⟨[some (.int z),some (.int i),some (.int j),some (.own 5)],mat b0 b1 b2 b3 b4 b5 b6 b7 b8 b9++[eX]⟩=
  some (⟨[some (.int (z.fdiv 10)),some (.int i),some (.int j),some (.own 5)],mat c0 c1 c2 c3 c4 c5 c6 c7 c8 c9++[eX]⟩,none):=by
 erw [←h]
 exact P5 hi hj yw (by intro r hr;simp at hr;rcases hr with rfl | rfl | rfl | rfl | rfl <;> rfl)
theorem P6:bK gK n Mg ⟨[some (.int z),none,none,some (.own 5)],mat false false false false false false false false false false++[eX]⟩=
 some (⟨[some (.int (kz z 10)),some (.int 4),some (.int 4),some (.own 5)],mat (kb z 0) (kb z 1) (kb z 2) (kb z 3) (kb z 4) (kb z 5) (kb z 6) (kb z 7) (kb z 8) (kb z 9)++[eX]⟩,some (.own 5)):=by
 have inner:∀{i:Int} {z:Int} {v:Option AV} {own:List (List AV)},decide (-(2 ^ 20)≤i+1∧i+1≤2 ^ 20)=true->wj gK (.Jq (.bin .Add (.var 1) (.int 1)) (.int 5)) ⟨[some (.int z),some (.int i),v,some (.own 5)],own⟩=some (bI (i+1) 5):=λ{i z v own} h=>by
  show (if -(2 ^ 20)≤i+1∧i+1≤2 ^ 20∧ -(2 ^ 20)≤(5:Int)∧(5:Int)≤2 ^ 20 then some (bI (i+1) 5) else none)=_
  have h2:=of_decide_eq_true h
  erw [if_pos ⟨h2.1,h2.2,⋯,⋯⟩,rfl]
 refine ao (gP (lT rfl ⋯) ?_) (bE (eh rfl))
 refine ay (ao (gP (inner rfl) (ay (fC (i:=0) (j:=1) (z:=kz z 0) (c0:=kb z 0) (c1:=false) (c2:=false) (c3:=false) (c4:=false) (c5:=false) (c6:=false) (c7:=false) (c8:=false) (c9:=false) ⋯ ⋯ ⋯ (by show (if kb z 0=true then _ else _)=_;cases kb z 0 <;> rfl)) (ay (fC (i:=0) (j:=2) (z:=kz z 1) (c0:=kb z 0) (c1:=kb z 1) (c2:=false) (c3:=false) (c4:=false) (c5:=false) (c6:=false) (c7:=false) (c8:=false) (c9:=false) ⋯ ⋯ ⋯ (by show (if kb z 1=true then _ else _)=_;cases kb z 1 <;> rfl)) (ay (fC (i:=0) (j:=3) (z:=kz z 2) (c0:=kb z 0) (c1:=kb z 1) (c2:=kb z 2) (c3:=false) (c4:=false) (c5:=false) (c6:=false) (c7:=false) (c8:=false) (c9:=false) ⋯ ⋯ ⋯ (by show (if kb z 2=true then _ else _)=_;cases kb z 2 <;> rfl)) (ay (fC (i:=0) (j:=4) (z:=kz z 3) (c0:=kb z 0) (c1:=kb z 1) (c2:=kb z 2) (c3:=kb z 3) (c4:=false) (c5:=false) (c6:=false) (c7:=false) (c8:=false) (c9:=false) ⋯ ⋯ ⋯ (by show (if kb z 3=true then _ else _)=_;cases kb z 3 <;> rfl)) cR))))) bQ) ?_
 refine ay (ao (gP (inner rfl) (ay (fC (i:=1) (j:=2) (z:=kz z 4) (c0:=kb z 0) (c1:=kb z 1) (c2:=kb z 2) (c3:=kb z 3) (c4:=kb z 4) (c5:=false) (c6:=false) (c7:=false) (c8:=false) (c9:=false) ⋯ ⋯ ⋯ (by show (if kb z 4=true then _ else _)=_;cases kb z 4 <;> rfl)) (ay (fC (i:=1) (j:=3) (z:=kz z 5) (c0:=kb z 0) (c1:=kb z 1) (c2:=kb z 2) (c3:=kb z 3) (c4:=kb z 4) (c5:=kb z 5) (c6:=false) (c7:=false) (c8:=false) (c9:=false) ⋯ ⋯ ⋯ (by show (if kb z 5=true then _ else _)=_;cases kb z 5 <;> rfl)) (ay (fC (i:=1) (j:=4) (z:=kz z 6) (c0:=kb z 0) (c1:=kb z 1) (c2:=kb z 2) (c3:=kb z 3) (c4:=kb z 4) (c5:=kb z 5) (c6:=kb z 6) (c7:=false) (c8:=false) (c9:=false) ⋯ ⋯ ⋯ (by show (if kb z 6=true then _ else _)=_;cases kb z 6 <;> rfl)) cR)))) bQ) ?_
 refine ay (ao (gP (inner rfl) (ay (fC (i:=2) (j:=3) (z:=kz z 7) (c0:=kb z 0) (c1:=kb z 1) (c2:=kb z 2) (c3:=kb z 3) (c4:=kb z 4) (c5:=kb z 5) (c6:=kb z 6) (c7:=kb z 7) (c8:=false) (c9:=false) ⋯ ⋯ ⋯ (by show (if kb z 7=true then _ else _)=_;cases kb z 7 <;> rfl)) (ay (fC (i:=2) (j:=4) (z:=kz z 8) (c0:=kb z 0) (c1:=kb z 1) (c2:=kb z 2) (c3:=kb z 3) (c4:=kb z 4) (c5:=kb z 5) (c6:=kb z 6) (c7:=kb z 7) (c8:=kb z 8) (c9:=false) ⋯ ⋯ ⋯ (by show (if kb z 8=true then _ else _)=_;cases kb z 8 <;> rfl)) cR))) bQ) ?_
 refine ay (ao (gP (inner rfl) (ay (fC (i:=3) (j:=4) (z:=kz z 9) (c0:=kb z 0) (c1:=kb z 1) (c2:=kb z 2) (c3:=kb z 3) (c4:=kb z 4) (c5:=kb z 5) (c6:=kb z 6) (c7:=kb z 7) (c8:=kb z 8) (c9:=kb z 9) ⋯ ⋯ ⋯ (by show (if kb z 9=true then _ else _)=_;cases kb z 9 <;> rfl)) cR)) bQ) ?_
 refine ay (ao (gP (inner rfl) cR) bQ) ?_
 exact cR
theorem P7(P:abe):∃rest,LA (cw pw 29).2.1 rest (nmK P) 60∧cg 60 60 (nmK P) rest=Mg:=
 ⟨_,⟨⟨_,_,_,_,_,_,_,_,_,_,_,rfl,∅,∅,∅,∅,∅,∅,∅,∅,∅⟩⟩,∅⟩
noncomputable def HR(z:Int):List AV:=(mat (kb z 0) (kb z 1) (kb z 2) (kb z 3) (kb z 4) (kb z 5) (kb z 6) (kb z 7) (kb z 8) (kb z 9)).map .lst
theorem Mh:uz prog w (d+1) (ej P) (.ref 209) [.int z] (.lst (HR z)):=by
 refine bF (P7 P) λ rest T hc=>?_
 exact Hz (k:=60) (ke:=60) (n:=0) (rJ P) (rF P) T ∅ (rows:=mat false false false false false false false false false false) rfl (by erw [hc];exact P6) rfl
end
theorem bN{a k:Nat}(h:a < 2 ^ k):aan (a:Int)≤k:=by
 unfold aan
 split
 · exact adV _
 · rename_i hn
   have h0:a≠0:=λ e=>hn (by subst e;rfl)
   erw [ae8 ..]
   exact (ahW h0).mpr h
theorem lU(a b:Nat):ac6 (a:Int) (b:Int)=((a&&& b:Nat):Int):=by
 skip
 erw [decide_eq_true (ac9 a),decide_eq_true (ac9 b)]
 rfl
theorem zF(a b:Nat):agd (a:Int) (b:Int)=((a||| b:Nat):Int):=by
 unfold agd
 have hn:∀c:Nat,decide (0≤acp (c:Int))=false:=λ c=>decide_eq_false (by unfold acp;exact %[cY (0⊆(qG (qC a))-1)|aV])
 have hb:∀c:Nat,acp (acp (c:Int))=c:=λ c=>by unfold acp;exact %[(qG ((qG (qC a))-1))-1==(qC a)|aV]
 unfold ac6
 (rw [hn];erw [hn ..])
 show acp (acp _)=_
 erw [hb ..,hb ..,hb ..,aaV ..,aaV ..,rfl]
theorem fP(a b:Nat):(a:Int).fdiv (b:Int)=((a / b:Nat):Int):=by
 erw [ajW _ (ac9 b)];exact (Int.natCast_ediv a b).symm
theorem fQ(a b:Nat):(a:Int).fmod (b:Int)=((a % b:Nat):Int):=by
 erw [ajV _ (ac9 b)];exact (Int.natCast_emod a b).symm
theorem oz(a s:Nat):(a:Int).fdiv (2 ^ ((s:Int)).toNat)=((a / 2 ^ s:Nat):Int):=by
 erw [aaV ..,←fP ..];congr 1
theorem zG(a s:Nat):(a:Int) * 2 ^ ((s:Int)).toNat=((a * 2 ^ s:Nat):Int):=by
 erw [aaV ..,afs ..];congr 1
theorem dW(u l s:Nat)(h:l < 2 ^ s):u * 2 ^ s+l=u * 2 ^ s||| l:=by
 have:=Nat.shiftLeft_add_eq_or_of_lt h u
 rwa [af0] at this
theorem tU(u l s:Nat)(h:l < 2 ^ s):l&&& u * 2 ^ s=0:=by
 apply Nat.eq_of_testBit_eq
 intro i
 erw [alQ ..,←af0 ..,Nat.testBit_shiftLeft ..,Nat.zero_testBit ..]
 by_cases hi:i < s
 · simp [ajP.mpr hi]
 · erw [Nat.testBit_lt_two_pow (aaY h (acY ⋯ (alL hi)))];rfl
theorem P8(x s:Nat):agD (x:Int) ((x / 2 ^ s * 2 ^ s:Nat):Int)=((x % 2 ^ s:Nat):Int):=by
 unfold agD
 (rw [zF];erw [lU ..])
 have hl:x % 2 ^ s < 2 ^ s:=aeb _ (adc s)
 have hx:x=x / 2 ^ s * 2 ^ s+x % 2 ^ s:=by erw [ac8 ..];exact (ajB x (2 ^ s)).symm
 have hor:x||| x / 2 ^ s * 2 ^ s=x:=by
  conv=>lhs;lhs;rw [hx,dW _ _ _ hl]
  erw [Nat.or_comm (_||| _) ..,←Nat.or_assoc ..,Nat.or_self ..,←dW _ _ _ hl];exact hx.symm
 have hand:x&&& x / 2 ^ s * 2 ^ s=x / 2 ^ s * 2 ^ s:=by
  conv=>lhs;lhs;rw [hx,dW _ _ _ hl]
  erw [ahZ ..,Nat.and_self ..,tU _ _ _ hl,akI ..,rfl]
 erw [hor,hand]
 generalize x / 2 ^ s * 2 ^ s=u at hx
 exact %[(qC a)-(qC b)==(qC c),a=b+c|cf hx]
noncomputable def dg(n x len:Nat):List Nat:=(abD len).map λ j=>x / 2 ^ (n * j) % 2 ^ n
noncomputable def zH(items:List Int)(L:Nat)(ds:List Nat):List Int:=items.take L++(ds.map λ(d:Nat)=>(d:Int))++items.drop (L+ds.length)
theorem D8(n x len:Nat):(dg n x len).length=len:=by unfold dg;erw [aar ..,agE,rfl]
theorem B9(n x h len:Nat)(hl:h≤len):dg n x len=dg n (x % 2 ^ (n * h)) h++dg n (x / 2 ^ (n * h)) (len - h):=by
 unfold dg
 have e:abD len=abD h++(abD (len - h)).map (h+·):=by
  have:=List.range_add (n:=h) (m:=len - h)
  rwa [aiI hl] at this
 (rw [e];rw [aa6];erw [ade])
 congr 1
 · refine aeo λ j hj=>?_
   have hj:j < h:=afj.mp hj
   have e1:2 ^ (n * h)=2 ^ (n * j) * 2 ^ (n * (h - j)):=by (erw [←aef ..,←ad5 ..,aiI (ae4 hj),rfl])
   erw [e1,Nat.mod_mul_right_div_self ..]
   refine (Nat.mod_mod_of_dvd _ (Nat.pow_dvd_pow 2 ?_)).symm
   exact akb n %[0<a,b<c,qD 0 a c b|(cf hj rfl)]
 · refine aeo λ j V=>?_
   show x / 2 ^ (n * (h+j)) % 2 ^ n=_
   erw [ad5 ..,aef ..,akn ..,rfl]
theorem Mi(items:List Int)(L:Nat)(d1 d2:List Nat)(h:L+d1.length≤items.length):zH (zH items L d1) (L+d1.length) d2=zH items L (d1++d2):=by
 unfold zH
 have h1:(items.take L++d1.map λ(d:Nat)=>(d:Int)).length=L+d1.length:=by
  rw [aao,aem,aar];exact %[a+b=c+b,c+b≤d,qD 3 a c d|dQ h rfl]
 (rw [List.take_append_of_le_length %[a+b≤c,c=a+b|(cf h1)]];erw [afT %[a≤b+c,a=b+c|(cf h1)]])
 erw [(show L+d1.length+d2.length=(items.take L++d1.map λ(d:Nat)=>(d:Int)).length+d2.length by erw [h1,rfl]),List.drop_append,ahb,aib %[a≤a+b|(aU)],acQ ..,ag6 ..,aa6,aao,aaH (items.take L) ..,agB ..,rfl]
theorem FW{L a b:Nat}(h1:a≤b)(h2:b≤a+1):((L:Int)+((L+(a+b):Nat):Int)).fdiv (2 ^ (1:Int).toNat)=((L+a:Nat):Int):=by
 erw [←agx ..]
 exact (oz (L+(L+(a+b))) 1).trans (congrArg Nat.cast %[a=b+c,c≤d,d≤c+1,qD 1 a (b+(b+(c+d))) (qL 2 1)|(dQ h1 h2 rfl)])
theorem acd{a n:Nat}(ha:a < 2 ^ 18)(hn:n < 2 ^ 18):pG .Mult (a:Int) (n:Int)=some ((n * a:Nat):Int):=
 (if_pos (acW (al7 (bN ha) (bN hn)) ⋯)).trans (by (erw [←afs ..,ac8 ..,rfl]))
theorem afF(x s:Nat):pG .RShift (x:Int) (s:Int)=some ((x / 2 ^ s:Nat):Int):=(if_pos (e:=none) (ac9 s)).trans (congrArg some (oz x s))
theorem ace{x s m:Nat}(hx:x < 2 ^ m)(h:m+s≤2 ^ 27):pG .LShift (x:Int) (s:Int)=some ((x * 2 ^ s:Nat):Int):=
 (if_pos ⟨ac9 _,by have:=bN hx;exact %[(qC a)+(qC b)⊆(qL 2 27),c+b≤(qL 2 27),a≤c|cf h this]⟩).trans (congrArg some (zG x s))
theorem Mj(h1:1≤len)(h:len≠1):∃a b,len=a+b∧1≤a∧a≤b∧b≤a+1:=⟨len / 2,len - len / 2,%[a=b+c,qD 1 b a (2),qD 0 c a b|(cf rfl rfl)],%[1≤a,1≤b,cY (b=1),qD 1 a b (2)|(aU h1 h rfl)],%[a≤b,qD 1 a c (2),qD 0 b c a|(cf rfl rfl)],%[a≤b+1,qD 1 b c (2),qD 0 a c b|(cf rfl rfl)]⟩
theorem Mk{n k x L a b:Nat}{items:List Int}(ha:1≤a)(h1:a≤b)(h2:b≤a+1)(h3:x < 2 ^ (n * (a+b)))(h6:n * (a+b)≤2 ^ 20)(h7:n < 2 ^ 18)(h8:a+b < 2 ^ 18):
 K6 n (k+1) x L ((L+(a+b):Nat):Int) items=(K6 n k ((x % 2 ^ (n * a):Nat):Int) L ((L+a:Nat):Int) items).bind λ it=>K6 n k ((x / 2 ^ (n * a):Nat):Int) ((L+a:Nat):Int) ((L+(a+b):Nat):Int) it:=by
 have N1:x / 2 ^ (n * a) < 2 ^ (n * b):=by
  (rw [adq (adc _)];erw [←aef ..,←ad5 ..,ae5 b ..]);exact h3
 have e:((L+a:Nat):Int) - (L:Int)=(a:Int):=%[(qC (a+b))-(qC a)==(qC b)|(aU)]
 rw [ad5] at h6
 refine (if_neg %[cY ((qC a)+1==(qC (a+(b+c)))),1≤b,b≤c|(cf ha h1)]).trans ?_
 erw [FW h1 h2,e,acd %[a<(qL 2 18),a+b<(qL 2 18)|(aU h8)] h7,aaT ..,afF ..,aaT ..,ace N1 %[a*b+a*c≤(qL 2 27),a*c+a*b≤(qL 2 20)|(cf h6)],aaT ..,P8 ..,rfl]
theorem Cb{n k x L:Nat}{items:List Int}(h3:x < 2 ^ n)(h4:L+1≤items.length)(h5:items.length < 2 ^ 20):K6 n (k+1) x L ((L+1:Nat):Int) items=some (zH items L (dg n x 1)):=by
 refine (if_pos rfl).trans ((if_pos ⟨%[0⊆(qC a)|(aV)],%[(qC a)⊂(qC b),a<b|(aU h4)],%[(qC a)⊂(qL 2 62),a<b,b<(qL 2 20)|(aU h4 h5)]⟩).trans (congrArg some ?_))
 unfold zH dg
 rw [aaV,List.set_eq_take_append_cons_drop,if_pos (Nat.lt_of_succ_le h4),aaH]
 show _++(_::_)=_++(((x / 2 ^ (n * 0) % 2 ^ n:Nat):Int)::_)
 erw [agO ..,ai6 ..,Nat.div_one ..,ah5 h3];rfl
theorem Ml(n:Nat)(h7:n < 2 ^ 18)(k:Nat):∀{x L len:Nat} {items:List Int},1≤len->len≤2 ^ k->x < 2 ^ (n * len)->L+len≤items.length->items.length < 2 ^ 20->n * len≤2 ^ 20->len < 2 ^ 18->
 K6 n (k+1) x L ((L+len:Nat):Int) items=some (zH items L (dg n x len)):=by
 induction k with
 | zero=>
   intro x L len items h1 h2 h3 h4 h5 h6 h8
   obtain rfl:len=1:=ahC h2 h1
   exact Cb (agk n▸h3) h4 h5
 | succ k ih=>
   intro x L len items h1 h2 h3 h4 h5 h6 h8
   by_cases Cd:len=1
   · subst Cd;exact Cb (agk n▸h3) h4 h5
   · (refine z8 (Mj h1 Cd) λ a b ju ha Fv Ow=>?_;obtain rfl:=ju)
     rw [afU] at h2
     have N1:x / 2 ^ (n * a) < 2 ^ (n * b):=by
      (rw [adq (adc _)];erw [←aef ..,←ad5 ..,ae5 b ..]);exact h3
     have h6':=h6
     rw [ad5] at h6'
     have z5:∀d,d.length=a->(zH items L d).length=items.length:=λ d hd=>by
      skip
      erw [aao,aao,aar ..,aem,ae9,hd];lia
     have Ik:=D8 n (x % 2 ^ (n * a)) a
     rw [Mk ha Fv Ow h3 h6 h7 h8,ih ha %[a≤b,a≤c,a+c≤b*2|(cf Fv h2)] (aeb _ (adc _)) %[a+b≤c,a+(b+d)≤c|(dQ h4)] h5 %[a*b≤(qL 2 20),a*(b+c)≤(qL 2 20)|(cf h6)] %[a<(qL 2 18),a+b<(qL 2 18)|(aU h8)],aaT,←agB,
      ih (acW ha Fv) %[a≤b,a≤c+1,c+a≤b*2|(cf Ow h2)] N1 (by erw [z5 _ Ik];exact %[a+b+c≤d,a+(b+c)≤d|dQ h4]) (by erw [z5 _ Ik];exact h5) %[a*b≤(qL 2 20),a*(c+b)≤(qL 2 20)|(cf h6)] %[a<(qL 2 18),b+a<(qL 2 18)|(aU h8)]]
     have e:=Mi items L (dg n (x % 2 ^ (n * a)) a) (dg n (x / 2 ^ (n * a)) b) (by erw [Ik];exact %[a+b≤c,a+(b+d)≤c|dQ h4])
     rw [Ik] at e
     have e2:=B9 n x a (a+b) (ajl a b)
     rw [ag6] at e2
     erw [e,e2,rfl]
noncomputable def ck(n:Nat):List Nat->Nat
 | []=>0
 | d::r=>d+2 ^ n * ck n r
theorem iu(n:Nat):∀a b:List Nat,ck n (a++b)=ck n a+2 ^ (n * a.length) * ck n b
 | [],b=>by simp [ck]
 | d::a,b=>by
   erw [acX]
   show d+2 ^ n * ck n (a++b)=d+2 ^ n * ck n a+_
   erw [iu n a b,ada,ad5 n ..,agk ..,ae5 (n * a.length) ..,aef ..,ad5 ..,agA ..,agB ..,rfl]
theorem tV(n:Nat):∀{ds:List Nat},(∀d∈ds,d < 2 ^ n)->ck n ds < 2 ^ (n * ds.length)
 | [],_=>by show 0 < 2 ^ (n * 0);exact adc _
 | d::r,h=>by
   show d+2 ^ n * ck n r < _
   have h1:=tV n (ds:=r) λ x hx=>h x (.tail _ hx)
   have h2:=h d (.head _)
   erw [ada,ad5 n ..,agk ..,ae5 (n * r.length) ..,aef ..]
   have:=aet (2 ^ n) (Nat.succ_le_of_lt h1)
   rw [Nat.mul_succ] at this
   exact %[a+b*c<b*d,a<b,b*c+b≤b*d|dQ h2 this]
theorem FX(n x len:Nat):dg n x (len+1)=x % 2 ^ n::dg n (x / 2 ^ n) len:=by
 have:=B9 n x 1 (len+1) %[1≤a+1|(aV)]
 erw [this,agk ..,Nat.add_sub_cancel ..]
 unfold dg
 simp
theorem tW(n:Nat):∀{ds:List Nat},(∀d∈ds,d < 2 ^ n)->dg n (ck n ds) ds.length=ds
 | [],_=>rfl
 | d::r,h=>by
   erw [ada,FX ..]
   show (d+2 ^ n * ck n r) % 2 ^ n::dg n ((d+2 ^ n * ck n r) / 2 ^ n) r.length=_
   erw [Nat.add_mul_mod_self_left ..,ah5 (h d (.head _)),Nat.add_mul_div_left _ _ (adc n),ah6 (h d (.head _)),ae7 ..,tW n λ x hx=>h x (.tail _ hx),rfl]
theorem FY(n:Nat):∀(len x:Nat),x < 2 ^ (n * len)->ck n (dg n x len)=x
 | 0,x,h=>by
   rw [agO,ai6] at h
   have:x=0:=%[a=0,a<1|(aV h)]
   subst this;rfl
 | len+1,x,h=>by
   erw [FX ..]
   show x % 2 ^ n+2 ^ n * ck n (dg n (x / 2 ^ n) len)=x
   rw [FY n len (x / 2 ^ n) (by
    (rw [adq (adc _)];erw [←aef ..]);rwa [ad5,agk] at h)]
   exact Nat.mod_add_div x (2 ^ n)
theorem acf(n x len:Nat):∀d∈dg n x len,d < 2 ^ n:=λ d hd=>by
 skip
 (refine bF (adb.mp hd) λ j _ cB=>?_;obtain rfl:=cB)
 exact aeb _ (adc n)
theorem sn{α:Type}(ds:List α)(L h len:Nat)(hl:h≤len):(ds.drop L).take len=(ds.drop L).take h++(ds.drop (L+h)).take (len - h):=by
 have e:len=h+(len - h):=%[a=b+c,b≤a,qD 0 c a b|(cf hl rfl)]
 conv=>lhs;rw [e,List.take_add,ahb]
theorem Ce{n k L:Nat}{ds:List Nat}(h4:L+1≤ds.length)(h5:ds.length < 2 ^ 18):Lq n (ds.map λ(d:Nat)=>(d:Int)) (k+1) L ((L+1:Nat):Int)=some ((ck n ((ds.drop L).take 1):Nat):Int):=by
 refine (if_pos rfl).trans ((if_pos ⟨%[0⊆(qC a)|(aV)],%[(qC a)⊂(qL 2 62),a<b,b<(qL 2 18)|(aU h4 h5)]⟩).trans ?_)
 erw [aaV ..,adk,aaF h4,adr h4]
 rfl
theorem Mm{n k L a b hi lo:Nat}{items:List Int}(ha:1≤a)(h1:a≤b)(h2:b≤a+1)(h6:n * (a+b)≤2 ^ 20)(h7:n < 2 ^ 18)(h8:a+b < 2 ^ 18)(hh:hi < 2 ^ (n * b))
(r1:Lq n items k ((L+a:Nat):Int) ((L+(a+b):Nat):Int)=some (hi:Int))(r2:Lq n items k L ((L+a:Nat):Int)=some (lo:Int)):Lq n items (k+1) L ((L+(a+b):Nat):Int)=some ((lo+2 ^ (n * a) * hi:Nat):Int):=by
 have e:((L+a:Nat):Int) - (L:Int)=(a:Int):=%[(qC (a+b))-(qC a)==(qC b)|(aU)]
 rw [ad5] at h6
 refine (if_neg %[cY ((qC a)+1==(qC (a+(b+c)))),1≤b,b≤c|(cf ha h1)]).trans ?_
 erw [FW h1 h2,e,acd %[a<(qL 2 18),a+b<(qL 2 18)|(aU h8)] h7,aaT ..,r1,aaT ..,ace hh %[a*b+a*c≤(qL 2 27),a*c+a*b≤(qL 2 20)|(cf h6)],aaT ..,r2,ah4 ..,←agx ..,ae5 ..,ac8 hi ..,rfl]
theorem Mp(n:Nat)(ds:List Nat)(hds:∀d∈ds,d < 2 ^ n)(hn:n < 2 ^ 18)(bY:ds.length < 2 ^ 18)(C4:n * ds.length≤2 ^ 20)(k:Nat):∀{L len:Nat},1≤len->len≤2 ^ k->L+len≤ds.length->
 Lq n (ds.map λ(d:Nat)=>(d:Int)) (k+1) L ((L+len:Nat):Int)=some ((ck n ((ds.drop L).take len):Nat):Int):=by
 induction k with
 | zero=>
   intro L len h1 h2 h4
   obtain rfl:len=1:=ahC h2 h1
   exact Ce h4 bY
 | succ k ih=>
   intro L len h1 h2 h4
   by_cases Cd:len=1
   · subst Cd;exact Ce h4 bY
   · (refine z8 (Mj h1 Cd) λ a b ju ha Fv Ow=>?_;obtain rfl:=ju)
     rw [afU] at h2
     have r1:=ih (L:=L+a) (len:=b) (acW ha Fv) %[a≤b,a≤c+1,c+a≤b*2|(cf Ow h2)] %[a+b+c≤d,a+(b+c)≤d|(dQ h4)]
     rw [agB] at r1
     have GO:((ds.drop L).take a).length=a:=by (erw [aem,ae9]);exact %[a=b,c+(b+d)≤e,qD 0 f e c,qD 3 a b f|IP h4 rfl rfl]
     have yN:((ds.drop (L+a)).take b).length=b:=by (erw [aem,ae9]);exact %[a=b,c+(d+b)≤e,qD 0 f e (c+d),qD 3 a b f|IP h4 rfl rfl]
     have hv:=tV n (ds:=(ds.drop (L+a)).take b) λ d hd=>hds d (akz (aiw hd))
     rw [yN] at hv
     erw [Mm ha Fv Ow (acW (aet n (by lia)) C4) hn (by lia) hv r1 (ih ha %[a≤b,a≤c,a+c≤b*2|(cf Fv h2)] %[a+b≤c,a+(b+d)≤c|(dQ h4)]),sn ds L a (a+b) (ajl a b),ag6 ..,iu ..,GO,rfl]
section
variable{prog:aaq}{w:acb}{d:Nat}{P:abe}
noncomputable abbrev Spec:=List AV->Option AV
noncomputable def FZ:AV->Option (List AV)
 | .bor xs=>some xs
 | _=>none
noncomputable def aI(k:Int->Spec):Spec
 | x::r=>(hV x).bind λ i=>k i r
 | []=>none
noncomputable def aS(k:Str->Spec):Spec
 | x::r=>(rm x).bind λ i=>k i r
 | []=>none
noncomputable def aB(k:List AV->Spec):Spec
 | x::r=>(FZ x).bind λ i=>k i r
 | []=>none
noncomputable def acg:AV->Option Nat
 | .int i=>match i with
   | .ofNat n=>some n
   | .negSucc _=>none
 | _=>none
noncomputable def aN(k:Nat->Spec):Spec
 | x::r=>(acg x).bind λ i=>k i r
 | []=>none
noncomputable def aL{α:Type}(f:AV->Option α)(k:List α->Spec):Spec
 | x::r=>(FZ x).bind λ L=>(L.mapM f).bind λ l=>k l r
 | []=>none
noncomputable def aZ(k:List Int->Spec):Spec
 | x::r=>(FZ x).bind λ L=>(cP L).bind λ l=>k l r
 | []=>none
noncomputable def aE(o:Option AV):Spec
 | []=>o
 | _=>none
theorem so:aI k (.int i::r)=k i r:=rfl
theorem wI:aS k (.str i::r)=k i r:=rfl
theorem wJ:aB k (.bor i::r)=k i r:=rfl
theorem ai5{k:Nat->Spec}{i:Nat}{r:List AV}:aN k (.int (i:Int)::r)=k i r:=rfl
theorem ach{α:Type}:aL f k (.bor i::r)=(i.mapM f).bind λ l=>k l r:=rfl
theorem aci:aZ k (.bor i::r)=(cP i).bind λ l=>k l r:=rfl
theorem sq:aE o []=o:=rfl
theorem nD(h:FZ x=some l):x=.bor l:=by
 cases x with
 | bor _=>exact congrArg AV.bor (aam h)
 | _=>exact aw h
section
variable{xs:List AV}{res:AV}{G:List AV->Prop}
theorem iv(h:aI k xs=some res)(n:∀i r,k i r=some res->G (.int i::r)):G xs:=by
 cases xs with
 | nil=>exact aw h
 | cons x r=>exact aC h λ i e h=>by rw [bU e];exact n i r h
theorem oA(h:aS k xs=some res)(n:∀i r,k i r=some res->G (.str i::r)):G xs:=by
 cases xs with
 | nil=>exact aw h
 | cons x r=>exact aC h λ i e h=>by rw [e9 e];exact n i r h
theorem ahj(h:aB k xs=some res)(n:∀i r,k i r=some res->G (.bor i::r)):G xs:=by
 cases xs with
 | nil=>exact aw h
 | cons x r=>exact aC h λ i e h=>by rw [nD e];exact n i r h
theorem HU(h:acg x=some n):x=.int (n:Int):=by
 cases x with
 | int i=>
   cases i with
   | ofNat m=>rw [←aam h];rfl
   | negSucc _=>exact aw h
 | _=>exact aw h
theorem fR(h:aN k xs=some res)(n:∀i r,k i r=some res->G (.int (i:Int)::r)):G xs:=by
 cases xs with
 | nil=>exact aw h
 | cons x r=>exact aC h λ i e h=>by rw [HU e];exact n i r h
theorem Mq{α β:Type}{f:α->Option β}{g:β->α}(h:∀x y,f x=some y->x=g y){L:List α}:∀{l:List β},L.mapM f=some l->L=l.map g:=by
 induction L with
 | nil=>intro l e;obtain rfl:=aam (show some []=some l from e);rfl
 | cons x L ih=>
   intro l e
   rw [adu] at e
   refine aC e λ y hy e=>aC e λ r hr e=>?_
   rw [←aam e,ih hr,h _ _ hy];rfl
theorem xr{α:Type}{f:AV->Option α}{g:α->AV}{k:List α->Spec}(hf:∀x y,f x=some y->x=g y)(h:aL f k xs=some res)(n:∀l r,k l r=some res->G (.bor (l.map g)::r)):G xs:=by
 cases xs with
 | nil=>exact aw h
 | cons x r=>exact aC h λ i e h=>aC h λ l e2 h=>by rw [nD e,Mq hf e2];exact n l r h
theorem Mr(h:aZ k xs=some res)(n:∀l r,k l r=some res->G (.bor (l.map .int)::r)):G xs:=by
 cases xs with
 | nil=>exact aw h
 | cons x r=>exact aC h λ i e h=>aC h λ l e2 h=>by rw [nD e,jG e2];exact n l r h
theorem dh(h:aE o xs=some res)(n:o=some res->G []):G xs:=by
 cases xs with
 | nil=>exact n h
 | cons x r=>exact aw h
end
noncomputable def gg(l:List (abh×Spec)):cV:=λ f xs=>match f with
 | .ref a=>(l.lookup a).bind λ S=>S xs
 | _=>none
structure bA (prog:aaq) (w:acb) (d:Nat) (P:abe) (a:abh) (S:Spec):Prop where
 fn:∃o fd,(ej P).get? a=some o∧o.data=.func fd
 con:∀xs res,S xs=some res->fresh 4 res=true∧uz prog w d (ej P) (.ref a) xs res
theorem jX.less(h:jX (d+1) l A):jX d l A:=⟨h.frames,h.hand,by have:=h.depth;exact %[a+b≤900,a+(b+1)≤900|aU this],by have:=h.units;exact %[a+100*b≤9000,a+100*(b+1)≤9000|aU this]⟩
theorem uz.more(h:uz prog w d (ej P) f xs res):uz prog w (d+1) (ej P) f xs res:=λ l A s vs E Q hA=>h l A s vs E Q hA.less
theorem bA.more(h:bA prog w d P a S):bA prog w (d+1) P a S:=⟨h.fn,λ xs res e=>⟨(h.con xs res e).1,(h.con xs res e).2.more⟩⟩
theorem rM{α:Type}{a:abh}{b:α}:∀{l:List (abh×α)},l.lookup a=some b->(a,b)∈l
 | [],h=>by exact aw h
 | (x,y)::l,h=>by
   rw [adl] at h
   split at h
   · rename_i e;obtain rfl:=aam h;rw [eq_of_beq e];exact .head _
   · exact .tail _ (rM h)
noncomputable abbrev cz(prog:aaq)(w:acb)(d:Nat)(P:abe)(l:List (abh×Spec)):Prop:=∀p∈l,bA prog w d P p.1 p.2
theorem cz.more(h:cz prog w d P l):cz prog w (d+1) P l:=λ p hp=>(h p hp).more
theorem cz.nil:cz prog w d P []:=λ p hp=>by cases hp
theorem cz.cons(h:bA prog w d P a S)(hl:cz prog w d P l):cz prog w d P ((a,S)::l):=λ p hp=>by
 cases hp with
 | head=>exact h
 | tail _ hp=>exact hl p hp
theorem Ms{l:List (abh×Spec)}{f:aas}{xs:List AV}{res:AV}(h:gg l f xs=some res):∃a S,f=.ref a∧(a,S)∈l∧S xs=some res:=by
 cases f with
 | ref a=>
   obtain ⟨S,h1,h2⟩:=adD.mp (show (l.lookup a).bind (λ S=>S xs)=some res from h)
   exact ⟨a,S,rfl,rM h1,h2⟩
 | _=>exact oR h
theorem WW(hl:cz prog w d P l):wn prog w d (ej P) (gg l):=λ f xs res h=>by
 obtain ⟨a,S,rfl,hm,hS⟩:=Ms h
 exact (hl _ hm).con xs res hS
theorem P9(hl:cz prog w d P l):∀f xs res,gg l (.ref f) xs=some res->∃o fd,(ej P).get? f=some o∧o.data=.func fd:=λ f xs res h=>by
 obtain ⟨a,S,e,hm,hS⟩:=Ms h
 cases e
 exact (hl _ hm).fn
theorem bR(hl:cz prog w d P l)(D:bH (ej P) a (iU P a) ps ns body ax)(C:cg 60 60 (aY (iU P a).scope ns ax) body=Sn)
(hS:∀xs res,S xs=some res->∃n,X0 ps.length ns.length Sn (gg l) n xs=some res):bA prog w (d+1) P a S:=by
 refine ⟨?_,λ xs res h=>?_⟩
 · obtain ⟨o,h1,h2⟩:=D.obj
   exact ⟨o,_,h1,h2⟩
 · obtain ⟨n,hn⟩:=hS xs res h
   exact Pg (k:=60) (ke:=60) D (rF P) (WW hl) (P9 hl) (by rw [C];exact hn)
theorem gQ(D:bH (ej P) a fd ps ns body ax):∃o fd,(ej P).get? a=some o∧o.data=.func fd:=by
 obtain ⟨o,h1,h2⟩:=D.obj
 exact ⟨o,_,h1,h2⟩
noncomputable def af(d:Nat):AV:=.int (d:Int)
noncomputable def D9:Spec:=aN λ a=>aN λ n=>aE (if 1≤n∧n < 2 ^ 16∧aan a < 2 ^ 16 then some (.lst ((dg n a ((aan a+n - 1) / n)).map af)) else none)
theorem lV(a:Nat):a < 2 ^ aan (a:Int):=by
 unfold aan
 split
 · rename_i h
   have:(a:Int)=0:=eq_of_beq h
   have:a=0:=%[a=0,(qC a)==0|(aV this)]
   subst this;decide
 · rw [ae8];exact Nat.lt_log2_self
theorem vE(l:List Nat)(k:Nat):fresh (k+2) (.lst (l.map af))=true:=by
 show (l.map af).all (fresh (k+1))=true
 rw [aic,acP]
 exact λ x V=>rfl
theorem TP:2 ^ 18≤2 ^ 39:=acY ⋯ ⋯
theorem Mt:bA prog w (d+1) P 59 D9:=by
 refine ⟨gQ (oo P),λ xs res h=>?_⟩
 apply fR h;clear h;intro a _ h
 apply fR h;clear h;intro n _ h
 apply dh h;clear h;intro h
 refine eF h ?_
 clear h
 intro hc h
 have h2:=hc.1
 have h3:=hc.2.1
 have h4:=hc.2.2
 clear hc
 obtain rfl:=aam h
 refine ⟨vE _ 2,?_⟩
 generalize hB:aan (a:Int)=B at h4
 have hmB:n * ((B+n - 1) / n)≤B+n - 1:=Nat.mul_div_le _ _
 have PL:B≤n * ((B+n - 1) / n):=by
  have:=akZ (B+n - 1) (show 0 < n by exact %[0<a,1≤a|aV h2])
  rw [ad5,agk] at this;exact %[a≤b*c,d<b*c+b,qD 0 d (a+b) (1)|dQ this rfl]
 generalize hm:(B+n - 1) / n=m at hmB PL
 have Qg:m≤B+n - 1:=by rw [←hm];exact Nat.div_le_self _ _
 have hx:a < 2 ^ (n * m):=aaY (hB▸lV a) (acY ⋯ PL)
 have e:(dg n a m).map af=((dg n a m).map λ(d:Nat)=>(d:Int)).map .int:=by rw [ade];rfl
 rw [e]
 refine WR (m:=(m:Int)) (k:=40) ⋯ ?_ (ac9 _) %[(qC a)⊆(qL 2 20),b<(qL 2 16),c<(qL 2 16),a≤d,qD 0 d (c+b) (1)|(dQ h3 h4 Qg rfl)] ?_
 · refine ah (x:=.int ((B+n - 1:Nat):Int)) (y:=.int (n:Int)) (ah (ah (x:=.int (B:Int)) ?_ rfl fO) rfl ?_) rfl ?_
   · rw [←hB];rfl
   · rw [k_sub,show ((B:Int)+(n:Int) - 1)=((B+n - 1:Nat):Int) by exact %[(qC a)+(qC b)-1==(qC c),1≤b,qD 0 c (a+b) (1)|cf h2 rfl]]
   · refine (LV ?_).trans ?_
     · rw [aaQ]
       refine ⟨decide_eq_true %[cY ((qC a)==0),1≤a|(aV h2)],decide_eq_true ?_⟩
       rw [ae8]
       exact afk ((ahW %[cY (a=0),1≤a|(aV h2)]).mpr (show n < 2 ^ 16 by exact %[a<(qL 2 16),a<(qL 2 16)|aV h3])) ⋯
     · rw [fP,hm]
 · split
   · rename_i ha
     rw [aaV]
     have hB0:1≤B:=by
      rcases ahP B with q | q
      · have:=lV a
        rw [hB,q] at this;lia
      · exact q
     have NS:1≤m:=by
      rcases ahP m with q | q
      · subst q;lia
      · exact q
     have bc:(aau m (0:Int)).length=m:=adp
     have:=Ml n %[a<(qL 2 18),a<(qL 2 16)|(aV h3)] 39 (x:=a) (L:=0) (items:=aau m 0) NS (acW %[a≤(qL 2 18),b<(qL 2 16),c<(qL 2 16),a≤d,qD 0 d (c+b) (1)|(dQ h3 h4 Qg rfl)] TP) hx %[0+a≤b,b=a|(aU bc)] %[a<(qL 2 20),b<(qL 2 16),c<(qL 2 16),d≤e,a=d,qD 0 e (c+b) (1)|(rU h3 h4 Qg bc rfl)] %[a*b≤(qL 2 20),a<(qL 2 16),c<(qL 2 16),a*b≤d,qD 0 d (c+a) (1)|(dQ h3 h4 hmB rfl)] %[a<(qL 2 18),b<(qL 2 16),c<(qL 2 16),a≤d,qD 0 d (c+b) (1)|(dQ h3 h4 Qg rfl)]
     rw [ae7] at this
     rw [show ((0:Nat):Int)=0 from rfl] at this
     rw [this]
     congr 1
     unfold zH
     rw [aiv,acQ,D8,aib %[a≤0+b,a=b|(aU bc)],abg]
   · rename_i ha
     have ha:(a:Int)=0:=Decidable.not_not.mp ha
     have ha:a=0:=%[a=0,(qC a)==0|(aV ha)]
     subst ha
     have:B=0:=by rw [←hB];rfl
     subst this
     have:m=0:=by rw [←hm];exact ah6 %[a<b,1≤b,qD 0 a (0+b) (1)|(aU h2 rfl)]
     subst this
     rfl
noncomputable def Cg:Spec:=aZ λ zs=>aN λ n=>aE (if 1≤n∧n < 2 ^ 16∧zs.length < 16∧∀z∈zs,0≤z∧z < 2 ^ n then some (.int (ck n (zs.map ajo):Nat)) else none)
theorem Eg:bA prog w (d+1) P 66 Cg:=by
 refine ⟨gQ (oq P),λ xs res h=>?_⟩
 apply Mr h;clear h;intro zs _ h
 apply fR h;clear h;intro n _ h
 apply dh h;clear h;intro h
 refine eF h ?_
 clear h
 intro hc h
 have h1:=hc.1
 have h2:=hc.2.1
 have h3:=hc.2.2.1
 have h4:=hc.2.2.2
 clear hc
 obtain rfl:=aam h
 refine ⟨rfl,?_⟩
 have ez:(zs.map ajo).map (λ(d:Nat)=>(d:Int))=zs:=by
  rw [ade]
  conv=>rhs;rw [←akA zs]
  exact aeo λ z hz=>afn (h4 z hz).1
 refine WT (k:=40) ⋯ %[a<(qL 2 62),a<16|(aV h3)] ?_
 by_cases h0:zs.length=0
 · rw [if_neg %[cY (cY (a=0)),a=0|(aV h0)]]
   have:zs=[]:=ago.mp h0
   subst this;rfl
 · rw [if_pos h0]
   have hl:(zs.map ajo).length=zs.length:=aar _
   have hb:n * zs.length≤2 ^ 20:=by
    have:=al6 (show n≤2 ^ 16 by exact %[a≤(qL 2 16),a<(qL 2 16)|aV h2]) (show zs.length≤16 by exact %[a≤16,a<16|aV h3])
    exact %[a*b≤(qL 2 20),a*b≤(qL 2 16)*16|aU this]
   have:=Mp n (zs.map ajo) (λ d hd=>by
    obtain ⟨z,hz,rfl⟩:=adb.mp hd
    obtain ⟨q1,q2⟩:=h4 z hz
    have:((z.toNat:Nat):Int) < ((2 ^ n:Nat):Int):=by rw [afn q1];exact_mod_cast q2
    exact ahK.mp this) %[a<(qL 2 18),a<(qL 2 16)|(aV h2)] %[a<(qL 2 18),b<16,a=b|(aU h3 hl)] (by rw [hl];exact hb) 39 (L:=0) (len:=zs.length) %[1≤a,cY (a=0)|(aV h0)] (acW %[a≤(qL 2 18),a<16|(aV h3)] TP) %[0+a≤b,b=a|(aU hl)]
   rw [ez,ae7] at this
   rw [show ((0:Nat):Int)=0 from rfl] at this
   rw [this,ajE,afT %[a≤b,a=b|(aU hl)]]
end
noncomputable def gq:Option Nat->List Nat->List Nat
 | _,[]=>[]
 | TQ,b::l=>if b / 64 % 2=1 then gq (some (TQ.getD 0 * 64+b % 64)) l else (TQ.getD 0 * 64+b % 64)::gq none l
noncomputable abbrev zI(l:List Nat):List Int:=l.map λ(c:Nat)=>(c:Int)
theorem TR(b:Nat):ac6 (b:Int) 63=((b % 64:Nat):Int):=by
 erw [(show (63:Int)=((63:Nat):Int) from rfl),lU ..]
 congr 1
 exact ajm b 6
theorem vF(b:Nat):ac6 (b:Int) 64=0↔b / 64 % 2=0:=by
 erw [(show (64:Int)=((64:Nat):Int) from rfl),lU ..]
 have hl:b % 64 < 2 ^ 6:=aeb _ ⋯
 have hb:b=b / 64 * 2 ^ 6+b % 64:=by lia
 have h1:b&&& 1 * 2 ^ 6=(b / 64 % 2) * 2 ^ 6:=by
  conv=>lhs;lhs;rw [hb,dW _ _ _ hl]
  erw [ahZ ..,tU _ _ _ hl,akI ..,←af0 ..,←af0 ..,←aj1,aiT ..,af0 ..,rfl]
 have h1:b&&& 64=(b / 64 % 2) * 64:=h1
 erw [h1]
 lia
theorem Qh(v b:Nat):agd ((v:Int) * 2 ^ (6:Int).toNat) (ac6 (b:Int) 63)=((v * 64+b % 64:Nat):Int):=by
 erw [TR ..]
 have:(v:Int) * 2 ^ (6:Int).toNat=((v * 2 ^ 6:Nat):Int):=zG v 6
 erw [this,zF ..,←dW v (b % 64) 6 (aeb _ ⋯),rfl]
theorem xt:∀(l:List Nat) (v b k:Nat),v < 2 ^ (6 * k)->6 * (k+l.length)+6≤2 ^ 27->
 (∃(u:Nat) (r:List Nat),gJ (v:Int) (b:Int) (zI l)=some (some ((u:Int),zI r))∧r.length≤l.length∧(if b / 64 % 2=1 then gq (some v) l else v::gq none l)=u::gq none r)∨
 (gJ (v:Int) (b:Int) (zI l)=some none∧(if b / 64 % 2=1 then gq (some v) l else v::gq none l)=[])
 | l,v,b,k,hv,hk=>by
   by_cases hb:b / 64 % 2=1
   · have Ii:ac6 (b:Int) 64≠0:=λ e=>by have:=(vF b).mp e;lia
     have hg:(aan (v:Int):Int)+6≤2 ^ 27:=by have:=bN hv;exact %[(qC a)+6⊆(qL 2 27),6*(b+c)+6≤(qL 2 27),a≤6*b|cf hk this]
     cases l with
     | nil=>
       refine .inr ⟨?_,by erw [if_pos hb];rfl⟩
       show gJ (v:Int) (b:Int) []=_
       unfold gJ
       (rw [if_neg Ii];erw [if_pos hg,rfl])
     | cons y l=>
       have e:gJ (v:Int) (b:Int) (zI (y::l))=gJ ((v * 64+y % 64:Nat):Int) (y:Int) (zI l):=by
        erw [←Qh ..]
        show gJ (v:Int) (b:Int) ((y:Int)::zI l)=_
        conv=>lhs;unfold gJ
        erw [if_neg Ii,if_pos hg,rfl]
       have bD:y % 64 < 64:=aeb _ ⋯
       have RX:v * 64+y % 64 < 2 ^ (6 * (k+1)):=by
        have hp:2 ^ (6 * (k+1))=2 ^ (6 * k) * 64:=by (erw [ad5 ..,aef ..,rfl])
        erw [hp];exact %[a*64+b<c*64,a<c,b<64|cf hv bD]
       have bc:(y::l).length=l.length+1:=rfl
       have:=xt l (v * 64+y % 64) y (k+1) RX %[6*(a+1+b)+6≤(qL 2 27),6*(a+c)+6≤(qL 2 27),c=b+1|(cf hk bc)]
       erw [e,if_pos hb]
       show (∃u r,_∧_∧(if y / 64 % 2=1 then _ else _)=_)∨(_∧(if y / 64 % 2=1 then _ else _)=_)
       rcases this with ⟨u,r,h1,h2,h3⟩ | ⟨h1,h2⟩
       · exact .inl ⟨u,r,h1,%[a≤b,b=c+1,a≤c|(cf bc h2)],h3⟩
       · exact .inr ⟨h1,h2⟩
   · have Ii:ac6 (b:Int) 64=0:=(vF b).mpr %[a=0,cY (a=1),qD 2 a b (2)|(aU hb rfl)]
     refine .inl ⟨v,l,?_,ac1 _,by erw [if_neg hb,rfl]⟩
     exact w7 Ii
theorem xu:∀(n:Nat) (l:List Nat),l.length < n->l.length < 2 ^ 20->pB n (zI l)=some (zI (gq none l))
 | 0,l,h,_=>absurd h (alR _)
 | n+1,[],_,_=>rfl
 | n+1,b::l,h,hs=>by
   have bc:(b::l).length=l.length+1:=rfl
   have e:pv (zI (b::l))=gJ ((b % 64:Nat):Int) (b:Int) (zI l):=by
    rw [←TR];rfl
   have bD:b % 64 < 64:=aeb _ ⋯
   have ev:gq none (b::l)=(if b / 64 % 2=1 then gq (some (b % 64)) l else (b % 64)::gq none l):=by
    show (if b / 64 % 2=1 then gq (some (0 * 64+b % 64)) l else (0 * 64+b % 64)::gq none l)=_
    rw [akk,ae7]
   rcases xt l (b % 64) b 1 (by lia) %[6*(1+a)+6≤(qL 2 27),b<(qL 2 20),b=a+1|(aU hs bc)] with ⟨u,r,h1,h2,h3⟩ | ⟨h1,h2⟩
   · have ih:=xu n r %[a<b,c<b+1,c=d+1,a≤d|(dQ h bc h2)] %[a<(qL 2 20),b<(qL 2 20),b=c+1,a≤c|(cf hs bc h2)]
     unfold pB
     rw [e,h1]
     show (pB n (zI r)).map ((u:Int)::·)=_
     rw [ih,ev,h3];rfl
   · unfold pB
     rw [e,h1,ev,h2];rfl
section
variable{prog:aaq}{w:acb}{d:Nat}{P:abe}
noncomputable abbrev dP(c:Nat):Str:=⟨#[c]⟩
noncomputable def b1F:Spec:=aS λ x=>aE (if x.length=1 then some (.bool (cJ.contains (x.cps.getD 0 0:Nat))) else none)
noncomputable def gh(x:Str):Str:=(mI (x.cps.getD 0 0:Nat)).getD (aeX x)
noncomputable def b3F:Spec:=aS λ x=>aE (if x.length=1 then some (.str (gh x)) else none)
noncomputable def Qi:Spec:=aS λ x=>aE (if x.cps.size≤1000000∧(kZ x).cps.size≤1000000 then some (.str (sg (kZ x))) else none)
noncomputable def Mu:Spec:=aS λ x=>aE (if x.cps.toList.length < 2 ^ 20 then some (.lst ((gq none x.cps.toList).map af)) else none)
noncomputable def knF:Spec:=aI λ z=>aE (some (.lst (HR z)))
theorem acj:bA prog w (d+1) P 115 b1F:=⟨gQ (mC P),λ xs res h=>by
 apply oA h;clear h;intro x _ h
 apply dh h;clear h;intro h
 refine eF h ?_
 clear h
 intro hx h
 obtain rfl:=aam h;exact ⟨rfl,ab7 hx⟩⟩
theorem ack:bA prog w (d+1) P 161 b3F:=⟨gQ (k5 P),λ xs res h=>by
 apply oA h;clear h;intro x _ h
 apply dh h;clear h;intro h
 refine eF h ?_
 clear h
 intro hx h
 obtain rfl:=aam h;exact ⟨rfl,aca hx⟩⟩
theorem WX:bA prog w (d+1) P 97 Qi:=⟨gQ (rG P),λ xs res h=>by
 apply oA h;clear h;intro x _ h
 apply dh h;clear h;intro h
 refine eF h ?_
 clear h
 intro hx h
 obtain rfl:=aam h;exact ⟨rfl,Mf hx.1 hx.2⟩⟩
theorem WY:bA prog w (d+2) P 204 Mu:=⟨gQ (mG P),λ xs res h=>by
 apply oA h;clear h;intro x _ h
 apply dh h;clear h;intro h
 refine eF h ?_
 clear h
 intro hx h
 obtain rfl:=aam h
 have e:(gq none x.cps.toList).map af=(zI (gq none x.cps.toList)).map .int:=by erw [ade];rfl
 refine ⟨vE _ 2,?_⟩
 erw [e]
 exact D6 hx (xu _ _ (afc _) hx)⟩
theorem acl:bA prog w (d+1) P 209 knF:=⟨gQ (rJ P),λ xs res h=>by
 apply iv h;clear h;intro z _ h
 apply dh h;clear h;intro h
 obtain rfl:=aam h;exact ⟨rfl,Mh⟩⟩
theorem bO(d:Int)(h:0 < m):0≤d.fmod m∧d.fmod m < m:=⟨aku d h,alg d h⟩
noncomputable def Mv(l:List Int)(k:Int):Int:=(l[k.toNat]?).getD 0
theorem eP{l:List Int}{p:Int->Bool}(h:l.all p=true){k:Int}(h0:0≤k)(h1:k < l.length):p (Mv l k)=true:=by
 have hk:k.toNat < l.length:=%[a<b,0⊆a,a⊂(qC b),qD 4 a a (0)|(IM h0 h1 rfl)]
 unfold Mv
 rw [aaF hk]
 exact acP.mp h _ (afa hk)
theorem oB(h0:0≤k)(h1:k < l.length)(h2:l.length < 2 ^ 62):nR σ (.lst (l.map .int)) (.int k)=some (.int (Mv l k)):=by
 have hk:k.toNat < l.length:=%[a<b,0⊆a,a⊂(qC b),qD 4 a a (0)|(IM h0 h1 rfl)]
 refine df rfl ⟨h0,%[a⊂(qL 2 62),a⊂(qC a),a<(qL 2 62)|(T9 h1 h2)]⟩ ?_
 unfold Mv
 rw [adk,aaF hk];rfl
noncomputable def Mw(i:Int):Bool:=decide (0≤i)&&decide (i≤1114111)
noncomputable def Ch:List Int:=[173,847,6150,6155,6156,6157,8203,8204,8205,8288,65279]
noncomputable def Eh(d:Int):Int:=if d.fmod 27 < 11 then Mv Ch (d.fmod 27) else 65013+d.fmod 27
noncomputable def sr(d:Int):Nat:=(Eh d).toNat
noncomputable def Qj:Spec:=aI λ d=>aE (some (.str (dP (sr d))))
theorem Ci(d:Int):Mw (Eh d)=true:=by
 have hr:=bO d (m:=27) ⋯
 unfold Eh
 split
 · exact eP (p:=Mw) ⋯ hr.1 (by show d.fmod 27 < 11;omega)
 · skip
   erw [aaQ ..];exact ⟨decide_eq_true %[0⊆65013+a,bG (0⊆a) (a⊂27)|(fZ hr)],decide_eq_true %[65013+a⊆1114111,bG (0⊆a) (a⊂27)|(fZ hr)]⟩
theorem Mx:bA prog w (d+1) P 173 Qj:=bR cz.nil (zk P) (zv P) λ xs res h=>by
 apply iv h;clear h;intro d _ h
 apply dh h;clear h;intro h
 obtain rfl:=aam h
 refine ⟨0,cQ (v:=.str (dP (sr d))) rfl (ao (bp (x:=.lst (Ch.map .int)) rfl) (bE (eh ?_))) rfl⟩
 have hr:=bO d (m:=27) ⋯
 refine aA rfl (ae (nC (aG (bq (ah rfl rfl (j4 rfl)) rfl rfl)) (x:=.int (Eh d)) ?_) ak) (BU (Ci d))
 unfold Eh
 by_cases hc:d.fmod 27 < 11
 · (rw [if_pos hc];erw [decide_eq_true hc])
   exact bt rfl (ah rfl rfl (j4 rfl)) (oB hr.1 hc ⋯)
 · erw [if_neg hc,decide_eq_false hc]
   exact ah rfl (ah rfl rfl (j4 rfl)) fO
noncomputable def dX:List Int:=[172,174,846,848,6149,6151,6154,6158,8202,8206,8287,8289,65023,65040,65278,65280]
noncomputable def My(d:Int):Int:=Mv dX (d.fmod 16)
noncomputable def HV(d:Int):Nat:=(My d).toNat
noncomputable def WZ:Spec:=aI λ d=>aE (some (.str (dP (HV d))))
theorem W0:bA prog w (d+1) P 180 WZ:=bR cz.nil (zm P) (zy P) λ xs res h=>by
 apply iv h;clear h;intro d _ h
 apply dh h;clear h;intro h
 obtain rfl:=aam h
 have hr:=bO d (m:=16) ⋯
 exact ⟨0,cQ (v:=.str (dP (HV d))) rfl (ao (bp (x:=.lst (dX.map .int)) rfl) (bE (eh (aA rfl (ae (bt rfl (ah rfl rfl (j4 rfl)) (oB hr.1 hr.2 ⋯)) ak) (BU (eP (p:=Mw) ⋯ hr.1 hr.2)))))) rfl⟩
noncomputable def k9:List Int:=[97,65,119808,119860,119912,120016,120172,120224,120276,120328,120380,120432]
noncomputable def W1(c:Nat)(d:Int):Int:=Mv k9 (d.fmod 12)+(c:Int) - 97
noncomputable def frm(c:Nat)(d:Int):Nat:=(W1 c d).toNat
noncomputable def Mz:Spec:=aS λ x=>aI λ d=>aE (if x.length=1∧97≤x.cps.getD 0 0∧x.cps.getD 0 0≤122 then some (.str (dP (frm (x.cps.getD 0 0) d))) else none)
theorem W2:bA prog w (d+1) P 187 Mz:=bR cz.nil (DT P) (DZ P) λ xs res h=>by
 apply oA h;clear h;intro x _ h
 apply iv h;clear h;intro d _ h
 apply dh h;clear h;intro h
 refine eF h ?_
 clear h
 intro hx h
 obtain rfl:=aam h
 have hr:=bO d (m:=12) ⋯
 have hn:=eP (l:=k9) (p:=λ i=>decide (65≤i)&&decide (i≤121000)) ⋯ hr.1 hr.2
 have hn:=bV hn
 refine ⟨0,cQ (v:=.str (dP (frm (x.cps.getD 0 0) d))) rfl (ao (bp (x:=.lst (k9.map .int)) rfl) (bE (eh (aA rfl (ae (ah (ah (bt rfl (ah rfl rfl (j4 rfl)) (oB hr.1 hr.2 ⋯)) (aA rfl (ae rfl ak) (xl (decide_eq_true hx.1))) fO) rfl k_sub) ak) (BU ?_))))) rfl⟩
 erw [aaQ ..];exact ⟨decide_eq_true %[0⊆a+(qC a)-97,bG (b=1) (bG (97≤a) (a≤122)),bG (65⊆a) (a⊆121000)|(IM hx hn)],decide_eq_true %[a+(qC a)-97⊆1114111,bG (b=1) (bG (97≤a) (a≤122)),bG (65⊆a) (a⊆121000)|(IM hx hn)]⟩
end
section
set_option tactic.hygienic true
noncomputable def rN(e:aeS):Int:=(iV e.key).getD 0
theorem Ei:lB (jA.map rN)=true:=∅
theorem F0{α β:Type}{f:α->β}{p:α->Bool}{e:α}:∀{l:List α} {i:Nat},(l.map f).Nodup->l[i]?=some e->p e=true->(∀x∈l,p x=true->f x=f e)->l.find? p=some e
 | [],i,_,h,_,_=>by cases h
 | x::l,0,nd,h,hp,hf=>by
   cases h
   erw [alO,hp,rfl]
 | x::l,i+1,nd,h,hp,hf=>by
   obtain ⟨n1,n2⟩:=adf.mp (show (f x::l.map f).Nodup from nd)
   rw [List.getElem?_cons_succ] at h
   erw [alO]
   cases hx:p x with
   | false=>exact F0 n2 h hp λ y hy=>hf y (.tail _ hy)
   | true=>
     refine absurd ?_ n1
     erw [hf x (.head _) hx]
     exact acV (acR h)
theorem MA{i:Nat}{k:Int}{s:Str}(h:jA[i]?.map (λ e=>(iV e.key,match e.val with | .str s _=>some s | _=>none))=some (some k,some s)):mI k=some s:=by
 obtain ⟨e,he,h⟩:=ah0.mp h
 rw [alo] at h
 obtain ⟨h1,h2⟩:=h
 have hf:jA.find? (λ e=>agX k e.key)=some e:=by
  refine F0 (f:=rN) (i:=i) (rk Ei) he (fg.mpr h1) λ x V hx=>?_
  unfold rN
  rw [fg.mp hx,h1]
 unfold mI ak8
 (rw [ak3];erw [hf])
 show (match some e.val with | some (.str s _)=>some s | _=>none)=some s
 cases hv:e.val with
 | str y t=>rw [hv] at h2;exact h2
 | _=>rw [hv] at h2;exact oR h2
theorem xx{k:Int}(h:(jA.all λ e=>!(Nat.beq (rN e).toNat k.toNat))=true):mI k=none:=by
 unfold mI ak8
 rw [ak3,List.find?_eq_none.mpr]
 · rfl
 · intro e he hx
   have:=acP.mp h e he
   unfold rN at this
   rw [fg.mp hx] at this
   show False
   rw [show ((some k).getD 0).toNat=k.toNat from rfl,Nat.beq_refl] at this
   cases this
theorem MB:(jA.all λ e=>agQ 181 (rN e).toNat)=true:=∅
theorem vG{c:Nat}(h:c < 181):mI (c:Int)=none:=by
 refine xx (acP.mpr λ e he=>?_)
 have:=ahm (acP.mp MB e he)
 cases hb:Nat.beq (rN e).toNat (c:Int).toNat with
 | false=>rfl
 | true=>
   have e2:=Nat.eq_of_beq_eq_true hb
   rw [aaV] at e2
   lia
theorem lf(c:Nat):gh (dP c)=(mI (c:Int)).getD (aeX (dP c)):=rfl
noncomputable def lg(p start:Nat):Bool:=((jA.drop p).take 26).zipIdx.all λ e=>iV e.1.key==some ((start+e.2:Nat):Int)&&(match e.1.val with | .str s _=>s.cps.toList==[97+e.2] | _=>false)
theorem Qk:Nat.blt 600 jA.length=true:=∅
theorem fD{p start k:Nat}(h:lg p start=true)(hp:p≤500)(hk:k < 26):gh (dP (start+k))=dP (97+k):=by
 have hl:=aaY (afc 600) (ahm Qk)
 have hi:p+k < jA.length:=acZ (al7 hp (ae4 hk)) (acZ ⋯ hl)
 rw [lf,MA (i:=p+k) (s:=dP (97+k))]
 · rfl
 · erw [aaF hi]
   have hm:(jA[p+k],k)∈((jA.drop p).take 26).zipIdx:=by
    refine acR (i:=k) ?_
    erw [List.getElem?_zipIdx,List.getElem?_take_of_lt hk,List.getElem?_drop,aaF hi]
    simp
   have:=acP.mp h _ hm
   rw [aaQ] at this
   obtain ⟨h1,h2⟩:=this
   show some (iV jA[p+k].key,_)=_
   erw [eq_of_beq h1]
   split at h2
   · rename_i s t hs
     have jo:jA[p+k].val=.str s t:=hs
     erw [jo]
     have e2:=eq_of_beq h2
     obtain ⟨cs⟩:=s
     show some (some (((start+k:Nat)):Int),some (⟨cs⟩ :Str))=some (some _,some (dP (97+k)))
     erw [(show (⟨cs⟩ :Str)=dP (97+k) from congrArg Str.mk (afW.mp e2)),rfl]
   · cases h2
theorem MC:((abD 26).all λ k=>aeX (dP (97+k))==dP (97+k)&&aeX (dP (65+k))==dP (97+k))=true:=by decide+kernel
theorem Ql:(([46,13,10]:List Nat).all λ c=>aeX (dP c)==dP c)=true:=by decide+kernel
theorem vH{k:Nat}(hk:k < 26):gh (dP (97+k))=dP (97+k):=by
 erw [lf ..,vG %[97+a<181,a<26|(aV hk)]]
 have:=acP.mp MC k (afj.mpr hk)
 rw [aaQ] at this
 exact eq_of_beq this.1
theorem vJ{k:Nat}(hk:k < 26):gh (dP (65+k))=dP (97+k):=by
 erw [lf ..,vG %[65+a<181,a<26|(aV hk)]]
 have:=acP.mp MC k (afj.mpr hk)
 rw [aaQ] at this
 exact eq_of_beq this.2
theorem oC{c:Nat}(h:c=46∨c=13∨c=10):gh (dP c)=dP c:=by
 erw [lf ..,vG %[a<181,ud (a=46) (ud (a=13) (a=10))|(aV h)]]
 exact eq_of_beq (acP.mp Ql c (by simp;exact %[ud (a=46) (ud (a=13) (a=10)),ud (a=46) (ud (a=13) (a=10))|aV h]))
theorem afH:(lg 202 119808&&lg 228 119860&&lg 254 119912&&lg 298 120016&&lg 364 120172&&lg 390 120224&&lg 416 120276&&lg 442 120328&&lg 468 120380&&lg 494 120432)=true:=∅
theorem Cj{k:Nat}(hk:k < 26)(d:Int):gh (dP (frm (97+k) d))=dP (97+k):=by
 have hr:=bO d (m:=12) ⋯
 have e:∀s:Nat,Mv k9 (d.fmod 12)=(s:Int)->frm (97+k) d=s+k:=λ s hs=>by
  unfold frm W1
  rw [hs];exact %[a=b+c,qD 4 a ((qC b)+(qC (97+c))-97) (0)|cf rfl]
 have hb:=afH
 simp only [aaQ] at hb
 obtain ⟨⟨⟨⟨⟨⟨⟨⟨⟨b1,b2⟩,b3⟩,b4⟩,b5⟩,b6⟩,b7⟩,b8⟩,b9⟩,b10⟩:=hb
 generalize d.fmod 12=m at hr e
 obtain ⟨m,rfl⟩:=agr hr.1
 have hm:m < 12:=%[a<12,bG (0⊆(qC a)) ((qC a)⊂12)|(aV hr)]
 clear hr
 match m,hm with
 | 0,_=>rw [e 97 rfl];exact vH hk
 | 1,_=>rw [e 65 rfl];exact vJ hk
 | 2,_=>rw [e 119808 rfl];exact fD b1 ⋯ hk
 | 3,_=>erw [e 119860 rfl];exact fD b2 ⋯ hk
 | 4,_=>erw [e 119912 rfl];exact fD b3 ⋯ hk
 | 5,_=>erw [e 120016 rfl];exact fD b4 ⋯ hk
 | 6,_=>erw [e 120172 rfl];exact fD b5 ⋯ hk
 | 7,_=>erw [e 120224 rfl];exact fD b6 ⋯ hk
 | 8,_=>erw [e 120276 rfl];exact fD b7 ⋯ hk
 | 9,_=>erw [e 120328 rfl];exact fD b8 ⋯ hk
 | 10,_=>erw [e 120380 rfl];exact fD b9 ⋯ hk
 | 11,_=>erw [e 120432 rfl];exact fD b10 ⋯ hk
theorem MD:(dX.all λ k=>jA.all λ e=>!(Nat.beq (rN e).toNat k.toNat))=true:=by decide+kernel
theorem Qm:(dX.all λ k=>aeX (dP k.toNat)==dP k.toNat)=true:=by decide+kernel
theorem Ck(d:Int):gh (dP (HV d))=dP (HV d):=by
 have hr:=bO d (m:=16) ⋯
 have h1:=eP MD hr.1 hr.2
 have h2:=eP Qm hr.1 hr.2
 have h3:=eP (l:=dX) (p:=λ i=>decide (0≤i)) ⋯ hr.1 hr.2
 erw [lf ..]
 have e:((HV d:Nat):Int)=Mv dX (d.fmod 16):=afn (of_decide_eq_true h3)
 erw [e,xx h1]
 exact eq_of_beq h2
theorem W3{c:Nat}(h:c < 173∨65279 < c):cJ.contains (c:Int)=false:=by
 have hb:(cJ.all λ i=>decide (173≤i)&&decide (i≤65279))=true:=⋯
 cases hc:cJ.contains (c:Int) with
 | false=>rfl
 | true=>
   have:=bV (acP.mp hb _ (ahk.mp hc))
   lia
theorem W4(d:Int):cJ.contains ((sr d:Nat):Int)=true:=by
 have hr:=bO d (m:=27) ⋯
 have hc:=bV (Ci d)
 erw [(show ((sr d:Nat):Int)=Eh d from afn hc.1)]
 unfold Eh
 split
 · exact eP (p:=λ i=>cJ.contains i) ⋯ hr.1 (by show d.fmod 27 < 11;lia)
 · generalize d.fmod 27=m at *
   obtain ⟨m,rfl⟩:=agr hr.1
   have h:((abD 16).all λ j=>cJ.contains (65024+(j:Int)))=true:=⋯
   have:=acP.mp h (m - 11) (afj.mpr %[a<16,bG (0⊆(qC b)) ((qC b)⊂27),qD 0 a b (11)|(aU hr rfl)])
   erw [(show (65013:Int)+(m:Int)=65024+((m - 11:Nat):Int) by lia)]
   exact this
theorem W5(d:Int):cJ.contains ((HV d:Nat):Int)=false:=by
 have hr:=bO d (m:=16) ⋯
 have h1:=eP (l:=dX) (p:=λ i=>decide (0≤i)&&!cJ.contains i) ⋯ hr.1 hr.2
 rw [aaQ] at h1
 erw [(show ((HV d:Nat):Int)=My d from afn (of_decide_eq_true h1.1))]
 have:=h1.2
 unfold My
 cases hc:cJ.contains (Mv dX (d.fmod 16)) with
 | false=>rfl
 | true=>rw [hc] at this;cases this
theorem xA{k:Nat}(hk:k < 26)(d:Int):frm (97+k) d < 173∧65≤frm (97+k) d∨65279 < frm (97+k) d:=by
 have hr:=bO d (m:=12) ⋯
 have h1:=eP (l:=k9) (p:=λ i=>decide (i=97)||decide (i=65)||decide (70000 < i)) ⋯ hr.1 hr.2
 simp only [afr,decide_eq_true_eq] at h1
 unfold frm W1
 exact %[ud (bG (a<173) (65≤a)) (65279<a),b<26,ud (ud (a==97) (a==65)) (70000⊂a),qD 4 a (a+(qC (97+b))-97) (0)|IM hk h1 rfl]
end
section
variable{prog:aaq}{w:acb}{d:Nat}{P:abe}
noncomputable abbrev wS(l:List Nat):Str:=⟨l.toArray⟩
theorem gR(a b:List Nat):wS a++wS b=wS (a++b):=ai3 (by show a.toArray++b.toArray=_;simp)
theorem bX(a:List Nat):(wS a).length=a.length:=by simp [akj]
noncomputable abbrev dI(c:Nat):AV:=.str (dP c)
noncomputable def dq(c:Nat):Bool:=!cJ.contains (c:Int)
noncomputable def Cm:Spec:=aS λ x=>aE (if x.length≤2 ^ 20 then some (.str (wS (x.cps.toList.filter dq))) else none)
noncomputable abbrev Qn:eU:=Tr
noncomputable abbrev tB1:cV:=gg [(115,b1F)]
theorem tX(h:a.length+b.length≤aaW):wq .Add (.str a) (.str b)=some (.str (a++b)):=by
 show uq .Add a b=_
 unfold uq;exact bl (decide_eq_true h)
theorem ME(l:List Nat):∀(acc:List Nat) (v2 v3:Option AV),acc.length+l.length≤2 ^ 20->∃u2 u3,
 uM (λ x σ=>bK tB1 n Qn (σ.put 2 x)) (l.map dI) ⟨[some t,some (.str (wS acc)),v2,v3],[]⟩=some (⟨[some t,some (.str (wS (acc++l.filter dq))),u2,u3],[]⟩,none):=by
 induction l with
 | nil=>
   intro acc v2 v3 _
   exact ⟨v2,v3,by rw [ajr,abg];rfl⟩
 | cons c l ih=>
   intro acc v2 v3 h
   have hl:(c::l).length=l.length+1:=rfl
   have TS:bj tB1 (.call (.glob "in_table_b1" (.obj (.ref 115))) (.cons (.var 2) .nil)) ⟨[some t,some (.str (wS acc)),some (dI c),v3],[]⟩=some (.bool (cJ.contains (c:Int))):=
    aA rfl (ae rfl ak) (bM rfl rfl)
   cases hk:cJ.contains (c:Int) with
   | false=>
     obtain ⟨u2,u3,ih⟩:=ih (acc++[c]) (some (dI c)) (some (.bool false)) (by rw [aao];show acc.length+1+l.length≤_;exact %[a+1+b≤(qL 2 20),a+c≤(qL 2 20),c=b+1|cf h hl])
     refine ⟨u2,u3,ay (σ':=⟨[some t,some (.str (wS (acc++[c]))),some (dI c),some (.bool false)],[]⟩) ?_ ?_⟩
     · refine ao (bp (x:=.bool false) (hk▸TS)) (ao (ec (p:=true) rfl (ao (rE (y:=.str (wS acc)) (x:=dI c) rfl rfl (tX ?_)) bQ)) ?_)
       · rw [bX];show acc.length+1≤aaW
         have:aaW=16777216:=rfl
         exact %[a<b,a+c≤(qL 2 20),b=16777216|cf h this]
       · rw [show wS acc++dP c=wS (acc++[c]) from gR acc [c]];rfl
     · rw [ih,adY,if_pos (by unfold dq;rw [hk];rfl),aaH];rfl
   | true=>
     obtain ⟨u2,u3,ih⟩:=ih acc (some (dI c)) (some (.bool true)) %[a+b≤(qL 2 20),a+c≤(qL 2 20),c=b+1|(cf h hl)]
     refine ⟨u2,u3,ay (σ':=⟨[some t,some (.str (wS acc)),some (dI c),some (.bool true)],[]⟩) ?_ ?_⟩
     · exact ao (bp (x:=.bool true) (hk▸TS)) (ao (ec (p:=false) rfl (ao (ec (p:=false) rfl bQ) bQ)) bQ)
     · rw [ih,adY,if_neg (by unfold dq;rw [hk];decide)]
theorem MF:bA prog w (d+2) P 194 Cm:=bR (cz.nil.cons acj) (DU P) (D1 P) λ xs res h=>by
 apply oA h;clear h;intro x _ h
 apply dh h;clear h;intro h
 refine eF h ?_
 clear h
 intro hx h
 obtain rfl:=aam h
 obtain ⟨u2,u3,hl⟩:=ME (n:=0) (t:=.str x) x.cps.toList [] none none (by rw [aec,ae7];exact hx)
 rw [acQ] at hl
 exact ⟨0,cQ (v:=.str (wS (x.cps.toList.filter dq))) rfl (ao (bp (x:=.str (wS [])) rfl) (ao (gP (tO rfl rfl) hl) (bE (eh rfl)))) rfl⟩
noncomputable def jn(sep:List Nat):List (List Nat)->List Nat
 | []=>[]
 | [x]=>x
 | x::r=>x++sep++jn sep r
theorem MG(sep:List Nat):∀rows:List (List Nat),agp (wS sep) (rows.map wS)=wS (jn sep rows):=λ rows=>by
 unfold agp
 rw [StrLaws.glued_eq_join]
 induction rows with
 | nil=>rfl
 | cons x r ih=>
   cases r with
   | nil=>rfl
   | cons y r=>
     show wS x++wS sep++Str.join (wS sep) ((y::r).map wS)=_
     rw [ih,gR,gR];rfl
theorem zJ:∀rows:List (List Nat),jn [] rows=rows.flatten
 | []=>rfl
 | [x]=>by show x=x++[];rw [abg]
 | x::y::r=>by
   show x++[]++jn [] (y::r)=x++(y::r).flatten
   rw [abg,zJ (y::r)]
theorem MH(sep:List Nat):∀rows:List (List Nat),(jn sep rows).length≤(rows.map ae3).sum+rows.length * sep.length
 | []=>adV _
 | [x]=>by show x.length≤_;simp
 | x::y::r=>by
   have:=MH sep (y::r)
   show (x++sep++jn sep (y::r)).length≤_
   rw [aao,aao,aaX,aiJ,ada (a:=x),ahx]
   exact %[a+b+c≤a+d+(e*b+1*b),c≤d+e*b|rU this]
theorem rO:∀rows:List (List Nat),jF (rows.map λ r=>AV.str (wS r))=some (rows.map wS)
 | []=>rfl
 | r::rows=>by
   show (jF (rows.map λ r=>AV.str (wS r))).map (wS r::·)=_
   rw [rO rows];rfl
theorem Ej(hx:σ.listOf x=some (rows.map λ r=>AV.str (wS r)))(h:(rows.map ae3).sum+rows.length * sep.length≤16777216):
 kS σ (.str (wS sep)) "join" [x]=some (.str (wS (jn sep rows))):=by
 show lI σ (wS sep) "join" [x]=_
 simp only [lI,if_true]
 unfold Jy
 rw [hx,aaT,rO,aaT,MG]
 refine bl (decide_eq_true ?_)
 rw [ade,aar,bX]
 rw [show (akj ∘ wS)=ae3 from funext λ l=>bX l]
 exact h
theorem vK{α:Type}(f:α->Nat):∀l:List α,(l.map λ c=>[f c]).flatten=l.map f
 | []=>rfl
 | c::l=>by show f c::(l.map λ c=>[f c]).flatten=_;rw [vK f l];rfl
noncomputable def bx(c:Nat):Nat:=(gh (dP c)).cps.getD 0 0
noncomputable def MI:Spec:=aS λ x=>aE (if x.length≤2 ^ 20∧∀c∈x.cps.toList,gh (dP c)=dP (bx c) then some (.str (wS (x.cps.toList.map bx))) else none)
theorem W6:bA prog w (d+2) P 199 MI:=bR (cz.nil.cons ack) (zn P) (zA P) λ xs res h=>by
 apply oA h;clear h;intro x _ h
 apply dh h;clear h;intro h
 refine eF h ?_
 clear h
 intro hx h
 obtain rfl:=aam h
 have hl:x.cps.toList.length≤2 ^ 20:=hx.1
 refine ⟨0,cQ (v:=.str (wS (x.cps.toList.map bx))) rfl (bE (eh (lR (x:=.str (wS [])) rfl (ae (x:=.lst ((x.cps.toList.map λ c=>[bx c]).map λ r=>.str (wS r))) ?_ ak) ?_))) rfl⟩
 · have e:(x.cps.toList.map λ c=>[bx c]).map (λ r=>AV.str (wS r))=(x.cps.toList.map dI).map (λ v=>match v with | .str s=>.str (gh s) | _=>.none):=by
    rw [ade,ade]
    refine aeo λ c hc=>?_
    show AV.str (wS [bx c])=AV.str (gh (dP c))
    rw [hx.2 c hc]
   rw [e]
   refine jR (oj rfl rfl) (λ y hy=>?_) (decide_eq_true ?_)
   · obtain ⟨c,_,rfl⟩:=adb.mp hy
     exact aA rfl (ae rfl ak) (bM rfl rfl)
   · rw [aar]
     have:aaW=16777216:=rfl
     exact %[a≤b,a≤(qL 2 20),b=16777216|aU hl this]
 · refine (Ej (sep:=[]) (rows:=x.cps.toList.map λ c=>[bx c]) rfl ?_).trans ?_
   · rw [ade,aar,aec,agO,ahJ]
     rw [show (ae3 ∘ λ c=>[bx c])=λ V=>1 from rfl]
     rw [alN,akd]
     exact %[a*1≤16777216,a≤(qL 2 20)|aV hl]
   · rw [zJ]
     rw [vK]
end
section
variable{prog:aaq}{w:acb}{d:Nat}{P:abe}
theorem iw{α β:Type}(f:α->β)(l:List α)(a b c:Option Int):bZ (l.map f) a b c=(bZ l a b c).map f:=by
 unfold bZ
 (rw [aar];erw [List.map_filterMap])
 congr 1
 funext i
 erw [adk,rfl]
theorem oE(h:x∈bI 0 5):∃p:Nat,p < 5∧x=.int (p:Int):=by
 skip
 (refine bF (adb.mp h) λ k hk cB=>?_;obtain rfl:=cB)
 exact ⟨k,afj.mp hk,by congr 1;exact %[0+(qC a)==(qC a)|aV]⟩
noncomputable def Ek:List Int:=[11010010001,31100050110,700241350,5,31100]
noncomputable def jh(zs:List Int)(p:Int):Int:=(Mv Ek p+(bZ zs (some p) none (some 5)).sum).fmod (10 ^ (12:Int).toNat)
noncomputable def MJ:Spec:=aZ λ zs=>aE (if zs.length≤2 ^ 20 then some (.lst ([jh zs 0,jh zs 1,jh zs 2,jh zs 3,jh zs 4].map .int)) else none)
theorem lh{σ:bB}{x lo hi st:AV}{xs:List AV}{l u t:Option Int}(hx:σ.listOf x=some xs)(h1:kR lo=some l)(h2:kR hi=some u)(h3:kR st=some t)(ht:t≠some 0)(hl:xs.length≤aaW):
 Am σ x lo hi st=some (.lst (bZ xs l u t)):=by
 have key:(σ.listOf x).bind (λ xs=>if t≠some 0∧xs.length≤aaW then some (AV.lst (bZ xs l u t)) else none)=some (AV.lst (bZ xs l u t)):=by
  erw [hx,aaT ..,if_pos ⟨ht,hl⟩,rfl]
 unfold Am
 (rw [h1];rw [aaT];erw [h2,aaT ..,h3,aaT ..])
 cases x with
 | str s=>exact oR hx
 | _=>exact key
theorem W7:bA prog w (d+1) P 166 MJ:=bR cz.nil (BW P) (B6 P) λ xs res h=>by
 apply Mr h;clear h;intro zs _ h
 apply dh h;clear h;intro h
 refine eF h ?_
 clear h
 intro hl h
 obtain rfl:=aam h
 have bY:aaW=16777216:=rfl
 refine ⟨0,cQ (v:=.lst ([jh zs 0,jh zs 1,jh zs 2,jh zs 3,jh zs 4].map .int)) ?_ (ao (bp (x:=.lst (Ek.map .int)) rfl) (bE (eh ?_))) rfl⟩
 · erw [aaQ ..]
   refine ⟨rfl,?_⟩
   show ((zs.map AV.int).all (cF 3)&&true)=true
   erw [agy ..,aic]
   exact acP.mpr λ z V=>rfl
 · refine jR (xs:=bI 0 5) (g:=λ x=>match x with | .int p=>.int (jh zs p) | _=>.none) (gp rfl ⋯) (λ x hx=>?_) ⋯
   (refine bF (oE hx) λ p hp cB=>?_;obtain rfl:=cB)
   refine ah (ah (bt rfl rfl (oB (l:=Ek) %[0⊆(qC a)|(aV)] (by show (p:Int) < 5;exact %[(qC a)⊂5,a<5|aV hp]) ⋯)) (aA rfl (ae (pM (x:=.bor (zs.map .int)) (y:=.int p) (z:=.none) (u:=.int 5) (v:=.none) rfl rfl rfl rfl (lh rfl rfl rfl rfl ⋯ (by erw [aar ..];exact %[a≤b,a≤(qL 2 20),b=16777216|aU hl bY]))) ak) (LZ (l:=bZ zs (some (p:Int)) none (some 5)) ?_)) fO) (ah rfl rfl (Tf ⋯)) (j4 ⋯)
   show cP (bZ (zs.map AV.int) _ _ _)=_
   erw [iw ..,dD ..,rfl]
noncomputable def di(n:Nat):Nat:=((abD 5).map λ p=>n / 2 ^ p % 2).sum
noncomputable def W8:Spec:=aN λ n=>aE (some (.int (di n:Nat)))
theorem Qo(b:Nat):ac6 (b:Int) 1=((b % 2:Nat):Int):=by
 erw [(show (1:Int)=((1:Nat):Int) from rfl),lU ..,aiT ..,rfl]
theorem W9:bA prog w (d+1) P 219 W8:=bR cz.nil (DW P) (D5 P) λ xs res h=>by
 apply fR h;clear h;intro n _ h
 apply dh h;clear h;intro h
 obtain rfl:=aam h
 refine ⟨0,cQ (v:=.int (di n:Nat)) rfl (bE (eh (aA rfl (ae (x:=.lst ((bI 0 5).map λ x=>match x with | .int p=>af (n / 2 ^ p.toNat % 2) | _=>.none)) (jR (gp rfl ⋯) (λ x hx=>?_) ⋯) ak) (LZ (l:=[((n / 2 ^ 0 % 2:Nat):Int),((n / 2 ^ 1 % 2:Nat):Int),((n / 2 ^ 2 % 2:Nat):Int),((n / 2 ^ 3 % 2:Nat):Int),((n / 2 ^ 4 % 2:Nat):Int)]) rfl)))) ?_⟩
 · (refine bF (oE hx) λ p hp cB=>?_;obtain rfl:=cB)
   refine (ah (ah rfl rfl (Tg (decide_eq_true (ac9 p)))) rfl xj).trans ?_
   erw [oz ..,Qo ..];rfl
 · show some (AV.int _)=some (AV.int ((n / 2 ^ 0 % 2+(n / 2 ^ 1 % 2+(n / 2 ^ 2 % 2+(n / 2 ^ 3 % 2+(n / 2 ^ 4 % 2+0)))):Nat):Int))
   congr 2
end
section
variable{prog:aaq}{w:acb}{d:Nat}{P:abe}
noncomputable def xB:AV->Option Nat
 | .str s=>if s.length=1 then some (s.cps.getD 0 0) else none
 | _=>none
noncomputable def Cp(m:Nat):AV->Option Nat
 | .int i=>if 0≤i∧i≤m then some i.toNat else none
 | _=>none
theorem F1(h:s.length=1):s=dP (s.cps.getD 0 0):=by
 obtain ⟨⟨l⟩⟩:=s
 match l,h with
 | [c],_=>rfl
theorem xC(h:xB x=some c):x=dI c:=by
 cases x with
 | str s=>
   replace h:(if s.length=1 then some (s.cps.getD 0 0) else none)=some c:=h
   refine eF h ?_
   clear h
   intro hs h
   obtain rfl:=aam h;exact congrArg AV.str (F1 hs)
 | _=>exact oR h
theorem HW(h:Cp m x=some c):x=af c∧c≤m:=by
 cases x with
 | int i=>
   replace h:(if 0≤i∧i≤m then some i.toNat else none)=some c:=h
   refine eF h ?_
   clear h
   intro hs h
   obtain rfl:=aam h;exact ⟨congrArg AV.int (afn hs.1).symm,%[a≤b,bG (0⊆a) (a⊆(qC b)),qD 4 a a (0)|(IM hs rfl)]⟩
 | _=>exact oR h
theorem Qp{α:Type}(a b c d e:α):∀g:Nat,g≤5->bZ [a,b,c,d,e] none (some (g:Int)) none=[a,b,c,d,e].take g∧bZ [a,b,c,d,e] (some (g:Int)) none none=[a,b,c,d,e].drop g
 | 0,_=>⟨∅,∅⟩
 | 1,_=>⟨∅,∅⟩
 | 2,_=>⟨∅,∅⟩
 | 3,_=>⟨∅,∅⟩
 | 4,_=>⟨∅,∅⟩
 | 5,_=>⟨∅,∅⟩
 | n+6,h=>absurd h %[cY (a+6≤5)|(aV)]
theorem five{α:Type}{l:List α}(h:l.length=5):∃a b c d e,l=[a,b,c,d,e]:=by
 match l,h with
 | [a,b,c,d,e],_=>exact ⟨a,b,c,d,e,rfl⟩
theorem gy{α:Type}(f:α->AV)(hf:∀x,cF 3 (f x)=true)(l:List α):cF 4 (.bor (l.map f))=true:=by
 show (l.map f).all (cF 3)=true
 rw [aic]
 exact acP.mpr λ x V=>hf x
noncomputable def du(k:Bool)(c:Nat):Nat:=if k then c - 32 else c
noncomputable def iW(ls:List Nat)(ks:List Bool):List Nat:=ah9 du ks ls
noncomputable def Qq:Spec:=aL xB λ ls=>aL kQ λ ks=>aN λ g=>aS λ h=>aE (if ls.length=5∧ks.length=5∧g≤5∧h.length=1∧∀c∈ls,32≤c∧c≤1000 then some (.str (wS ((iW ls ks).take g++h.cps.toList++(iW ls ks).drop g))) else none)
theorem Xa:bA prog w (d+1) P 214 Qq:=bR cz.nil (DV P) (D3 P) λ xs res h=>by
 apply xr (λ x y=>xC) h;clear h;intro ls _ h
 apply xr (g:=AV.bool) (λ x y=>fL) h;clear h;intro ks _ h
 apply fR h;clear h;intro g _ h
 apply oA h;clear h;intro hd _ h
 apply dh h;clear h;intro h
 refine eF h ?_
 clear h
 intro hc h
 have c1:=hc.1
 have c2:=hc.2.1
 have c4:=hc.2.2.1
 have c5:=hc.2.2.2.1
 have c6:=hc.2.2.2.2
 clear hc
 obtain rfl:=aam h
 have bc:(iW ls ks).length=5:=by unfold iW;rw [List.length_zipWith,c1,c2];rfl
 have hsg:∀p,p < 5->(iW ls ks)[p]?=(ks[p]?).bind λ k=>(ls[p]?).map (du k):=λ p hp=>by
  unfold iW
  rw [List.getElem?_zipWith]
  cases ks[p]? <;> cases ls[p]? <;> rfl
 have z5:([.bor (ls.map dI),.bor (ks.map .bool),.int g,.str hd]:List AV).all (cF 4)=true:=by
  rw [agm,agm,gy dI (λ V=>rfl),gy AV.bool λ V=>rfl];rfl
 have bY:aaW=16777216:=rfl
 generalize hS:iW ls ks=S at bc hsg
 refine ⟨0,cQ (σ':=⟨[some (.bor (ls.map dI)),some (.bor (ks.map .bool)),some (.int g),some (.str hd),some (.lst (S.map dI))],[]⟩) (v:=.str (wS (S.take g++hd.cps.toList++S.drop g))) (by rw [z5];rfl) (ao (bp (x:=.lst (S.map dI)) ?_) (bE (eh ?_))) rfl⟩
 · have e:S.map dI=(bI 0 5).map λ x=>match x with | .int p=>dI ((S[p.toNat]?).getD 0) | _=>.none:=by
    obtain ⟨a,b,c,d,e,rfl⟩:=five bc
    rfl
   rw [e]
   refine jR (gp rfl ⋯) (λ x hx=>?_) ⋯
   obtain ⟨p,hp,rfl⟩:=oE hx
   have hkp:p < ks.length:=%[a<b,b=5,a<5|(aU c2 hp)]
   have Xb:p < ls.length:=%[a<b,b=5,a<5|(aU c1 hp)]
   have hs:=hsg p hp
   rw [aaF hkp,aaF Xb] at hs
   have X8:=c6 ls[p] (afa Xb)
   have NP:0≤(p:Int)∧(p:Int) < 2 ^ 62:=%[bG (0⊆(qC a)) ((qC a)⊂(qL 2 62)),a<5|(aV hp)]
   have il:bj (gg []) (.idx (.var 0) (.var 5)) ⟨[some (.bor (ls.map dI)),some (.bor (ks.map .bool)),some (.int g),some (.str hd),none,some (.int p)],[]⟩=some (dI ls[p]):=
    bt rfl rfl (df rfl NP (by rw [aaV,adk,aaF Xb];rfl))
   refine nC (p:=ks[p]) (aG (bt rfl rfl (df rfl NP (by rw [aaV,adk,aaF hkp];rfl)))) ?_
   show bj _ _ _=some (dI ((S[((p:Nat):Int).toNat]?).getD 0))
   rw [aaV,hs]
   show bj _ _ _=some (dI (du ks[p] ls[p]))
   cases ks[p] with
   | false=>exact il
   | true=>
     show bj (gg []) Ts _=_
     refine (aA rfl (ae (ah (aA rfl (ae il ak) (xl rfl)) rfl k_sub) ak) (BU ?_)).trans ?_
     · show (decide (0≤(ls[p]:Int) - 32)&&decide ((ls[p]:Int) - 32≤1114111))=true
       rw [decide_eq_true %[0⊆(qC a)-32,bG (32≤a) (a≤1000)|(aV X8)],decide_eq_true %[(qC a)-32⊆1114111,bG (32≤a) (a≤1000)|(aV X8)]];rfl
     · show some (AV.str (dP ((ls[p]:Int) - 32).toNat))=some (AV.str (dP (ls[p] - 32)))
       rw [show ((ls[p]:Int) - 32).toNat=ls[p] - 32 by exact %[a=b,qD 4 a ((qC c)-32) (0),qD 0 b c (32)|cf rfl rfl]]
 · have hx:((S.take g++hd.cps.toList++S.drop g).map λ c=>[c]).map (λ r=>AV.str (wS r))=(bZ (S.map dI) none (some (g:Int)) none++[.str hd])++bZ (S.map dI) (some (g:Int)) none none:=by
    obtain ⟨a,b,c,d,e,rfl⟩:=five bc
    have h5:=Qp a b c d e g %[a≤5,a≤5|(aV c4)]
    rw [iw,iw,h5.1,h5.2,ade,aa6,aa6,F1 c5]
    rfl
   refine lR (x:=.str (wS [])) rfl (ae (x:=.lst _) (ah (ah (pM (x:=.lst (S.map dI)) (y:=.none) (z:=.int g) (u:=.none) (v:=.none) rfl rfl rfl rfl (lh rfl rfl rfl rfl ⋯ (by rw [aar];exact %[a≤b,b=16777216,a=5|aU bY bc]))) (fe (ae rfl ak) rfl) (j5 rfl rfl ?_)) (pM (x:=.lst (S.map dI)) (y:=.int g) (z:=.none) (u:=.none) (v:=.none) rfl rfl rfl rfl (lh rfl rfl rfl rfl ⋯ (by rw [aar];exact %[a≤b,b=16777216,a=5|aU bY bc]))) (j5 rfl rfl ?_)) ak) ?_
   · obtain ⟨a,b,c,d,e,rfl⟩:=five bc
     rw [iw,(Qp a b c d e g %[a≤5,a≤5|(aV c4)]).1]
     refine decide_eq_true ?_
     rw [aar,aem];simp;exact %[a<b,b=16777216,qD 3 a c (5)|cf bY rfl]
   · obtain ⟨a,b,c,d,e,rfl⟩:=five bc
     rw [iw,iw,(Qp a b c d e g %[a≤5,a≤5|(aV c4)]).1,(Qp a b c d e g %[a≤5,a≤5|(aV c4)]).2]
     refine decide_eq_true ?_
     rw [aao,aar,aar,aem,ae9];simp;exact %[a+1+b≤c,c=16777216,qD 3 a d (5),qD 0 b (5) d|dQ bY rfl rfl]
   · rw [←hx]
     refine (Ej (sep:=[]) rfl ?_).trans ?_
     · rw [ade,aar,aec,agO,ahJ]
       rw [show (ae3 ∘ λ c:Nat=>[c])=λ V=>1 from rfl]
       rw [alN,akd,aao,aao,aem,ae9]
       have:hd.cps.toList.length=1:=c5
       exact %[(a+b+c)*1≤16777216,d=5,b=1,qD 3 a e d,qD 0 c d e|rU bc this rfl rfl]
     · rw [zJ,vK,ai1]
end
section
variable{prog:aaq}{w:acb}{d:Nat}{P:abe}
noncomputable def eQ(cnt c:Nat):List Nat:=aau (1+cnt) 46++[13+64 * (c - 64),10]
noncomputable def ji(b:Nat):List Nat:=if b / 64 % 2=1 then [b % 64 * 64+46] else [b % 64,46]
noncomputable def wK(cs ls:List Nat)(wr b:Nat):List Nat:=(ah9 eQ cs ls).flatten++[13,10]++aau (1+wr) 46++[13,10]++ji b
noncomputable def Qr:Spec:=aL (Cp 1000) λ cs=>aL xB λ ls=>aN λ wr=>aS λ b=>aE (if cs.length=5∧ls.length=5∧(∀c∈ls,64≤c∧c < 128)∧(∀c∈cs,c≤1000)∧wr≤1000∧b.length=1 then some (.lst ((wK cs ls wr (b.cps.getD 0 0)).map af)) else none)
theorem tY{n:Nat}{ds:List Nat}(h1:1≤n)(h2:n < 2 ^ 16)(h3:ds.length < 16)(h4:∀d∈ds,d < 2 ^ n):Cg [.bor (ds.map af),.int (n:Int)]=some (af (ck n ds)):=by
 have e:ds.map af=(zI ds).map .int:=by rw [ade];rfl
 have hz:(zI ds).map ajo=ds:=by
  rw [ade]
  conv=>rhs;rw [←akA ds]
  exact aeo λ x V=>aaV x
 show (cP (ds.map af)).bind _=_
 rw [e,dD,aaT]
 refine (if_pos ⟨h1,h2,by rw [aar];exact h3,λ z hz=>?_⟩).trans (by rw [hz];rfl)
 obtain ⟨x,hx,rfl⟩:=adb.mp hz
 exact ⟨ac9 x,(ajC 2 n)▸ahK.mpr (h4 x hx)⟩
noncomputable abbrev tD:cV:=gg [(66,Cg)]
noncomputable abbrev afI:IE:=abV
theorem lj{n p:Nat}{cs ls D:List Nat}{X wr b:AV}{v6:Option AV}{own:List (List AV)}(hp:p < 5)(hc:cs.length=5)(hl:ls.length=5)(h1:∀c∈ls,64≤c∧c < 128)(h2:∀c∈cs,c≤1000)(hD:D.length≤2 ^ 20)
(hX:(⟨[some (.bor (cs.map af)),some (.bor (ls.map dI)),some wr,some b,some X,some (.int p),v6],own⟩ :bB).listOf X=some (D.map af)):
 bK tD n (.cons (.asg 4 afI) .nil) ⟨[some (.bor (cs.map af)),some (.bor (ls.map dI)),some wr,some b,some X,some (.int p),v6],own⟩=
  some (⟨[some (.bor (cs.map af)),some (.bor (ls.map dI)),some wr,some b,some (.lst ((D++eQ (cs[p]?.getD 0) (ls[p]?.getD 0)).map af)),some (.int p),v6],own⟩,none):=by
 have X8:p < cs.length:=%[a<b,a<5,b=5|(aU hp hc)]
 have Xb:p < ls.length:=%[a<b,a<5,b=5|(aU hp hl)]
 have hcv:=h2 cs[p] (afa X8)
 have hlv:=h1 ls[p] (afa Xb)
 have NP:0≤(p:Int)∧(p:Int) < 2 ^ 62:=%[bG (0⊆(qC a)) ((qC a)⊂(qL 2 62)),a<5|(aV hp)]
 have bY:aaW=16777216:=rfl
 erw [aaF X8,aaF Xb,afu,afu]
 refine ao (bp (x:=.lst _) ?_) bQ
 have e:(D++eQ cs[p] ls[p]).map af=(D.map af++aau (1+(cs[p]:Int)).toNat (.int 46))++[af (ck 6 [13,ls[p] - 64]),.int 10]:=by
  skip
  erw [aa6,aa6,ag0,←aaH ..,(show (1+(cs[p]:Int)).toNat=1+cs[p] by exact %[a=1+b,qD 4 a (1+(qC b)) (0)|aU rfl])]
  rfl
 erw [e]
 refine ah (ah rfl (ah (x:=.lst [.int 46]) rfl (ah (y:=af cs[p]) rfl (bt rfl rfl (df rfl NP ?_)) fO) (Tj rfl ?_)) (j5 hX rfl ?_)) (fe (ae (aA rfl (ae (fe (ae rfl (ae (ah (aA rfl (ae (bt rfl rfl (df rfl NP ?_)) ak) (xl (s:=dP ls[p]) rfl)) rfl k_sub) ak)) rfl) (ae rfl ak)) (bM rfl ?_)) (ae rfl ak)) rfl) (j5 rfl rfl ?_)
 · erw [aaV ..,adk,aaF X8];rfl
 · erw [decide_eq_true %[0⊆1+(qC a)|(aV)],decide_eq_true %[1+(qC a)⊆(qL 2 20),a≤1000|(aV hcv)]];rfl
 · refine decide_eq_true ?_
   erw [aar ..,adp];exact %[a+b≤c,a≤(qL 2 20),d≤1000,c=16777216,qD 4 b (1+(qC d)) (0)|dQ hD hcv bY rfl]
 · erw [aaV ..,adk,aaF Xb];rfl
 · have:=tY (n:=6) (ds:=[13,ls[p] - 64]) ⋯ ⋯ (show 2 < 16 by decide) (λ d hd=>by simp at hd;exact %[a<(qL 2 6),bG (64≤b) (b<128),ud (a=13) (a=c),qD 0 c b (64)|cf hlv hd rfl])
   erw [←this]
   show Cg [.bor [.int 13,.int ((ls[p]:Int) - 64)],.int 6]=Cg [.bor [.int 13,.int ((ls[p] - 64:Nat):Int)],.int 6]
   erw [(show ((ls[p] - 64:Nat):Int)=(ls[p]:Int) - 64 by exact %[(qC a)==(qC b)-64,bG (64≤b) (b<128),qD 0 a b (64)|aU hlv rfl]),rfl]
 · refine decide_eq_true ?_
   erw [aao,aar ..,adp];show _+2≤_;exact %[a+b+2≤c,a≤(qL 2 20),d≤1000,c=16777216,qD 4 b (1+(qC d)) (0)|dQ hD hcv bY rfl]
theorem HX{σ:bB}(k:Nat)(l:List Nat):nk σ (k+2) (.lst (l.map af))=some (.lst (l.map af)):=by
 have e:l.map af=(zI l).map AV.int:=by erw [ade];rfl
 show ((l.map af).mapM (nk σ (k+1))).map AV.lst=_
 erw [e,w9 ..];rfl
theorem lW(c l:Nat):(eQ c l).length=c+3:=by unfold eQ;erw [aao,adp];show 1+c+2=_;exact %[1+a+2=a+3|aV]
theorem Xd:bA prog w (d+2) P 233 Qr:=bR (cz.nil.cons Eg) (HJ P) (HN P) λ xs res h=>by
 apply xr (λ x y h=>(HW h).1) h;clear h;intro cs _ h
 apply xr (λ x y=>xC) h;clear h;intro ls _ h
 apply fR h;clear h;intro wr _ h
 apply oA h;clear h;intro b _ h
 apply dh h;clear h;intro h
 refine eF h ?_
 clear h
 intro hc h
 have c1:=hc.1
 have c2:=hc.2.1
 have c3:=hc.2.2.1
 have c4:=hc.2.2.2.1
 have c6:=hc.2.2.2.2.1
 have c7:=hc.2.2.2.2.2
 clear hc
 obtain rfl:=aam h
 have bY:aaW=16777216:=rfl
 have z5:([.bor (cs.map af),.bor (ls.map dI),.int wr,.str b]:List AV).all (cF 4)=true:=by
  rw [agm,agm,gy af (λ V=>rfl),gy dI λ V=>rfl];rfl
 obtain ⟨k0,k1,k2,k3,k4,rfl⟩:=five c1
 obtain ⟨l0,l1,l2,l3,l4,rfl⟩:=five c2
 have q0:=c4 k0 (by simp)
 have q1:=c4 k1 (by simp)
 have q2:=c4 k2 (by simp)
 have q3:=c4 k3 (by simp)
 have q4:=c4 k4 (by simp)
 have s0:=lW k0 l0
 have s1:=lW k1 l1
 have s2:=lW k2 l2
 have s3:=lW k3 l3
 have s4:=lW k4 l4
 have hD:((ah9 eQ [k0,k1,k2,k3,k4] [l0,l1,l2,l3,l4]).flatten)=((((([]++eQ k0 l0)++eQ k1 l1)++eQ k2 l2)++eQ k3 l3)++eQ k4 l4):=by
  show eQ k0 l0++(eQ k1 l1++(eQ k2 l2++(eQ k3 l3++(eQ k4 l4++[]))))=_
  simp only [abg,acQ,aaH]
 have bc:((((([]++eQ k0 l0)++eQ k1 l1)++eQ k2 l2)++eQ k3 l3)++eQ k4 l4).length≤6000:=by
  simp only [aao,aec];exact %[0+a+b+c+d+e≤6000,f≤1000,g≤1000,h≤1000,i≤1000,j≤1000,a=f+3,b=g+3,c=h+3,d=i+3,e=j+3|IQ q0 q1 q2 q3 q4 s0 s1 s2 s3 s4]
 unfold wK
 rw [hD]
 have st0:=lj (n:=0) (p:=0) (D:=[]) (X:=.own 0) (wr:=.int wr) (b:=.str b) (v6:=none) (own:=[[]]) ⋯ c1 c2 c3 c4 ⋯ rfl
 have st1:=lj (n:=0) (p:=1) (D:=[]++eQ k0 l0) (X:=.lst _) (wr:=.int wr) (b:=.str b) (v6:=none) (own:=[[]]) ⋯ c1 c2 c3 c4 (by simp only [aao,aec];exact %[0+a≤(qL 2 20),b≤1000,a=b+3|aU q0 s0]) rfl
 have st2:=lj (n:=0) (p:=2) (D:=[]++eQ k0 l0++eQ k1 l1) (X:=.lst _) (wr:=.int wr) (b:=.str b) (v6:=none) (own:=[[]]) ⋯ c1 c2 c3 c4 (by simp only [aao,aec];exact %[0+a+b≤(qL 2 20),c≤1000,d≤1000,a=c+3,b=d+3|dQ q0 q1 s0 s1]) rfl
 have st3:=lj (n:=0) (p:=3) (D:=[]++eQ k0 l0++eQ k1 l1++eQ k2 l2) (X:=.lst _) (wr:=.int wr) (b:=.str b) (v6:=none) (own:=[[]]) ⋯ c1 c2 c3 c4 (by simp only [aao,aec];exact %[0+a+b+c≤(qL 2 20),d≤1000,e≤1000,f≤1000,a=d+3,b=e+3,c=f+3|IP q0 q1 q2 s0 s1 s2]) rfl
 have st4:=lj (n:=0) (p:=4) (D:=[]++eQ k0 l0++eQ k1 l1++eQ k2 l2++eQ k3 l3) (X:=.lst _) (wr:=.int wr) (b:=.str b) (v6:=none) (own:=[[]]) ⋯ c1 c2 c3 c4 (by simp only [aao,aec];exact %[0+a+b+c+d≤(qL 2 20),e≤1000,f≤1000,g≤1000,h≤1000,a=e+3,b=f+3,c=g+3,d=h+3|q80 q0 q1 q2 q3 s0 s1 s2 s3]) rfl
 rw [show (([k0,k1,k2,k3,k4]:List Nat)[4]?).getD 0=k4 from rfl,show (([l0,l1,l2,l3,l4]:List Nat)[4]?).getD 0=l4 from rfl] at st4
 generalize hGD:((((([]++eQ k0 l0)++eQ k1 l1)++eQ k2 l2)++eQ k3 l3)++eQ k4 l4)=G at bc st4
 refine ⟨0,cQ (v:=.lst ((G++[13,10]++aau (1+wr) 46++[13,10]++ji (b.cps.getD 0 0)).map af)) (by rw [z5];rfl) (ao rfl (ao (gP (xs:=bI 0 5) (lT rfl ⋯) (ay st0 (ay st1 (ay st2 (ay st3 (ay st4 cR)))))) (ao (bp (x:=.lst ((G++[13,10]++aau (1+wr) 46++[13,10]).map af)) ?_) (ao (bp (x:=af (b.cps.getD 0 0)) (aA rfl (ae rfl ak) (xl (decide_eq_true c7)))) (bE (eh ?_)))))) ?_⟩
 · have e:(G++[13,10]++aau (1+wr) 46++[13,10]).map af=((G.map af++[.int 13,.int 10])++aau (1+(wr:Int)).toNat (.int 46))++[.int 13,.int 10]:=by
    rw [aa6,aa6,aa6,ag0,show (1+(wr:Int)).toNat=1+wr by exact %[a=1+b,qD 4 a (1+(qC b)) (0)|aU rfl]];rfl
   rw [e]
   refine ah (ah (ah rfl (fe (ae rfl (ae rfl ak)) rfl) (j5 rfl rfl (decide_eq_true ?_))) (ah (x:=.lst [.int 46]) rfl (ah rfl rfl fO) (Tj rfl ?_)) (j5 rfl rfl (decide_eq_true ?_))) (fe (ae rfl (ae rfl ak)) rfl) (j5 rfl rfl (decide_eq_true ?_))
   · rw [aar];show _+2≤_;exact %[a+2≤b,b=16777216,a≤6000|aU bY bc]
   · rw [decide_eq_true %[0⊆1+(qC a)|(aV)],decide_eq_true %[1+(qC a)⊆(qL 2 20),a≤1000|(aV c6)]];rfl
   · rw [aao,aar,adp];show _+2+_≤_;exact %[a+2+b≤c,d≤1000,c=16777216,a≤6000,qD 4 b (1+(qC d)) (0)|dQ c6 bY bc rfl]
   · rw [aao,aao,aar,adp];show _+2+_+2≤_;exact %[a+2+b+2≤c,d≤1000,c=16777216,a≤6000,qD 4 b (1+(qC d)) (0)|dQ c6 bY bc rfl]
 · generalize hB:b.cps.getD 0 0=B
   have yN:(G++[13,10]++aau (1+wr) 46++[13,10]).length≤10000:=by
    rw [aao,aao,aao,adp];show _+2+_+2≤_;exact %[a+2+(1+b)+2≤10000,b≤1000,a≤6000|aU c6 bc]
   generalize (G++[13,10]++aau (1+wr) 46++[13,10])=H at yN
   rw [show (H++ji B).map af=H.map af++(ji B).map af from aa6 ..]
   have Br:jV tD (.val (.cmp .Eq (.bin .Mod (.bin .FloorDiv (.var 6) (.int 64)) (.int 2)) (.int 1))) ⟨[some (.bor ([k0,k1,k2,k3,k4].map af)),some (.bor ([l0,l1,l2,l3,l4].map dI)),some (.int wr),some (.str b),some (.lst (H.map af)),some (.int 4),some (af B)],[[]]⟩=some (B / 64 % 2==1):=by
    refine aG (bq (x:=af (B / 64 % 2)) (y:=.int 1) (ah (x:=af (B / 64)) (y:=.int 2) (ah rfl rfl ((LV rfl).trans ?_)) rfl ((j4 rfl).trans ?_)) rfl ?_)
    · exact congrArg (λ i=>some (AV.int i)) (fP B 64)
    · exact congrArg (λ i=>some (AV.int i)) (fQ (B / 64) 2)
    · show some (((B / 64 % 2:Nat):Int)==1)=some (B / 64 % 2==1)
      congr 1
      rw [agv,beq_iff_eq,beq_iff_eq];lia
   have acm:bj tD (.bin .Mod (.var 6) (.int 64)) ⟨[some (.bor ([k0,k1,k2,k3,k4].map af)),some (.bor ([l0,l1,l2,l3,l4].map dI)),some (.int wr),some (.str b),some (.lst (H.map af)),some (.int 4),some (af B)],[[]]⟩=some (af (B % 64)):=
    ah rfl rfl ((j4 rfl).trans (congrArg (λ i=>some (AV.int i)) (fQ B 64)))
   refine ah rfl (nC (p:=B / 64 % 2==1) (x:=.lst ((ji B).map af)) Br ?_) (j5 rfl rfl (decide_eq_true ?_))
   · unfold ji
     by_cases hb:B / 64 % 2=1
     · rw [if_pos hb,hb]
       refine fe (ae (x:=af (B % 64 * 64+46)) (ah (x:=af (B % 64 * 64)) (ah acm rfl ((rD ?_).trans ?_)) rfl (fO.trans ?_)) ak) rfl
       · have z6:=bN (a:=B % 64) (k:=6) (aeb _ ⋯)
         have NU:=bN (a:=64) (k:=7) ⋯
         refine decide_eq_true ?_
         have:aan (64:Int)=aan ((64:Nat):Int):=rfl
         exact %[a+b≤(qL 2 20),a≤6,c≤7,b=c|cf z6 NU this]
       · exact congrArg (λ i=>some (AV.int i)) (afs (B % 64) 64).symm
       · exact congrArg (λ i=>some (AV.int i)) (agx (B % 64 * 64) 46).symm
     · rw [if_neg hb,show (B / 64 % 2==1)=false from beq_eq_false_iff_ne.mpr hb]
       exact fe (ae acm (ae rfl ak)) rfl
   · unfold ji
     rw [aar,aar]
     split
     · show _+1≤_;exact %[a<b,b=16777216,a≤10000|aU bY yN]
     · show _+2≤_;exact %[a+2≤b,b=16777216,a≤10000|aU bY yN]
 · exact HX 2 _
end
section
variable{prog:aaq}{w:acb}{d:Nat}{P:abe}
noncomputable def lZ(k:Int):List Nat:=if k.fmod 3=0 then [10] else if k.fmod 3=1 then [13] else [13,10]
noncomputable def me(k:Int):List Nat:=if k.fmod 4=0 then [] else if k.fmod 4=1 then [10] else if k.fmod 4=2 then [13] else [13,10]
noncomputable def dJ(rows:List (List Nat))(bare:List Bool)(draw:Int)(p:Nat):List Nat:=(if (bare[p]?).getD false then [] else [sr (draw+(p:Int))])++((rows[p]?).getD []++lZ (draw+(p:Int)))
noncomputable def ek(rows:List (List Nat))(bare:List Bool)(draw:Int):List Nat:=
 dJ rows bare draw 0++dJ rows bare draw 1++dJ rows bare draw 2++dJ rows bare draw 3++dJ rows bare draw 4++((rows[5]?).getD []++[13]++(rows[6]?).getD []++[10]++(rows[7]?).getD []++me draw)
noncomputable def xD(t:List Nat):List Nat:=(sg (kZ (wS t))).cps.toList.filter dq
noncomputable def Xe:AV->Option (List Nat)
 | .str s=>some s.cps.toList
 | _=>none
noncomputable abbrev eV(r:List Nat):AV:=.str (wS r)
theorem MK(h:Xe x=some r):x=eV r:=by
 cases x with
 | str s=>cases h;rfl
 | _=>exact oR h
noncomputable def ML:Spec:=aL Xe λ rows=>aL kQ λ bare=>aI λ draw=>aE (if 8≤rows.length∧rows.length≤9∧bare.length=5∧(∀r∈rows,r.length≤2000)∧(kZ (wS (ek rows bare draw))).cps.size≤1000000∧(sg (kZ (wS (ek rows bare draw)))).cps.size≤1000000 then
 some (.lst ((agw (wS (xD (ek rows bare draw))) (wS [13,10])).map .str)) else none)
noncomputable abbrev X9:cV:=gg [(173,Qj),(194,Cm),(97,Qi)]
noncomputable abbrev Xf:eU:=(.cons Tt
 WP)
theorem MM(k:Int):nR σ (.tup [.str ⟨#[10]⟩,.str ⟨#[13]⟩,.str ⟨#[13,10]⟩]) (.int (k.fmod 3))=some (eV (lZ k)):=by
 have hr:=bO k (m:=3) ⋯
 refine FR ⟨hr.1,%[a⊂(qL 2 62),bG (0⊆a) (a⊂3)|(fZ hr)]⟩ ?_
 unfold lZ
 rcases (show k.fmod 3=0∨k.fmod 3=1∨k.fmod 3=2 by exact %[ud (a==0) (ud (a==1) (a==2)),bG (0⊆a) (a⊂3)|fZ hr]) with h | h | h <;> rw [h] <;> rfl
theorem MN(k:Int):nR σ (.tup [.str (ac5 ""),.str ⟨#[10]⟩,.str ⟨#[13]⟩,.str ⟨#[13,10]⟩]) (.int (k.fmod 4))=some (eV (me k)):=by
 have hr:=bO k (m:=4) ⋯
 refine FR ⟨hr.1,%[a⊂(qL 2 62),bG (0⊆a) (a⊂4)|(fZ hr)]⟩ ?_
 unfold me
 rcases (show k.fmod 4=0∨k.fmod 4=1∨k.fmod 4=2∨k.fmod 4=3 by exact %[ud (a==0) (ud (a==1) (ud (a==2) (a==3))),bG (0⊆a) (a⊂4)|fZ hr]) with h | h | h | h <;> rw [h] <;> rfl
theorem Cq(k:Int):(lZ k).length≤2:=by unfold lZ;split <;> (try split) <;> simp
theorem Cr(k:Int):(me k).length≤2:=by unfold me;split <;> (try split) <;> (try split) <;> simp
theorem dY{rows:List (List Nat)}{bare:List Bool}{draw:Int}{p:Nat}(h:((rows[p]?).getD []).length≤2000):(dJ rows bare draw p).length≤2003:=by
 skip
 have:=Cq (draw+(p:Int))
 erw [aao,aao]
 split
 · simp;exact %[a+b≤2003,a≤2000,b≤2|aU h this]
 · simp;exact %[1+(a+b)≤2003,a≤2000,b≤2|aU h this]
theorem lm{n p:Nat}{rows:List (List Nat)}{bare:List Bool}{draw:Int}{acc:List Nat}(hp:p < 5)(hR:8≤rows.length)(hB:bare.length=5)(hr:((rows[p]?).getD []).length≤2000)(ha:acc.length≤20000):
 bK X9 n Xf ⟨[some (.bor (rows.map eV)),some (.bor (bare.map .bool)),some (.int draw),some (eV acc),some (.int p)],[]⟩=
  some (⟨[some (.bor (rows.map eV)),some (.bor (bare.map .bool)),some (.int draw),some (eV (acc++dJ rows bare draw p)),some (.int p)],[]⟩,none):=by
 have hpR:p < rows.length:=%[a<b,a<5,8≤b|(aU hp hR)]
 have hpB:p < bare.length:=%[a<b,a<5,b=5|(aU hp hB)]
 have NP:0≤(p:Int)∧(p:Int) < 2 ^ 62:=%[bG (0⊆(qC a)) ((qC a)⊂(qL 2 62)),a<5|(aV hp)]
 have bY:aaW=16777216:=rfl
 have h3:=Cq (draw+(p:Int))
 unfold dJ
 rw [aaF hpR,afu] at hr
 rw [aaF hpR,aaF hpB,afu,afu]
 have tail:∀a:List Nat,a.length≤20001->bK X9 n WP
  ⟨[some (.bor (rows.map eV)),some (.bor (bare.map .bool)),some (.int draw),some (eV a),some (.int p)],[]⟩=some (⟨[some (.bor (rows.map eV)),some (.bor (bare.map .bool)),some (.int draw),some (eV (a++(rows[p]++lZ (draw+(p:Int))))),some (.int p)],[]⟩,none):=λ a hla=>by
  refine ao (rE (y:=eV a) (x:=eV (rows[p]++lZ (draw+(p:Int)))) rfl ((ah (x:=eV rows[p]) (bt rfl rfl (df rfl NP ?_)) (bt rfl (ah (ah rfl rfl fO) rfl (j4 rfl)) (MM _)) (BR (s:=wS rows[p]) ?_)).trans ?_) ((tX ?_).trans ?_)) bQ
  · rw [aaV,adk,aaF hpR];rfl
  · rw [bX,bX];exact decide_eq_true %[a+b≤c,a≤2000,c=16777216,b≤2|(cf hr bY h3)]
  · rw [gR]
  · rw [bX,bX,aao];exact %[a+(b+c)≤d,b≤2000,d=16777216,c≤2,a≤20001|dQ hr bY h3 hla]
  · rw [gR]
 refine ao (σ':=⟨[some (.bor (rows.map eV)),some (.bor (bare.map .bool)),some (.int draw),some (eV (acc++(if bare[p] then [] else [sr (draw+(p:Int))]))),some (.int p)],[]⟩) ?_ ((tail _ ?_).trans ?_)
 · refine ec (p:=!bare[p]) (PY (aG (bt rfl rfl (df rfl NP (by rw [aaV,adk,aaF hpB];rfl))))) ?_
   cases bare[p] with
   | true=>
     show bK X9 n .nil _=_
     rw [if_pos rfl,abg];rfl
   | false=>
     rw [if_neg afE]
     show bK X9 n (.cons _ .nil) _=_
     refine ao (rE (y:=eV acc) (x:=.str (dP (sr (draw+(p:Int))))) rfl (aA rfl (ae (ah rfl rfl fO) ak) (bM rfl rfl)) ((tX ?_).trans ?_)) bQ
     · rw [bX];show acc.length+1≤_;exact %[a<b,a≤20000,b=16777216|aU ha bY]
     · exact congrArg (λ z=>some (AV.str z)) (gR acc [sr (draw+(p:Int))])
 · rw [aao];split
   · simp;exact %[a≤20001,a≤20000|aV ha]
   · simp;exact %[a≤20000,a≤20000|aV ha]
 · rw [aaH]
theorem Qs(h1:t.length+2≤aaW)(h2:y.length≠0):kS σ (.str t) "split" [.str y]=some (.lst ((agw t y).map .str)):=by
 show lI σ t "split" [.str y]=_
 have cM:¬(ac5 "split"=ac5 "join"):=⋯
 skip
 show yz t (.str y)=_
 unfold yz
 (rw [as_];erw [aaT ..])
 refine bl ?_
 erw [decide_eq_true h1,decide_eq_true h2];rfl
theorem Qt(h:x.length≤2 ^ 20):X9 (.ref 194) [.str x]=some (.str (wS (x.cps.toList.filter dq))):=by
 show Cm [.str x]=_
 simp only [Cm,so,wJ,wI,sq,if_pos h]
theorem Qu(h1:x.cps.size≤1000000)(h2:(kZ x).cps.size≤1000000):X9 (.ref 97) [.str x]=some (.str (sg (kZ x))):=by
 show Qi [.str x]=_
 simp only [Qi,so,wJ,wI,sq,if_pos (And.intro h1 h2)]
theorem xE:∀l:List Str,(l.map AV.str).mapM (nk σ k)=some (l.map AV.str)
 | []=>rfl
 | x::l=>by
   erw [aaX,adu,xE l]
   cases k <;> rfl
theorem HY(k:Nat)(l:List Str):nk σ (k+1) (.lst (l.map .str))=some (.lst (l.map .str)):=by
 show ((l.map AV.str).mapM (nk σ k)).map AV.lst=_
 erw [xE ..];rfl
theorem Ct{rows:List (List Nat)}(h:∀r∈rows,r.length≤2000)(i:Nat):((rows[i]?).getD []).length≤2000:=by
 by_cases hi:i < rows.length
 · erw [aaF hi];exact h _ (afa hi)
 · erw [List.getElem?_eq_none (by lia)];exact adV _
theorem Xg:bA prog w (d+3) P 226 ML:=bR (((cz.nil.cons WX.more).cons MF).cons Mx.more) (zp P) (zC P) λ xs res h=>by
 apply xr (λ x y=>MK) h;clear h;intro rows _ h
 apply xr (g:=AV.bool) (λ x y=>fL) h;clear h;intro bare _ h
 apply iv h;clear h;intro draw _ h
 apply dh h;clear h;intro h
 refine eF h ?_
 clear h
 intro hc h
 have c1:=hc.1
 have c2:=hc.2.1
 have c3:=hc.2.2.1
 have c4:=hc.2.2.2.1
 have c5:=hc.2.2.2.2.1
 have c6:=hc.2.2.2.2.2
 clear hc
 obtain rfl:=aam h
 have bY:aaW=16777216:=rfl
 have z5:([.bor (rows.map eV),.bor (bare.map .bool),.int draw]:List AV).all (cF 4)=true:=by
  (erw [agm,agm,gy eV (λ V=>rfl) ..];rw [gy AV.bool λ V=>rfl]);rfl
 have g:=Ct c4
 have s0:=lm (n:=0) (p:=0) (acc:=[]) (draw:=draw) ⋯ c1 c3 (g 0) (by simp)
 have p0:=dY (bare:=bare) (draw:=draw) (g 0)
 have p1:=dY (bare:=bare) (draw:=draw) (g 1)
 have p2:=dY (bare:=bare) (draw:=draw) (g 2)
 have p3:=dY (bare:=bare) (draw:=draw) (g 3)
 have p4:=dY (bare:=bare) (draw:=draw) (g 4)
 have s1:=lm (n:=0) (p:=1) (acc:=dJ rows bare draw 0) (draw:=draw) ⋯ c1 c3 (g 1) %[a≤20000,a≤2003|(aV p0)]
 have s2:=lm (n:=0) (p:=2) (acc:=dJ rows bare draw 0++dJ rows bare draw 1) (draw:=draw) ⋯ c1 c3 (g 2) (by erw [aao];exact %[a+b≤20000,a≤2003,b≤2003|aU p0 p1])
 have s3:=lm (n:=0) (p:=3) (acc:=dJ rows bare draw 0++dJ rows bare draw 1++dJ rows bare draw 2) (draw:=draw) ⋯ c1 c3 (g 3) (by (erw [aao,aao]);exact %[a+b+c≤20000,a≤2003,b≤2003,c≤2003|cf p0 p1 p2])
 have s4:=lm (n:=0) (p:=4) (acc:=dJ rows bare draw 0++dJ rows bare draw 1++dJ rows bare draw 2++dJ rows bare draw 3) (draw:=draw) ⋯ c1 c3 (g 4) (by (erw [aao,aao,aao]);exact %[a+b+c+d≤20000,a≤2003,b≤2003,c≤2003,d≤2003|dQ p0 p1 p2 p3])
 rw [acQ] at s0
 have g5:=g 5
 have g6:=g 6
 have g7:=g 7
 have e4:=Cr draw
 have hA:(dJ rows bare draw 0++dJ rows bare draw 1++dJ rows bare draw 2++dJ rows bare draw 3++dJ rows bare draw 4).length≤10015:=by
  erw [aao,aao,aao,aao];exact %[a+b+c+d+e≤10015,a≤2003,b≤2003,c≤2003,d≤2003,e≤2003|rU p0 p1 p2 p3 p4]
 have ht:ek rows bare draw=dJ rows bare draw 0++dJ rows bare draw 1++dJ rows bare draw 2++dJ rows bare draw 3++dJ rows bare draw 4++((rows[5]?).getD []++[13]++(rows[6]?).getD []++[10]++(rows[7]?).getD []++me draw):=rfl
 generalize hG:dJ rows bare draw 0++dJ rows bare draw 1++dJ rows bare draw 2++dJ rows bare draw 3++dJ rows bare draw 4=A at hA s4 ht
 have ix:∀(i:Nat) (v3 v4:Option AV),i < 8->nR ⟨[some (.bor (rows.map eV)),some (.bor (bare.map .bool)),some (.int draw),v3,v4],[]⟩ (.bor (rows.map eV)) (.int (i:Int))=some (eV ((rows[i]?).getD [])):=λ i v3 v4 hi=>by
  refine df rfl ⟨%[0⊆(qC a)|(aV)],%[(qC a)⊂(qL 2 62),a<8|(aV hi)]⟩ ?_
  erw [aaV ..,adk,aaF %[a<b,8≤b,a<8|(aU c1 hi)]];rfl
 generalize hr5:(rows[5]?).getD []=r5 at g5 ht
 generalize hr6:(rows[6]?).getD []=r6 at g6 ht
 generalize hr7:(rows[7]?).getD []=r7 at g7 ht
 have cat:∀{σ:bB} (a b:List Nat),a.length+b.length≤20000->dc σ .Add (eV a) (eV b)=some (eV (a++b)):=λ a b Fv=>by
  refine (BR ?_).trans (congrArg (λ z=>some (AV.str z)) (gR a b))
  erw [bX ..,bX ..];exact decide_eq_true %[a+b≤c,c=16777216,a+b≤20000|(cf bY Fv)]
 refine ⟨0,cQ (σ':=⟨[some (.bor (rows.map eV)),some (.bor (bare.map .bool)),some (.int draw),some (eV (ek rows bare draw)),some (.int 4)],[]⟩) (v:=.lst ((agw (wS (xD (ek rows bare draw))) (wS [13,10])).map .str)) (by erw [z5];rfl)
  (ao (bp (x:=eV []) rfl) (ao (gP (xs:=bI 0 5) (lT rfl ⋯) (ay s0 (ay s1 (ay s2 (ay s3 (ay s4 cR)))))) (ao (rE (y:=eV A) (x:=eV (r5++[13]++r6++[10]++r7++me draw)) rfl ?_ ((tX ?_).trans ?_)) (bE (eh ?_))))) ?_⟩
 · refine ah (ah (ah (ah (ah (bt rfl rfl (hr5▸ix 5 _ _ ⋯)) rfl (cat r5 [13] ?_)) (bt rfl rfl (hr6▸ix 6 _ _ ⋯)) (cat _ r6 ?_)) rfl (cat _ [10] ?_)) (bt rfl rfl (hr7▸ix 7 _ _ ⋯)) (cat _ r7 ?_)) (bt rfl (ah rfl rfl (j4 rfl)) (MN draw)) (cat _ _ ?_) <;> simp <;> lia
 · erw [bX ..,bX ..];simp;exact %[a+(b+(c+(d+e+1)+1))≤f,f=16777216,e≤2,a≤10015,b≤2000,c≤2000,d≤2000|IP bY e4 hA g5 g6 g7]
 · erw [gR ..,←ht,rfl]
 · have htl:(ek rows bare draw).length≤20000:=by erw [ht];simp;exact %[a+(b+(c+(d+e+1)+1))≤20000,e≤2,a≤10015,b≤2000,c≤2000,d≤2000|rU e4 hA g5 g6 g7]
   have z6:(wS (xD (ek rows bare draw))).length≤1000000:=by
    erw [bX ..];exact acW (agC _ _) c6
   refine lR (aA rfl (ae (x:=.str (sg (kZ (wS (ek rows bare draw))))) (aA rfl (ae rfl ak) (bM (ys:=[eV (ek rows bare draw)]) rfl ?_)) ak) (bM (ys:=[.str (sg (kZ (wS (ek rows bare draw))))]) rfl ?_)) (ae rfl ak) (Qs (by lia) ⋯)
   · exact Qu (by erw [(show (wS (ek rows bare draw)).cps.size=(ek rows bare draw).length from bX _)];exact %[a≤1000000,a≤20000|aV htl]) c5
   · exact Qt (acW (show (sg (kZ (wS (ek rows bare draw)))).length≤1000000 from c6) ⋯)
 · exact HY 3 _
end
section
variable{prog:aaq}{w:acb}{d:Nat}{P:abe}
noncomputable def dsF:Spec:=aI λ a=>aI λ b=>aI λ n=>aE (if 0≤a∧0 < b∧0≤n∧(aan a:Int)≤n+4000∧b.natAbs.log2 < 9000 then some (.tup [.int (a.fdiv b),.int (a.fmod b)]) else none)
noncomputable abbrev Qv:eU:=(.cons (.asg 3 (.bin .BitAnd (.var 2) (.int 1)))
 (.cons To
 WO))
theorem MO:kS σ (.int i) "bit_length" []=some (.int (aan i)):=by
 show yA i "bit_length" []=_
 simp only [yA,if_true]
theorem Cu{RF:cV}{n:Nat}{a b m:Int}{vs:List (Option AV)}{own:List (List AV)}:jV RF Tp ⟨some (.int a)::some (.int b)::some (.int m)::vs,own⟩=some (decide ((aan a:Int) - m≤4000)):=
 aG (bq (ah (lR rfl ak MO) rfl k_sub) rfl rfl)
theorem Cv{RF:cV}{a b m:Int}(h1:(aan a:Int)≤m+4000)(h2:0 < b)(h3:b.natAbs.log2 < 9000):X0 3 11 pN RF 0 [.int a,.int b,.int m]=some (.tup [.int (a.fdiv b),.int (a.fmod b)]):=by
 refine cQ (σ':=⟨[.int a,.int b,.int m].map some++aau (11 - 3) none,[]⟩) (v:=.tup [.int (a.fdiv b),.int (a.fmod b)]) rfl (bE (ec (p:=decide ((aan a:Int) - m≤4000)) (Cu (n:=0)) ?_)) rfl
 rw [decide_eq_true (show (aan a:Int) - m≤4000 by exact %[(qC a)-a⊆4000,(qC a)⊆a+4000|T9 h1])]
 refine bE (eh (aA rfl (ae rfl (ae rfl ak)) (afB ?_)))
 rw [decide_eq_true (show b≠0 by exact %[cY (a==0),0⊂a|fZ h2]),decide_eq_true h3];rfl
theorem aco:bA prog w (d+1) P 45 dsF:=bR cz.nil (xn P) (xo P) λ xs res h=>by
 apply iv h;clear h;intro a _ h
 apply iv h;clear h;intro b _ h
 apply iv h;clear h;intro n _ h
 apply dh h;clear h;intro h
 refine eF h ?_
 clear h
 intro hc h
 obtain rfl:=aam h;exact ⟨0,Cv hc.2.2.2.1 hc.2.1 hc.2.2.2.2⟩
theorem pO{A b q r:Int}(h:A=q * b+r)(h0:0≤r)(h1:r < b):A.fdiv b=q∧A.fmod b=r:=by
 have hb:0 < b:=%[0⊂a,0⊆b,b⊂a|(q02 h0 h1)]
 rw [ajW _ %[0⊆a,0⊂a|(fZ hb)],ajV _ %[0⊆a,0⊂a|(fZ hb)]]
 have e:A=r+b * q:=by rw [h,aks];exact %[a*b+c==c+a*b|q03]
 constructor
 · rw [e,Int.add_mul_ediv_left _ _ %[cY (a==0),0⊂a|(fZ hb)],Int.ediv_eq_zero_of_lt h0 h1];exact %[0+a==a|fZ]
 · rw [e,Int.add_mul_emod_self_left];exact aly h0 h1
theorem Qw(h1:N≤2 * b1)(h2:b1 < N)(h3:b2 < N)(h4:A3 < N)(h5:A < b1 * N+b2)(hq:q=if A / N=b1 then N - 1 else A / b1)(hr:r=if A / N=b1 then A - b1 * N+b1 else A % b1):
 A=q * b1+r∧q < N∧r < 2 * N∧r * N+A3 < b1 * N+b2+q * b2∧q * b2≤r * N+A3+2 * (b1 * N+b2):=by
 have hN:0 < N:=%[0<a,b<a|(aU h2)]
 have hsq:N * N≤2 * (b1 * N):=by rw [←agA];exact aeg N h1
 by_cases hc:A / N=b1
 · rw [if_pos hc] at hq hr
   have hA:=ajB A N
   have ht:=aeb A hN
   rw [hc] at hA
   generalize A % N=t at hA ht
   have hc1:N * b1=b1 * N:=ac8 _ _
   have Z6:t < b2:=%[a<b,c<d*e+b,e*d+a=c|(rU h5 hA)]
   have er:r=t+b1:=by lia
   subst er hq
   have e1:(N - 1) * b1+b1=N * b1:=by rw [←agg,aiH,ag4 %[1≤a,b<a|(aU h2)]]
   have e2:(N - 1) * b2+b2=N * b2:=by rw [←agg,aiH,ag4 %[1≤a,b<a|(aU h2)]]
   have e3:(t+b1) * N=t * N+b1 * N:=ahx _ _ _
   have e4:t * N+N≤b2 * N:=by rw [←agg];exact aeg N Z6
   have e5:N * b2=b2 * N:=ac8 _ _
   have e6:b2 * N+N≤N * N:=by rw [←agg];exact aeg N h3
   refine ⟨%[a=b*c+(d+c),e*c+d=a,b*c+c=e*c|(rU hA e1)],%[a<b,c<b,qD 0 a b (1)|(cf h2 rfl)],by lia,%[(a+b)*c+d<b*c+e+f*e,d<c,f*e+e=c*e,a*c+c≤e*c|(IP h4 e2 e4)],by lia⟩
 · rw [if_neg hc] at hq hr
   have z6:0 < b1:=%[0<a,b≤2*a,a<b|(aU h1 h2)]
   have j9:A / N < b1:=by
    have:A / N < b1+1:=by rw [adq hN,ahx,Nat.one_mul];exact %[a<b*c+c,d<c,a<b*c+d|dQ h3 h5]
    exact %[a<b,cY (a=b),a<b+1|aU hc this]
   have hA:A < b1 * N:=by rwa [adq hN] at j9
   have hqN:A / b1 < N:=by rw [adq z6,ac8];exact hA
   have hrb:=aeb A z6
   have hA2:=ajB A b1
   rw [ac8] at hA2
   rw [←hq,←hr] at hA2
   rw [←hq] at hqN
   rw [←hr] at hrb
   clear hq hr
   have e1:r * N+N≤b1 * N:=by rw [←agg];exact aeg N hrb
   have e2:q * b2≤N * N:=al6 %[a≤b,a<b|(aU hqN)] %[a≤b,a<b|(aU h3)]
   refine ⟨hA2.symm,hqN,%[a<2*b,c<b,a<c|(cf h2 hrb)],%[a*b+c<d*b+e+f*e,c<b,a*b+b≤d*b|(IP h4 e1)],%[a*b≤c*d+e+2*(f*d+b),d*d≤2*(f*d),a*b≤d*d|(IP hsq e2)]⟩
noncomputable abbrev vL:IT:=.val (.cmp .Lt (.var 7) (.int 0))
noncomputable abbrev F2:eU:=(.cons (.aug 6 .Sub (.int 1)) (.cons (.aug 7 .Add (.var 2)) .nil))
theorem Xh(j:Nat):∀(q R:Int), -(j * b)≤R->R < b->∃q' R',G5 (jV RF vL) (bK RF m F2) (j+1) ⟨[v0,v1,some (.int b),v3,v4,v5,some (.int q),some (.int R)],[]⟩=some (⟨[v0,v1,some (.int b),v3,v4,v5,some (.int q'),some (.int R')],[]⟩,none)∧0≤R'∧R' < b∧q' * b+R'=q * b+R:=by
 have stop:∀(j:Nat) (q R:Int),¬R < 0->G5 (jV RF vL) (bK RF m F2) (j+1) ⟨[v0,v1,some (.int b),v3,v4,v5,some (.int q),some (.int R)],[]⟩=some (⟨[v0,v1,some (.int b),v3,v4,v5,some (.int q),some (.int R)],[]⟩,none):=λ j q R hR=>by
  show ((jV RF vL _).bind λ c=>if c=true then _ else _)=_
  rw [show jV RF vL ⟨[v0,v1,some (.int b),v3,v4,v5,some (.int q),some (.int R)],[]⟩=some (decide (R < 0)) from aG (bq rfl rfl rfl),decide_eq_false hR]
  rfl
 induction j with
 | zero=>
   intro q R h1 h2
   have hR:¬R < 0:=by rw [show ((0:Nat):Int) * b=0 from akp b] at h1;exact %[cY (a⊂0),(qG (0))⊆a|fZ h1]
   exact ⟨q,R,stop 0 q R hR,ajS.mp hR,h2,rfl⟩
 | succ j ih=>
   intro q R h1 h2
   by_cases hR:R < 0
   · rw [show ((j+1:Nat):Int) * b=(j:Int) * b+b by rw [Int.natCast_succ,akM,ags]] at h1
     obtain ⟨q',R',e,g1,g2,g3⟩:=ih (q - 1) (R+b) %[(qG ((qC a)*a))⊆b+a,(qG ((qC a)*a+a))⊆b|(q12 h1)] %[a+b⊂b,a⊂0|(q02 hR)]
     refine ⟨q',R',?_,g1,g2,by rw [g3,Int.sub_mul,ags];exact %[a*b-b+(c+b)==a*b+c|q03]⟩
     show ((jV RF vL _).bind λ c=>if c=true then eK (bK RF m F2 _) (G5 (jV RF vL) (bK RF m F2) (j+1)) else _)=_
     rw [show jV RF vL ⟨[v0,v1,some (.int b),v3,v4,v5,some (.int q),some (.int R)],[]⟩=some (decide (R < 0)) from aG (bq rfl rfl rfl),decide_eq_true hR]
     exact e
   · exact ⟨q,R,stop _ q R hR,ajS.mp hR,h2,rfl⟩
theorem vM{σ:bB}{a s:Nat}(h:a < 2 ^ 20000)(hs:s≤10000):dc σ .LShift (.int a) (.int s)=some (af (a * 2 ^ s)):=by
 have:=bN h
 refine (abJ ?_).trans (congrArg (λ i=>some (AV.int i)) (zG a s))
 rw [decide_eq_true (ac9 s),decide_eq_true %[(qC a)+(qC b)⊆(qL 2 27),b≤10000,a≤20000|(aU hs this)]];rfl
theorem pP{σ:bB}{a s:Nat}:dc σ .RShift (.int a) (.int s)=some (af (a / 2 ^ s)):=
 (Tg (decide_eq_true (ac9 s))).trans (congrArg (λ i=>some (AV.int i)) (oz a s))
noncomputable abbrev tS:cV:=gg [(45,dsF)]
theorem Xi{a b n:Nat}(h1:(aan (a:Int))≤n+4000)(h2:0 < b)(h3:b < 2 ^ 9000):tS (.ref 45) [.int a,.int b,.int n]=some (.tup [af (a / b),af (a % b)]):=by
 show dsF [.int a,.int b,.int n]=_
 have hl:((b:Int).natAbs.log2) < 9000:=by rw [ae8];exact (ahW %[cY (a=0),0<a|(aV h2)]).mpr h3
 simp only [dsF,so,wJ,wI,sq,if_pos (show 0≤(a:Int)∧0 < (b:Int)∧0≤(n:Int)∧(aan (a:Int):Int)≤(n:Int)+4000∧(b:Int).natAbs.log2 < 9000 from ⟨%[0⊆(qC a)|(aV)],%[0⊂(qC a),0<a|(aV h2)],%[0⊆(qC a)|(aV)],%[(qC a)⊆(qC b)+4000,a≤b+4000|(aU h1)],hl⟩),fP,fQ]
 rfl
noncomputable def d3N:Spec:=aN λ A=>aN λ A3=>aN λ B=>aN λ B1=>aN λ B2=>aN λ k=>aE (if 1≤k∧k≤3000∧B=B1 * 2 ^ k+B2∧B2 < 2 ^ k∧2 ^ k≤2 * B1∧B1 < 2 ^ k∧A3 < 2 ^ k∧A < B then
 some (.tup [af ((A * 2 ^ k+A3) / B),af ((A * 2 ^ k+A3) % B)]) else none)
theorem acq:bA prog w (d+2) P 52 d3N:=bR (cz.nil.cons aco) (HI P) (HL P) λ xs res h=>by
 apply fR h;clear h;intro A _ h
 apply fR h;clear h;intro A3 _ h
 apply fR h;clear h;intro B _ h
 apply fR h;clear h;intro B1 _ h
 apply fR h;clear h;intro B2 _ h
 apply fR h;clear h;intro k _ h
 apply dh h;clear h;intro h
 refine eF h ?_
 clear h
 intro hc h
 have c5:=hc.1
 have hk:=hc.2.1
 have c7:=hc.2.2.1
 have c9:=hc.2.2.2.1
 have c10:=hc.2.2.2.2.1
 have c11:=hc.2.2.2.2.2.1
 have c12:=hc.2.2.2.2.2.2.1
 have c13:=hc.2.2.2.2.2.2.2
 clear hc
 obtain rfl:=aam h
 subst c7
 obtain ⟨m1,m2,m3,m4,m5⟩:=Qw c10 c11 c9 c12 c13 rfl rfl
 generalize hN:2 ^ k=N at *
 have hN0:0 < N:=%[0<a,b<a|(aU c9)]
 have hNb:N≤2 ^ 3000:=by rw [←hN];exact acY ⋯ hk
 generalize hq:(if A / N=B1 then N - 1 else A / B1)=q at *
 generalize hr:(if A / N=B1 then A - B1 * N+B1 else A % B1)=r at *
 have hp:∀{x:Nat},x < 2 * N->x < 2 ^ 20000:=λ hx=>aaY hx (acW (aet 2 hNb) (by rw [←aj5];exact acY ⋯ ⋯))
 have bY:∀{x:Nat},x < N->aan (x:Int)≤3000:=λ hx=>bN (aaY hx hNb)
 have hor:agd ((r * N:Nat):Int) (A3:Int)=((r * N+A3:Nat):Int):=by
  rw [zF,←hN,←dW r A3 k (by rw [hN];exact c12)]
 obtain ⟨q',R',e,g1,g2,g3⟩:=Xh (RF:=tS) (m:=3) (v0:=some (.int A)) (v1:=some (.int A3)) (v3:=some (.int B1)) (v4:=some (.int B2)) (v5:=some (.int k)) (b:=((B1 * N+B2:Nat):Int)) 2 (q:Int) (((r * N+A3:Nat):Int) - (q:Int) * (B2:Int)) (by rw [←afs];exact %[(qG (qC (2*(a*b+c))))⊆(qC (d*b+e))-(qC f)*(qC c),f*c≤d*b+e+2*(a*b+c)|IP m5]) (by rw [←afs];exact %[(qC (a*b+c))-(qC (d*e))⊂(qC (f*b+e)),a*b+c<f*b+e+d*e|IP m4])
 have hu:=pO (A:=((A * N+A3:Nat):Int)) (b:=((B1 * N+B2:Nat):Int)) (q:=q') (r:=R') (by
  rw [g3]
  have e1:A * N=q * B1 * N+r * N:=by conv=>lhs;rw [m1]
                                     rw [ahx]
  have e2:q * (B1 * N+B2)=q * B1 * N+q * B2:=by rw [ad5,agA]
  rw [←afs,←afs,e2,e1]
  exact %[(qC (a*b*c+d*c+e))==(qC (a*b*c+a*f))+((qC (d*c+e))-(qC (a*f)))|IP]) g1 g2
 rw [fP,fQ] at hu
 refine ⟨3,cQ (σ':=⟨[some (.int A),some (.int A3),some (.int ((B1 * N+B2:Nat):Int)),some (.int B1),some (.int B2),some (.int k),some (.int q'),some (.int R')],[]⟩) (v:=.tup [af ((A * N+A3) / (B1 * N+B2)),af ((A * N+A3) % (B1 * N+B2))]) rfl
  (ao (σ':=⟨[some (.int A),some (.int A3),some (.int ((B1 * N+B2:Nat):Int)),some (.int B1),some (.int B2),some (.int k),some (af q),some (af r)],[]⟩) ?_
   (ao (bp (x:=.int (((r * N+A3:Nat):Int) - (q:Int) * (B2:Int))) ?_) (ao e (bE (eh ?_))))) rfl⟩
 · refine ec (p:=decide (A / N=B1)) (aG (bq (x:=af (A / N)) (ah rfl rfl (pP.trans (by rw [hN]))) rfl ?_)) ?_
   · show some (((A / N:Nat):Int)==(B1:Int))=_
     congr 1
     rw [agv,beq_iff_eq,decide_eq_true_eq];lia
   · by_cases Wo:A / N=B1
     · rw [decide_eq_true Wo]
       rw [if_pos Wo] at hq hr
       have j9:B1 * N≤A:=by rw [←Wo];exact ak0 A N
       refine ao (om (x:=af q) (y:=af r) (gO (ae (x:=af q) (ah (ah (x:=.int ((1:Nat):Int)) (y:=.int k) rfl rfl (vM (hp %[1<2*a,b<a|(aU c9)]) %[a≤10000,a≤3000|(aV hk)])) rfl (k_sub.trans ?_)) (ae (x:=af r) (ah (ah rfl (ah rfl rfl (vM (hp %[a<2*b,a<b|(aU c11)]) %[a≤10000,a≤3000|(aV hk)])) k_sub) rfl (fO.trans ?_)) ak)) rfl)) bQ
       · rw [Nat.one_mul,hN,←hq];exact congrArg (λ i=>some (AV.int i)) (by lia)
       · rw [hN,←hr];exact congrArg (λ i=>some (AV.int i)) (by lia)
     · rw [decide_eq_false Wo]
       rw [if_neg Wo] at hq hr
       have hA2:A < 2 ^ (k+k):=by
        rw [aef,hN]
        have e6:B1 * N+N≤N * N:=by rw [←agg];exact aeg N c11
        exact %[a<b*b,c<b,a<d*b+c,d*b+b≤b*b|dQ c9 c13 e6]
       refine ao (om (x:=af q) (y:=af r) (aA rfl (ae rfl (ae rfl (ae rfl ak))) (bM (ys:=[.int A,.int B1,.int k]) rfl ((Xi ?_ ?_ ?_).trans ?_)))) bQ
       · have:=bN hA2;exact %[a≤b+4000,b≤3000,a≤b+b|aU hk this]
       · exact %[0<a,b≤2*a,a<b|aU c10 c11]
       · exact aaY c11 (acW hNb (acY ⋯ ⋯))
       · rw [hq,hr]
 · refine ah (ah (ah rfl rfl (vM (hp m3) %[a≤10000,a≤3000|(aV hk)])) rfl (abK.trans ?_)) (ah rfl rfl (rD ?_)) k_sub
   · rw [hN,hor]
   · have h1:=bY m2
     have h2:=bY c9
     exact decide_eq_true %[a+b≤(qL 2 20),a≤3000,b≤3000|(aU h1 h2)]
 · rw [show af ((A * N+A3) / (B1 * N+B2))=.int q' from congrArg AV.int hu.1,show af ((A * N+A3) % (B1 * N+B2))=.int R' from congrArg AV.int hu.2]
   exact gO (ae rfl (ae rfl ak)) rfl
noncomputable def d2N:Spec:=aN λ a=>aN λ b=>aN λ n=>aE (if 1≤n∧n≤5000∧a < 2 ^ n * b∧2 ^ n≤2 * b∧b < 2 ^ n then some (.tup [af (a / b),af (a % b)]) else none)
noncomputable abbrev t3:cV:=gg [(52,d3N)]
theorem MP{A A3 B B1 B2 k:Nat}(h1:1≤k)(h2:k≤3000)(h3:B=B1 * 2 ^ k+B2)(h4:B2 < 2 ^ k)(h5:2 ^ k≤2 * B1)(h6:B1 < 2 ^ k)(h7:A3 < 2 ^ k)(h8:A < B):
 t3 (.ref 52) [.int A,.int A3,.int B,.int B1,.int B2,.int k]=some (.tup [af ((A * 2 ^ k+A3) / B),af ((A * 2 ^ k+A3) % B)]):=by
 show (if _ then _ else none)=_
 exact if_pos ⟨h1,h2,h3,h4,h5,h6,h7,h8⟩
theorem HZ(hk:1≤k)(hH:H=2 ^ k)(z6:H * H≤2 * b)(NU:b < H * H)(ha:a < H * H * b)
(eA:A1=(a / (H * H)) * H+a / H % H)(e1:q1=A1 / b)(e2:r1=A1 % b)(e3:q2=(r1 * H+a % H) / b)(e4:r2=(r1 * H+a % H) % b):
 a / (H * H) < b∧b=b / H * H+b % H∧H≤2 * (b / H)∧b / H < H∧r1 < b∧q1 < H∧q2 < H∧a / b=q1 * H+q2∧a % b=r2:=by
 have H0:0 < H:=by rw [hH];exact adc k
 have hHH:0 < H * H:=Nat.mul_pos H0 H0
 have oU:0 < b:=%[0<a,b*b≤2*a,a<b*b|(aU z6 NU)]
 have g1:a / (H * H) < b:=by rw [adq hHH,ac8];exact ha
 have g2:b=b / H * H+b % H:=(agP b H).symm
 have g4:b / H < H:=by rw [adq H0];exact NU
 have g3:H≤2 * (b / H):=by
  obtain ⟨j,rfl⟩ :∃j,k=j+1:=⟨k - 1,%[a=b+1,1≤a,qD 0 b a (1)|(aU hk rfl)]⟩
  have e:H=2 * 2 ^ j:=by rw [hH,afU,ac8]
  have:2 ^ j≤b / H:=by
   rw [Nat.le_div_iff_mul_le H0]
   have:H * H=2 * (2 ^ j * H):=by conv=>lhs;lhs;rw [e]
                                  rw [agA]
   exact %[a*b≤c,b*b≤2*c,b*b=2*(a*b)|cf z6 this]
  exact %[a≤2*b,a=2*c,c≤b|cf e this]
 have g5:r1 < b:=by rw [e2];exact aeb _ oU
 have hm:a / H % H < H:=aeb _ H0
 have hl:a % H < H:=aeb _ H0
 have hA1:A1 < H * b:=by
  have:(a / (H * H)) * H+H≤b * H:=by rw [←agg];exact aeg H g1
  rw [ac8 H b];exact %[a<b*c,a=d*c+e,e<c,d*c+c≤b*c|rU eA hm this]
 have g6:q1 < H:=by rw [e1,adq oU];exact hA1
 have hR:r1 * H+a % H < H * b:=by
  have:r1 * H+H≤b * H:=by rw [←agg];exact aeg H g5
  rw [ac8 H b];exact %[a*b+c<d*b,c<b,a*b+b≤d*b|dQ hl this]
 have g7:q2 < H:=by rw [e3,adq oU];exact hR
 have hr2:r2 < b:=by rw [e4];exact aeb _ oU
 have ea:a=A1 * H+a % H:=by
  have x1:=agP a H
  have x2:=agP (a / H) H
  rw [akn] at x2
  rw [eA,x2];exact x1.symm
 have eA1:A1=q1 * b+r1:=by rw [e1,e2];exact (agP A1 b).symm
 have eR:r1 * H+a % H=q2 * b+r2:=by rw [e3,e4];exact (agP _ b).symm
 have key:a=(q1 * H+q2) * b+r2:=by
  conv=>lhs;rw [ea,eA1]
  have z1:(q1 * b+r1) * H=q1 * H * b+r1 * H:=by rw [ahx,agA,ac8 b H,←agA]
  have z2:(q1 * H+q2) * b=q1 * H * b+q2 * b:=ahx _ _ _
  rw [z1,z2];lia
 refine ⟨g1,g2,g3,g4,g5,g6,g7,?_,?_⟩
 · conv=>lhs;rw [key]
   rw [ac8,alT oU,ah6 hr2,ahJ]
 · conv=>lhs;rw [key]
   rw [ac8,alS,ah5 hr2]
noncomputable abbrev Qx:eU:=WO
theorem Qy(x k:Nat):dc σ .BitAnd (.int x) (.int (((1 * 2 ^ k:Nat):Int) - 1))=some (af (x % 2 ^ k)):=by
 have h0:=adc k
 rw [show (((1 * 2 ^ k:Nat):Int) - 1)=((2 ^ k - 1:Nat):Int) by exact %[(qC (1*a))-1==(qC b),0<a,qD 0 b a (1)|aU h0 rfl]]
 refine xj.trans ?_
 rw [lU,ajm];rfl
theorem F3{a b k pad:Nat}(h1:1≤k)(h2:k≤2600)(z6:2 ^ (2 * k)≤2 * b)(NU:b < 2 ^ (2 * k))(ha:a < 2 ^ (2 * k) * b)(hp:pad < 2):
 ∃σ',bK t3 0 Qx ⟨[some (af a),some (af b),some (af (2 * k)),some (af pad),none,none,none,none,none,none,none],[]⟩=some (σ',some (.tup [af (a / b),af (if pad=0 then a % b else a % b / 2)])):=by
 have hsq:2 ^ (2 * k)=2 ^ k * 2 ^ k:=by rw [Nat.two_mul,aef]
 rw [hsq] at z6 NU ha
 generalize hH:2 ^ k=H at *
 obtain ⟨g1,g2,g3,g4,g5,g6,g7,g8,g9⟩:=HZ h1 hH.symm z6 NU ha rfl rfl rfl rfl rfl
 generalize hA1:(a / (H * H)) * H+a / H % H=A1 at *
 generalize hr1:A1 % b=r1 at *
 have hHb:H≤2 ^ 2600:=by rw [←hH];exact acY ⋯ h2
 have hp2:∀{x:Nat},x < 2 * H->x < 2 ^ 20000:=λ hx=>aaY hx (acW (aet 2 hHb) (by rw [←aj5];exact acY ⋯ ⋯))
 have H0:0 < H:=by rw [←hH];exact adc k
 have oU:0 < b:=by have:=Nat.mul_pos H0 H0;exact %[0<a,b*b≤2*a,a<b*b|aU z6 NU]
 have hmk:∀{σ:bB} (x:Nat),dc σ .BitAnd (.int x) (.int (((1 * H:Nat):Int) - 1))=some (af (x % H)):=λ x=>by rw [←hH];exact Qy x k
 have hsr:∀{σ:bB} (x:Nat),dc σ .RShift (.int x) (.int k)=some (af (x / H)):=λ x=>by rw [←hH];exact pP
 have afS:∀{σ:bB} (x:Nat),dc σ .RShift (.int x) (af (2 * k))=some (af (x / (H * H))):=λ x=>by rw [←hsq];exact pP
 have hsl:∀{σ:bB} (x:Nat),x < 2 * H->dc σ .LShift (.int x) (.int k)=some (af (x * H)):=λ x hx=>by rw [←hH];exact vM (hp2 hx) %[a≤10000,a≤2600|(aV h2)]
 have c1:=MP (A:=a / (H * H)) (A3:=a / H % H) (B:=b) (B1:=b / H) (B2:=b % H) (k:=k) h1 %[a≤3000,a≤2600|(aV h2)] (by rw [hH];exact g2) (by rw [hH];exact aeb _ H0) (by rw [hH];exact g3) (by rw [hH];exact g4) (by rw [hH];exact aeb _ H0) g1
 rw [hH,hA1,hr1] at c1
 have c2:=MP (A:=r1) (A3:=a % H) (B:=b) (B1:=b / H) (B2:=b % H) (k:=k) h1 %[a≤3000,a≤2600|(aV h2)] (by rw [hH];exact g2) (by rw [hH];exact aeb _ H0) (by rw [hH];exact g3) (by rw [hH];exact g4) (by rw [hH];exact aeb _ H0) g5
 rw [hH] at c2
 generalize hq1:A1 / b=q1 at *
 generalize hq2:(r1 * H+a % H) / b=q2 at *
 rw [←g9] at c2
 have d7:∀x:Nat,bK t3 0 (.cons (.ret (.tup (.cons (.bin .BitOr (.bin .LShift (.var 8) (.var 4)) (.var 10)) (.cons (.var 9) .nil)))) .nil)
  ⟨[some (af a),some (af b),some (af (2 * k)),some (af pad),some (af k),some (.int (((1 * H:Nat):Int) - 1)),some (af (b / H)),some (af (b % H)),some (af q1),some (af x),some (af q2)],[]⟩=some (⟨[some (af a),some (af b),some (af (2 * k)),some (af pad),some (af k),some (.int (((1 * H:Nat):Int) - 1)),some (af (b / H)),some (af (b % H)),some (af q1),some (af x),some (af q2)],[]⟩,some (.tup [af (a / b),af x])):=λ x=>by
  refine bE (eh (gO (ae (ah (x:=af (q1 * H)) (y:=af q2) (ah rfl rfl (hsl q1 %[a<2*b,a<b|(aU g6)])) rfl (abK.trans ?_)) (ae rfl ak)) rfl))
  rw [zF,←hH,←dW q1 q2 k (by rw [hH];exact g7),hH,g8];rfl
 refine ⟨_,ao (bp (x:=af k) (ah rfl rfl ((pP (a:=2 * k) (s:=1)).trans ?_))) (ao (bp (x:=.int (((1 * H:Nat):Int) - 1)) (ah (ah (x:=.int ((1:Nat):Int)) rfl rfl (hsl 1 %[1<2*a,b<a|(aU g4)])) rfl k_sub)) (ao (om (gO (ae (ah rfl rfl (hsr b)) (ae (ah rfl rfl (hmk b)) ak)) rfl))
  (ao (om (x:=af q1) (y:=af r1) (aA rfl (ae (ah rfl rfl (afS a)) (ae (ah (ah rfl rfl (hsr a)) rfl (hmk (a / H))) (ae rfl (ae rfl (ae rfl (ae rfl ak)))))) (bM rfl c1)))
  (ao (om (x:=af q2) (y:=af (a % b)) (aA rfl (ae rfl (ae (ah rfl rfl (hmk a)) (ae rfl (ae rfl (ae rfl (ae rfl ak)))))) (bM rfl c2)))
  (ao (ec (p:=pad !=0) (zf rfl |>.trans ?_) ?_) (d7 _))))))⟩
 · rw [show 2 * k / 2 ^ 1=k by exact %[a=b,qD 1 a (2*b) (qL 2 1)|aU rfl]]
 · congr 1
   rw [agv,bne_iff_ne,bne_iff_ne];lia
 · rcases (show pad=0∨pad=1 by exact %[ud (a=0) (a=1),a<2|aV hp]) with rfl | rfl
   · exact bQ
   · refine ao (rE (y:=af (a % b)) (x:=.int ((1:Nat):Int)) rfl rfl ?_) bQ
     have:wq .RShift (af (a % b)) (.int ((1:Nat):Int))=some (af (a % b / 2 ^ 1)):=by
      show Kl .RShift ((a % b:Nat):Int) ((1:Nat):Int)=_
      unfold Kl
      refine (bl (decide_eq_true (ac9 1))).trans ?_
      rw [oz];rfl
     exact this
end
section
set_option exponentiation.threshold 3000
variable{prog:aaq}{w:acb}{d:Nat}{P:abe}
theorem F4{x:Nat}(h:aan (x:Int)≤100000):wq .LShift (af x) (.int 1)=some (af (2 * x)):=by
 have e:af (2 * x)=.int ((x:Int) * 2 ^ (1:Int).toNat):=congrArg AV.int (by show _=(x:Int) * 2 ^ 1;exact %[(qC (2*a))==(qC a)*(qL 2 1)|aV])
 rw [e]
 show (some (1:Int)).bind (Kl .LShift (x:Int))=_
 rw [aaT]
 unfold Kl
 refine bl ?_
 rw [aaQ];exact ⟨rfl,decide_eq_true %[(qC a)⊂(qL 2 27),a≤100000|(aV h)]⟩
theorem acs:bA prog w (d+3) P 45 d2N:=bR (cz.nil.cons acq) (xn P) (xo P) λ xs res h=>by
 apply fR h;clear h;intro a _ h
 apply fR h;clear h;intro b _ h
 apply fR h;clear h;intro n _ h
 apply dh h;clear h;intro h
 refine eF h ?_
 clear h
 intro hc h
 have c3:=hc.1
 have c4:=hc.2.1
 have c5:=hc.2.2.1
 have c6:=hc.2.2.2.1
 have c7:=hc.2.2.2.2
 clear hc
 obtain rfl:=aam h
 have hn0:=adc n
 have oU:0 < b:=%[0<a,b≤2*a,a<b|(aU c6 c7)]
 have hb9:b < 2 ^ 9000:=aaY c7 (acY ⋯ %[a≤9000,a≤5000|(aV c4)])
 by_cases hE:aan (a:Int)≤n+4000
 · refine ⟨0,(Cv (a:=(a:Int)) (b:=(b:Int)) (m:=(n:Int)) %[(qC a)⊆(qC b)+4000,a≤b+4000|(aU hE)] %[0⊂(qC a),b≤2*a,a<b|(aU c6 c7)] (by rw [ae8];exact (ahW %[cY (a=0),b≤2*a,a<b|(aU c6 c7)]).mpr hb9)).trans ?_⟩
   rw [fP,fQ];rfl
 · have ha2:a < 2 ^ (n+n):=by
    rw [aef]
    exact aaY c5 (aet _ (ae4 c7))
   have Fv:=bN ha2
   have hbb:=bN c7
   have hn:4000 < n:=%[4000<a,cY (b≤a+4000),b≤a+a|(aU hE Fv)]
   have hh:∀(σ':bB) (v:AV),bK t3 0 Qv ⟨[some (af a),some (af b),some (af n),none,none,none,none,none,none,none,none],[]⟩=some (σ',some v)->bK t3 0 pN ⟨[some (af a),some (af b),some (af n),none,none,none,none,none,none,none,none],[]⟩=some (σ',some v):=λ σ' v e=>by
    refine ao (ec (p:=decide ((aan (a:Int):Int) - (n:Int)≤4000)) (Cu (n:=0)) ?_) e
    rw [decide_eq_false %[cY ((qC a)-(qC b)⊆4000),cY (a≤b+4000)|(aU hE)]];exact bQ
   have hand:∀{σ:bB},dc σ .BitAnd (af n) (.int 1)=some (af (n % 2)):=xj.trans (congrArg (λ i=>some (AV.int i)) (Qo n))
   rcases aed n with he | ho
   · obtain ⟨k,rfl⟩ :∃k,n=2 * k:=⟨n / 2,by lia⟩
     obtain ⟨σ',e⟩:=F3 (a:=a) (b:=b) (k:=k) (pad:=0) %[1≤a,1≤2*a|(aV c3)] %[a≤2600,2*a≤5000|(aV c4)] c6 c7 c5 ⋯
     refine ⟨0,cQ (σ':=σ') (v:=.tup [af (a / b),af (a % b)]) rfl (hh σ' _ (ao (bp (x:=af 0) (ah rfl rfl (hand.trans (by rw [he])))) (ao (ec (p:=false) (zf (i:=((0:Nat):Int)) rfl) bQ) e))) rfl⟩
   · obtain ⟨k,rfl⟩ :∃k,n=2 * k - 1:=⟨(n+1) / 2,by lia⟩
     have hp:2 ^ (2 * k)=2 * 2 ^ (2 * k - 1):=by rw [←aj5,show (2 * k - 1).succ=2 * k by lia]
     have bD:2 * a < 2 ^ (2 * k) * (2 * b):=by
      rw [hp,agA,ai7 (2 ^ (2 * k - 1)) 2 b]
      generalize 2 ^ (2 * k - 1) * b=z at c5
      exact %[2*a<2*(2*b),a<b|aU c5]
     obtain ⟨σ',e⟩:=F3 (a:=2 * a) (b:=2 * b) (k:=k) (pad:=1) %[1≤a,1≤b,qD 0 b (2*a) (1)|(aU c3 rfl)] %[a≤2600,b≤5000,qD 0 b (2*a) (1)|(aU c4 rfl)] %[a≤2*(2*b),c≤2*b,a=2*c|(cf c6 hp)] %[2*a<b,a<c,b=2*c|(cf c7 hp)] bD ⋯
     rw [if_neg ⋯,Nat.mul_div_mul_left _ _ ⋯,Nat.mul_mod_mul_left,Nat.mul_div_cancel_left _ ⋯] at e
     refine ⟨0,cQ (σ':=σ') (v:=.tup [af (a / b),af (a % b)]) rfl (hh σ' _ (ao (bp (x:=af 1) (ah rfl rfl (hand.trans (by rw [ho])))) (ao (ec (p:=true) (zf (i:=((1:Nat):Int)) rfl) (ao (rE (y:=af a) (x:=.int 1) rfl rfl (F4 %[a≤100000,b≤5000,a≤b+b|(aU c4 Fv)])) (ao (rE (y:=af b) (x:=.int 1) rfl rfl (F4 %[a≤100000,b≤5000,a≤b|(aU c4 hbb)])) (ao (rE (y:=af (2 * k - 1)) (x:=.int 1) (r:=af (2 * k)) rfl rfl ?_) bQ)))) e))) rfl⟩
     exact congrArg (λ i=>some (AV.int i)) %[(qC a)+1==(qC (2*b)),1≤a,qD 0 a (2*b) (1)|(aU c3 rfl)]
end
section
variable{prog:aaq}{w:acb}{d:Nat}{P:abe}
noncomputable def nE(n b:Nat):Nat->List Nat->List Nat×Nat
 | r,[]=>([],r)
 | r,d::ds=>(((r * 2 ^ n+d) / b)::(nE n b ((r * 2 ^ n+d) % b) ds).1,(nE n b ((r * 2 ^ n+d) % b) ds).2)
theorem xF(n b:Nat)(hb:0 < b):∀(ds:List Nat) (r:Nat),r < b->(∀d∈ds,d < 2 ^ n)->(nE n b r ds).1.length=ds.length∧(∀q∈(nE n b r ds).1,q < 2 ^ n)∧(nE n b r ds).2 < b∧
 r * 2 ^ (n * ds.length)+ck n ds.reverse=ck n (nE n b r ds).1.reverse * b+(nE n b r ds).2
 | [],r,hr,_=>⟨rfl,λ q hq=>(by cases hq),hr,by show r * 2 ^ (n * 0)+0=0 * b+r;rw [agO,ai6];exact %[a*1+0=0*b+a|aU]⟩
 | d::ds,r,hr,hd=>by
   have hd0:=hd d (.head _)
   have hx:(r * 2 ^ n+d) % b < b:=aeb _ hb
   obtain ⟨h1,h2,h3,h4⟩:=xF n b hb ds ((r * 2 ^ n+d) % b) hx λ y hy=>hd y (.tail _ hy)
   have hq:(r * 2 ^ n+d) / b < 2 ^ n:=by
    rw [adq hb]
    have:r * 2 ^ n+2 ^ n≤b * 2 ^ n:=by rw [←agg];exact aeg _ hr
    rw [ac8 (2 ^ n) b];exact %[a*b+c<d*b,c<b,a*b+b≤d*b|dQ hd0 this]
   refine ⟨by show (nE n b ((r * 2 ^ n+d) % b) ds).1.length+1=ds.length+1;rw [h1],λ q hq'=>?_,h3,?_⟩
   · cases hq' with
     | head=>exact hq
     | tail _ hq'=>exact h2 q hq'
   · show r * 2 ^ (n * (ds.length+1))+ck n (d::ds).reverse=ck n (((r * 2 ^ n+d) / b)::(nE n b ((r * 2 ^ n+d) % b) ds).1).reverse * b+(nE n b ((r * 2 ^ n+d) % b) ds).2
     rw [ahS,ahS,iu,iu,agn,agn,h1]
     have e:=agP (r * 2 ^ n+d) b
     generalize (r * 2 ^ n+d) / b=q at *
     generalize (r * 2 ^ n+d) % b=x at *
     have hv:∀z,ck n [z]=z:=λ z=>by show z+2 ^ n * 0=z;exact %[a+b*0=a|aU]
     rw [hv,hv,ad5 n,agk,aef]
     generalize 2 ^ (n * ds.length)=M at *
     have e2:M * (q * b+x)=M * (r * 2 ^ n+d):=by rw [e]
     rw [ad5,ad5] at e2
     have e3:M * (q * b)=M * q * b:=(agA ..).symm
     have e4:M * (r * 2 ^ n)=r * (M * 2 ^ n):=ai7 ..
     have e5:x * M=M * x:=ac8 ..
     rw [ahx]
     exact %[a*(b*c)+(d+b*e)=f*g+b*h*g+i,j*b+d=f*g+i,b*(h*g)+b*j=b*(a*c)+b*e|IQ h4 e2]
noncomputable abbrev tDP:cV:=gg [(59,D9),(45,d2N),(66,Cg)]
noncomputable abbrev Xj:eU:=Tq
theorem Xk{a b n:Nat}(h1:1≤n)(h2:n≤5000)(h3:a < 2 ^ n * b)(h4:2 ^ n≤2 * b)(h5:b < 2 ^ n):tDP (.ref 45) [.int a,.int b,.int n]=some (.tup [af (a / b),af (a % b)]):=by
 show d2N [.int a,.int b,.int n]=_
 show (if _ then _ else none)=_
 exact if_pos ⟨h1,h2,h3,h4,h5⟩
theorem F5{m n b:Nat}{A:AV}{va v3 v8:Option AV}(h1:1≤n)(h2:n≤5000)(h4:2 ^ n≤2 * b)(h5:b < 2 ^ n):∀(ds:List Nat) (r:Nat) (qs:List Nat) (v6 v7:Option AV),r < b->(∀d∈ds,d < 2 ^ n)->qs.length+ds.length≤1000->∃u6 u7,
 uM (λ x σ=>bK tDP m Xj (σ.put 6 x)) (ds.map af) ⟨[va,some (af b),some (af n),v3,some (af r),some (.own 0),v6,v7,v8],[qs.map af]⟩=
  some (⟨[va,some (af b),some (af n),v3,some (af (nE n b r ds).2),some (.own 0),u6,u7,v8],[(qs++(nE n b r ds).1).map af]⟩,none)
 | [],r,qs,v6,v7,_,_,_=>⟨v6,v7,by show some _=some _;rw [show (nE n b r []).1=[] from rfl,abg];rfl⟩
 | d::ds,r,qs,v6,v7,hr,hd,hl=>by
   have hn0:=adc n
   have hd0:=hd d (.head _)
   have oU:0 < b:=%[0<a,b≤2*a,a<b|(aU h4 h5)]
   have bc:(d::ds).length=ds.length+1:=rfl
   have hx:r * 2 ^ n+d < 2 ^ n * b:=by
    have:r * 2 ^ n+2 ^ n≤b * 2 ^ n:=by rw [←agg];exact aeg _ hr
    rw [ac8 (2 ^ n) b];exact %[a*b+c<d*b,c<b,a*b+b≤d*b|dQ hd0 this]
   obtain ⟨u6,u7,ih⟩:=F5 (m:=m) (A:=A) (va:=va) (v3:=v3) (v8:=v8) h1 h2 h4 h5 ds ((r * 2 ^ n+d) % b) (qs++[(r * 2 ^ n+d) / b]) (some (af d)) (some (af ((r * 2 ^ n+d) / b))) (aeb _ oU) (λ y hy=>hd y (.tail _ hy)) (by rw [aao];show qs.length+1+ds.length≤_;exact %[a+1+b≤1000,a+c≤1000,c=b+1|cf hl bc])
   refine ⟨u6,u7,?_⟩
   rw [aaX]
   refine ay (σ':=⟨[va,some (af b),some (af n),v3,some (af ((r * 2 ^ n+d) % b)),some (.own 0),some (af d),some (af ((r * 2 ^ n+d) / b)),v8],[(qs++[(r * 2 ^ n+d) / b]).map af]⟩) ?_ ?_
   · refine ao (om (x:=af ((r * 2 ^ n+d) / b)) (y:=af ((r * 2 ^ n+d) % b)) (aA rfl (ae (x:=af (r * 2 ^ n+d)) (ah (ah rfl rfl (vM (a:=r) (s:=n) ?_ %[a≤10000,a≤5000|(aV h2)])) rfl (fO.trans ?_)) (ae rfl (ae rfl ak))) (bM (ys:=[af (r * 2 ^ n+d),af b,af n]) rfl (Xk h1 h2 hx h4 h5)))) (ao ((L0 (m:=0) (xs:=qs.map af) rfl rfl rfl (decide_eq_true ?_)).trans ?_) bQ)
     · exact aaY (afk hr h5) (acY ⋯ %[a≤20000,a≤5000|(aV h2)])
     · exact congrArg (λ i=>some (AV.int i)) (agx _ _).symm
     · have:aaW=16777216:=rfl
       rw [aar];exact %[a≤b,a+c≤1000,b=16777216|cf hl this]
     · rw [aa6];rfl
   · rw [ih,aaH];rfl
theorem pQ:∀l:List Nat,(l.map af).mapM (j7 σ k)=some (l.map af)
 | []=>rfl
 | z::l=>by
   rw [aaX,adu,pQ l]
   cases k <;> rfl
theorem F6{a n:Nat}(h1:1≤n)(h2:n < 2 ^ 16)(h3:aan (a:Int) < 2 ^ 16):D9 [.int a,.int n]=some (.lst ((dg n a ((aan (a:Int)+n - 1) / n)).map af)):=by
 show (if _ then _ else none)=_
 exact if_pos ⟨h1,h2,h3⟩
theorem MQ{b:Nat}(h:0 < b):1≤aan (b:Int)∧2 ^ aan (b:Int)≤2 * b:=by
 have e:aan (b:Int)=b.log2+1:=by
  unfold aan
  rw [if_neg (by intro q;have:(b:Int)=0:=eq_of_beq q;lia),ae8]
 rw [e]
 refine ⟨%[1≤a+1|(aV)],?_⟩
 rw [afU,ac8]
 exact aet 2 (Nat.log2_self_le %[cY (a=0),0<a|(aV h)])
noncomputable def dpN:Spec:=aN λ a=>aN λ b=>aE (if 0 < b∧aan a≤14 * aan b∧aan b≤4500 then some (.tup [af (a / b),af (a % b)]) else none)
theorem MR:bA prog w (d+4) P 73 dpN:=bR (((cz.nil.cons Eg.more.more).cons acs).cons Mt.more.more) (zg P) (zt P) λ xs res h=>by
 apply fR h;clear h;intro a _ h
 apply fR h;clear h;intro b _ h
 apply dh h;clear h;intro h
 refine eF h ?_
 clear h
 intro hc h
 have oU:=hc.1
 have c3:=hc.2.1
 have c4:=hc.2.2
 clear hc
 obtain rfl:=aam h
 obtain ⟨n1,n2⟩:=MQ oU
 have n3:=lV b
 generalize hn:aan (b:Int)=n at *
 have ha:=lV a
 have hv:=F6 (a:=a) (n:=n) n1 %[a<(qL 2 16),a≤4500|(aV c4)] %[a<(qL 2 16),a≤14*b,b≤4500|(aU c3 c4)]
 generalize hB:aan (a:Int)=B at *
 have PL:B≤n * ((B+n - 1) / n):=by
  have:=akZ (B+n - 1) (show 0 < n by exact %[0<a,1≤a|aV n1])
  rw [ad5,agk] at this;exact %[a≤b*c,d<b*c+b,qD 0 d (a+b) (1)|dQ this rfl]
 have Xl:(B+n - 1) / n≤14:=by
  have:(B+n - 1) / n < 15:=by rw [adq %[0<a,1≤a|(aV n1)]];exact %[a<15*b,1≤b,c≤14*b,qD 0 a (c+b) (1)|cf n1 c3 rfl]
  exact %[a≤14,a<15|aV this]
 generalize hm:(B+n - 1) / n=m at *
 have U4:a < 2 ^ (n * m):=aaY ha (acY ⋯ PL)
 have Ik:∀x∈(dg n a m).reverse,x < 2 ^ n:=λ x hx=>acf n a m x (alr.mp hx)
 have bc:(dg n a m).reverse.length=m:=by rw [agn,D8]
 obtain ⟨p1,p2,p3,p4⟩:=xF n b oU (dg n a m).reverse 0 oU Ik
 rw [akk,ae7,List.reverse_reverse,FY n m a U4] at p4
 obtain ⟨u6,u7,hl⟩:=F5 (m:=0) (A:=.none) (va:=some (af a)) (v3:=some (.lst ((dg n a m).map af))) (v8:=none) n1 %[a≤5000,a≤4500|(aV c4)] n2 n3 (dg n a m).reverse 0 [] none none oU Ik (by rw [bc];show 0+m≤_;exact %[0+a≤1000,a≤14|aV Xl])
 rw [acQ] at hl
 generalize hqs:(nE n b 0 (dg n a m).reverse).1=qs at *
 generalize hr:(nE n b 0 (dg n a m).reverse).2=r at *
 have hq:a / b=ck n qs.reverse∧a % b=r:=by
  rw [p4]
  constructor
  · rw [ac8,alT oU,ah6 p3,ahJ]
  · rw [ac8,alS,ah5 p3]
 rw [hq.1,hq.2]
 have hdv:=tY (n:=n) (ds:=qs.reverse) n1 %[a<(qL 2 16),a≤4500|(aV c4)] (by rw [agn,p1,bc];exact %[a<16,a≤14|aV Xl]) (λ x hx=>p2 x (alr.mp hx))
 have afV:((dg n a m).map af).reverse=(dg n a m).reverse.map af:=(als ..).symm
 refine ⟨0,cQ (σ':=⟨[some (af a),some (af b),some (af n),some (.lst ((dg n a m).map af)),some (af r),some (.own 0),u6,u7,some (af (ck n qs.reverse))],[qs.reverse.map af]⟩) (v:=.tup [af (ck n qs.reverse),af r]) rfl
  (ao (bp (x:=af n) (lR rfl ak (MO.trans (by rw [hn];rfl)))) (ao (bp (aA rfl (ae rfl (ae rfl ak)) (bM rfl hv))) (ao (bp (x:=af 0) rfl) (ao rfl
  (ao (gP (xs:=(dg n a m).reverse.map af) (by rw [←afV];rfl) hl) (ao (σ':=⟨[some (af a),some (af b),some (af n),some (.lst ((dg n a m).map af)),some (af r),some (.own 0),u6,u7,none],[qs.reverse.map af]⟩) ((abP (m:=0) (xs:=qs.map af) rfl rfl (decide_eq_true ?_)).trans ?_) (ao (bp (x:=af (ck n qs.reverse)) (aA rfl (ae rfl (ae rfl ak)) (bM (ys:=[.bor (qs.reverse.map af),.int n]) ?_ hdv))) (bE (eh (gO (ae rfl (ae rfl ak)) rfl)))))))))) rfl⟩
 · have:aaW=16777216:=rfl
   rw [aar,p1,bc];exact %[a≤b,a≤14,b=16777216|aU Xl this]
 · rw [←als];rfl
 · rw [adu]
   show (((qs.reverse.map af).mapM (j7 _ 2)).map AV.bor).bind _=_
   rw [pQ];rfl
end
section
variable{prog:aaq}{w:acb}{d:Nat}{P:abe}
noncomputable abbrev fh(a b:Int):Prop:=a.natAbs < 2 ^ 15000∧2 ^ 1500≤b.natAbs∧b.natAbs < 2 ^ 4400
theorem H2{a b:Nat}(h1:a < 2 ^ 15000)(h2:2 ^ 1500≤b)(h3:b < 2 ^ 4400):aan (a:Int)≤14 * aan (b:Int)∧aan (b:Int)≤4500:=by
 have e1:=bN h1
 have e2:=bN h3
 have e3:1500 < aan (b:Int):=by
  have:=lV b
  have:=acZ h2 this
  exact (aj6 ⋯).mp this
 exact %[bG (a≤14*b) (b≤4500),a≤15000,b≤4400,1500<b|aU e1 e2 e3]
noncomputable def idP:Spec:=aI λ a=>aI λ b=>aE (if 0≤a∧0 < b∧fh a b then some (.tup [.int (a.fdiv b),.int (a.fmod b)]) else none)
noncomputable def idA:Spec:=aI λ a=>aI λ b=>aE (if 0 < b∧fh a b then some (.tup [.int (a.fdiv b),.int (a.fmod b)]) else none)
noncomputable def idF:Spec:=aI λ a=>aI λ b=>aE (if fh a b then some (.tup [.int (a.fdiv b),.int (a.fmod b)]) else none)
theorem El{l:List (abh×Spec)}{a b:Int}(hl:l.lookup 73=some dpN)(h0:0≤a)(h1:0 < b)(h2:fh a b):gg l (.ref 73) [.int a,.int b]=some (.tup [.int (a.fdiv b),.int (a.fmod b)]):=by
 obtain ⟨a,rfl⟩:=agr h0
 obtain ⟨b,rfl⟩:=agr (show 0≤b by exact %[0⊆a,0⊂a|fZ h1])
 obtain ⟨s1,s2,s3⟩:=h2
 rw [ae8] at s1 s2 s3
 have:=H2 s1 s2 s3
 show (l.lookup 73).bind (λ S=>S [.int a,.int b])=_
 rw [hl,aaT]
 show (if _ then _ else none)=_
 rw [fP,fQ]
 exact if_pos ⟨ahK.mp h1,this.1,this.2⟩
theorem Em(h0:0≤a)(h1:0 < b)(h:RF (.ref 73) [.int a,.int b]=some (.tup [.int (a.fdiv b),.int (a.fmod b)])):X0 2 4 ow RF 0 [.int a,.int b]=some (.tup [.int (a.fdiv b),.int (a.fmod b)]):=by
 refine cQ (σ':=⟨[some (.int a),some (.int b),none,none],[]⟩) (v:=.tup [.int (a.fdiv b),.int (a.fmod b)]) rfl (bE (ec (p:=b==0) (aG (bq rfl rfl rfl)) ?_)) rfl
 rw [show (b==0)=false from beq_eq_false_iff_ne.mpr %[cY (a==0),0⊂a|(fZ h1)]]
 refine bE (ec (p:=decide (b < 0)) (aG (bq rfl rfl rfl)) ?_)
 rw [decide_eq_false %[cY (a⊂0),0⊂a|(fZ h1)]]
 refine bE (ec (p:=decide (a < 0)) (aG (bq rfl rfl rfl)) ?_)
 rw [decide_eq_false %[cY (a⊂0),0⊆a|(fZ h0)]]
 exact bE (eh (aA rfl (ae rfl (ae rfl ak)) (bM rfl h)))
theorem Xm:bA prog w (d+5) P 80 idP:=bR (cz.nil.cons MR) (jS P) (jT P) λ xs res h=>by
 apply iv h;clear h;intro a _ h
 apply iv h;clear h;intro b _ h
 apply dh h;clear h;intro h
 refine eF h ?_
 clear h
 intro hc h
 obtain rfl:=aam h
 exact ⟨0,Em hc.1 hc.2.1 (El rfl hc.1 hc.2.1 hc.2.2)⟩
theorem F7(ha:a < 0)(hb:0 < b):a.fdiv b=acp ((acp a).fdiv b)∧a.fmod b=b+acp ((acp a).fmod b):=by
 unfold acp
 have h0:=aku (-a - 1) hb
 have h1:=alg (-a - 1) hb
 have h2:=Int.mul_fdiv_add_fmod (-a - 1) b
 generalize (-a - 1).fdiv b=q at *
 generalize (-a - 1).fmod b=r at *
 refine pO ?_ %[0⊆a+((qG b)-1),b⊂a|(q02 h1)] %[a+((qG b)-1)⊂a,0⊆b|(q02 h0)]
 have e:(-q - 1) * b= -(b * q) - b:=by rw [Int.sub_mul,ags,aiE,aks]
 rw [e];exact %[a==(qG (b*c))-b+(b+((qG d)-1)),b*c+d==(qG a)-1|q04 h2]
theorem Xn:bA prog w (d+6) P 80 idA:=bR ((cz.nil.cons Xm).cons MR.more) (jS P) (jT P) λ xs res h=>by
 apply iv h;clear h;intro a _ h
 apply iv h;clear h;intro b _ h
 apply dh h;clear h;intro h
 refine eF h ?_
 clear h
 intro hc h
 obtain rfl:=aam h
 obtain ⟨hb,hs⟩:=hc
 by_cases ha:a < 0
 · obtain ⟨e1,e2⟩:=F7 ha hb
   have jo:fh (acp a) b:=⟨acZ (show (acp a).natAbs≤a.natAbs by unfold acp;lia) hs.1,hs.2⟩
   refine ⟨0,cQ (σ':=⟨[some (.int a),some (.int b),some (.int ((acp a).fdiv b)),some (.int ((acp a).fmod b))],[]⟩) (v:=.tup [.int (a.fdiv b),.int (a.fmod b)]) rfl (bE (ec (p:=b==0) (aG (bq rfl rfl rfl)) ?_)) rfl⟩
   rw [show (b==0)=false from beq_eq_false_iff_ne.mpr %[cY (a==0),0⊂a|(fZ hb)]]
   refine bE (ec (p:=decide (b < 0)) (aG (bq rfl rfl rfl)) ?_)
   rw [decide_eq_false %[cY (a⊂0),0⊂a|(fZ hb)]]
   refine bE (ec (p:=decide (a < 0)) (aG (bq rfl rfl rfl)) ?_)
   rw [decide_eq_true ha]
   refine ao (om (x:=.int ((acp a).fdiv b)) (y:=.int ((acp a).fmod b)) (aA rfl (ae (pL rfl) (ae rfl ak)) (bM (ys:=[.int (acp a),.int b]) rfl ?_))) (bE (eh (gO (ae (x:=.int (a.fdiv b)) ((pL rfl).trans (by rw [e1])) (ae (x:=.int (a.fmod b)) ((ah rfl (pL rfl) fO).trans (by rw [e2])) ak)) rfl)))
   show idP [.int (acp a),.int b]=_
   simp only [idP,so,wJ,wI,sq]
   rw [if_pos ⟨by unfold acp;exact %[0⊆(qG a)-1,a⊂0|fZ ha],hb,jo⟩]
 · exact ⟨0,Em %[0⊆a,cY (a⊂0)|(fZ ha)] hb (El rfl %[0⊆a,cY (a⊂0)|(fZ ha)] hb hs)⟩
theorem acu:bA prog w (d+7) P 80 idF:=bR ((cz.nil.cons Xn).cons MR.more.more) (jS P) (jT P) λ xs res h=>by
 apply iv h;clear h;intro a _ h
 apply iv h;clear h;intro b _ h
 apply dh h;clear h;intro h
 refine eF h ?_
 clear h
 intro hs h
 obtain rfl:=aam h
 have oU:b≠0:=λ e=>by
  have:=hs.2.1
  rw [e] at this
  exact absurd this (ajP.mpr (adc 1500))
 have call:∀{a b:Int},0 < b->fh a b->gg [(73,dpN),(80,idA)] (.ref 80) [.int a,.int b]=some (.tup [.int (a.fdiv b),.int (a.fmod b)]):=λ{a b} hb hs=>by
  show idA [.int a,.int b]=_
  simp only [idA,so,wJ,wI,sq]
  rw [if_pos ⟨hb,hs⟩]
 by_cases hb:b < 0
 · have jo:fh (-a) (-b):=by unfold fh;rw [ajT,ajT];exact hs
   have e1:(-a).fdiv (-b)=a.fdiv b:=ajp ..
   have e2: -((-a).fmod (-b))=a.fmod b:=by rw [ai8,ai8,e1,aiE];exact %[(qG ((qG a)-(qG (b*c))))==a-b*c|q03]
   refine ⟨0,cQ (σ':=⟨[some (.int a),some (.int b),some (.int (a.fdiv b)),some (.int ((-a).fmod (-b)))],[]⟩) (v:=.tup [.int (a.fdiv b),.int (a.fmod b)]) rfl (bE (ec (p:=b==0) (aG (bq rfl rfl rfl)) ?_)) rfl⟩
   rw [show (b==0)=false from beq_eq_false_iff_ne.mpr oU]
   refine bE (ec (p:=decide (b < 0)) (aG (bq rfl rfl rfl)) ?_)
   rw [decide_eq_true hb]
   refine ao (om (x:=.int (a.fdiv b)) (y:=.int ((-a).fmod (-b))) (aA rfl (ae (nB rfl) (ae (nB rfl) ak)) (bM (ys:=[.int (-a),.int (-b)]) rfl ((call %[0⊂(qG a),a⊂0|(fZ hb)] jo).trans (by rw [e1]))))) (bE (eh (gO (ae rfl (ae (x:=.int (a.fmod b)) ((nB rfl).trans (by rw [e2])) ak)) rfl)))
 · by_cases ha:a < 0
   · have hb:0 < b:=%[0⊂a,cY (a==0),cY (a⊂0)|(fZ oU hb)]
     obtain ⟨e1,e2⟩:=F7 ha hb
     have jo:fh (acp a) b:=⟨acZ (show (acp a).natAbs≤a.natAbs by unfold acp;lia) hs.1,hs.2⟩
     refine ⟨0,cQ (σ':=⟨[some (.int a),some (.int b),some (.int ((acp a).fdiv b)),some (.int ((acp a).fmod b))],[]⟩) (v:=.tup [.int (a.fdiv b),.int (a.fmod b)]) rfl (bE (ec (p:=b==0) (aG (bq rfl rfl rfl)) ?_)) rfl⟩
     rw [show (b==0)=false from beq_eq_false_iff_ne.mpr %[cY (a==0),0⊂a|(fZ hb)]]
     refine bE (ec (p:=decide (b < 0)) (aG (bq rfl rfl rfl)) ?_)
     rw [decide_eq_false %[cY (a⊂0),0⊂a|(fZ hb)]]
     refine bE (ec (p:=decide (a < 0)) (aG (bq rfl rfl rfl)) ?_)
     rw [decide_eq_true ha]
     exact ao (om (x:=.int ((acp a).fdiv b)) (y:=.int ((acp a).fmod b)) (aA rfl (ae (pL rfl) (ae rfl ak)) (bM (ys:=[.int (acp a),.int b]) rfl (call hb jo)))) (bE (eh (gO (ae (x:=.int (a.fdiv b)) ((pL rfl).trans (by rw [e1])) (ae (x:=.int (a.fmod b)) ((ah rfl (pL rfl) fO).trans (by rw [e2])) ak)) rfl)))
   · exact ⟨0,Em %[0⊆a,cY (a⊂0)|(fZ ha)] %[0⊂a,cY (a==0),cY (a⊂0)|(fZ oU hb)] (El rfl %[0⊆a,cY (a⊂0)|(fZ ha)] %[0⊂a,cY (a==0),cY (a⊂0)|(fZ oU hb)] hs)⟩
end
section
noncomputable def dj:List Nat->List Nat
 | []=>[]
 | c::l=>if c=13 then (match l with
    | []=>[13,10]
    | e::r=>if e=10 then 13::10::dj r else 13::10::dj (e::r))
   else if c=10 then 13::10::dj l else c::dj l
noncomputable def fj:Bool->List Nat->List Nat
 | _,[]=>[]
 | b,c::l=>if b=true∧c=46 then 46::46::fj false l else c::fj (c==10) l
noncomputable def g0(l:List Str):List Nat:=(l.map λ s=>s.cps.toList).flatten
theorem xG(Cw:List Str):(agp ⟨#[]⟩ Cw).cps.toList=g0 Cw:=by
 have e:Cw=(Cw.map λ s=>s.cps.toList).map wS:=by
  erw [ade]
  conv=>lhs;rw [←akA Cw]
  exact aeo λ s V=>rfl
 conv=>lhs;rw [e,show (⟨#[]⟩ :Str)=wS [] from rfl,MG,zJ]
 rfl
section
variable{l:List Nat}{r:Str}
theorem Cy(hd:d < l.length)(ha:d < a):g0 (if d < a then [⟨l.toArray.extract d a⟩] else [])=l[d]::g0 (if d+1 < a then [⟨l.toArray.extract (d+1) a⟩] else []):=by
 have ex:∀i j:Nat,(l.toArray.extract i j).toList=(l.drop i).take (j - i):=λ i j=>by simp
 erw [if_pos ha]
 show (l.toArray.extract d a).toList++[]=_
 erw [abg ..,ex ..,adr hd,(show a - d=(a - (d+1))+1 by exact %[a=b+1,c<d,qD 0 a d c,qD 0 b d (c+1)|dQ ha rfl rfl]),akJ]
 congr 1
 split
 · show _=(l.toArray.extract (d+1) a).toList++[]
   erw [abg ..,ex ..,rfl]
 · rename_i h
   erw [(show a - (d+1)=0 by exact %[a=0,cY (b+1<c),qD 0 a c (b+1)|cf h rfl]),aiv];rfl
theorem Cz(a b:List Str):g0 (a++b)=g0 a++g0 b:=by unfold g0;erw [aa6,List.flatten_append,rfl]
theorem xH(hd:d < l.length)(hf:find d=find (d+1))(hb:∀a b,find d=some (a,b)->d < a):g0 (gM find l.toArray r (n+1) d)=l[d]::g0 (gM find l.toArray r (n+1) (d+1)):=by
 have hs:l.toArray.size=l.length:=by simp
 unfold gM
 rw [←hf]
 cases h:find d with
 | some p=>
   obtain ⟨a,b⟩:=p
   have:=hb a b h
   show g0 ((if d < a then [⟨l.toArray.extract d a⟩] else [])++_)=l[d]::g0 ((if d+1 < a then [⟨l.toArray.extract (d+1) a⟩] else [])++_)
   erw [Cz ..,Cz ..,Cy hd this];rfl
 | none=>
   show g0 (if d < l.toArray.size then [⟨l.toArray.extract d l.toArray.size⟩] else [])=l[d]::g0 (if d+1 < l.toArray.size then [⟨l.toArray.extract (d+1) l.toArray.size⟩] else [])
   exact Cy hd %[a<b,a<c,b=c|(cf hd hs)]
theorem CA(hf:find d=some (d,b)):g0 (gM find l.toArray r (n+1) d)=r.cps.toList++g0 (gM find l.toArray r n b):=by
 conv=>lhs;unfold gM
 erw [hf]
 show g0 ((if d < d then _ else [])++(r::_))=_
 erw [if_neg (adg d)]
 rfl
theorem CB(hd:l.length≤d)(hf:find d=none):g0 (gM find l.toArray r n d)=[]:=by
 cases n with
 | zero=>rfl
 | succ n=>
   unfold gM
   rw [hf]
   show g0 (if d < l.toArray.size then _ else [])=[]
   erw [if_neg (by simp;exact %[a≤b,a≤b|aU hd])];rfl
theorem lq(hd:d < l.length):l.toArray.getD d 0=l[d]:=by simp [Array.getD,hd]
theorem Qz(r:List Nat):dj (10::r)=13::10::dj r:=by
 conv=>lhs;unfold dj
 exact (if_neg ⋯).trans (if_pos rfl)
theorem H3(r:List Nat):dj (13::10::r)=13::10::dj r:=by
 conv=>lhs;unfold dj
 exact (if_pos rfl).trans (if_pos rfl)
theorem QA(r:List Nat)(h:e≠10):dj (13::e::r)=13::10::dj (e::r):=by
 conv=>lhs;unfold dj
 exact (if_pos rfl).trans (if_neg h)
theorem Xo(r:List Nat)(h:¬(c=10∨c=13)):dj (c::r)=c::dj r:=by
 conv=>lhs;unfold dj
 exact (if_neg λ q=>h (.inr q)).trans (if_neg λ q=>h (.inl q))
theorem MS:l.toArray.size=l.length:=rfl
theorem QB(bD:d < l.length):j3 l.toArray d=if l[d]=10∨l[d]=13 then some (d,my l.toArray d) else j3 l.toArray (d+1):=by
 show (eM l.toArray (l.length+1 - d) d).map _=_
 erw [(show l.length+1 - d=(l.length+1 - (d+1))+1 by exact %[a=b+1,c<d,qD 0 a (d+1) c,qD 0 b (d+1) (c+1)|dQ bD rfl rfl])]
 show (if d ≥ l.length then none else if l.toArray.getD d 0=10∨l.toArray.getD d 0=13 then some d else eM l.toArray (l.length+1 - (d+1)) (d+1)).map _=_
 erw [if_neg (ajP.mpr bD),lq bD]
 split <;> rfl
theorem QC(m:Nat):∀(n d:Nat),l.length≤m+d->l.length < n+d->d≤l.length->g0 (gM (j3 l.toArray) l.toArray ⟨#[13,10]⟩ n d)=dj (l.drop d):=by
 induction m with
 | zero=>
   intro n d hm hn hd
   obtain rfl:d=l.length:=ahC hd (ae7 d▸hm)
   erw [ah2]
   refine CB (ac1 _) ?_
   show (eM l.toArray (l.length+1 - l.length) l.length).map _=none
   erw [(show l.length+1 - l.length=0+1 by exact %[a=0+1,qD 0 a (b+1) b|aU rfl])]
   show (if l.length ≥ l.length then none else _:Option Nat).map _=none
   erw [if_pos (ac1 _)];rfl
 | succ m ih=>
   intro n d hm hn hd
   by_cases he:d=l.length
   · exact ih n d (by erw [he];exact agY _ _) hn hd
   have bD:d < l.length:=ale hd he
   cases n with
   | zero=>rw [ae7] at hn;exact absurd bD (aif hn)
   | succ n=>
   have wi:l.length≤m+(d+1):=agU m d▸hm
   have Iv:l.length < n+(d+1):=agU n d▸hn
   have e0:=adr bD
   have i1:=ih n (d+1) wi Iv bD
   have hf:=QB bD
   by_cases hc:l[d]=10∨l[d]=13
   · rw [if_pos hc] at hf
     have tE:∀b,my l.toArray d=b->g0 (gM (j3 l.toArray) l.toArray ⟨#[13,10]⟩ (n+1) d)=13::10::g0 (gM (j3 l.toArray) l.toArray ⟨#[13,10]⟩ n b):=λ b q=>CA (q▸hf)
     have ne:my l.toArray d=(if l[d]=13∧d+1 < l.length∧l.toArray.getD (d+1) 0=10 then d+2 else d+1):=by unfold my;erw [lq bD];rfl
     erw [e0]
     rcases hc with hc | hc
     · refine (tE _ (ne.trans (if_neg λ q=>absurd (hc.symm.trans q.1) ⋯))).trans ?_
       erw [i1,hc,Qz ..,rfl]
     · by_cases h2:d+1 < l.length
       · rw [lq h2] at ne
         have e1:=adr h2
         by_cases h3:l[d+1]=10
         · refine (tE _ (ne.trans (if_pos ⟨hc,h2,h3⟩))).trans ?_
           erw [ih n (d+2) (Nat.le_succ_of_le wi) (ahU Iv) h2,e1,hc,h3,H3 ..,rfl]
         · refine (tE _ (ne.trans (if_neg λ q=>h3 q.2.2))).trans ?_
           erw [i1,e1,hc,QA _ h3,rfl]
       · refine (tE _ (ne.trans (if_neg λ q=>h2 q.2.1))).trans ?_
         erw [i1,aib (aiR.mp h2),hc];rfl
   · rw [if_neg hc] at hf
     erw [xH bD hf λ a b h=>by rw [hf] at h;exact (rC h).1,ih (n+1) (d+1) wi (akl n (d+1)▸ahU Iv) bD,e0,Xo _ hc,rfl]
theorem QD(bD:d < l.length):fN l.toArray (l.toArray.size+1 - d) d=if iT l.toArray d=true∧l[d]=46 then some (d,d+1) else fN l.toArray (l.toArray.size+1 - (d+1)) (d+1):=by
 erw [MS,(show l.length+1 - d=(l.length+1 - (d+1))+1 by exact %[a=b+1,c<d,qD 0 a (d+1) c,qD 0 b (d+1) (c+1)|dQ bD rfl rfl])]
 show (if iT l.toArray d=true∧d < l.length∧l.toArray.getD d 0=46 then _ else _)=_
 erw [lq bD]
 by_cases hq:iT l.toArray d=true∧l[d]=46
 · exact (if_pos ⟨hq.1,bD,hq.2⟩).trans (if_pos hq).symm
 · exact (if_neg λ q=>hq ⟨q.1,q.2.2⟩).trans (if_neg hq).symm
theorem QE(m:Nat):∀(n d:Nat),l.length≤m+d->l.length < n+d->d≤l.length->g0 (gM (λ d=>fN l.toArray (l.toArray.size+1 - d) d) l.toArray ⟨#[46,46]⟩ n d)=fj (iT l.toArray d) (l.drop d):=by
 induction m with
 | zero=>
   intro n d hm hn hd
   obtain rfl:d=l.length:=ahC hd (ae7 d▸hm)
   erw [ah2]
   refine (CB (ac1 _) ?_).trans (by cases iT l.toArray l.length <;> rfl)
   show fN l.toArray (l.length+1 - l.length) l.length=none
   erw [(show l.length+1 - l.length=0+1 by exact %[a=0+1,qD 0 a (b+1) b|aU rfl])]
   exact if_neg λ q=>adg _ (show l.length < l.length from q.2.1)
 | succ m ih=>
   intro n d hm hn hd
   by_cases he:d=l.length
   · exact ih n d (by erw [he];exact agY _ _) hn hd
   have bD:d < l.length:=ale hd he
   cases n with
   | zero=>rw [ae7] at hn;exact absurd bD (aif hn)
   | succ n=>
   have wi:l.length≤m+(d+1):=agU m d▸hm
   have Iv:l.length < n+(d+1):=agU n d▸hn
   have hf:=QD bD
   have hbg:iT l.toArray (d+1)=(l[d]==10):=by
    show (d+1==0||l.toArray.getD d 0==10)=_
    erw [lq bD]
    rfl
   erw [adr bD]
   by_cases hc:iT l.toArray d=true∧l[d]=46
   · rw [if_pos hc] at hf
     erw [CA (find:=λ d=>fN l.toArray (l.toArray.size+1 - d) d) hf,ih n (d+1) wi Iv bD,hbg,hc.2]
     conv=>rhs;unfold fj
     exact (if_pos ⟨hc.1,rfl⟩).symm
   · rw [if_neg hc] at hf
     erw [xH (find:=λ d=>fN l.toArray (l.toArray.size+1 - d) d) bD hf λ a b h=>(kY (hf.symm.trans h)).1,ih (n+1) (d+1) wi (akl n (d+1)▸ahU Iv) bD,hbg]
     conv=>rhs;unfold fj
     exact (if_neg hc).symm
theorem pR(l:List Nat):kZ (wS l)=wS (dj l):=by
 have h:(kZ (wS l)).cps.toList=dj l:=by
  skip
  erw [xG ..,(show ((wS l).cps.size+1)=l.length+1 by show l.toArray.size+1=_;simp)]
  exact QC l.length (l.length+1) 0 (ac1 _) (afc _) (adV _)
 exact ai3 (afW.mp h)
theorem xI(l:List Nat):sg (wS l)=wS (fj true l):=by
 have h:(sg (wS l)).cps.toList=fj true l:=by
  skip
  erw [xG ..,(show ((wS l).cps.size+1)=l.length+1 by show l.toArray.size+1=_;simp)]
  exact QE l.length (l.length+1) 0 (ac1 _) (afc _) (adV _)
 exact ai3 (afW.mp h)
end
end
section
open StrLaws Builtin.Str
noncomputable abbrev cT:List Nat:=[13,10]
theorem En:At (wS l) (wS cT) (wS l).length k↔(l.drop k).take 2=cT:=by
 have hl:(wS l).length=l.length:=bX l
 constructor
 · intro h
   have:=h.2
   rw [subAt_eq] at this
   exact eq_of_beq this
 · intro h
   refine ⟨?_,?_⟩
   · have:=congrArg ae3 h
     rw [aem,ae9] at this
     erw [hl]
     show k+2≤l.length
     have e:cT.length=2:=rfl
     exact %[a+2≤b,c=d,d=2,qD 0 e b a,qD 3 c (2) e|rU this e rfl rfl]
   · erw [subAt_eq ..]
     show ((l.drop k).take 2==cT)=true
     erw [h];rfl
theorem MT(e:l.drop a=r++rest)(h13:13∉r)(hk:a≤k)(hk2:k < a+r.length):¬At (wS l) (wS cT) (wS l).length k:=λ h=>by
 have h:=En.mp h
 have e2:l.drop k=r.drop (k - a)++rest:=by
  have:l.drop k=(l.drop a).drop (k - a):=by erw [ahb];congr 1;exact %[a=b+c,b≤a,qD 0 c a b|cf hk rfl]
  erw [this,e,List.drop_append_of_le_length %[a≤b,c<d+b,qD 0 a c d|(dQ hk2 rfl)],rfl]
 have bD:k - a < r.length:=%[a<b,c≤d,d<c+b,qD 0 a d c|(dQ hk hk2 rfl)]
 rw [e2,adr bD] at h
 have:r[k - a]=13:=by
  rw [acX,akJ] at h
  exact (ajn h).1
 exact h13 (this▸afa bD)
theorem vO:∀(rows:List (List Nat)) (r:List Nat) (a:Nat) (H4:List Nat) (f:Nat),(∀x∈r::rows,13∉x)->l.drop a=jn cT (r::rows)->ChainG (wS l) (wS cT) (wS l).length a H4 f->(∀k,f≤k->¬At (wS l) (wS cT) (wS l).length k)->
 partsFrom (wS l) 2 a H4=(r::rows).map wS
 | [],r,a,H4,f,hr,e,hG,hn=>by
   have e:l.drop a=r++[]:=by (erw [e,abg ..]);rfl
   have bc:r.length=l.length - a:=by
    have:=congrArg ae3 e
    rw [ae9,abg] at this
    exact this.symm
   cases H4 with
   | nil=>
     show [strSub (wS l) a (wS l).length]=[wS r]
     congr 1
     refine ai3 (afW.mp ?_)
     erw [akH ..]
     show (l.drop a).take ((wS l).length - a)=r
     erw [e,abg ..,bX ..]
     exact afT %[a≤b,a=b|(aU bc)]
   | cons c cs=>
     exfalso
     have hA:=hG.2.1
     have hc:=En.mp hA
     have:c < a+r.length:=by
      have:=congrArg ae3 hc
      rw [aem,ae9] at this
      have e2:cT.length=2:=rfl
      exact %[a<b+c,c=d,e=f,f=2,qD 0 d g b,qD 0 h g a,qD 3 e (2) h|q80 bc this e2 rfl rfl rfl]
     exact MT e (hr r (.head _)) hG.1 this hA
 | r'::rows,r,a,H4,f,hr,e,hG,hn=>by
   have e:l.drop a=r++(cT++jn cT (r'::rows)):=by erw [e];show r++cT++_=_;erw [aaH ..,rfl]
   have XV:At (wS l) (wS cT) (wS l).length (a+r.length):=by
    refine En.mpr ?_
    erw [←ahb,e,alV]
    rfl
   have cM:∀k,a≤k->k < a+r.length->¬At (wS l) (wS cT) (wS l).length k:=λ k h1 h2=>MT e (hr r (.head _)) h1 h2
   cases H4 with
   | nil=>
     have e2:f=a:=hG
     exact absurd XV (hn _ %[a≤b+c,a=b|(cf e2)])
   | cons c cs=>
     obtain ⟨g1,g2,g3,g4⟩:=hG
     have hc:c=a+r.length:=by
      rcases Nat.lt_trichotomy c (a+r.length) with q | q | q
      · exact absurd g2 (cM c g1 q)
      · exact q
      · exact absurd XV (g3 _ %[a≤a+b|(aU)] q)
     subst hc
     have e3:l.drop (a+r.length+2)=jn cT (r'::rows):=by
      have:l.drop (a+r.length+2)=((l.drop a).drop r.length).drop 2:=by (erw [ahb,ahb,agB ..,rfl])
      erw [this,e,alV];rfl
     have ih:=vO rows r' (a+r.length+2) cs f (λ x hx=>hr x (.tail _ hx)) e3 g4 hn
     show strSub (wS l) a (a+r.length)::partsFrom (wS l) 2 (a+r.length+2) cs=wS r::_
     erw [ih]
     congr 1
     refine ai3 (afW.mp ?_)
     erw [akH ..]
     show (l.drop a).take (a+r.length - a)=r
     erw [e,ag6 ..,List.take_left,rfl]
theorem MU(r:List Nat)(rows:List (List Nat))(hr:∀x∈r::rows,13∉x):agw (wS (jn cT (r::rows))) (wS cT)=(r::rows).map wS:=by
 generalize hl:jn cT (r::rows)=l
 obtain ⟨f,hG,hn⟩:=occ_tight (wS l) (wS cT) ⋯
 have key:=vO rows r 0 _ f hr (by (erw [ajE,hl,rfl])) hG hn
 have Cd:ahq (wS l) (wS cT) 0 (wS l).length ((wS l).length+1)=[]->[wS l]=(r::rows).map wS:=λ h=>by
  rw [h] at key
  erw [←key]
  show [wS l]=[strSub (wS l) 0 (wS l).length]
  congr 1
  refine ai3 (afW.mp ?_)
  erw [akH ..]
  show l=(l.drop 0).take ((wS l).length - 0)
  erw [ajE,bX ..];exact (afT (ac1 _)).symm
 have ef:decide (ahf (wS l) < ahf (wS cT))=false:=by
  refine decide_eq_false ?_
  have:ahf (wS cT)=1:=by decide+kernel
  erw [this]
  unfold ahf
  split
  · decide
  · split <;> decide
 unfold agw
 rw [ef,Bool.or_false]
 split
 · rename_i bD
   refine Cd ?_
   have bD:=of_decide_eq_true bD
   cases hc:ahq (wS l) (wS cT) 0 (wS l).length ((wS l).length+1) with
   | nil=>rfl
   | cons c cs=>
     rw [hc] at hG
     have:=hG.2.1.1
     lia
 · split
   · rename_i hE
     exact Cd (List.isEmpty_iff.mp hE)
   · erw [partsBetween_eq ..];exact key
end
noncomputable def dl:List Nat->List Nat
 | []=>[]
 | c::l=>if c=46 then 46::46::l else c::l
noncomputable def gS(t:List Nat):List Nat:=(fj true (dj t)).filter dq
theorem MV(t:List Nat):xD t=gS t:=by
 unfold xD
 (rw [pR];erw [xI ..]);rfl
noncomputable def vP(e:List Nat):Prop:=e=[10]∨e=[13]∨e=[13,10]
theorem pS:∀(a rest:List Nat),(∀c∈a,c≠10∧c≠13)->dj (a++rest)=a++dj rest
 | [],rest,_=>rfl
 | c::a,rest,h=>by
   have hc:=h c (.head _)
   erw [acX]
   conv=>lhs;unfold dj
   erw [if_neg hc.2,if_neg hc.1,pS a rest λ x hx=>h x (.tail _ hx)];rfl
theorem MX(he:vP e)(hr:rest.head?≠some 10):dj (e++rest)=13::10::dj rest:=by
 rcases he with rfl | rfl | rfl
 · show dj (10::rest)=_
   conv=>lhs;unfold dj
   erw [if_neg ⋯,if_pos rfl,rfl]
 · show dj (13::rest)=_
   conv=>lhs;unfold dj
   erw [if_pos rfl]
   cases rest with
   | nil=>rfl
   | cons x r=>
     show (if x=10 then _ else _)=_
     erw [if_neg (λ q=>hr (by erw [q];rfl)),rfl]
 · show dj (13::10::rest)=_
   conv=>lhs;unfold dj
   erw [if_pos rfl]
   show (if 10=10 then _ else _)=_
   erw [if_pos rfl,rfl]
theorem oF(c:Nat)(l:List Nat):dl (c::l)=if c=46 then 46::46::l else c::l:=rfl
theorem fk(b:Bool)(c:Nat)(l:List Nat):fj b (c::l)=if b=true∧c=46 then 46::46::fj false l else c::fj (c==10) l:=by
 conv=>lhs;unfold fj
theorem MY:∀(a rest:List Nat),(∀c∈a,c≠10)->fj false (a++13::10::rest)=a++13::10::fj true rest
 | [],rest,_=>by
   show fj false (13::10::rest)=_
   erw [fk ..,if_neg ⋯,fk ..,if_neg ⋯];rfl
 | c::a,rest,h=>by
   have hc:=h c (.head _)
   erw [acX]
   conv=>lhs;unfold fj
   erw [if_neg (λ q=>by cases q.1),(show (c==10)=false from beq_eq_false_iff_ne.mpr hc),MY a rest λ x hx=>h x (.tail _ hx)];rfl
theorem F8:∀(a:List Nat),(∀c∈a,c≠10)->fj false a=a
 | [],_=>rfl
 | c::a,h=>by
   have hc:=h c (.head _)
   erw [fk ..,if_neg (λ q=>by cases q.1),(show (c==10)=false from beq_eq_false_iff_ne.mpr hc),F8 a λ x hx=>h x (.tail _ hx),rfl]
theorem Xp(a rest:List Nat)(h:∀c∈a,c≠10):fj true (a++13::10::rest)=dl a++13::10::fj true rest:=by
 cases a with
 | nil=>
   show fj true (13::10::rest)=_
   erw [fk ..,if_neg ⋯,fk ..,if_neg ⋯];rfl
 | cons c a=>
   have hc:=h c (.head _)
   have ha:=MY a rest λ x hx=>h x (.tail _ hx)
   erw [acX]
   conv=>lhs;unfold fj
   erw [oF ..]
   by_cases zK:c=46
   · erw [if_pos ⟨rfl,zK⟩,if_pos zK,ha];rfl
   · erw [if_neg (λ q=>zK q.2),if_neg zK,(show (c==10)=false from beq_eq_false_iff_ne.mpr hc),ha];rfl
theorem QF(a:List Nat)(h:∀c∈a,c≠10):fj true a=dl a:=by
 cases a with
 | nil=>rfl
 | cons c a=>
   have hc:=h c (.head _)
   have ha:=F8 a λ x hx=>h x (.tail _ hx)
   erw [fk ..,oF ..]
   by_cases zK:c=46
   · erw [if_pos ⟨rfl,zK⟩,if_pos zK,ha,rfl]
   · erw [if_neg (λ q=>zK q.2),if_neg zK,(show (c==10)=false from beq_eq_false_iff_ne.mpr hc),ha,rfl]
theorem fS(h:c < 173∨65279 < c):dq c=true:=by
 unfold dq;erw [W3 h];rfl
noncomputable def QG(c:Nat):Prop:=c≠10∧c≠13
theorem jj(ha:∀c∈a,QG c)(he:vP e)(hr:rest.head?≠some 10):gS (a++(e++rest))=(dl a).filter dq++cT++gS rest:=by
 unfold gS
 (rw [pS a _ ha];erw [MX he hr,Xp a _ λ c hc=>(ha c hc).1,ahN ..,aaH ..])
 erw [adY,if_pos (fS ⋯),adY,if_pos (fS ⋯)];rfl
theorem H5(ha:∀c∈a,QG c)(he:e=[]∨vP e):gS (a++e)=(dl a).filter dq++(if e=[] then [] else cT):=by
 rcases he with rfl | he
 · erw [abg ..,if_pos rfl,abg ..]
   unfold gS
   have:=pS a [] ha
   rw [abg] at this
   rw [this]
   show (fj true (a++[])).filter dq=_
   erw [abg ..,QF a λ c hc=>(ha c hc).1,rfl]
 · have:=jj (rest:=[]) ha he ⋯
   rw [abg] at this
   erw [this,if_neg (λ q=>by rcases he with h | h | h <;> rw [h] at q <;> cases q)]
   show _++cT++[]=_
   erw [abg ..,rfl]
noncomputable def cX(e f:Nat):List Nat:=aau (1+e) 46++[f]
noncomputable def bP(e f:Nat->Nat)(s b:Nat)(tl:Bool):List (List Nat):=[cX (e 0) (f 0),cX (e 1) (f 1),cX (e 2) (f 2),cX (e 3) (f 3),cX (e 4) (f 4),[],aau (1+s) 46,[b,46]]++(if tl then [[]] else [])
theorem F9(k:Int):vP (lZ k):=by
 unfold lZ vP
 split
 · exact .inl rfl
 · split
   · exact .inr (.inl rfl)
   · exact .inr (.inr rfl)
theorem QH(k:Int):me k=[]∨vP (me k):=by
 unfold me vP
 split
 · exact .inl rfl
 · split
   · exact .inr (.inl rfl)
   · split
     · exact .inr (.inr (.inl rfl))
     · exact .inr (.inr (.inr rfl))
theorem CC(k:Int):(me k=[])↔k.fmod 4=0:=by
 unfold me
 by_cases h:k.fmod 4=0
 · rw [if_pos h];simp [h]
 · erw [if_neg h]
   refine ⟨λ q=>?_,λ q=>absurd q h⟩
   split at q
   · cases q
   · split at q <;> cases q
structure fo (f:Nat):Prop where
 keep:dq f=true
 ok:QG f
theorem jU(h:fo f):∀c∈cX e f,QG c:=λ c hc=>by
 skip
 rcases abC.mp hc with hc | hc
 · erw [(af4.mp hc).2];exact ⟨⋯,⋯⟩
 · erw [aaU.mp hc];exact h.ok
theorem xJ(h:fo f):(cX e f).filter dq=cX e f:=by
 refine agR.mpr λ c hc=>?_
 skip
 rcases abC.mp hc with hc | hc
 · erw [(af4.mp hc).2];exact fS ⋯
 · erw [aaU.mp hc];exact h.keep
theorem oG(e:Nat)(r:List Nat):aau (1+e) 46++r=46::(aau e 46++r):=by (erw [ae5 ..,afm]);rfl
theorem QI:dl (cX e f)=cX (e+1) f:=by
 unfold cX
 (rw [oG];erw [oF ..,if_pos rfl,oG ..,afm]);rfl
theorem pT(d:Int):dq (sr d)=false∧QG (sr d)∧sr d≠46:=by
 have h:=W4 d
 have hb:(cJ.all λ i=>decide (173≤i))=true:=⋯
 have:=of_decide_eq_true (acP.mp hb _ (ahk.mp h))
 refine ⟨by unfold dq;erw [h];rfl,⟨%[cY (a=10),173⊆(qC a)|(aV this)],%[cY (a=13),173⊆(qC a)|(aV this)]⟩,%[cY (a=46),173⊆(qC a)|(aV this)]⟩
theorem MZ{e f:Nat}{rest:List Nat}{bare:Bool}{k:Int}(hf:fo f)(hr:rest.head?≠some 10):
 gS ((if bare then [] else [sr k])++(cX e f++lZ k)++rest)=cX (e+(if bare then 1 else 0)) f++cT++gS rest:=by
 cases bare with
 | true=>
   show gS ([]++(cX e f++lZ k)++rest)=cX (e+1) f++cT++gS rest
   (rw [acQ];rw [aaH];rw [jj (jU hf) (F9 k) hr];erw [QI,xJ hf,rfl])
 | false=>
   refine Ye (pT k) λ h1 h2 h3=>?_
   show gS ([sr k]++(cX e f++lZ k)++rest)=cX e f++cT++gS rest
   rw [aaH,aaH,←aaH,jj (a:=[sr k]++cX e f) ?_ (F9 k) hr]
   · have:dl ([sr k]++cX e f)=sr k::cX e f:=by
      show (if sr k=46 then _ else _)=_
      erw [if_neg h3];rfl
     erw [this,adY,if_neg (by erw [h1];decide),xJ hf,rfl]
   · intro c hc
     rcases abC.mp hc with hc | hc
     · erw [aaU.mp hc];exact h2
     · exact jU hf c hc
theorem M0{e f:Nat}{bare:Bool}{k:Int}{rest:List Nat}:((if bare then [] else [sr k])++(cX e f++lZ k)++rest).head?≠some 10:=by
 cases bare with
 | true=>
   show ([]++(cX e f++lZ k)++rest).head?≠some 10
   unfold cX
   rw [oG]
   simp
 | false=>
   show some (sr k)≠some 10
   intro q
   exact (pT k).2.1.1 (aam q)
theorem afY{e f:Nat->Nat}{s b:Nat}{tl:Bool}{bare:List Bool}{draw:Int}(hf:∀p,p < 5->fo (f p))(hb:fo b)(zK:b≠46):
 xD (ek (bP e f s b tl) bare draw)=jn cT (bP (λ p=>e p+(if (bare[p]?).getD false then 1 else 0)) f (s+1) b (decide (draw.fmod 4≠0))):=by
 rw [MV]
 unfold ek
 have g:∀p,p < 5->((bP e f s b tl)[p]?).getD []=cX (e p) (f p):=λ p hp=>by
  match p,hp with
  | 0,_=>rfl
  | 1,_=>rfl
  | 2,_=>rfl
  | 3,_=>rfl
  | 4,_=>rfl
 have g5:((bP e f s b tl)[5]?).getD []=[]:=rfl
 have g6:((bP e f s b tl)[6]?).getD []=aau (1+s) 46:=rfl
 have g7:((bP e f s b tl)[7]?).getD []=[b,46]:=rfl
 unfold dJ
 rw [g 0 ⋯,g 1 ⋯,g 2 ⋯,g 3 ⋯,g 4 ⋯,g5,g6,g7]
 generalize h5:[]++[13]++aau (1+s) 46++[10]++[b,46]++me draw=r5
 have hr5:r5.head?≠some 10:=by
  rw [←h5]
  simp
 have hb7:∀c∈[b,46],QG c:=λ c hc=>by
  simp only [aaB,aaP,or_false] at hc
  rcases hc with rfl | rfl
  · exact hb.ok
  · exact ⟨⋯,⋯⟩
 have e5:gS r5=cT++(aau (1+(s+1)) 46++cT++([b,46]++(if me draw=[] then [] else cT))):=by
  rw [←h5,show []++[13]++aau (1+s) 46++[10]++[b,46]++me draw=[]++([13]++(aau (1+s) 46++([10]++([b,46]++me draw)))) by simp only [aaH,acQ]]
  rw [jj (λ c hc=>by cases hc) (.inr (.inl rfl)) (by rw [oG];simp)]
  rw [jj (λ c hc=>by rw [(af4.mp hc).2];exact ⟨⋯,⋯⟩) (.inl rfl) (by show some b≠some 10;intro q;exact hb.ok.1 (aam q)),H5 hb7 (QH draw)]
  have hd6:dl (aau (1+s) 46)=aau (1+(s+1)) 46:=by
   rw [ae5,afm,oF,if_pos rfl,ae5 1,afm,afm]
  have hd7:dl [b,46]=[b,46]:=by rw [oF,if_neg zK]
  have k6:(aau (1+(s+1)) 46).filter dq=aau (1+(s+1)) 46:=agR.mpr λ c hc=>by rw [(af4.mp hc).2];exact fS ⋯
  have k7:[b,46].filter dq=[b,46]:=agR.mpr λ c hc=>by
   simp only [aaB,aaP,or_false] at hc
   rcases hc with rfl | rfl
   · exact hb.keep
   · exact fS ⋯
  rw [hd6,hd7,k6,k7]
  rfl
 simp only [aaH]
 have as:∀(a b c:List Nat),a++(b++c)=(a++b)++c:=λ a b c=>(aaH a b c).symm
 have ro:∀(p:Nat) (rest:List Nat),p < 5->rest.head?≠some 10->gS ((if (bare[p]?).getD false then [] else [sr (draw+(p:Int))])++(cX (e p) (f p)++(lZ (draw+(p:Int))++rest)))=cX (e p+(if (bare[p]?).getD false then 1 else 0)) (f p)++cT++gS rest:=λ p rest hp hr=>by
  rw [as (cX _ _),as];exact MZ (hf p hp) hr
 have rh:∀(p:Nat) (rest:List Nat),((if (bare[p]?).getD false then [] else [sr (draw+(p:Int))])++(cX (e p) (f p)++(lZ (draw+(p:Int))++rest))).head?≠some 10:=λ p rest=>by
  rw [as (cX _ _),as];exact M0
 rw [ro 0 _ ⋯ (rh 1 _),ro 1 _ ⋯ (rh 2 _),ro 2 _ ⋯ (rh 3 _),ro 3 _ ⋯ (rh 4 _),ro 4 _ ⋯ hr5,e5]
 have hj:∀(x y:List Nat) (r:List (List Nat)),jn cT (x::y::r)=x++cT++jn cT (y::r):=λ x y r=>rfl
 unfold bP
 by_cases hd:draw.fmod 4=0
 · rw [if_pos ((CC draw).mpr hd),decide_eq_false (λ q=>q hd),abg]
   show _=jn cT ([_,_,_,_,_,[],_,_]++[])
   rw [abg,hj,hj,hj,hj,hj,hj,hj]
   show _=_++cT++(_++cT++(_++cT++(_++cT++(_++cT++([]++cT++(_++cT++[b,46]))))))
   simp only [aaH,acQ]
 · rw [if_neg (λ q=>hd ((CC draw).mp q)),decide_eq_true hd]
   show _=jn cT [_,_,_,_,_,[],_,_,[]]
   rw [hj,hj,hj,hj,hj,hj,hj,hj]
   show _=_++cT++(_++cT++(_++cT++(_++cT++(_++cT++([]++cT++(_++cT++([b,46]++cT++[])))))))
   simp only [aaH,acQ,abg]
theorem gT(TQ:Option Nat)(b:Nat)(l:List Nat):gq TQ (b::l)=if b / 64 % 2=1 then gq (some (TQ.getD 0 * 64+b % 64)) l else (TQ.getD 0 * 64+b % 64)::gq none l:=rfl
theorem oH(h:b < 64):gq none (b::l)=b::gq none l:=by
 erw [gT ..,if_neg (by lia)]
 show (0 * 64+b % 64)::_=_
 erw [(show 0 * 64+b % 64=b by lia),rfl]
theorem CD(n:Nat)(l:List Nat):gq none (aau n 46++l)=aau n 46++gq none l:=by
 induction n with
 | zero=>rfl
 | succ n ih=>erw [afm,acX,oH ⋯,ih];rfl
theorem QJ(h:64≤c∧c < 128):gq none (c::13::l)=(13+64 * (c - 64))::gq none l:=by
 erw [gT ..,if_pos (by lia),gT ..,if_neg ⋯]
 show ((0 * 64+c % 64) * 64+13 % 64)::_=_
 erw [(show (0 * 64+c % 64) * 64+13 % 64=13+64 * (c - 64) by lia),rfl]
theorem QK(b:Nat)(l:List Nat):gq none (b::46::l)=ji b++gq none l:=by
 unfold ji
 rw [gT]
 by_cases h:b / 64 % 2=1
 · (rw [if_pos h];rw [if_pos h];erw [gT ..,if_neg ⋯])
   show ((0 * 64+b % 64) * 64+46 % 64)::_=(b % 64 * 64+46)::_
   erw [(show (0 * 64+b % 64) * 64+46 % 64=b % 64 * 64+46 by lia)];rfl
 · erw [if_neg h,if_neg h]
   show (0 * 64+b % 64)::gq none (46::l)=(b % 64)::46::gq none l
   erw [oH ⋯,(show 0 * 64+b % 64=b % 64 by exact %[0*64+a=a|aV]),rfl]
theorem dF(h:c=46∨c=13∨c=10):bx c=c:=by unfold bx;erw [oC h];rfl
theorem CF(n:Nat):(aau n 46).map bx=aau n 46:=by (erw [ag0,dF (.inl rfl),rfl])
theorem oK(hf:bx f=c)(hc:64≤c∧c < 128):gq none ((cX e f++cT++l).map bx)=eQ e c++gq none (l.map bx):=by
 skip
 (erw [aa6,aa6,aa6,CF ..];rw [aaX];erw [afG,aaX,aaX,afG])
 (rw [hf];rw [dF (.inr (.inl rfl))];erw [dF (.inr (.inr rfl)),aaH ..,aaH ..,CD ..])
 erw [acX,acQ ..,acX,acX,acQ ..,QJ hc,oH ⋯,aaH ..];rfl
theorem H6{e f c:Nat->Nat}{s b:Nat}{tl:Bool}(hf:∀p,p < 5->bx (f p)=c p∧64≤c p∧c p < 128)(hb:bx b=b):
 gq none ((jn cT (bP e f s b tl)).map bx)=wK [e 0,e 1,e 2,e 3,e 4] [c 0,c 1,c 2,c 3,c 4] s b++(if tl then [13,10] else []):=by
 have hj:∀(x y:List Nat) (r:List (List Nat)),jn cT (x::y::r)=x++cT++jn cT (y::r):=λ x y r=>rfl
 have h0:=hf 0 ⋯
 have h1:=hf 1 ⋯
 have h2:=hf 2 ⋯
 have h3:=hf 3 ⋯
 have h4:=hf 4 ⋯
 have m2:cT.map bx=[13,10]:=by rw [aaX,aaX,dF (.inr (.inl rfl)),dF (.inr (.inr rfl)),afG]
 have Xq:∀l,gq none ((cT++l).map bx)=[13,10]++gq none (l.map bx):=λ l=>by
  rw [aa6,m2,acX,acX,acQ,oH ⋯,oH ⋯];rfl
 have low:∀l,gq none ((([]:List Nat)++cT++l).map bx)=[13,10]++gq none (l.map bx):=λ l=>by
  rw [acQ,Xq]
 have ds:∀l,gq none ((aau (1+s) 46++cT++l).map bx)=aau (1+s) 46++([13,10]++gq none (l.map bx)):=λ l=>by
  rw [aaH,aa6,CF,CD,Xq]
 have bs:∀l,gq none (([b,46]++l).map bx)=ji b++gq none (l.map bx):=λ l=>by
  rw [aa6,aaX,aaX,afG,hb,dF (.inl rfl),acX,acX,acQ,QK]
 have hD:wK [e 0,e 1,e 2,e 3,e 4] [c 0,c 1,c 2,c 3,c 4] s b=eQ (e 0) (c 0)++(eQ (e 1) (c 1)++(eQ (e 2) (c 2)++(eQ (e 3) (c 3)++(eQ (e 4) (c 4)++([13,10]++(aau (1+s) 46++([13,10]++ji b))))))):=by
  unfold wK
  rw [show (ah9 eQ [e 0,e 1,e 2,e 3,e 4] [c 0,c 1,c 2,c 3,c 4]).flatten=eQ (e 0) (c 0)++(eQ (e 1) (c 1)++(eQ (e 2) (c 2)++(eQ (e 3) (c 3)++(eQ (e 4) (c 4)++[])))) from rfl]
  simp only [aaH,abg,acQ]
 rw [hD]
 have cut:gq none ((jn cT (bP e f s b tl)).map bx)=eQ (e 0) (c 0)++(eQ (e 1) (c 1)++(eQ (e 2) (c 2)++(eQ (e 3) (c 3)++(eQ (e 4) (c 4)++gq none ((jn cT ([]::aau (1+s) 46::[b,46]::(if tl then [[]] else []))).map bx))))):=by
  show gq none ((jn cT (cX (e 0) (f 0)::cX (e 1) (f 1)::cX (e 2) (f 2)::cX (e 3) (f 3)::cX (e 4) (f 4)::[]::aau (1+s) 46::[b,46]::(if tl then [[]] else []))).map bx)=_
  rw [hj,hj,hj,hj,hj,oK h0.1 h0.2,oK h1.1 h1.2,oK h2.1 h2.2,oK h3.1 h3.2,oK h4.1 h4.2]
 rw [cut]
 have tail:gq none ((jn cT ([]::aau (1+s) 46::[b,46]::(if tl then [[]] else []))).map bx)=[13,10]++(aau (1+s) 46++([13,10]++(ji b++(if tl then [13,10] else [])))):=by
  rw [hj,hj,low,ds]
  cases tl with
  | false=>
    have:=bs []
    rw [abg,afG] at this
    rw [show jn cT ([b,46]::(if false=true then [[]] else []))=[b,46] from rfl,this];rfl
  | true=>
    have:=Xq []
    rw [abg,afG] at this
    rw [show jn cT ([b,46]::(if true=true then [[]] else []))=[b,46]++cT from rfl,bs,this];rfl
 rw [tail]
 simp only [aaH]
noncomputable def bn(k:Bool):Nat:=if k then 1 else 0
noncomputable def Eo(a b c d e:Nat):Nat:=((((a * 64+b) * 64+c) * 64+d) * 64+e) * 64+13
noncomputable def TU(a b c d e:Bool):Nat:=(((bn a * 64+bn b) * 64+bn c) * 64+bn d) * 64+bn e
noncomputable def ey(l:Nat):Prop:=97≤l∧l≤122
theorem fE(h:ey l):du k l % 64=l - 64 - 32 * bn k∧du k l / 64 % 2=1:=by
 obtain ⟨h1,h2⟩:=h
 cases k with
 | true=>exact (show ∀l < 123,97≤l->(l - 32) % 64=l - 64 - 32 * 1∧(l - 32) / 64 % 2=1 by decide) l (ahV h2) h1
 | false=>exact (show ∀l < 123,97≤l->l % 64=l - 64 - 32 * 0∧l / 64 % 2=1 by decide) l (ahV h2) h1
theorem iX(h:s / 64 % 2=1):gq TQ (s::l)=gq (some (TQ.getD 0 * 64+s % 64)) l:=by
 erw [gT ..,if_pos h,rfl]
theorem CG(h0:s0 / 64 % 2=1)(h1:s1 / 64 % 2=1)(h2:s2 / 64 % 2=1)(h3:s3 / 64 % 2=1)(h4:s4 / 64 % 2=1):
 gq none [s0,s1,s2,s3,s4,13]=[Eo (s0 % 64) (s1 % 64) (s2 % 64) (s3 % 64) (s4 % 64)]∧gq none [s0,s1,s2,s3,s4]=[]:=by
 constructor
 · erw [iX h0,iX h1,iX h2,iX h3,iX h4,gT ..,if_neg ⋯]
   show [((((((0 * 64+s0 % 64) * 64+s1 % 64) * 64+s2 % 64) * 64+s3 % 64) * 64+s4 % 64) * 64+13 % 64)]=_
   skip
   erw [akk ..,ae7 ..,rfl]
 · erw [iX h0,iX h1,iX h2,iX h3,iX h4];rfl
theorem jk(h:ey l)(k:Bool):∃t,l - 64=t+32 * bn k∧l - 64 - 32 * bn k=t:=by
 have:=h.1
 refine ⟨_,(ag4 ?_).symm,rfl⟩
 cases k with
 | true=>exact Nat.le_sub_of_add_le (acW ⋯ this)
 | false=>exact adV _
theorem QL(A B c d:Nat):(A+32 * B) * 64+(c+32 * d)=(A * 64+c)+32 * (B * 64+d):=%[(a+32*b)*64+(c+32*d)=a*64+c+32*(b*64+d)|(dQ)]
theorem acv(A B:Nat):(A+32 * B) * 64+13=(A * 64+13)+2048 * B:=%[(a+32*b)*64+13=a*64+13+2048*b|(aU)]
theorem QM{l0 l1 l2 l3 l4:Nat}{k0 k1 k2 k3 k4:Bool}(h0:ey l0)(h1:ey l1)(h2:ey l2)(h3:ey l3)(h4:ey l4):
 Eo (l0 - 64) (l1 - 64) (l2 - 64) (l3 - 64) (l4 - 64)=Eo (l0 - 64 - 32 * bn k0) (l1 - 64 - 32 * bn k1) (l2 - 64 - 32 * bn k2) (l3 - 64 - 32 * bn k3) (l4 - 64 - 32 * bn k4)+2048 * TU k0 k1 k2 k3 k4:=by
 refine bF (jk h0 k0) λ t0 e0 f0=>?_
 refine bF (jk h1 k1) λ t1 e1 f1=>?_
 refine bF (jk h2 k2) λ t2 e2 f2=>?_
 refine bF (jk h3 k3) λ t3 e3 f3=>?_
 refine bF (jk h4 k4) λ t4 e4 f4=>?_
 erw [f0,f1,f2,f3,f4,e0,e1,e2,e3,e4]
 unfold Eo TU
 (rw [QL];rw [QL];rw [QL];rw [QL];erw [acv ..,rfl])
theorem vQ(hn:1≤n)(X4:n * ds.length < 2 ^ 16)(hl:1≤ds.length)(h:∀d∈ds,d < 2 ^ n)(RY:2 ^ (n * (ds.length - 1))≤ck n ds):D9 [af (ck n ds),af n]=some (.lst (ds.map af)):=by
 have bD:=tV n h
 have z6:=bN bD
 have NU:n * (ds.length - 1) < aan ((ck n ds:Nat):Int):=(aj6 ⋯).mp (acZ RY (lV _))
 have hnn:n≤n * ds.length:=akb n hl
 have hv:=F6 (a:=ck n ds) (n:=n) hn %[a<(qL 2 16),a*b<(qL 2 16),a≤a*b|(aU X4 hnn)] %[a<(qL 2 16),b*c<(qL 2 16),a≤b*c|(cf X4 z6)]
 have e1:n * (ds.length - 1)+n=n * ds.length:=by (erw [←Nat.mul_succ ..,aiH ..,ag4 hl,rfl])
 have e2:(aan ((ck n ds:Nat):Int)+n - 1) / n=ds.length:=by
  refine Nat.div_eq_of_lt_le ?_ ?_
  · erw [ac8 ..];exact %[a*b≤c,a*d<e,a*d+a=a*b,qD 0 c (e+a) (1)|rU NU e1 rfl]
  · erw [ac8 ..,ad5 ..,agk ..];exact %[a<b*c+b,1≤b,d≤b*c,qD 0 a (d+b) (1)|dQ hn z6 rfl]
 rw [e2,tW n h] at hv
 exact hv
theorem QN{l0 l1 l2 l3 l4:Nat}(h0:ey l0)(h1:ey l1)(h2:ey l2)(h3:ey l3)(h4:ey l4):
 D9 [af (Eo (l0 - 64) (l1 - 64) (l2 - 64) (l3 - 64) (l4 - 64)),af 6]=some (.lst ([13,l4 - 64,l3 - 64,l2 - 64,l1 - 64,l0 - 64].map af)):=by
 have e:Eo (l0 - 64) (l1 - 64) (l2 - 64) (l3 - 64) (l4 - 64)=ck 6 [13,l4 - 64,l3 - 64,l2 - 64,l1 - 64,l0 - 64]:=by
  unfold Eo
  show _=13+2 ^ 6 * (l4 - 64+2 ^ 6 * (l3 - 64+2 ^ 6 * (l2 - 64+2 ^ 6 * (l1 - 64+2 ^ 6 * (l0 - 64+2 ^ 6 * 0)))))
  exact %[((((a*64+b)*64+c)*64+d)*64+e)*64+13=13+(qL 2 6)*(e+(qL 2 6)*(d+(qL 2 6)*(c+(qL 2 6)*(b+(qL 2 6)*(a+(qL 2 6)*0)))))|rU]
 have Dd:2 ^ 30≤Eo (l0 - 64) (l1 - 64) (l2 - 64) (l3 - 64) (l4 - 64):=by have:=h0.1;unfold Eo;exact %[(qL 2 30)≤((((a*64+b)*64+c)*64+d)*64+e)*64+13,97≤f,qD 0 a f (64)|IP this rfl]
 rw [e] at Dd ⊢
 refine vQ ⋯ (by show 6 * 6 < _;decide) (by show 1≤6;decide) (λ d hd=>?_) Dd
 have lt:∀{l:Nat},ey l->l - 64 < 2 ^ 6:=λ h=>acZ (Nat.sub_le_sub_right h.2 64) ⋯
 exact (afK.mpr ⟨⋯,afK.mpr ⟨lt h4,afK.mpr ⟨lt h3,afK.mpr ⟨lt h2,afK.mpr ⟨lt h1,afK.mpr ⟨lt h0,λ V h=>absurd h aaP⟩⟩⟩⟩⟩⟩ :∀d∈[13,l4 - 64,l3 - 64,l2 - 64,l1 - 64,l0 - 64],d < 2 ^ 6) d hd
theorem lr(h:ey l):dq (du k l)=true:=by
 obtain ⟨h1,h2⟩:=h
 refine fS (.inl ?_)
 cases k with
 | true=>exact acZ (Nat.sub_le l 32) (acZ h2 ⋯)
 | false=>exact acZ h2 ⋯
theorem lu(h:ey l):bx (du k l)=l∧gh (dP (du k l))=dP l:=by
 obtain ⟨h1,h2⟩:=h
 obtain ⟨j,rfl⟩:=Nat.exists_eq_add_of_le h1
 have hj:j < 26:=Nat.lt_of_add_lt_add_left (ahV h2)
 cases k with
 | true=>
   have e:du true (97+j)=65+j:=Nat.sub_add_comm (n:=97) (m:=j) (k:=32) ⋯
   have:=vJ (k:=j) hj
   erw [e]
   exact ⟨by unfold bx;erw [this];rfl,this⟩
 | false=>
   have:=vH (k:=j) hj
   exact ⟨by show bx (97+j)=_;unfold bx;erw [this];rfl,this⟩
end Mine.Internal
end
section
namespace Mine.Internal
noncomputable def xs(f:Nat->Bool):List Nat->Bool
 | []=>false
 | i::l=>xor (f i) (xs f l)
theorem zL(f g:Nat->Bool):∀l,xs (λ i=>xor (f i) (g i)) l=xor (xs f l) (xs g l)
 | []=>rfl
 | i::l=>by
   show xor (xor (f i) (g i)) (xs _ l)=xor (xor (f i) (xs f l)) (xor (g i) (xs g l))
   erw [zL f g l]
   cases f i <;> cases g i <;> cases xs f l <;> cases xs g l <;> rfl
theorem Ep(b:Bool)(f:Nat->Bool):∀l,xs (λ i=>b&&f i) l=(b&&xs f l)
 | []=>by cases b <;> rfl
 | i::l=>by
   show xor (b&&f i) (xs _ l)=(b&&xor (f i) (xs f l))
   erw [Ep b f l]
   cases b <;> cases f i <;> cases xs f l <;> rfl
theorem oL:∀l,xs (λ V=>false) l=false
 | []=>rfl
 | i::l=>by show xor false (xs _ l)=false;erw [oL l];rfl
theorem cS:∀{l:List Nat},(∀i∈l,f i=g i)->xs f l=xs g l
 | [],_=>rfl
 | i::l,h=>by
   show xor (f i) (xs f l)=xor (g i) (xs g l)
   erw [h i (.head _),cS λ j hj=>h j (.tail _ hj),rfl]
theorem Ga(f:Nat->Nat->Bool)(m:List Nat):∀l,xs (λ i=>xs (λ j=>f i j) m) l=xs (λ j=>xs (λ i=>f i j) l) m
 | []=>(oL m).symm
 | i::l=>by
   show xor (xs (λ j=>f i j) m) (xs _ l)=_
   erw [Ga f m l,←zL ..];rfl
noncomputable def gU(l:List Nat)(x y:Nat->Bool):Bool:=xs (λ j=>x j&&y j) l
noncomputable def nb(l:List Nat)(K:Nat->Nat->Bool)(c:Nat->Bool)(j:Nat):Bool:=xs (λ i=>c i&&K i j) l
theorem Gb(hK:∀i j,K i j=K j i)(y c:Nat->Bool):gU l y (nb l K c)=gU l c (nb l K y):=by
 unfold gU nb
 have e1:∀(a b:Nat->Bool),xs (λ j=>a j&&xs (λ i=>b i&&K i j) l) l=xs (λ j=>xs (λ i=>a j&&(b i&&K i j)) l) l:=λ a b=>cS λ j V=>(Ep _ _ l).symm
 (rw [e1];erw [e1 ..,Ga ..])
 refine cS λ i V=>cS λ j V=>?_
 erw [hK i j]
 cases y j <;> cases c i <;> cases K j i <;> rfl
theorem CI{K:Nat->Nat->Bool}(hK:∀i j,K i j=K j i)(y:Nat->Bool):∀l:List Nat,xs (λ j=>xs (λ i=>y j&&(y i&&K i j)) l) l=xs (λ i=>y i&&K i i) l
 | []=>rfl
 | a::l=>by
   show xor (xor (y a&&(y a&&K a a)) (xs (λ i=>y a&&(y i&&K i a)) l)) (xs (λ j=>xor (y j&&(y a&&K a j)) (xs (λ i=>y j&&(y i&&K i j)) l)) l)=xor (y a&&K a a) (xs (λ i=>y i&&K i i) l)
   erw [zL ..,CI hK y l]
   have e:xs (λ j=>y j&&(y a&&K a j)) l=xs (λ i=>y a&&(y i&&K i a)) l:=cS λ j V=>by
    erw [hK a j];cases y a <;> cases y j <;> cases K j a <;> rfl
   erw [e]
   cases y a <;> cases K a a <;> cases xs (λ i=>_&&(y i&&K i a)) l <;> cases xs (λ i=>y i&&K i i) l <;> rfl
noncomputable def ch(b:Bool):Int:=if b then -1 else 1
theorem Xr(a b:Bool):ch (xor a b)=ch a * ch b:=by cases a <;> cases b <;> rfl
noncomputable def sm(f:Nat->Int):List Nat->Int
 | []=>0
 | i::l=>f i+sm f l
theorem jl:∀{l:List Nat},(∀i∈l,f i=g i)->sm f l=sm g l
 | [],_=>rfl
 | i::l,h=>by show f i+sm f l=g i+sm g l;erw [h i (.head _),jl λ j hj=>h j (.tail _ hj),rfl]
theorem Gc:∀l,sm (λ V=>0) l=0
 | []=>rfl
 | i::l=>by show 0+sm _ l=0;erw [Gc l];rfl
theorem M1(f g:Nat->Int):∀l,sm (λ i=>f i+g i) l=sm f l+sm g l
 | []=>rfl
 | i::l=>by show f i+g i+sm _ l=(f i+sm f l)+(g i+sm g l);erw [M1 f g l];exact %[a+b+(c+d)==a+c+(b+d)|q04]
theorem zM(k:Int)(f:Nat->Int):∀l,sm (λ i=>k * f i) l=k * sm f l
 | []=>(akr k).symm
 | i::l=>by show k * f i+sm _ l=k * (f i+sm f l);erw [zM k f l,akL ..,rfl]
theorem Gd(f:Nat->Nat->Int)(m:List Nat):∀l,sm (λ i=>sm (λ j=>f i j) m) l=sm (λ j=>sm (λ i=>f i j) l) m
 | []=>(Gc m).symm
 | i::l=>by
   show sm (λ j=>f i j) m+sm _ l=_
   erw [Gd f m l,←M1 ..];rfl
theorem vR(p:Nat->Bool):∀l,sm (λ i=>if p i then 1 else 0) l=(((l.filter p).length:Nat):Int)
 | []=>rfl
 | i::l=>by
   show (if p i then 1 else 0)+sm _ l=_
   erw [vR p l,adY]
   cases p i with
   | true=>erw [if_pos rfl,if_pos rfl,ada];exact %[1+(qC a)==(qC (a+1))|aV]
   | false=>erw [if_neg ⋯,if_neg ⋯];exact %[0+(qC a)==(qC a)|aV]
noncomputable abbrev R5:List Nat:=[0,1,2,3,4]
noncomputable def aQ(c i:Nat):Bool:=c / 2 ^ i % 2==1
noncomputable def j8(u:Nat->Bool):Bool:=u 0||u 1||u 2||u 3||u 4
theorem Xs:∀b0 b1 b2 b3 b4:Bool,sm (λ c=>ch (xor (aQ c 0&&b0) (xor (aQ c 1&&b1) (xor (aQ c 2&&b2) (xor (aQ c 3&&b3) (xor (aQ c 4&&b4) false)))))) (abD 32)=if (b0||b1||b2||b3||b4) then 0 else 32:=⋯
theorem M2(u:Nat->Bool):sm (λ c=>ch (gU R5 (aQ c) u)) (abD 32)=if j8 u then 0 else 32:=Xs (u 0) (u 1) (u 2) (u 3) (u 4)
noncomputable def gV(v w:Nat->Bool):Bool:=!j8 λ j=>xor (v j) (w j)
theorem QO(l:List Nat)(x v w:Nat->Bool):gU l x (λ j=>xor (v j) (w j))=xor (gU l x v) (gU l x w):=by
 skip
 erw [←zL ..]
 exact cS λ j V=>by show (x j&&xor (v j) (w j))=xor (x j&&v j) (x j&&w j);cases x j <;> cases v j <;> cases w j <;> rfl
noncomputable def dZ(K:Nat->Nat->Bool):List Nat:=(abD 32).filter λ y=>!j8 (nb R5 K (aQ y))
noncomputable def cm(K:Nat->Nat->Bool)(w:Nat->Bool):List Nat:=(abD 32).filter λ c=>gV (nb R5 K (aQ c)) w
theorem H7(hK:∀i j,K i j=K j i)(w:Nat->Bool):((cm K w).length:Int)=sm (λ y=>ch (gU R5 (aQ y) w) * (if j8 (nb R5 K (aQ y)) then 0 else 1)) (abD 32):=by
 have h1:sm (λ c=>if gV (nb R5 K (aQ c)) w then 1 else 0) (abD 32)=((cm K w).length:Int):=vR _ _
 have h2:∀c,(32:Int) * (if gV (nb R5 K (aQ c)) w then 1 else 0)=sm (λ y=>ch (gU R5 (aQ c) (nb R5 K (aQ y))) * ch (gU R5 (aQ y) w)) (abD 32):=λ c=>by
  have:=M2 λ j=>xor (nb R5 K (aQ c) j) (w j)
  have e:sm (λ y=>ch (gU R5 (aQ c) (nb R5 K (aQ y))) * ch (gU R5 (aQ y) w)) (abD 32)=sm (λ y=>ch (gU R5 (aQ y) λ j=>xor (nb R5 K (aQ c) j) (w j))) (abD 32):=jl λ y V=>by
   rw [QO,Xr,Gb hK]
  erw [e,this]
  unfold gV
  cases j8 λ j=>xor (nb R5 K (aQ c) j) (w j) <;> rfl
 have h3:(32:Int) * ((cm K w).length:Int)=32 * sm (λ y=>ch (gU R5 (aQ y) w) * (if j8 (nb R5 K (aQ y)) then 0 else 1)) (abD 32):=by
  erw [←h1,←zM ..,←zM ..,jl (g:=λ c=>sm (λ y=>ch (gU R5 (aQ c) (nb R5 K (aQ y))) * ch (gU R5 (aQ y) w)) (abD 32)) λ c V=>h2 c,Gd ..]
  refine jl λ y V=>?_
  have e:sm (λ c=>ch (gU R5 (aQ c) (nb R5 K (aQ y))) * ch (gU R5 (aQ y) w)) (abD 32)=ch (gU R5 (aQ y) w) * sm (λ c=>ch (gU R5 (aQ c) (nb R5 K (aQ y)))) (abD 32):=by
   erw [←zM ..];exact jl λ c V=>aks _ _
  erw [e,M2 ..]
  cases j8 (nb R5 K (aQ y)) with
  | true=>rw [if_pos rfl,if_pos rfl];exact %[a*0==32*(a*0)|fZ]
  | false=>erw [if_neg ⋯,if_neg ⋯];exact %[a*32==32*(a*1)|fZ]
 exact %[(qC a)==a,32*(qC a)==32*a|T9 h3]
theorem Ge(hK:∀i j,K i j=K j i)(w:Nat->Bool):(cm K w).length=if (dZ K).any (λ y=>gU R5 (aQ y) w) then 0 else (dZ K).length:=by
 by_cases h:(dZ K).any (λ y=>gU R5 (aQ y) w)=true
 · erw [if_pos h]
   obtain ⟨y,hy,hd⟩:=ajd.mp h
   skip
   have QP:=(age.mp hy).2
   rw [ago]
   refine ake.mpr λ c V hc=>?_
   have e1:gU R5 (aQ y) (nb R5 K (aQ c))=gU R5 (aQ y) w:=by
    unfold gV at hc
    rw [aeM] at hc
    unfold j8 at hc
    simp only [afL] at hc
    obtain ⟨⟨⟨⟨q0,q1⟩,q2⟩,q3⟩,q4⟩:=hc
    have hx:∀{a b:Bool},xor a b=false->a=b:=λ{a b} h=>by cases a <;> cases b <;> first | rfl | cases h
    refine cS λ j hj=>?_
    simp only [aaB,aaP,or_false] at hj
    rcases hj with rfl | rfl | rfl | rfl | rfl
    · erw [hx q0,rfl]
    · erw [hx q1,rfl]
    · erw [hx q2,rfl]
    · erw [hx q3,rfl]
    · erw [hx q4,rfl]
   rw [Gb hK] at e1
   have e2:gU R5 (aQ c) (nb R5 K (aQ y))=false:=by
    rw [aeM] at QP
    unfold j8 at QP
    simp only [afL] at QP
    obtain ⟨⟨⟨⟨q0,q1⟩,q2⟩,q3⟩,q4⟩:=QP
    refine (cS (g:=λ V=>false) λ j hj=>?_).trans (oL _)
    simp only [aaB,aaP,or_false] at hj
    rcases hj with rfl | rfl | rfl | rfl | rfl
    · erw [q0,afM ..,rfl]
    · erw [q1,afM ..,rfl]
    · erw [q2,afM ..,rfl]
    · erw [q3,afM ..,rfl]
    · erw [q4,afM ..,rfl]
   rw [e2] at e1
   rw [←e1] at hd
   cases hd
 · erw [if_neg h]
   have hc:=H7 hK w
   have e:sm (λ y=>ch (gU R5 (aQ y) w) * (if j8 (nb R5 K (aQ y)) then 0 else 1)) (abD 32)=(((dZ K).length:Nat):Int):=by
    skip
    erw [←vR ..]
    refine jl λ y hy=>?_
    by_cases ha:j8 (nb R5 K (aQ y))=true
    · erw [ha];simp
    · have ha:j8 (nb R5 K (aQ y))=false:=by simpa using ha
      have hm:y∈dZ K:=by
       skip
       exact age.mpr ⟨hy,by erw [ha];rfl⟩
      have hd:gU R5 (aQ y) w=false:=by
       cases hq:gU R5 (aQ y) w with
       | false=>rfl
       | true=>exact absurd (ajd.mpr ⟨y,hm,hq⟩) h
      erw [ha,hd];rfl
   rw [e] at hc
   exact Int.ofNat.inj hc
theorem Xu{K:Nat->Nat->Bool}(hK:∀i j,K i j=K j i)(hd:∀i,K i i=true):(dZ K).any (λ y=>gU R5 (aQ y) λ V=>true)=false:=by
 rw [List.any_eq_false]
 intro y hy
 skip
 have QP:=(age.mp hy).2
 rw [aeM] at QP
 have e1:gU R5 (aQ y) (nb R5 K (aQ y))=xs (λ i=>aQ y i&&K i i) R5:=by
  erw [←CI hK ..]
  exact cS λ j V=>(Ep _ _ _).symm
 have e2:gU R5 (aQ y) (nb R5 K (aQ y))=false:=by
  unfold j8 at QP
  simp only [afL] at QP
  obtain ⟨⟨⟨⟨q0,q1⟩,q2⟩,q3⟩,q4⟩:=QP
  refine (cS (g:=λ V=>false) λ j hj=>?_).trans (oL _)
  simp only [aaB,aaP,or_false] at hj
  rcases hj with rfl | rfl | rfl | rfl | rfl
  · erw [q0,afM ..,rfl]
  · erw [q1,afM ..,rfl]
  · erw [q2,afM ..,rfl]
  · erw [q3,afM ..,rfl]
  · erw [q4,afM ..,rfl]
 rw [e1] at e2
 have e3:gU R5 (aQ y) (λ V=>true)=xs (λ i=>aQ y i&&K i i) R5:=cS λ i V=>by erw [hd ..,rfl]
 erw [e3,e2]
 decide
end Mine.Internal
end
section
open PySem PyProof PyProof.Rows PySem.W
namespace Mine.Internal
section
noncomputable abbrev tL:cV:=gg [(166,MJ),(209,knF),(173,Qj),(194,Cm),(204,Mu),(199,MI),(214,Qq),(59,D9),(66,Cg),(80,idF),(219,W8),(180,WZ),(187,Mz),(226,ML),(233,Qr)]
section
variable{σ:bB}
theorem rP(h0:0 < b)(h1:b < 2 ^ 8000):dc σ .FloorDiv (af a) (af b)=some (af (a / b)):=by
 refine (LV ?_).trans (congrArg (λ i=>some (AV.int i)) (fP a b))
 erw [aaQ ..]
 refine ⟨decide_eq_true %[cY ((qC a)==0),0<a|(aV h0)],decide_eq_true ?_⟩
 erw [ae8 ..]
 exact afk ((ahW %[cY (a=0),0<a|(aV h0)]).mpr h1) ⋯
theorem iy(h0:0 < b)(h1:b < 2 ^ 8000):dc σ .Mod (af a) (af b)=some (af (a % b)):=by
 refine (j4 ?_).trans (congrArg (λ i=>some (AV.int i)) (fQ a b))
 erw [aaQ ..]
 refine ⟨decide_eq_true %[cY ((qC a)==0),0<a|(aV h0)],decide_eq_true ?_⟩
 erw [ae8 ..]
 exact afk ((ahW %[cY (a=0),0<a|(aV h0)]).mpr h1) ⋯
theorem rQ:dc σ .Add (af a) (af b)=some (af (a+b)):=fO.trans (congrArg (λ i=>some (AV.int i)) (agx a b).symm)
theorem Gf{a b:Nat}(h:aan (a:Int)+aan (b:Int)≤2 ^ 20):dc σ .Mult (af a) (af b)=some (af (a * b)):=(rD (decide_eq_true h)).trans (congrArg (λ i=>some (AV.int i)) (afs a b).symm)
theorem Gg{a b:Nat}(h:aan (a:Int) * b≤2 ^ 20):dc σ .Pow (af a) (af b)=some (af (a ^ b)):=by
 refine (Tf ?_).trans (congrArg (λ i=>some (AV.int i)) ?_)
 · erw [aaQ ..]
   refine ⟨decide_eq_true (ac9 b),decide_eq_true ?_⟩
   erw [←afs ..];exact %[(qC (a*b))⊆(qL 2 27),a*b≤(qL 2 20)|aU h]
 · erw [aaV ..];exact (ajC a b).symm
theorem M3:dc σ .BitAnd (af a) (af b)=some (af (a&&& b)):=xj.trans (congrArg (λ i=>some (AV.int i)) (lU a b))
theorem zN:ur σ .Eq (af a) (af b)=some (decide (a=b)):=by
 show some (((a:Int))==(b:Int))=_
 congr 1
 (rw [agv];rw [beq_iff_eq];erw [decide_eq_true_eq]);lia
theorem H8:ur σ .NotEq (af a) (af b)=some (!decide (a=b)):=by
 show (ur σ .Eq (af a) (af b)).map (!·)=_
 erw [zN];rfl
theorem CJ(l:List Nat):cP (l.map af)=some (l.map λ(n:Nat)=>(n:Int)):=by
 have:=dD (l.map λ(n:Nat)=>(n:Int))
 rwa [ade] at this
theorem zO{x y:AV}{l:List Nat}(hx:σ.listOf x=some (l.map af))(hy:σ.listOf y=some (l.map af)):ur σ .NotEq x y=some false:=by
 have key:XS σ x y=some false:=by
  have:Js x=none:=by
   cases x with
   | tup _=>exact aw hx
   | _=>rfl
  unfold XS
  rw [this]
  show ZF _ _=_
  unfold ZF
  (rw [hx];rw [hy];rw [aaT];erw [CJ ..,aaT ..,aaT ..,if_pos rfl,rfl])
 cases x with
 | str _=>exact aw hx
 | int _=>exact aw hx
 | _=>exact key
end
theorem zP:∀l:List Nat,(l.map dI).mapM xB=some l
 | []=>rfl
 | c::l=>by (erw [aaX,adu,zP l]);rfl
theorem zQ:∀l:List Bool,(l.map AV.bool).mapM kQ=some l
 | []=>rfl
 | c::l=>by (erw [aaX,adu,zQ l]);rfl
theorem QQ(h1:ls.length=5)(h2:ks.length=5)(h3:g≤5)(h4:∀c∈ls,32≤c∧c≤1000):
 tL (.ref 214) [.bor (ls.map dI),.bor (ks.map .bool),af g,.str (dP h)]=some (.str (wS ((iW ls ks).take g++[h]++(iW ls ks).drop g))):=by
 show Qq [.bor (ls.map dI),.bor (ks.map .bool),.int (g:Int),.str (dP h)]=_
 show (((ls.map dI).mapM xB).bind λ ls=>(((ks.map AV.bool).mapM kQ).bind λ ks=>_))=_
 rw [zP,aaT,zQ,aaT]
 exact if_pos ⟨h1,h2,h3,rfl,h4⟩
theorem M4(h:t.length≤2 ^ 20):tL (.ref 194) [.str (wS t)]=some (.str (wS (t.filter dq))):=by
 show Cm [.str (wS t)]=_
 simp only [Cm,so,wJ,wI,sq,bX,if_pos h]
theorem tZ(h:t.length < 2 ^ 20):tL (.ref 204) [.str (wS t)]=some (.lst ((gq none t).map af)):=by
 show Mu [.str (wS t)]=_
 simp only [Mu,so,wJ,wI,sq]
 rw [if_pos h]
theorem Gi(h:t.length≤2 ^ 20)(h2:∀c∈t,gh (dP c)=dP (bx c)):tL (.ref 199) [.str (wS t)]=some (.str (wS (t.map bx))):=by
 show MI [.str (wS t)]=_
 simp only [MI,so,wJ,wI,sq,bX]
 rw [if_pos ⟨h,h2⟩]
end
noncomputable abbrev M5:eU:=abW
theorem vS(hp:p≤12):dc σ .Pow (af 10) (af p)=some (af (10 ^ p)):=Gg (by
 have:aan ((10:Nat):Int)=4:=rfl
 erw [this];exact %[4*a≤(qL 2 20),a≤12|aV hp])
theorem fq(hp:p≤12):0 < 10 ^ p∧10 ^ p < 2 ^ 8000:=
 ⟨Nat.pow_pos ⋯,acZ (acY ⋯ hp) (aaY (show 10 ^ 12 < 2 ^ 40 by decide) (acY ⋯ ⋯))⟩
theorem M6(hx:σ.listOf x=some [y]):f5 RF σ (.obj (.builtin "len")) [x]=some (af 1):=xm hx (decide_eq_true (by show (1:Int) < 2 ^ 62;decide))
theorem acw{α:Type}(a b c d e:α):bZ [a,b,c,d,e] none none (some (-1))=[e,d,c,b,a]:=∅
theorem M7:Am σ (.str (wS ([a,b,c,d,e]++[13]))) .none (.int (-1)) .none=some (.str (wS [a,b,c,d,e])):=∅
theorem fT{n p h0 h1 h2 h3 h4 l0 l1 l2 l3 l4:Nat}{k0 k1 k2 k3 k4:Bool}{kn:List AV}{r0 r3 r6 r7 r8 r9 pU pV pW pX pY vT M8 t7 t8 t9 ua ub rR rS rT H9 xK z7 zR zS wL pZ ra rc:Option AV}{lk:List Nat}{own:List (List AV)}(hp:p < 5)(hk:kn[p]?=some (.lst ([k0,k1,k2,k3,k4].map .bool)))
(q0:ey l0)(q1:ey l1)(q2:ey l2)(q3:ey l3)(q4:ey l4)(hl:lk.length≤100):
 bK tL n M5 ⟨r0::some (.lst [af h0,af h1,af h2,af h3,af h4])::some (.lst kn)::some (af p)::some (.lst ([l0,l1,l2,l3,l4].map dI))::some (.own 0)::r6::r7::r8::r9::pU::pV::pW::pX::pY::vT::M8::t7::t8::t9::ua::ub::rR::rS::rT::H9::xK::z7::zR::zS::wL::pZ::ra::rc::[],lk.map af::own⟩=
  some (⟨r0::some (.lst [af h0,af h1,af h2,af h3,af h4])::some (.lst kn)::some (af p)::some (.lst ([l0,l1,l2,l3,l4].map dI))::some (.own 0)::some (af (h2 / 10 ^ p % 10 % 6))::some (.str (wS ([du k0 l0,du k1 l1,du k2 l2,du k3 l3,du k4 l4]++[13])))::some (.lst ([Eo (l0 - 64 - 32 * bn k0) (l1 - 64 - 32 * bn k1) (l2 - 64 - 32 * bn k2) (l3 - 64 - 32 * bn k3) (l4 - 64 - 32 * bn k4)].map af))::some (.lst ([Eo (l0 - 64) (l1 - 64) (l2 - 64) (l3 - 64) (l4 - 64)].map af))::pU::pV::pW::pX::pY::vT::M8::t7::t8::t9::ua::ub::rR::rS::rT::H9::xK::z7::zR::zS::wL::pZ::ra::rc::[],(lk++[2048 * TU k0 k1 k2 k3 k4]).map af::own⟩,none):=by
 have hpw:=fq (p:=p) %[a≤12,a<5|(aV hp)]
 have bY:aaW=16777216:=rfl
 have afZ:=pT ((h2 / 10 ^ 5+p:Nat):Int)
 generalize hG:h2 / 10 ^ p % 10 % 6=g
 have hg:g≤5:=%[a≤5,b=a,qD 2 b c (6)|(cf hG rfl)]
 have hS:iW [l0,l1,l2,l3,l4] [k0,k1,k2,k3,k4]=[du k0 l0,du k1 l1,du k2 l2,du k3 l3,du k4 l4]:=rfl
 have m0:=fE (k:=k0) q0
 have m1:=fE (k:=k1) q1
 have m2:=fE (k:=k2) q2
 have m3:=fE (k:=k3) q3
 have m4:=fE (k:=k4) q4
 have e0:=lr (k:=k0) q0
 have e1:=lr (k:=k1) q1
 have e2:=lr (k:=k2) q2
 have e3:=lr (k:=k3) q3
 have e4:=lr (k:=k4) q4
 have f0:=lu (k:=k0) q0
 have f1:=lu (k:=k1) q1
 have f2:=lu (k:=k2) q2
 have f3:=lu (k:=k3) q3
 have f4:=lu (k:=k4) q4
 have hv:=CG m0.2 m1.2 m2.2 m3.2 m4.2
 rw [m0.1,m1.1,m2.1,m3.1,m4.1] at hv
 have hw:=CG (s0:=l0) (s1:=l1) (s2:=l2) (s3:=l3) (s4:=l4) (fE (k:=false) q0).2 (fE (k:=false) q1).2 (fE (k:=false) q2).2 (fE (k:=false) q3).2 (fE (k:=false) q4).2
 rw [show l0 % 64=l0 - 64 by unfold ey at q0;lia,show l1 % 64=l1 - 64 by unfold ey at q1;lia,show l2 % 64=l2 - 64 by unfold ey at q2;lia,show l3 % 64=l3 - 64 by unfold ey at q3;lia,show l4 % 64=l4 - 64 by unfold ey at q4;lia] at hw
 have acx:([du k0 l0,du k1 l1,du k2 l2,du k3 l3,du k4 l4].take g++[sr ((h2 / 10 ^ 5+p:Nat):Int)]++[du k0 l0,du k1 l1,du k2 l2,du k3 l3,du k4 l4].drop g++[13]).filter dq=[du k0 l0,du k1 l1,du k2 l2,du k3 l3,du k4 l4]++[13]:=by
  have AC:∀c∈[du k0 l0,du k1 l1,du k2 l2,du k3 l3,du k4 l4],dq c=true:=λ c hc=>by
   simp only [aaB,aaP,or_false] at hc
   rcases hc with rfl | rfl | rfl | rfl | rfl <;> assumption
  rw [ahN,ahN,ahN,agR.mpr λ c hc=>AC c (aiw hc),agR.mpr λ c hc=>AC c (akz hc)]
  rw [adY,if_neg (by rw [afZ.1];decide),ajr,abg,aii,adY,if_pos (fS ⋯),ajr]
 refine ao (bp (x:=af g) ?_) (ao (bp (x:=.str (wS ([du k0 l0,du k1 l1,du k2 l2,du k3 l3,du k4 l4]++[13]))) ?_) (ao (bp (x:=.lst ([Eo (l0 - 64 - 32 * bn k0) (l1 - 64 - 32 * bn k1) (l2 - 64 - 32 * bn k2) (l3 - 64 - 32 * bn k3) (l4 - 64 - 32 * bn k4)].map af)) ?_) (ao (bp (x:=.lst ([Eo (l0 - 64) (l1 - 64) (l2 - 64) (l3 - 64) (l4 - 64)].map af)) ?_) (ao (ec (p:=false) ?_ bQ) (ao (ec (p:=false) ?_ bQ) (ao ((L0 (m:=0) (xs:=lk.map af) (x:=af (2048 * TU k0 k1 k2 k3 k4)) rfl ?_ rfl (decide_eq_true ?_)).trans ?_) bQ))))))
 · rw [←hG]
   exact ah (ah (ah (x:=af h2) rfl (ah (x:=af 10) (y:=af p) rfl rfl (vS %[a≤12,a<5|(aV hp)])) (rP hpw.1 hpw.2)) rfl (iy (b:=10) ⋯ (aaY (show 10 < 2 ^ 4 by decide) (acY ⋯ ⋯)))) rfl (iy (b:=6) ⋯ (aaY (show 6 < 2 ^ 4 by decide) (acY ⋯ ⋯)))
 · refine aA rfl (ae (x:=.str (wS (([du k0 l0,du k1 l1,du k2 l2,du k3 l3,du k4 l4].take g++[sr ((h2 / 10 ^ 5+p:Nat):Int)]++[du k0 l0,du k1 l1,du k2 l2,du k3 l3,du k4 l4].drop g)++[13])))
    (ah (x:=.str (wS ([du k0 l0,du k1 l1,du k2 l2,du k3 l3,du k4 l4].take g++[sr ((h2 / 10 ^ 5+p:Nat):Int)]++[du k0 l0,du k1 l1,du k2 l2,du k3 l3,du k4 l4].drop g))) (y:=.str (wS [13]))
     (aA rfl (ae rfl (ae (bt rfl rfl (df rfl %[bG (0⊆(qC a)) ((qC a)⊂(qL 2 62)),a<5|(aV hp)] (by rw [aaV];exact hk))) (ae rfl (ae (aA rfl (ae (x:=af (h2 / 10 ^ 5+p)) (ah (ah (x:=af h2) rfl (ah (x:=af 10) (y:=af 5) rfl rfl (vS ⋯)) (rP (fq (p:=5) ⋯).1 (fq (p:=5) ⋯).2)) rfl rQ) ak) (bM rfl rfl)) ak))))
      (bM (ys:=[.bor ([l0,l1,l2,l3,l4].map dI),.bor ([k0,k1,k2,k3,k4].map .bool),af g,.str (dP (sr ((h2 / 10 ^ 5+p:Nat):Int)))]) rfl ((QQ rfl rfl hg ?_).trans (by rw [hS])))) rfl ((BR ?_).trans (congrArg (λ z=>some (AV.str z)) (gR _ _)))) ak) (bM rfl ((M4 ?_).trans (by rw [acx])))
   · intro c hc
     unfold ey at *
     simp only [aaB,aaP,or_false] at hc
     lia
   · rw [bX,bX,aao,aao,aem,ae9]
     exact decide_eq_true (by show min g 5+1+(5 - g)+1≤aaW;exact %[a+1+b<c,c=16777216,qD 3 a d (5),qD 0 b (5) d|dQ bY rfl rfl])
   · rw [aao,aao,aao,aem,ae9]
     show min g 5+1+(5 - g)+1≤2 ^ 20;exact %[a+1+b<(qL 2 20),qD 3 a c (5),qD 0 b (5) c|cf rfl rfl]
 · refine aA rfl (ae rfl ak) (bM rfl ((tZ (by show 6 < 2 ^ 20;decide)).trans ?_))
   exact congrArg (λ l=>some (AV.lst (l.map af))) hv.1
 · refine aA rfl (ae (x:=.str (wS ([l0,l1,l2,l3,l4]++[13]))) (aA rfl (ae rfl ak) (bM rfl ((Gi (t:=[du k0 l0,du k1 l1,du k2 l2,du k3 l3,du k4 l4]++[13]) (by show 6≤2 ^ 20;decide) ?_).trans ?_))) ak) (bM rfl ((tZ (by show 6 < 2 ^ 20;decide)).trans ?_))
   · intro c hc
     simp only [acX,acQ,aaB,aaP,or_false] at hc
     rcases hc with rfl | rfl | rfl | rfl | rfl | rfl
     · rw [f0.1];exact f0.2
     · rw [f1.1];exact f1.2
     · rw [f2.1];exact f2.2
     · rw [f3.1];exact f3.2
     · rw [f4.1];exact f4.2
     · rw [dF (.inr (.inl rfl))];exact oC (.inr (.inl rfl))
   · rw [aa6,aaX,aaX,aaX,aaX,aaX,afG,aaX,afG,f0.1,f1.1,f2.1,f3.1,f4.1,dF (.inr (.inl rfl))]
   · exact congrArg (λ l=>some (AV.lst (l.map af))) hw.1
 · refine LU (je (p:=false) (aG (bq (x:=af 1) (y:=af 1) (aA rfl (ae rfl ak) (M6 rfl)) rfl H8)) λ V=>je (p:=false) (aG (bq (x:=af 1) (y:=af 1) (aA rfl (ae rfl ak) (M6 rfl)) rfl H8)) λ V=>je (p:=false) (q:=false) (aG (bq (x:=.lst (([]:List Nat).map af)) (y:=.lst (([]:List Nat).map af)) (aA rfl (ae (pM (v:=.none) rfl rfl (nB rfl) rfl M7) ak) (bM rfl ((tZ (by show 5 < 2 ^ 20;decide)).trans ?_))) (fe ak rfl) (zO (l:=[]) rfl rfl))) λ V=>BO)
   exact congrArg (λ l=>some (AV.lst (l.map af))) hv.2
 · have hz:∀l,ey l->AV.int ((l:Int) - 64)=af (l - 64):=λ l h=>congrArg AV.int (by unfold ey at h;exact %[(qC a)-64==(qC b),bG (97≤a) (a≤122),qD 0 b a (64)|aU h rfl])
   have hy:([.int 13]++[dI l4,dI l3,dI l2,dI l1,dI l0].map (λ v=>match v with | .str s=>.int ((s.cps.getD 0 0:Nat) - 64) | _=>.none))=[13,l4 - 64,l3 - 64,l2 - 64,l1 - 64,l0 - 64].map af:=by
    show [AV.int 13,.int ((l4:Int) - 64),.int ((l3:Int) - 64),.int ((l2:Int) - 64),.int ((l1:Int) - 64),.int ((l0:Int) - 64)]=[af 13,af (l4 - 64),af (l3 - 64),af (l2 - 64),af (l1 - 64),af (l0 - 64)]
    rw [hz l0 q0,hz l1 q1,hz l2 q2,hz l3 q3,hz l4 q4];rfl
   refine aG (bq (x:=.lst ([13,l4 - 64,l3 - 64,l2 - 64,l1 - 64,l0 - 64].map af)) (y:=.lst ([.int 13]++[dI l4,dI l3,dI l2,dI l1,dI l0].map (λ v=>match v with | .str s=>.int ((s.cps.getD 0 0:Nat) - 64) | _=>.none))) (aA rfl (ae (bt rfl rfl (df rfl ⋯ rfl)) (ae rfl ak)) (bM rfl (QN q0 q1 q2 q3 q4))) (ah (fe (ae rfl ak) rfl) (jR (oj (pM (v:=.none) rfl rfl rfl (nB rfl) (lh rfl rfl rfl rfl ⋯ (by rw [aar];show 5≤aaW;exact %[5≤a,a=16777216|aV bY]))) (by rw [iw,acw];rfl)) (λ x hx=>?_) rfl) (j5 rfl rfl rfl)) (zO (l:=[13,l4 - 64,l3 - 64,l2 - 64,l1 - 64,l0 - 64]) rfl (congrArg some hy)))
   simp only [aaB,aaP,or_false] at hx
   rcases hx with rfl | rfl | rfl | rfl | rfl <;> exact ah (aA rfl (ae rfl ak) (xl rfl)) rfl k_sub
 · refine (ah (bt rfl rfl (df rfl ⋯ rfl)) (bt rfl rfl (df rfl ⋯ rfl)) k_sub).trans (congrArg (λ i=>some (AV.int i)) ?_)
   have:=QM (k0:=k0) (k1:=k1) (k2:=k2) (k3:=k3) (k4:=k4) q0 q1 q2 q3 q4
   exact %[(qC a)-(qC b)==(qC (2048*c)),a=b+2048*c|cf this]
 · rw [aar];exact %[a≤b,a≤100,b=16777216|aU hl bY]
 · rw [aa6];rfl
section
set_option exponentiation.threshold 200
noncomputable def U0:Nat:=2 ^ 4190+2 ^ 2090 - 1
noncomputable def GG:Nat:=2 ^ 4105+2 ^ 2102 - 2 ^ 2080
noncomputable def Uu(h3:Nat):Nat:=U0 * 2 ^ (h3 % 2)
noncomputable def tu(h3:Nat):Int:=1 - 2 * ((h3 / 2 % 2:Nat):Int)
theorem fY(h:a≤b):2 ^ a≤2 ^ b:=acY ⋯ h
theorem Xv:2 ^ 4190≤U0∧U0 < 2 ^ 4191:=by
 unfold U0
 have h1:=adc 2090
 have h2:2 ^ 2090≤2 ^ 4190:=fY ⋯
 have h3:2 ^ 4191=2 ^ 4190+2 ^ 4190:=by rw [afU];exact %[a*2=a+a|aV]
 generalize 2 ^ 4190=x at *
 generalize 2 ^ 2090=y at *
 generalize 2 ^ 4191=z at *
 exact %[bG (a≤b) (b<c),0<d,d≤a,c=a+a,qD 0 b (a+d) (1)|dQ h1 h2 h3 rfl]
theorem Xw(h3:Nat):2 ^ 4190≤Uu h3∧Uu h3 < 2 ^ 4192:=by
 (have h1:=Xv.1;have h2:=Xv.2)
 unfold Uu
 have h4:2 ^ 4192=2 * 2 ^ 4191:=by rw [afU,ac8]
 have h5:2 ^ 4191=2 * 2 ^ 4190:=by rw [afU,ac8]
 generalize 2 ^ 4190=x at *
 generalize 2 ^ 4191=z at *
 generalize 2 ^ 4192=y at *
 rcases aed h3 with h | h <;> rw [h] <;> (first | exact %[bG (a≤b*(qL 2 0)) (b*(qL 2 0)<c),a≤b,b<d,c=2*d|dQ h1 h2 h4] | exact %[bG (a≤b*(qL 2 1)) (b*(qL 2 1)<c),a≤b,b<d,c=2*d|dQ h1 h2 h4])
theorem acy:GG < 2 ^ 4106:=by
 unfold GG
 have h2:2 ^ 2102≤2 ^ 4105:=fY ⋯
 have h3:2 ^ 4106=2 * 2 ^ 4105:=by rw [afU,ac8]
 have h4:=adc 2080
 have h5:=adc 4105
 generalize 2 ^ 4105=x at *
 generalize 2 ^ 2102=y at *
 generalize 2 ^ 2080=z at *
 generalize 2 ^ 4106=v at *
 exact %[a<b,0<c,d≤c,0<e,b=2*c,qD 0 a (c+d) e|rU h5 h2 h4 h3 rfl]
theorem oM(h3:Nat):tu h3=1∨tu h3= -1:=by
 unfold tu
 have:=aed (h3 / 2)
 exact %[ud (1-2*(qC a)==1) (1-2*(qC a)==(qG (1))),ud (a=0) (a=1)|aV this]
theorem Ia{h3 D:Nat}(hh:h3 < 2 ^ 40):
 ((h3:Int) * tu h3 - ((2048 * D:Nat)+((2048 * GG:Nat):Int)) * ((Uu h3:Int) * tu h3)).fdiv (2048 * ((Uu h3:Int) * tu h3))= -((D+GG:Nat):Int)∧
 ((h3:Int) * tu h3 - ((2048 * D:Nat)+((2048 * GG:Nat):Int)) * ((Uu h3:Int) * tu h3)).fmod (2048 * ((Uu h3:Int) * tu h3))=(h3:Int) * tu h3:=by
 refine gY (Xw h3) λ u1 u2=>?_
 have h40:2 ^ 40≤2 ^ 4190:=fY ⋯
 generalize 2 ^ 4190=x at *
 generalize 2 ^ 40=y at *
 generalize Uu h3=U at *
 generalize GG=G
 have key:(h3:Int) - ((2048 * D:Nat)+((2048 * G:Nat):Int)) * (U:Int)= -((D+G:Nat):Int) * (2048 * (U:Int))+h3:=by
  have e1:((2048 * D:Nat)+((2048 * G:Nat):Int)) * (U:Int)=((D+G:Nat):Int) * (2048 * (U:Int)):=by
   erw [(show ((2048 * D:Nat)+((2048 * G:Nat):Int))=((D+G:Nat):Int) * 2048 by exact %[(qC (2048*a))+(qC (2048*b))==(qC (a+b))*2048|aU]),ahv ..,rfl]
  erw [e1,aiE ..];exact %[(qC a)-(qC (b+c))*(2048*(qC d))==(qG ((qC (b+c))*(2048*(qC d))))+(qC a)|dQ]
 have dm:=pO key %[0⊆(qC a)|(aV)] %[(qC a)⊂2048*(qC b),a<c,c≤d,d≤b|(dQ hh h40 u1)]
 rcases oM h3 with h | h
 · erw [h,ahy ..,ahy ..];exact dm
 · erw [h]
   have e1:(h3:Int) * -1 - ((2048 * D:Nat)+((2048 * G:Nat):Int)) * ((U:Int) * -1)= -((h3:Int) - ((2048 * D:Nat)+((2048 * G:Nat):Int)) * (U:Int)):=by
    erw [alW ..,Int.mul_neg ..,Int.mul_neg ..]
    erw [ahy ..];exact %[(qG (qC a))-(qG (((qC (2048*b))+(qC (2048*c)))*(qC d)))==(qG ((qC a)-((qC (2048*b))+(qC (2048*c)))*(qC d)))|dQ]
   have e2:(2048:Int) * ((U:Int) * -1)= -(2048 * (U:Int)):=%[2048*((qC a)*(qG (1)))==(qG (2048*(qC a)))|(aV)]
   erw [e1,e2,ajp ..,dm.1]
   refine ⟨rfl,?_⟩
   have e3:∀A B:Int,(-A).fmod (-B)= -(A.fmod B):=λ A B=>by
    erw [ai8 ..,ai8 ..,ajp ..,aiE ..];exact %[(qG a)-(qG (b*c))==(qG (a-b*c))|q03]
   erw [e3 ..,dm.2];exact %[(qG (qC a))==(qC a)*(qG (1))|aV]
end
section
set_option exponentiation.threshold 200
theorem CK(n k:Nat):∀ds:List Nat,ck n (ds.map (k * ·))=k * ck n ds
 | []=>(agO k).symm
 | d::ds=>by
   show k * d+2 ^ n * ck n (ds.map (k * ·))=k * (d+2 ^ n * ck n ds)
   erw [CK n k ds,ad5 ..,ai7 ..,rfl]
theorem p8(h:b < 2 ^ e)(he:e≤8000):b < 2 ^ 8000:=aaY h (fY he)
theorem M9(e:Nat):aan ((2 ^ e:Nat):Int)≤e+1:=bN (by erw [afU ..];have:=adc e;exact %[a<a*2,0<a|aV this])
theorem rg(h:e≤5000):dc σ .Pow (af 2) (af e)=some (af (2 ^ e)):=Gg (by
 have:aan ((2:Nat):Int)=2:=rfl
 erw [this];exact %[2*a≤(qL 2 20),a≤5000|aV h])
theorem QR(hl:l.lookup 80=some idF)(h:fh a b):gg l (.ref 80) [.int a,.int b]=some (.tup [.int (a.fdiv b),.int (a.fmod b)]):=by
 show (l.lookup 80).bind (λ S=>S [.int a,.int b])=_
 erw [hl,aaT ..]
 simp only [idF,so,wJ,wI,sq]
 rw [if_pos h]
theorem zT(h3:Nat):aan (tu h3)=1:=by rcases oM h3 with h | h <;> erw [h] <;> rfl
theorem Ib{h3 X:Nat}(hh:h3 < 2 ^ 40)(hX:X < 2 ^ 6800):fh ((h3:Int) * tu h3 - (X:Int) * ((Uu h3:Int) * tu h3)) (2048 * ((Uu h3:Int) * tu h3)):=by
 obtain ⟨u1,u2⟩:=Xw h3
 have a1:X * Uu h3 < 2 ^ 10992:=by
  rw [show 10992=6800+4192 from rfl,aef]
  exact Nat.mul_lt_mul_of_lt_of_le hX (ae4 u2) (adc _)
 have a2:2 ^ 10992≤2 ^ 14999:=fY ⋯
 have a3:2 ^ 40≤2 ^ 14999:=fY ⋯
 have a4:2 ^ 15000=2 * 2 ^ 14999:=by rw [afU,ac8]
 have a5:2 ^ 1500≤2 ^ 4190:=fY ⋯
 have a6:2 ^ 4400=2 ^ 208 * 2 ^ 4192:=by rw [←aef]
 have a7:2048≤2 ^ 208:=acW (show 2048≤2 ^ 11 by decide) (fY ⋯)
 have a8:2048 * Uu h3 < 2 ^ 4400:=by
  rw [a6]
  exact aaY (ajQ u2 ⋯) (aeg _ a7)
 have e1:(X:Int) * ((Uu h3:Int) * tu h3)=((X * Uu h3:Nat):Int) * tu h3:=by rw [afs,ahv]
 rw [e1]
 unfold fh
 generalize X * Uu h3=Z at *
 generalize Uu h3=U at *
 generalize 2 ^ 15000=y0 at *
 generalize 2 ^ 14999=y1 at *
 generalize 2 ^ 10992=y2 at *
 generalize 2 ^ 40=y3 at *
 generalize 2 ^ 1500=y4 at *
 generalize 2 ^ 4190=y5 at *
 generalize 2 ^ 4400=y6 at *
 rcases oM h3 with h | h <;> rw [h] <;> lia
theorem Nb{σ:bB}{l:List Nat}{x:Nat}(h:σ.own[0]?=some (l.map af)):[AV.own 0,af x].mapM (j7 σ 3)=some [.bor (l.map af),af x]:=by
 have e:j7 σ 3 (.own 0)=some (.bor (l.map af)):=by
  show σ.own[0]?.bind (λ xs=>(xs.mapM (j7 σ 2)).map AV.bor)=_
  erw [h,aaT ..,pQ ..];rfl
 erw [adu,e];rfl
theorem Nc(i:Int):aan (-i)=aan i:=by
 unfold aan
 rw [ajT]
 by_cases h:i=0
 · subst h;rfl
 · erw [if_neg (by intro q;exact h (by have:=eq_of_beq q;exact %[a==0,(qG a)==0|fZ this])),if_neg (by intro q;exact h (eq_of_beq q)),rfl]
theorem QS:ur σ .NotEq (.tup [.int a,.int b]) (.tup [.int a,.int b])=some false:=by
 show (if [a,b]=[a,b] then some false else none)=_
 erw [if_pos rfl,rfl]
theorem Nf{n h0 h1 h2 h3 h4 m0 m1 m2 m3 m4:Nat}{r0 r2 r3 r4 r6 r7 r8 r9 pU pV pW pX pY vT M8 t7 t8 t9 ua ub rR rS rT H9 xK z7 zR zS wL pZ ra rc:Option AV}{own:List (List AV)}{B:eU}{o:yK}(hh:h3 < 2 ^ 40)(hm:∀m∈[m0,m1,m2,m3,m4],m < 2 ^ 25)(hm4:1≤m4)
(h:bK tL n B ⟨r0::some (.lst [af h0,af h1,af h2,af h3,af h4])::r2::r3::r4::some (.own 0)::r6::r7::r8::r9::some (af (40+h4 % 10000 % 1300))::some (.int (tu h3))::some (.int ((Uu h3:Int) * tu h3))::some (af GG)::some (.tup [.int (-((ck (40+h4 % 10000 % 1300) [m0,m1,m2,m3,m4]+GG:Nat):Int)),.int ((h3:Int) * tu h3)])::some (.lst ([m0,m1,m2,m3,m4].map af))::M8::t7::t8::t9::ua::ub::rR::rS::rT::H9::xK::z7::zR::zS::wL::pZ::ra::rc::[],[2048 * m0,2048 * m1,2048 * m2,2048 * m3,2048 * m4].map af::own⟩=o):
 bK tL n (.cons TG (.cons TF (.cons Tv (.cons TE (.cons ab0 (.cons TB (.cons ab1 B))))))) ⟨r0::some (.lst [af h0,af h1,af h2,af h3,af h4])::r2::r3::r4::some (.own 0)::r6::r7::r8::r9::pU::pV::pW::pX::pY::vT::M8::t7::t8::t9::ua::ub::rR::rS::rT::H9::xK::z7::zR::zS::wL::pZ::ra::rc::[],[2048 * m0,2048 * m1,2048 * m2,2048 * m3,2048 * m4].map af::own⟩=o:=by
 obtain ⟨u1,u2⟩:=Xw h3
 have hub:=bN u2
 have hu0:=bN Xv.2
 have hgb:=bN acy
 have hwd:40≤40+h4 % 10000 % 1300∧40+h4 % 10000 % 1300≤1339:=%[bG (40≤40+a) (40+a≤1339),qD 2 a b (1300)|(aU rfl)]
 have acz:=Ia (h3:=h3) (D:=ck (40+h4 % 10000 % 1300) [m0,m1,m2,m3,m4]) hh
 generalize hW:40+h4 % 10000 % 1300=wd at *
 have w40:2 ^ 40≤2 ^ wd:=fY hwd.1
 have w25:2 ^ 40=2048 * 2 ^ 29:=rfl
 have hmw:∀m∈[m0,m1,m2,m3,m4],m < 2 ^ wd:=λ m h=>by have:=hm m h;generalize 2 ^ wd=z at *;exact %[a<b,a<(qL 2 25),(qL 2 40)≤b|aU this w40]
 have hlk:∀x∈[2048 * m0,2048 * m1,2048 * m2,2048 * m3,2048 * m4],x < 2 ^ wd:=λ x hx=>by
  have e:[2048 * m0,2048 * m1,2048 * m2,2048 * m3,2048 * m4]=[m0,m1,m2,m3,m4].map (2048 * ·):=rfl
  rw [e] at hx
  obtain ⟨m,Ve,rfl⟩:=adb.mp hx
  have:=hm m Ve
  show 2048 * m < _
  generalize 2 ^ wd=z at *;exact %[2048*a<b,a<(qL 2 25),(qL 2 40)≤b|aU this w40]
 have hD:ck wd [2048 * m0,2048 * m1,2048 * m2,2048 * m3,2048 * m4]=2048 * ck wd [m0,m1,m2,m3,m4]:=CK wd 2048 [m0,m1,m2,m3,m4]
 have hdv:=tY (n:=wd) (ds:=[2048 * m0,2048 * m1,2048 * m2,2048 * m3,2048 * m4]) %[1≤a,40+b=a|(aU hW)] %[a<(qL 2 16),bG (40≤a) (a≤1339)|(aV hwd)] (show 5 < 16 by decide) hlk
 rw [hD] at hdv
 have af1:=tV wd hlk
 rw [hD] at af1
 have hdg:=vQ (n:=wd) (ds:=[m0,m1,m2,m3,m4]) %[1≤a,40+b=a|(aU hW)] (by show wd * 5 < 2 ^ 16;exact %[a*5<(qL 2 16),bG (40≤a) (a≤1339)|aV hwd]) (by show 1≤5;decide) hmw (by
  show 2 ^ (wd * 4)≤m0+2 ^ wd * (m1+2 ^ wd * (m2+2 ^ wd * (m3+2 ^ wd * (m4+2 ^ wd * 0))))
  have e:2 ^ (wd * 4)=2 ^ wd * (2 ^ wd * (2 ^ wd * (2 ^ wd * 1))):=by
   rw [show wd * 4=wd+(wd+(wd+(wd+0))) by exact %[a*4=a+(a+(a+(a+0)))|aV],aef,aef,aef,aef,ai6]
  rw [e]
  refine acW (aet _ ?_) (agY _ _)
  refine acW (aet _ ?_) (agY _ _)
  refine acW (aet _ ?_) (agY _ _)
  refine acW (aet _ ?_) (agY _ _)
  exact %[1≤a+b*0,1≤a|aU hm4])
 generalize hDp:ck wd [m0,m1,m2,m3,m4]=D at *
 have acA:2048 * D+2048 * GG < 2 ^ 6800:=by
  have b1:2 ^ (wd * [2048 * m0,2048 * m1,2048 * m2,2048 * m3,2048 * m4].length)≤2 ^ 6799:=fY (by show wd * 5≤6799;exact %[a*5≤6799,bG (40≤a) (a≤1339)|aV hwd])
  have b2:2 ^ 6800=2 * 2 ^ 6799:=by rw [afU,ac8]
  have b3:2048 * GG < 2048 * 2 ^ 4106:=ajQ acy ⋯
  have b4:2048 * 2 ^ 4106≤2 ^ 6799:=by
   rw [show 2048=2 ^ 11 from rfl,←aef];exact fY ⋯
  generalize 2 ^ (wd * [2048 * m0,2048 * m1,2048 * m2,2048 * m3,2048 * m4].length)=z0 at *
  generalize 2 ^ 6799=z1 at *
  generalize 2 ^ 6800=z2 at *
  generalize 2048 * 2 ^ 4106=z3 at *
  lia
 have bY:fh ((h3:Int) * tu h3 - ((2048 * D:Nat)+((2048 * GG:Nat):Int)) * ((Uu h3:Int) * tu h3)) (2048 * ((Uu h3:Int) * tu h3)):=by
  have:=Ib (h3:=h3) (X:=2048 * D+2048 * GG) hh acA
  rwa [agx] at this
 refine ao (bp (x:=af wd) ?_) (ao (bp (x:=.int (tu h3)) ?_) (ao (bp (x:=.int ((Uu h3:Int) * tu h3)) ?_) (ao (bp (x:=af GG) ?_) (ao (bp (x:=.tup [.int (-((D+GG:Nat):Int)),.int ((h3:Int) * tu h3)]) ?_) (ao (bp (x:=.lst ([m0,m1,m2,m3,m4].map af)) ?_) (ao (ec (p:=false) ?_ bQ) h))))))
 · rw [←hW]
   exact ah (x:=af 40) rfl (ah (ah (x:=af h4) rfl (ah (x:=af 10) (y:=af 4) rfl rfl (vS ⋯)) (iy (fq (p:=4) ⋯).1 (fq (p:=4) ⋯).2)) rfl (iy (b:=1300) ⋯ (p8 (e:=11) ⋯ ⋯))) rQ
 · refine (ah rfl (ah (x:=af (h3 / 2 % 2)) (y:=af 2) (ah (x:=af (h3 / 2)) (ah (x:=af h3) rfl rfl (rP (b:=2) ⋯ (p8 (e:=2) ⋯ ⋯))) rfl (iy (b:=2) ⋯ (p8 (e:=2) ⋯ ⋯))) rfl (Gf ?_)) k_sub).trans (congrArg (λ i=>some (AV.int i)) ?_)
   · have:=bN (a:=h3 / 2 % 2) (k:=1) %[a<(qL 2 1),qD 2 a b (2)|(aU rfl)]
     have e:aan ((2:Nat):Int)=2:=rfl
     exact %[a+b≤(qL 2 20),a≤1,b=2|aU this e]
   · unfold tu;exact %[1-(qC (a*2))==1-2*(qC a)|aV]
 · refine ah (x:=af (Uu h3)) (ah (x:=af U0) (y:=af (2 ^ (h3 % 2))) ((ah (x:=af (2 ^ 4190+2 ^ 2090)) (ah (ah (x:=af 2) (y:=af 4190) rfl rfl (rg ⋯)) (ah (x:=af 2) (y:=af 2090) rfl rfl (rg ⋯)) rQ) rfl k_sub).trans (congrArg (λ i=>some (AV.int i)) ?_)) (ah (x:=af 2) (y:=af (h3 % 2)) rfl (ah (x:=af h3) rfl rfl (iy (b:=2) ⋯ (p8 (e:=2) ⋯ ⋯))) (rg %[a≤5000,qD 2 a b (2)|(aU rfl)])) ((Gf ?_).trans rfl)) rfl (rD (decide_eq_true ?_))
   · unfold U0
     have:=adc 2090
     generalize 2 ^ 4190=x at *
     generalize 2 ^ 2090=y at *
     exact %[(qC (a+b))-1==(qC c),0<b,qD 0 c (a+b) (1)|cf this rfl]
   · have:=M9 (h3 % 2);exact %[a+b≤(qL 2 20),a≤4191,b≤c+1,qD 2 c d (2)|dQ hu0 this rfl]
   · rw [zT];exact %[a<(qL 2 20),a≤4192|aV hub]
 · refine (ah (x:=af (2 ^ 4105+2 ^ 2102)) (y:=af (2 ^ 2080)) (ah (ah (x:=af 2) (y:=af 4105) rfl rfl (rg ⋯)) (ah (x:=af 2) (y:=af 2102) rfl rfl (rg ⋯)) rQ) (ah (x:=af 2) (y:=af 2080) rfl rfl (rg ⋯)) k_sub).trans (congrArg (λ i=>some (AV.int i)) ?_)
   unfold GG
   have:2 ^ 2080≤2 ^ 2102:=fY ⋯
   generalize 2 ^ 4105=x at *
   generalize 2 ^ 2102=y at *
   generalize 2 ^ 2080=z at *
   exact %[(qC (a+b))-(qC c)==(qC d),c≤b,qD 0 d (a+b) c|dQ this rfl]
 · have hX:(2048 * D+2048 * GG) < 2 ^ 6800:=acA
   have hxb:=bN hX
   rw [agx] at hxb
   have af2:aan ((Uu h3:Int) * tu h3)≤4192:=by
    rcases oM h3 with q | q <;> rw [q]
    · rw [ahy];exact hub
    · rw [alW,Nc];exact hub
   have hhb:=bN hh
   have e48:aan (2048:Int)=12:=rfl
   refine aA rfl (ae (x:=.int ((h3:Int) * tu h3 - ((2048 * D:Nat)+((2048 * GG:Nat):Int)) * ((Uu h3:Int) * tu h3))) (ah (ah (x:=af h3) rfl rfl (rD (decide_eq_true ?_))) (ah (ah (x:=af (2048 * D)) (y:=af (2048 * GG)) (aA rfl (ae rfl (ae rfl ak)) (bM (ys:=[.bor ([2048 * m0,2048 * m1,2048 * m2,2048 * m3,2048 * m4].map af),af wd]) ?_ hdv)) (ah (x:=af 2048) (y:=af GG) rfl rfl (Gf ?_)) fO) rfl (rD (decide_eq_true ?_))) k_sub) (ae (x:=.int (2048 * ((Uu h3:Int) * tu h3))) (ah rfl rfl (rD (decide_eq_true ?_))) ak)) (bM rfl ((QR rfl bY).trans (by rw [acz.1,acz.2])))
   · rw [zT];exact %[a<(qL 2 20),a≤40|aV hhb]
   · exact Nb rfl
   · have e:aan ((2048:Nat):Int)=12:=rfl
     exact %[a+b≤(qL 2 20),b≤4106,a=12|aU hgb e]
   · lia
   · exact %[a+b≤(qL 2 20),b≤4192,a=12|aU af2 e48]
 · refine aA rfl (ae (x:=af D) ((ah (nB (bt rfl rfl (FR ⋯ rfl))) rfl k_sub).trans (congrArg (λ i=>some (AV.int i)) %[(qG (qG (qC (a+b))))-(qC b)==(qC a)|(aU)])) (ae rfl ak)) (bM rfl hdg)
 · have hhb:=bN hh
   refine LU (je (p:=false) (aG (bq rfl (gO (ae (bt rfl rfl (FR ⋯ rfl)) (ae (ah (x:=af h3) rfl rfl (rD (decide_eq_true (by rw [zT];exact %[a<(qL 2 20),a≤40|aV hhb])))) ak)) rfl) QS)) λ V=>je (p:=false) (q:=false) (aG (bq (x:=af 5) (y:=af 5) (aA rfl (ae rfl ak) (xm (xs:=[m0,m1,m2,m3,m4].map af) rfl (decide_eq_true (by show (5:Int) < 2 ^ 62;decide)))) rfl H8)) λ V=>BO)
end
section
noncomputable def kIx(a b:Nat):Nat:=if a=0 then b - 1 else if a=1 then b+2 else if a=2 then b+4 else 9
noncomputable def KK(z:Int)(i j:Nat):Bool:=if i=j then true else kb z (kIx (min i j) (max i j))
theorem Xx(z:Int)(i j:Nat):KK z i j=KK z j i:=by
 unfold KK
 by_cases h:i=j
 · (rw [if_pos h];erw [if_pos h.symm,rfl])
 · erw [if_neg h,if_neg (λ q=>h q.symm),Nat.min_comm ..,Nat.max_comm ..,rfl]
theorem QT(z:Int)(i:Nat):KK z i i=true:=if_pos rfl
section
variable(K:Nat->Nat->Bool)
noncomputable def en(i:Nat):Nat:=TU (K i 0) (K i 1) (K i 2) (K i 3) (K i 4)
noncomputable def sI(c i:Nat):Nat:=if aQ c i then en K i else 0
noncomputable def TT(c:Nat):Nat:=0+sI K c 0+sI K c 1+sI K c 2+sI K c 3+sI K c 4
noncomputable def cn(c j:Nat):Nat:=bn (aQ c 0&&K 0 j)+bn (aQ c 1&&K 1 j)+bn (aQ c 2&&K 2 j)+bn (aQ c 3&&K 3 j)+bn (aQ c 4&&K 4 j)
noncomputable def Iy(c:Nat):List Nat:=[cn K c 4,cn K c 3,cn K c 2,cn K c 1,cn K c 0]
theorem eY(b:Bool):bn b≤1:=by cases b <;> decide
theorem Gj(c j:Nat):cn K c j≤5:=by
 unfold cn
 have h0:=eY (aQ c 0&&K 0 j)
 have h1:=eY (aQ c 1&&K 1 j)
 have h2:=eY (aQ c 2&&K 2 j)
 have h3:=eY (aQ c 3&&K 3 j)
 have h4:=eY (aQ c 4&&K 4 j)
 exact %[a+b+c+d+e≤5,a≤1,b≤1,c≤1,d≤1,e≤1|rU h0 h1 h2 h3 h4]
theorem CL(c i:Nat):sI K c i=bn (aQ c i&&K i 4)+64 * (bn (aQ c i&&K i 3)+64 * (bn (aQ c i&&K i 2)+64 * (bn (aQ c i&&K i 1)+64 * bn (aQ c i&&K i 0)))):=by
 unfold sI en TU
 cases aQ c i with
 | true=>
   rw [if_pos rfl]
   simp only [al9]
   exact %[(((a*64+b)*64+c)*64+d)*64+e=e+64*(d+64*(c+64*(b+64*a)))|rU]
 | false=>rfl
theorem TV(c:Nat):TT K c=ck 6 (Iy K c):=by
 unfold TT Iy cn
 (rw [CL];erw [CL ..,CL ..,CL ..,CL ..])
 show _=_+2 ^ 6 * (_+2 ^ 6 * (_+2 ^ 6 * (_+2 ^ 6 * (_+2 ^ 6 * 0))))
 lia
theorem lw(h:d < 2 ^ 6):(d+2 ^ 6 * x)&&& (1+2 ^ 6 * y)=d % 2+2 ^ 6 * (x&&& y):=by
 have e1:d+2 ^ 6 * x=x * 2 ^ 6||| d:=by erw [←dW x d 6 h];exact %[a+(qL 2 6)*b=b*(qL 2 6)+a|aU]
 have e2:1+2 ^ 6 * y=y * 2 ^ 6||| 1:=by erw [←dW y 1 6 ⋯];exact %[1+(qL 2 6)*a=a*(qL 2 6)+1|aV]
 have e3:x * 2 ^ 6&&& y * 2 ^ 6=(x&&& y) * 2 ^ 6:=by (erw [←af0 ..,←af0 ..,←aj1,af0 ..,rfl])
 have e4:x * 2 ^ 6&&& 1=0:=by erw [Nat.and_comm ..];exact tU x 1 6 ⋯
 erw [e1,e2,ahZ ..,akc ..,akc ..,e3,e4,tU y d 6 h,akI ..,Nat.zero_or ..,aiT ..,←dW _ _ 6 %[a<(qL 2 6),qD 2 a b (2)|(aU rfl)]]
 exact %[a*(qL 2 6)+b=b+(qL 2 6)*a|aU]
noncomputable def O5:Nat:=ck 6 [1,1,1,1,1]
theorem Ng(ha:a < 2 ^ 6)(hb:b < 2 ^ 6)(hc:c < 2 ^ 6)(hd:d < 2 ^ 6)(he:e < 2 ^ 6):ck 6 [a,b,c,d,e]&&& O5=ck 6 [a % 2,b % 2,c % 2,d % 2,e % 2]:=by
 show (a+2 ^ 6 * (b+2 ^ 6 * (c+2 ^ 6 * (d+2 ^ 6 * (e+2 ^ 6 * 0)))))&&& (1+2 ^ 6 * (1+2 ^ 6 * (1+2 ^ 6 * (1+2 ^ 6 * (1+2 ^ 6 * 0)))))=a % 2+2 ^ 6 * (b % 2+2 ^ 6 * (c % 2+2 ^ 6 * (d % 2+2 ^ 6 * (e % 2+2 ^ 6 * 0))))
 erw [lw ha,lw hb,lw hc,lw hd,lw he]
 rfl
theorem Nh:∀a0 a1 a2 a3 a4:Bool,(bn a0+bn a1+bn a2+bn a3+bn a4) % 2=bn (xor a0 (xor a1 (xor a2 (xor a3 (xor a4 false))))):=⋯
theorem ri(c j:Nat):cn K c j % 2=bn (nb R5 K (aQ c) j):=Nh _ _ _ _ _
noncomputable def bv(v:Nat->Bool):Nat:=ck 6 [bn (v 4),bn (v 3),bn (v 2),bn (v 1),bn (v 0)]
theorem Ni(c:Nat):TT K c&&& O5=bv (nb R5 K (aQ c)):=by
 have h:=λ j=>acZ (Gj K c j) (show 5 < 2 ^ 6 by decide)
 erw [TV ..]
 skip
 erw [Ng (h 4) (h 3) (h 2) (h 1) (h 0),ri ..,ri ..,ri ..,ri ..,ri ..,rfl]
theorem vU(h:bn a=bn b):a=b:=by cases a <;> cases b <;> first | rfl | cases h
theorem Xy:bv v=bv w↔gV v w=true:=by
 have hv:∀(v:Nat->Bool),∀d∈[bn (v 4),bn (v 3),bn (v 2),bn (v 1),bn (v 0)],d < 2 ^ 6:=λ v d hd=>by
  simp only [aaB,aaP,or_false] at hd
  rcases hd with rfl | rfl | rfl | rfl | rfl <;> exact acZ (eY _) ⋯
 constructor
 · intro h
   have e1:=tW 6 (hv v)
   have e2:=tW 6 (hv w)
   unfold bv at h
   rw [h] at e1
   have e:=e1.symm.trans e2
   simp only [List.cons.injEq] at e
   obtain ⟨q4,q3,q2,q1,q0,_⟩:=e
   show (!(xor (v 0) (w 0)||xor (v 1) (w 1)||xor (v 2) (w 2)||xor (v 3) (w 3)||xor (v 4) (w 4)))=true
   erw [vU q0,vU q1,vU q2,vU q3,vU q4]
   simp
 · intro h
   unfold gV j8 at h
   rw [aeM] at h
   simp only [afL] at h
   obtain ⟨⟨⟨⟨q0,q1⟩,q2⟩,q3⟩,q4⟩:=h
   have hx:∀{a b:Bool},xor a b=false->a=b:=λ{a b} h=>by cases a <;> cases b <;> first | rfl | cases h
   unfold bv
   rw [hx q0,hx q1,hx q2,hx q3,hx q4]
theorem CM(v w:Nat->Bool):decide (bv v=bv w)=gV v w:=by
 (rw [agv];erw [decide_eq_true_eq]);exact Xy
end
noncomputable def CN(l:List Nat)(m:Nat):List Nat:=l++l.map λ t=>t+m
theorem QU(K:Nat->Nat->Bool):CN (CN (CN (CN (CN [0] (en K 0)) (en K 1)) (en K 2)) (en K 3)) (en K 4)=(abD 32).map (TT K):=by
 generalize h0:en K 0=m0
 generalize h1:en K 1=m1
 generalize h2:en K 2=m2
 generalize h3:en K 3=m3
 generalize h4:en K 4=m4
 have e:TT K=λ c=>0+(if aQ c 0 then m0 else 0)+(if aQ c 1 then m1 else 0)+(if aQ c 2 then m2 else 0)+(if aQ c 3 then m3 else 0)+(if aQ c 4 then m4 else 0):=by
  funext c
  unfold TT sI
  rw [h0,h1,h2,h3,h4]
 erw [e]
 kernel_rfl
end
section
section
variable{RF:cV}{σ:bB}
theorem Gk(p:Nat->Bool):∀l:List Nat,(l.map af).filter (λ x=>match x with | .int i=>p i.toNat | _=>false)=(l.filter p).map af
 | []=>rfl
 | x::l=>by
   have e:p ((x:Int)).toNat=p x:=by erw [aaV ..,rfl]
   erw [aaX,adY,adY,Gk p l]
   show (if p ((x:Int)).toNat=true then _ else _)=_
   erw [e]
   cases p x <;> rfl
theorem uc{e:IE}{it:II}{ts:Aj}{l:List Nat}{p:Nat->Bool}{f:Nat->Nat}(hi:Ao RF it σ=some (l.map af))(hc:∀k∈l,gD RF ts (σ.push (af k))=some (p k))(he:∀k∈l,bj RF e (σ.push (af k))=some (af (f k)))(hl:l.length≤1000):
 bj RF (.comp e it ts) σ=some (.lst (((l.filter p).map f).map af)):=by
 have e1:((l.filter p).map f).map af=((l.map af).filter (λ x=>match x with | .int i=>p i.toNat | _=>false)).map (λ x=>match x with | .int i=>af (f i.toNat) | _=>.none):=by
  erw [Gk ..,ade,ade]
  refine aeo λ k V=>?_
  show af (f k)=af (f ((k:Int)).toNat)
  erw [aaV ..,rfl]
 erw [e1]
 refine WH hi (λ x hx=>?_) (λ x hx V=>?_) (decide_eq_true ?_)
 · (refine bF (adb.mp hx) λ k hk cB=>?_;obtain rfl:=cB)
   erw [hc k hk]
   show some (p k)=some (p ((k:Int)).toNat)
   erw [aaV ..,rfl]
 · (refine bF (adb.mp hx) λ k hk cB=>?_;obtain rfl:=cB)
   erw [he k hk]
   show some (af (f k))=some (af (f ((k:Int)).toNat))
   erw [aaV ..,rfl]
 · have:aaW=16777216:=rfl
   erw [aar ..];exact %[a≤b,a≤1000,b=16777216|aU hl this]
theorem vV(m:Nat):bI 0 (m:Int)=(abD m).map af:=by
 skip
 erw [(show ((m:Int) - 0).toNat=m by exact %[a=b,qD 4 a ((qC b)-0) (0)|aU rfl])]
 exact aeo λ k V=>congrArg AV.int %[0+(qC a)==(qC a)|(aV)]
theorem CO:∀l:List Nat,(zI l).sum=((l.sum:Nat):Int)
 | []=>rfl
 | x::l=>by
   show (x:Int)+(zI l).sum=((x+l.sum:Nat):Int)
   erw [CO l];exact %[(qC a)+(qC b)==(qC (a+b))|aU]
theorem Xz{x:AV}{l:List Nat}(hx:σ.listOf x=some (l.map af)):f5 RF σ (.obj (.builtin "sum")) [x]=some (af l.sum):=by
 have e:l.map af=(zI l).map .int:=by erw [ade];rfl
 refine (LZ (l:=zI l) ?_).trans ?_
 · erw [hx,aaT ..,e,dD ..,rfl]
 · erw [CO ..];rfl
theorem zU{x:AV}{l:List Nat}(hx:σ.listOf x=some (l.map af))(h:l.length≤1000):f5 RF σ (.obj (.builtin "len")) [x]=some (af l.length):=by
 refine (xm hx (decide_eq_true ?_)).trans ?_
 · erw [aar ..];exact %[(qC a)⊂(qL 2 62),a≤1000|aV h]
 · erw [aar ..];rfl
end
theorem Gl(p:Nat->Bool)(g:Nat->Nat):∀l:List Nat,((l.filter p).map g).sum=(l.map λ x=>if p x then g x else 0).sum
 | []=>rfl
 | x::l=>by
   erw [adY,aaX,aiJ,←Gl p g l]
   cases p x with
   | true=>erw [if_pos rfl,if_pos rfl,aaX,aiJ,rfl]
   | false=>erw [if_neg ⋯,if_neg ⋯];exact %[a=0+a|aV]
theorem QV(f:Nat->Bool):(((abD 5).filter f).map λ p=>64 ^ (4 - p)).sum=bv f:=by
 erw [Gl ..]
 have e:∀(b:Bool) (k:Nat),(if b then k else 0)=k * bn b:=λ b k=>by cases b <;> simp [bn]
 show (if f 0 then 64 ^ 4 else 0)+((if f 1 then 64 ^ 3 else 0)+((if f 2 then 64 ^ 2 else 0)+((if f 3 then 64 ^ 1 else 0)+((if f 4 then 64 ^ 0 else 0)+0))))=bn (f 4)+2 ^ 6 * (bn (f 3)+2 ^ 6 * (bn (f 2)+2 ^ 6 * (bn (f 1)+2 ^ 6 * (bn (f 0)+2 ^ 6 * 0))))
 erw [e ..,e ..,e ..,e ..,e ..]
 exact %[(qL 64 4)*a+((qL 64 3)*b+((qL 64 2)*c+((qL 64 1)*d+((qL 64 0)*e+0))))=e+(qL 2 6)*(d+(qL 2 6)*(c+(qL 2 6)*(b+(qL 2 6)*(a+(qL 2 6)*0))))|rU]
theorem Nj(a b:Nat):(a&&& b) % 2=bn ((a % 2==1)&&(b % 2==1)):=by
 have h:=alQ a b 0
 rw [ajk,ajk,ajk] at h
 rcases aed a with ha | ha <;> rcases aed b with hb | hb <;> rw [ha,hb] at h ⊢ <;> rcases aed (a&&& b) with hc | hc <;> rw [hc] at h ⊢ <;> first | rfl | (exact absurd h ⋯)
theorem oN(c w p:Nat):(c&&& w) / 2 ^ p % 2=bn (aQ c p&&aQ w p):=by
 erw [←ahR ..,Nat.shiftRight_and_distrib,Nj ..,ahR ..,ahR ..];rfl
theorem Nk(c w:Nat):di (c&&& w) % 2=bn (gU R5 (aQ c) (aQ w)):=by
 have e:di (c&&& w)=bn (aQ c 0&&aQ w 0)+bn (aQ c 1&&aQ w 1)+bn (aQ c 2&&aQ w 2)+bn (aQ c 3&&aQ w 3)+bn (aQ c 4&&aQ w 4):=by
  show (c&&& w) / 2 ^ 0 % 2+((c&&& w) / 2 ^ 1 % 2+((c&&& w) / 2 ^ 2 % 2+((c&&& w) / 2 ^ 3 % 2+((c&&& w) / 2 ^ 4 % 2+0))))=_
  erw [oN ..,oN ..,oN ..,oN ..,oN ..];exact %[a+(b+(c+(d+(e+0))))=a+b+c+d+e|rU]
 erw [e]
 exact Nh _ _ _ _ _
theorem Gm:∀l:List Nat,l.any f=((l.filter f).length !=0)
 | []=>rfl
 | x::l=>by
   erw [List.any_cons,adY,Gm l]
   cases f x with
   | true=>erw [if_pos rfl,ada];rfl
   | false=>erw [if_neg ⋯];rfl
theorem Gn:tL (.ref 219) [af n]=some (af (di n)):=rfl
theorem Go(w p:Nat):decide (w / 2 ^ p % 2=1)=aQ w p:=by
 unfold aQ
 rw [agv,decide_eq_true_eq,beq_iff_eq]
theorem XA(b:Bool):decide (bn b=1)=b:=by cases b <;> rfl
theorem QW(K:Nat->Nat->Bool):(dZ K).length≤32:=acW (agC _ _) (agt agE)
theorem Nm(K:Nat->Nat->Bool)(w:Nat->Bool):(cm K w).length≤32:=acW (agC _ _) (agt agE)
end
section
set_option exponentiation.threshold 200
noncomputable abbrev Nn:eU:=TH
noncomputable abbrev Gp:eU:=abY
theorem lx(hL:L.length≤32):
 bK tL n Nn ⟨r0::r1::r2::r3::r4::r5::r6::r7::r8::r9::pU::pV::pW::pX::pY::vT::some (.lst (L.map af))::some (af m)::t8::t9::ua::ub::rR::rS::rT::H9::xK::z7::zR::zS::wL::pZ::ra::rc::[],own⟩=some (⟨r0::r1::r2::r3::r4::r5::r6::r7::r8::r9::pU::pV::pW::pX::pY::vT::some (.lst ((CN L m).map af))::some (af m)::t8::t9::ua::ub::rR::rS::rT::H9::xK::z7::zR::zS::wL::pZ::ra::rc::[],own⟩,none):=by
 have bY:aaW=16777216:=rfl
 refine ao (bp ?_) bQ
 have e:(CN L m).map af=L.map af++(L.map af).map (λ x=>match x with | .int i=>.int (i+(m:Int)) | _=>.none):=by
  skip
  erw [aa6,ade,ade]
  congr 1
 erw [e]
 refine ah rfl (jR (oj rfl rfl) (λ x hx=>?_) (decide_eq_true (by erw [aar ..];exact %[a≤b,a≤32,b=16777216|aU hL bY]))) (j5 rfl rfl (decide_eq_true (by (erw [aar ..,aar ..,aar ..]);exact %[a+a≤b,a≤32,b=16777216|aU hL bY])))
 (refine bF (adb.mp hx) λ k _ cB=>?_;obtain rfl:=cB)
 exact ah rfl rfl fO
theorem Er{K:Nat->Nat->Bool}{σ:bB}{k:Nat}(hk:k < 32):nR σ (.lst (((abD 32).map (TT K)).map af)) (af k)=some (af (TT K k)):=
 df rfl ⟨ac9 k,%[(qC a)⊂(qL 2 62),a<32|(aV hk)]⟩ (by (erw [aaV ..,ade,adk,akK hk]);rfl)
theorem xL{n w:Nat}{K:Nat->Nat->Bool}{r0 r1 r2 r3 r4 r5 r6 r7 r8 r9 pU pV pW pX pY vT t7 rR rS rT H9 xK z7 zR zS wL pZ ra rc:Option AV}{a0 xs:List AV}(hK:∀i j,K i j=K j i)(hw:w < 32)(hx:xs.length≤10):
 bK tL n Gp ⟨r0::r1::r2::r3::r4::r5::r6::r7::r8::r9::pU::pV::pW::pX::pY::vT::some (.lst (((abD 32).map (TT K)).map af))::t7::some (af O5)::some (.lst ((dZ K).map af))::some (.own 1)::some (af w)::rR::rS::rT::H9::xK::z7::zR::zS::wL::pZ::ra::rc::[],[a0,xs]⟩=some (⟨r0::r1::r2::r3::r4::r5::r6::r7::r8::r9::pU::pV::pW::pX::pY::vT::some (.lst (((abD 32).map (TT K)).map af))::t7::some (af O5)::some (.lst ((dZ K).map af))::some (.own 1)::some (af w)::some (af (bv (aQ w)))::some (.lst ((cm K (aQ w)).map af))::some (.lst (((dZ K).filter λ y=>gU R5 (aQ y) (aQ w)).map af))::H9::xK::z7::zR::zS::wL::pZ::ra::rc::[],[a0,xs++[.lst ((cm K (aQ w)).map af)]]⟩,none):=by
 have bY:aaW=16777216:=rfl
 have Jp:=QW K
 have Vy:=Nm K (aQ w)
 have bc:=Ge hK (aQ w)
 rw [Gm] at bc
 have hAl:((dZ K).filter λ y=>gU R5 (aQ y) (aQ w)).length≤32:=acW (agC _ _) Jp
 refine ao (bp (x:=af (bv (aQ w))) ?_) (ao (bp (x:=.lst ((cm K (aQ w)).map af)) ?_) (ao (bp (x:=.lst (((dZ K).filter λ y=>gU R5 (aQ y) (aQ w)).map af)) ?_) (ao (ec (p:=false) ?_ bQ) (ao ((L0 (m:=1) (x:=.lst ((cm K (aQ w)).map af)) rfl rfl rfl (decide_eq_true %[a≤b,a≤10,b=16777216|(aU hx bY)])).trans rfl) bQ))))
 · refine aA rfl (ae (uc (l:=abD 5) (p:=aQ w) (f:=λ p=>64 ^ (4 - p)) (gp (i:=((5:Nat):Int)) rfl ⋯ |>.trans (congrArg some (vV 5))) (λ p hp=>?_) (λ p hp=>?_) ⋯) ak) ((Xz rfl).trans (by erw [QV ..,rfl]))
   · refine (jQ (p:=aQ w p) (q:=true) (aG (bq (x:=af (w / 2 ^ p % 2)) (y:=af 1) (ah (x:=af (w / 2 ^ p)) (ah (x:=af w) (y:=af p) rfl rfl pP) rfl (xj.trans (congrArg (λ i=>some (AV.int i)) (Qo _)))) rfl (zN.trans (congrArg some (Go w p))))) λ V=>lS).trans ?_
     erw [agy ..,rfl]
   · have hp:=afj.mp hp
     refine ah (x:=af 64) (y:=af (4 - p)) rfl ((ah rfl rfl k_sub).trans (congrArg (λ i=>some (AV.int i)) ?_)) (Gg ?_)
     · show (4:Int) - (p:Int)=((4 - p:Nat):Int);exact %[4-(qC a)==(qC b),a<5,qD 0 b (4) a|aU hp rfl]
     · have:aan ((64:Nat):Int)=7:=rfl
       erw [this];exact %[7*a≤(qL 2 20),qD 0 a (4) b|aU rfl]
 · refine (uc (l:=abD 32) (p:=λ k=>gV (nb R5 K (aQ k)) (aQ w)) (f:=λ k=>k) (gp (i:=((32:Nat):Int)) rfl ⋯ |>.trans (congrArg some (vV 32))) (λ k hk=>?_) (λ k hk=>rfl) ⋯).trans ?_
   · have hk:=afj.mp hk
     refine (jQ (p:=gV (nb R5 K (aQ k)) (aQ w)) (q:=true) (aG (bq (x:=af (TT K k&&& O5)) (y:=af (bv (aQ w))) (ah (x:=af (TT K k)) (y:=af O5) (bt rfl rfl (Er hk)) rfl M3) rfl (zN.trans ?_))) λ V=>lS).trans ?_
     · erw [Ni ..];exact congrArg some (CM _ _)
     · erw [agy ..,rfl]
   · erw [ai1 ..];rfl
 · refine (uc (l:=dZ K) (p:=λ y=>gU R5 (aQ y) (aQ w)) (f:=λ k=>k) (oj rfl rfl) (λ k hk=>?_) (λ k hk=>rfl) %[a≤1000,a≤32|(aV Jp)]).trans ?_
   · refine (jQ (p:=gU R5 (aQ k) (aQ w)) (q:=true) (aG (bq (x:=af (di (k&&& w) % 2)) (y:=af 1) (ah (x:=af (di (k&&& w))) (y:=af 2) (aA rfl (ae (x:=af (k&&& w)) (ah (x:=af k) (y:=af w) rfl rfl M3) ak) (bM rfl Gn)) rfl (iy ⋯ (p8 (e:=2) ⋯ ⋯))) rfl (zN.trans ?_))) λ V=>lS).trans ?_
     · erw [Nk ..];exact congrArg some (XA _)
     · erw [agy ..,rfl]
   · erw [ai1 ..,rfl]
 · refine aG ((bq (x:=af (cm K (aQ w)).length) (y:=af (cm K (aQ w)).length) (aA rfl (ae rfl ak) (zU rfl %[a≤1000,a≤32|(aV Vy)])) (nC (p:=(((dZ K).filter λ y=>gU R5 (aQ y) (aQ w)).length !=0)) (tM rfl ?_) ?_) H8).trans ?_)
   · show (if (((dZ K).filter λ y=>gU R5 (aQ y) (aQ w)).map af).length < 2 ^ 62 then some ((((dZ K).filter λ y=>gU R5 (aQ y) (aQ w)).map af).length !=0) else none)=_
     erw [aar ..,if_pos %[a<(qL 2 62),a≤32|(aV hAl)],rfl]
   · erw [bc]
     cases (((dZ K).filter λ y=>gU R5 (aQ y) (aQ w)).length !=0) with
     | true=>rfl
     | false=>exact aA rfl (ae rfl ak) (zU rfl %[a≤1000,a≤32|(aV Jp)])
   · erw [decide_eq_true rfl];rfl
end
section
set_option exponentiation.threshold 200
noncomputable def nF(K:Nat->Nat->Bool)(h3:Nat):Nat:=((cm K (aQ 31))[h3 % (cm K (aQ 31)).length]?).getD 0
theorem TW{K:Nat->Nat->Bool}(hK:∀i j,K i j=K j i)(hd:∀i,K i i=true):1≤(cm K (aQ 31)).length:=by
 have e:∀y,gU R5 (aQ y) (aQ 31)=gU R5 (aQ y) λ V=>true:=λ y=>cS λ j hj=>by
  simp only [aaB,aaP,or_false] at hj
  rcases hj with rfl | rfl | rfl | rfl | rfl <;> rfl
 have h:=Ge hK (aQ 31)
 rw [show (λ y=>gU R5 (aQ y) (aQ 31))=λ y=>gU R5 (aQ y) λ V=>true from funext e,Xu hK hd,if_neg ⋯] at h
 erw [h]
 have hm:0∈dZ K:=by
  skip
  refine age.mpr ⟨afj.mpr ⋯,?_⟩
  have e0:∀j,nb R5 K (aQ 0) j=false:=λ j=>(cS (g:=λ V=>false) λ i V=>by
   have:aQ 0 i=false:=by unfold aQ;erw [Nat.zero_div ..];rfl
   erw [this];rfl).trans (oL _)
  unfold j8
  rw [e0,e0,e0,e0,e0];rfl
 exact List.length_pos_of_mem hm
theorem vW{K:Nat->Nat->Bool}(hK:∀i j,K i j=K j i)(hd:∀i,K i i=true)(h3:Nat):(cm K (aQ 31))[h3 % (cm K (aQ 31)).length]?=some (nF K h3)∧nF K h3 < 32∧∀j,j < 5->nb R5 K (aQ (nF K h3)) j=true:=by
 have h1:=TW hK hd
 have bD:h3 % (cm K (aQ 31)).length < (cm K (aQ 31)).length:=aeb _ h1
 have e:(cm K (aQ 31))[h3 % (cm K (aQ 31)).length]?=some (nF K h3):=by
  unfold nF
  rw [aaF bD];rfl
 have hm:=acR e
 skip
 refine gY (age.mp hm) λ m1 m2=>?_
 refine ⟨e,afj.mp m1,λ j hj=>?_⟩
 unfold gV at m2
 rw [aeM] at m2
 unfold j8 at m2
 simp only [afL] at m2
 obtain ⟨⟨⟨⟨q0,q1⟩,q2⟩,q3⟩,q4⟩:=m2
 have hx:∀{a b:Bool},xor a b=false->a=b:=λ{a b} h=>by cases a <;> cases b <;> first | rfl | exact e8 h.symm
 match j,hj with
 | 0,_=>erw [hx q0];rfl
 | 1,_=>erw [hx q1];rfl
 | 2,_=>erw [hx q2];rfl
 | 3,_=>erw [hx q3];rfl
 | 4,_=>erw [hx q4];rfl
theorem XB{σ:bB}{M:List Nat}(h:1≤M.length):ur σ .Eq (.lst (M.map af)) (.lst [])=some false:=by
 cases M with
 | nil=>exact absurd h ⋯
 | cons x r=>
   show (if ((x::r).map af).length=0 then none else some false)=some false
   exact if_neg (Nat.succ_ne_zero _)
theorem Es{n h0 h1 h2 h3 h4:Nat}{K:Nat->Nat->Bool}{r0 r2 r3 r4 r5 r6 r7 r8 r9 pU pV pW pX pY M8 t7 t8 t9 ua ub rR rS rT H9 xK z7 zR zS wL pZ ra rc:Option AV}{a0:List AV}{B:eU}{o:yK}(hK:∀i j,K i j=K j i)(hd:∀i,K i i=true)
(h:bK tL n B ⟨r0::some (.lst [af h0,af h1,af h2,af h3,af h4])::r2::r3::r4::r5::r6::r7::r8::r9::pU::pV::pW::pX::pY::some (.lst ([en K 0,en K 1,en K 2,en K 3,en K 4].map af))::some (.lst (((abD 32).map (TT K)).map af))::some (af (en K 4))::some (af O5)::some (.lst ((dZ K).map af))::some (.own 1)::some (af (h0 / 10 ^ 10 % 32))::some (af (bv (aQ (h0 / 10 ^ 10 % 32))))::some (.lst ((cm K (aQ (h0 / 10 ^ 10 % 32))).map af))::some (.lst (((dZ K).filter λ y=>gU R5 (aQ y) (aQ (h0 / 10 ^ 10 % 32))).map af))::some (af (nF K h3))::xK::z7::zR::zS::wL::pZ::ra::rc::[],[a0,[.lst ((cm K (aQ 31)).map af),.lst ((cm K (aQ (h0 / 10 ^ 10 % 32))).map af)]]⟩=o):bK tL n (.cons (.asg 16 (.lst (.cons (.int 0) .nil))) (.cons (.iS 17 (.exp (.var 15)) Nn) (.cons Tx (.cons TC (.cons (.own 20) (.cons (.iS 21 (.exp TD) Gp) (.cons TJ (.cons Tz B)))))))) ⟨r0::some (.lst [af h0,af h1,af h2,af h3,af h4])::r2::r3::r4::r5::r6::r7::r8::r9::pU::pV::pW::pX::pY::some (.lst ([en K 0,en K 1,en K 2,en K 3,en K 4].map af))::M8::t7::t8::t9::ua::ub::rR::rS::rT::H9::xK::z7::zR::zS::wL::pZ::ra::rc::[],[a0]⟩=o:=by
 have Vy:=Nm K (aQ 31)
 have NS:=TW hK hd
 have hch:=vW hK hd h3
 refine ao (bp (x:=.lst ([0].map af)) rfl) (ao (σ':=⟨r0::some (.lst [af h0,af h1,af h2,af h3,af h4])::r2::r3::r4::r5::r6::r7::r8::r9::pU::pV::pW::pX::pY::some (.lst ([en K 0,en K 1,en K 2,en K 3,en K 4].map af))::some (.lst (((abD 32).map (TT K)).map af))::some (af (en K 4))::t8::t9::ua::ub::rR::rS::rT::H9::xK::z7::zR::zS::wL::pZ::ra::rc::[],[a0]⟩) (gP (xs:=[en K 0,en K 1,en K 2,en K 3,en K 4].map af) (tO rfl rfl) ((ay (lx (m:=en K 0) (L:=[0]) ⋯) (ay (lx (m:=en K 1) (L:=CN [0] (en K 0)) (show 2≤32 by decide)) (ay (lx (m:=en K 2) (L:=CN (CN [0] (en K 0)) (en K 1)) (show 4≤32 by decide)) (ay (lx (m:=en K 3) (L:=CN (CN (CN [0] (en K 0)) (en K 1)) (en K 2)) (show 8≤32 by decide)) (ay (lx (m:=en K 4) (L:=CN (CN (CN (CN [0] (en K 0)) (en K 1)) (en K 2)) (en K 3)) (show 16≤32 by decide)) cR))))).trans (by rw [QU];rfl))) (ao (bp (x:=af O5) ?_) (ao (bp (x:=.lst ((dZ K).map af)) ?_) (ao rfl (ao (gP (xs:=[af 31,af (h0 / 10 ^ 10 % 32)]) (tO (x:=.tup [af 31,af (h0 / 10 ^ 10 % 32)]) ?_ rfl) (ay (xL hK ⋯ ⋯) (ay (xL hK %[a<32,qD 2 a b (32)|(aU rfl)] (show 1≤10 by decide)) cR))) (ao (ec (p:=false) ?_ bQ) (ao (bp (x:=af (nF K h3)) ?_) h)))))))
 · exact aA rfl (ae (x:=.lst ([1,1,1,1,1].map af)) rfl (ae rfl ak)) (bM (ys:=[.bor ([1,1,1,1,1].map af),af 6]) rfl (tY (n:=6) (ds:=[1,1,1,1,1]) ⋯ ⋯ ⋯ ⋯))
 · refine (uc (l:=abD 32) (p:=λ k=>gV (nb R5 K (aQ k)) (λ V=>false)) (f:=λ k=>k) (gp (i:=((32:Nat):Int)) rfl ⋯ |>.trans (congrArg some (vV 32))) (λ k hk=>?_) (λ k hk=>rfl) ⋯).trans ?_
   · have hk:=afj.mp hk
     refine (jQ (p:=gV (nb R5 K (aQ k)) (λ V=>false)) (q:=true) (aG (bq (x:=af (TT K k&&& O5)) (y:=af (bv λ V=>false)) (ah (x:=af (TT K k)) (y:=af O5) (bt rfl rfl (Er hk)) rfl M3) rfl (zN.trans ?_))) λ V=>lS).trans ?_
     · rw [Ni];exact congrArg some (CM _ _)
     · rw [agy]
   · rw [ai1]
     have:(λ k=>gV (nb R5 K (aQ k)) λ V=>false)=λ y=>!j8 (nb R5 K (aQ y)):=funext λ k=>by
      unfold gV j8
      simp only [Bool.xor_false]
     rw [this];rfl
 · exact gO (ae rfl (ae (ah (ah (x:=af h0) rfl (ah (x:=af 10) (y:=af 10) rfl rfl (vS ⋯)) (rP (fq (p:=10) ⋯).1 (fq (p:=10) ⋯).2)) rfl (iy (b:=32) ⋯ (p8 (e:=6) ⋯ ⋯))) ak)) rfl
 · exact aG (bq (bt rfl rfl (df (xs:=[.lst ((cm K (aQ 31)).map af),.lst ((cm K (aQ (h0 / 10 ^ 10 % 32))).map af)]) rfl ⋯ rfl)) (fe ak rfl) (XB NS))
 · have bc:(cm K (aQ 31)).length < 2 ^ 6:=%[a<(qL 2 6),a≤32|(aV Vy)]
   refine bt (y:=af (h3 % (cm K (aQ 31)).length)) (bt rfl rfl (df (xs:=[.lst ((cm K (aQ 31)).map af),.lst ((cm K (aQ (h0 / 10 ^ 10 % 32))).map af)]) rfl ⋯ rfl)) (ah (x:=af h3) (y:=af (cm K (aQ 31)).length) rfl (aA rfl (ae (bt rfl rfl (df (xs:=[.lst ((cm K (aQ 31)).map af),.lst ((cm K (aQ (h0 / 10 ^ 10 % 32))).map af)]) rfl ⋯ rfl)) ak) (zU rfl %[a≤1000,a≤32|(aV Vy)])) (iy NS (p8 bc ⋯))) (df rfl ⟨ac9 _,?_⟩ ?_)
   · have:=aeb h3 NS
     exact %[(qC a)⊂(qL 2 62),b≤32,a<b|aU Vy this]
   · rw [aaV,adk,hch.1];rfl
end
theorem vX:∀(n:Nat) (l:List Nat),l.length≤n->(dj l).length≤2 * l.length
 | _,[],_=>adV _
 | 0,c::l,h=>absurd h (by simp)
 | n+1,c::l,h=>by
   have h:l.length≤n:=by simpa using h
   have ih:=vX n l h
   conv=>lhs;unfold dj
   by_cases h1:c=13
   · erw [if_pos h1]
     cases l with
     | nil=>exact ac1 2
     | cons e r=>
       show (if e=10 then _ else _:List Nat).length≤_
       have hr:=vX n r (by have:(e::r).length=r.length+1:=rfl;exact %[a≤b,c≤b,c=a+1|cf h this])
       have e1:(e::r).length=r.length+1:=rfl
       have e2:(c::e::r).length=r.length+2:=rfl
       by_cases h2:e=10
       · erw [if_pos h2];show (dj r).length+1+1≤_;exact %[a+1<2*b,a≤2*c,b=c+2|cf hr e2]
       · erw [if_neg h2];show (dj (e::r)).length+1+1≤_;exact %[a+1<2*b,a≤2*c,c=d+1,b=d+2|dQ ih e1 e2]
   · erw [if_neg h1]
     by_cases h2:c=10
     · erw [if_pos h2];show (dj l).length+1+1≤2 * (l.length+1);exact %[a+1<2*(b+1),a≤2*b|aU ih]
     · erw [if_neg h2];show (dj l).length+1≤2 * (l.length+1);exact %[a<2*(b+1),a≤2*b|aU ih]
theorem vY:∀(b:Bool) (l:List Nat),(fj b l).length≤2 * l.length
 | b,[]=>by unfold fj;exact adV _
 | b,c::l=>by
   erw [fk ..]
   split
   · have:=vY false l;show (fj false l).length+1+1≤2 * (l.length+1);exact %[a+1<2*(b+1),a≤2*b|aU this]
   · have:=vY (c==10) l;show (fj (c==10) l).length+1≤2 * (l.length+1);exact %[a<2*(b+1),a≤2*b|aU this]
theorem Ic{rows:List (List Nat)}{bare:List Bool}{draw:Int}(h:∀r∈rows,r.length≤2000):(ek rows bare draw).length≤20000:=by
 have g:=Ct h
 have p0:=dY (bare:=bare) (draw:=draw) (g 0)
 have p1:=dY (bare:=bare) (draw:=draw) (g 1)
 have p2:=dY (bare:=bare) (draw:=draw) (g 2)
 have p3:=dY (bare:=bare) (draw:=draw) (g 3)
 have p4:=dY (bare:=bare) (draw:=draw) (g 4)
 have g5:=g 5
 have g6:=g 6
 have g7:=g 7
 have e4:=Cr draw
 unfold ek
 simp only [aao,ada,aec]
 exact %[a+b+c+d+e+(f+(0+1)+g+(0+1)+h+i)≤20000,a≤2003,b≤2003,c≤2003,d≤2003,e≤2003,f≤2000,g≤2000,h≤2000,i≤2|q90 p0 p1 p2 p3 p4 g5 g6 g7 e4]
theorem xM:∀l:List (List Nat),(l.map eV).mapM Xe=some l
 | []=>rfl
 | r::l=>by (erw [aaX,adu,xM l]);rfl
theorem vZ(he:∀p,p < 5->e p≤100)(hs:s≤100):∀r∈bP e f s b tl,r.length≤2000:=λ r hr=>by
 have hp:∀p,p < 5->(cX (e p) (f p)).length≤2000:=λ p h=>by
  have:=he p h
  skip
  erw [aao,adp];show _+1≤_;exact %[1+a<2000,a≤100|aV this]
 skip
 rcases abC.mp hr with hr | hr
 · simp only [aaB,aaP,or_false] at hr
   rcases hr with rfl | rfl | rfl | rfl | rfl | rfl | rfl | rfl
   · exact hp 0 ⋯
   · exact hp 1 ⋯
   · exact hp 2 ⋯
   · exact hp 3 ⋯
   · exact hp 4 ⋯
   · exact adV _
   · erw [adp];exact %[1+a≤2000,a≤100|aV hs]
   · show 2≤2000;decide
 · cases tl with
   | true=>
     rw [if_pos rfl] at hr
     erw [aaU.mp hr];exact adV _
   | false=>rw [if_neg ⋯] at hr;cases hr
theorem v9:(bP e f s b tl).length=if tl then 9 else 8:=by cases tl <;> rfl
theorem QX(hf:∀p,p < 5->fo (f p))(hb:fo b):∀r∈bP e f s b tl,∀c∈r,QG c:=λ r hr=>by
 skip
 rcases abC.mp hr with hr | hr
 · simp only [aaB,aaP,or_false] at hr
   rcases hr with rfl | rfl | rfl | rfl | rfl | rfl | rfl | rfl
   · exact jU (hf 0 ⋯)
   · exact jU (hf 1 ⋯)
   · exact jU (hf 2 ⋯)
   · exact jU (hf 3 ⋯)
   · exact jU (hf 4 ⋯)
   · exact λ c hc=>by cases hc
   · exact λ c hc=>by erw [(af4.mp hc).2];exact ⟨⋯,⋯⟩
   · intro c hc
     simp only [aaB,aaP,or_false] at hc
     rcases hc with rfl | rfl
     · exact hb.ok
     · exact ⟨⋯,⋯⟩
 · cases tl with
   | true=>
     rw [if_pos rfl] at hr
     erw [aaU.mp hr];exact λ c hc=>by cases hc
   | false=>rw [if_neg ⋯] at hr;cases hr
theorem QY{e f:Nat->Nat}{s b:Nat}{tl:Bool}{bare:List Bool}{dr:Int}(hf:∀p,p < 5->fo (f p))(hb:fo b)(zK:b≠46)(he:∀p,p < 5->e p≤100)(hs:s≤100)(hB:bare.length=5):
 tL (.ref 226) [.bor ((bP e f s b tl).map eV),.bor (bare.map .bool),.int dr]=some (.lst ((bP (λ p=>e p+(if (bare[p]?).getD false then 1 else 0)) f (s+1) b (decide (dr.fmod 4≠0))).map eV)):=by
 have SY:=vZ (f:=f) (b:=b) (tl:=tl) he hs
 have htl:=Ic (bare:=bare) (draw:=dr) SY
 show ML [.bor ((bP e f s b tl).map eV),.bor (bare.map .bool),.int dr]=_
 have h1:=vX _ (ek (bP e f s b tl) bare dr) (ac1 _)
 have h2:=vY true (dj (ek (bP e f s b tl) bare dr))
 have z:∀l:List Nat,(wS l).cps.size=l.length:=λ l=>bX l
 simp only [ML,so,aci,ach,sq,xM,zQ,aaT]
 rw [if_pos ⟨by rw [v9];split <;> decide,by rw [v9];split <;> decide,hB,SY,by rw [pR,z];exact %[a≤1000000,b≤20000,a≤2*b|aU htl h1],by rw [pR,xI,z];exact %[a≤1000000,b≤20000,c≤2*b,a≤2*c|cf htl h1 h2]⟩]
 erw [afY hf hb zK]
 generalize hR:bP (λ p=>e p+(if (bare[p]?).getD false then 1 else 0)) f (s+1) b (decide (dr.fmod 4≠0))=R
 have zY:=QX (e:=λ p=>e p+(if (bare[p]?).getD false then 1 else 0)) (s:=s+1) (tl:=decide (dr.fmod 4≠0)) hf hb
 rw [hR] at zY
 cases hc:R with
 | nil=>rw [hc] at hR;exact absurd (congrArg ae3 hR) (by erw [v9];split <;> decide)
 | cons r rs=>
   rw [hc] at zY
   erw [(show (wS [13,10]:Str)=wS cT from rfl),MU r rs λ x hx h13=>(zY x hx 13 h13).2 rfl,ade]
   rfl
section
set_option exponentiation.threshold 200
noncomputable abbrev Np:eU:=abZ
noncomputable def mh(c side i:Nat):Bool:=decide (c / 2 ^ i % 2=side)
noncomputable def eN(K:Nat->Nat->Bool)(c side i:Nat)(e:Nat->Nat):Nat->Nat:=λ p=>e p+bn (mh c side i&&K i p)
noncomputable def sN(c side i s:Nat):Nat:=s+bn (mh c side i)
noncomputable def tN(h4 c side i:Nat)(tl:Bool):Bool:=if mh c side i then decide ((h4 / 10 ^ 4+7 * i) % 4≠0) else tl
noncomputable def dN(h4 c side i dr:Nat):Nat:=if mh c side i then h4 / 10 ^ 4+7 * i else dr
theorem xN:∀l:List (List Nat),(l.map eV).mapM (j7 σ k)=some (l.map eV)
 | []=>rfl
 | z::l=>by
   erw [aaX,adu,xN l]
   cases k <;> rfl
noncomputable def zV(K:Nat->Nat->Bool)(i:Nat):List Bool:=[K i 0,K i 1,K i 2,K i 3,K i 4]
theorem QZ{σ:bB}{l:List (List Nat)}{K:Nat->Nat->Bool}{i:Nat}{d:Int}:[AV.lst (l.map eV),.lst ((zV K i).map .bool),.int d].mapM (j7 σ 3)=some [.bor (l.map eV),.bor ((zV K i).map .bool),.int d]:=by
 have e:j7 σ 3 (.lst (l.map eV))=some (.bor (l.map eV)):=by
  show ((l.map eV).mapM (j7 σ 2)).map AV.bor=_
  erw [xN ..];rfl
 erw [adu,e];rfl
theorem wa(h0:e 0=e' 0)(h1:e 1=e' 1)(h2:e 2=e' 2)(h3:e 3=e' 3)(h4:e 4=e' 4):bP e f s b tl=bP e' f s b tl:=by
 unfold bP
 rw [h0,h1,h2,h3,h4]
theorem oO{n h0 h1 h2 h3 h4 c side i s b dr:Nat}{K:Nat->Nat->Bool}{e f:Nat->Nat}{tl:Bool}{kn:List AV}{r0 r3 r4 r5 r6 r7 r8 r9 pU pV pW pX pY vT M8 t7 t8 t9 ua ub rR rS rT xK pZ ra rc:Option AV}{own:List (List AV)}(hi:i < 5)(hh:h4 < 2 ^ 40)(hk:kn[i]?=some (.lst ((zV K i).map .bool)))
(hf:∀p,p < 5->fo (f p))(hb:fo b)(zK:b≠46)(he:∀p,p < 5->e p≤100)(hs:s≤100):
 bK tL n Np ⟨r0::some (.lst [af h0,af h1,af h2,af h3,af h4])::some (.lst kn)::r3::r4::r5::r6::r7::r8::r9::pU::pV::pW::pX::pY::vT::M8::t7::t8::t9::ua::ub::rR::rS::rT::some (af c)::xK::some (.lst ((bP e f s b tl).map eV))::some (af dr)::some (af side)::some (af i)::pZ::ra::rc::[],own⟩=some (⟨r0::some (.lst [af h0,af h1,af h2,af h3,af h4])::some (.lst kn)::r3::r4::r5::r6::r7::r8::r9::pU::pV::pW::pX::pY::vT::M8::t7::t8::t9::ua::ub::rR::rS::rT::some (af c)::xK::some (.lst ((bP (eN K c side i e) f (sN c side i s) b (tN h4 c side i tl)).map eV))::some (af (dN h4 c side i dr))::some (af side)::some (af i)::pZ::ra::rc::[],own⟩,none):=by
 have acB:jV tL (.val (.cmp .Eq (.bin .BitAnd (.bin .RShift (.var 25) (.var 30)) (.int 1)) (.var 29))) ⟨r0::some (.lst [af h0,af h1,af h2,af h3,af h4])::some (.lst kn)::r3::r4::r5::r6::r7::r8::r9::pU::pV::pW::pX::pY::vT::M8::t7::t8::t9::ua::ub::rR::rS::rT::some (af c)::xK::some (.lst ((bP e f s b tl).map eV))::some (af dr)::some (af side)::some (af i)::pZ::ra::rc::[],own⟩=some (mh c side i):=
  aG (bq (x:=af (c / 2 ^ i % 2)) (y:=af side) (ah (x:=af (c / 2 ^ i)) (ah (x:=af c) (y:=af i) rfl rfl pP) rfl (xj.trans (congrArg (λ i=>some (AV.int i)) (Qo _)))) rfl zN)
 refine ao (ec acB ?_) bQ
 unfold eN sN tN dN
 cases mh c side i with
 | false=>
   refine bQ.trans ?_
   (rw [if_neg ⋯];erw [if_neg ⋯])
   rfl
 | true=>
   erw [if_pos rfl,if_pos rfl]
   generalize hdr:h4 / 10 ^ 4+7 * i=d
   have hfm:decide (((d:Nat):Int).fmod 4≠0)=decide (d % 4≠0):=by
    have:=fQ d 4
    rw [show ((4:Nat):Int)=4 from rfl] at this
    erw [this]
    (rw [agv];erw [decide_eq_true_eq,decide_eq_true_eq])
    lia
   have KN:=QY (tl:=tl) (bare:=zV K i) (dr:=(d:Int)) hf hb zK he hs rfl
   rw [hfm] at KN
   have hrc:bP (λ p=>e p+(if ((zV K i)[p]?).getD false then 1 else 0)) f (s+1) b (decide (d % 4≠0))=bP (λ p=>e p+bn (true&&K i p)) f (s+bn true) b (decide (d % 4≠0)):=wa rfl rfl rfl rfl rfl
   rw [hrc] at KN
   generalize hRR:bP (λ p=>e p+bn (true&&K i p)) f (s+bn true) b (decide (d % 4≠0))=RR at KN ⊢
   have bc:RR.length=if d % 4=0 then 8 else 9:=by
    erw [←hRR,v9]
    by_cases h:d % 4=0
    · erw [if_pos h,decide_eq_false (λ q=>q h)];rfl
    · erw [if_neg h,decide_eq_true h];rfl
   refine ao (bp (x:=af d) ?_) (ao (bp (x:=.lst (RR.map eV)) ?_) (ao (ec (p:=false) ?_ bQ) bQ))
   · erw [←hdr]
     have e7:aan ((7:Nat):Int)=3:=rfl
     have ei:=bN (a:=i) (k:=3) %[a<(qL 2 3),a<5|(aV hi)]
     exact ah (ah (x:=af h4) rfl (ah (x:=af 10) (y:=af 4) rfl rfl (vS ⋯)) (rP (fq (p:=4) ⋯).1 (fq (p:=4) ⋯).2)) (ah (x:=af 7) (y:=af i) rfl rfl (Gf %[a+b≤(qL 2 20),a=3,b≤3|(aU e7 ei)])) rQ
   · refine aA rfl (ae rfl (ae (bt rfl rfl (df rfl ⟨ac9 i,%[(qC a)⊂(qL 2 62),a<5|(aV hi)]⟩ (by erw [aaV ..];exact hk))) (ae rfl ak))) (bM (ys:=[.bor ((bP e f s b tl).map eV),.bor ((zV K i).map .bool),.int (d:Int)]) ?_ KN)
     exact QZ
   · refine aG ((bq (x:=af RR.length) (y:=af RR.length) (aA rfl (ae rfl ak) ((xm (xs:=RR.map eV) rfl (decide_eq_true ?_)).trans ?_)) (nC (p:=decide (d % 4=0)) (aG (bq (x:=af (d % 4)) (y:=af 0) (ah (x:=af d) rfl rfl (iy (b:=4) ⋯ (p8 (e:=3) ⋯ ⋯))) rfl zN)) ?_) H8).trans ?_)
     · erw [aar ..,bc];split <;> decide
     · erw [aar ..];rfl
     · erw [bc]
       by_cases h:d % 4=0
       · erw [if_pos h,decide_eq_true h];rfl
       · erw [if_neg h,decide_eq_false h];rfl
     · erw [decide_eq_true rfl];rfl
end
section
set_option exponentiation.threshold 200
noncomputable abbrev CP:eU:=(.cons (.iS 30 (.kP (.int 5)) Np)
 abX)
noncomputable def eS(K:Nat->Nat->Bool)(c side:Nat)(e:Nat->Nat):Nat->Nat:=eN K c side 4 (eN K c side 3 (eN K c side 2 (eN K c side 1 (eN K c side 0 e))))
noncomputable def sS(c side s:Nat):Nat:=sN c side 4 (sN c side 3 (sN c side 2 (sN c side 1 (sN c side 0 s))))
noncomputable def tQ(h4 c side:Nat)(tl:Bool):Bool:=tN h4 c side 4 (tN h4 c side 3 (tN h4 c side 2 (tN h4 c side 1 (tN h4 c side 0 tl))))
noncomputable def dS(h4 c side dr:Nat):Nat:=dN h4 c side 4 (dN h4 c side 3 (dN h4 c side 2 (dN h4 c side 1 (dN h4 c side 0 dr))))
noncomputable def eT(c side:Nat):Nat:=if side=1 then c else 31
theorem CQ:∀l:List Nat,(∀x∈l,x≤m)->(l.map af).mapM (Cp m)=some l
 | [],_=>rfl
 | x::l,h=>by
   have hx:=h x (.head _)
   have e:Cp m (af x)=some x:=by
    show (if 0≤(x:Int)∧(x:Int)≤m then some ((x:Int)).toNat else none)=_
    erw [if_pos ⟨%[0⊆(qC a)|(aV)],%[(qC a)⊆(qC b),a≤b|(aU hx)]⟩,aaV ..,rfl]
   erw [aaX,adu,e,CQ l λ y hy=>h y (.tail _ hy)];rfl
theorem Q0(h1:cs.length=5)(h2:ls.length=5)(h3:∀c∈ls,64≤c∧c < 128)(h4:∀c∈cs,c≤1000)(h5:w≤1000):
 tL (.ref 233) [.bor (cs.map af),.bor (ls.map dI),af w,.str (dP b)]=some (.lst ((wK cs ls w b).map af)):=by
 show Qr [.bor (cs.map af),.bor (ls.map dI),.int (w:Int),.str (dP b)]=_
 show (((cs.map af).mapM (Cp 1000)).bind λ cs=>(((ls.map dI).mapM xB).bind λ ls=>_))=_
 rw [CQ cs h4,aaT,zP,aaT]
 exact if_pos ⟨h1,h2,h3,h4,h5,rfl⟩
theorem Nq:∀{rows:List (List Nat)},x∈jn sep rows->x∈sep∨∃r∈rows,x∈r
 | [],h=>by cases h
 | [r],h=>.inr ⟨r,.head _,h⟩
 | r::r'::rs,h=>by
   rcases abC.mp (show x∈(r++sep)++jn sep (r'::rs) from h) with h | h
   · rcases abC.mp h with h | h
     · exact .inr ⟨r,.head _,h⟩
     · exact .inl h
   · rcases Nq h with h | ⟨q,hq,h⟩
     · exact .inl h
     · exact .inr ⟨q,.tail _ hq,h⟩
theorem Nr:∀{l:List Nat},(∀x∈l,x≤m)->l.sum≤m * l.length
 | [],_=>adV _
 | x::l,h=>by
   have h1:=h x (.head _)
   have h2:=Nr (l:=l) λ y hy=>h y (.tail _ hy)
   erw [aiJ,ada,ad5 ..,agk ..];exact %[a+b≤c*d+c,a≤c,b≤c*d|dQ h1 h2]
noncomputable def NV(c:Nat):Prop:=gh (dP c)=dP (bx c)
theorem Nt(hf:∀p,p < 5->NV (f p))(hb:NV b):∀r∈bP e f s b tl,∀c∈r,NV c:=λ r hr=>by
 have zK:NV 46:=by unfold NV;erw [dF (.inl rfl)];exact oC (.inl rfl)
 have hp:∀p,p < 5->∀c∈cX (e p) (f p),NV c:=λ p h c hc=>by
  skip
  rcases abC.mp hc with hc | hc
  · erw [(af4.mp hc).2];exact zK
  · erw [aaU.mp hc];exact hf p h
 skip
 rcases abC.mp hr with hr | hr
 · simp only [aaB,aaP,or_false] at hr
   rcases hr with rfl | rfl | rfl | rfl | rfl | rfl | rfl | rfl
   · exact hp 0 ⋯
   · exact hp 1 ⋯
   · exact hp 2 ⋯
   · exact hp 3 ⋯
   · exact hp 4 ⋯
   · exact λ c hc=>by cases hc
   · exact λ c hc=>by erw [(af4.mp hc).2];exact zK
   · intro c hc
     simp only [aaB,aaP,or_false] at hc
     rcases hc with rfl | rfl
     · exact hb
     · exact zK
 · cases tl with
   | true=>
     rw [if_pos rfl] at hr
     erw [aaU.mp hr];exact λ c hc=>by cases hc
   | false=>rw [if_neg ⋯] at hr;cases hr
theorem CT{K:Nat->Nat->Bool}{c side i:Nat}{e:Nat->Nat}{m:Nat}(h:∀p,p < 5->e p≤m):∀p,p < 5->eN K c side i e p≤m+1:=λ p hp=>by
 have:=h p hp
 have:=eY (mh c side i&&K i p)
 unfold eN;lia
theorem CU(h:s≤m):sN c side i s≤m+1:=by
 have:=eY (mh c side i)
 unfold sN;lia
theorem XC{K:Nat->Nat->Bool}{w:Nat}(H1:1≤cn K w 0):tL (.ref 59) [af (TT K w),af 6]=some (.lst ((Iy K w).map af)):=by
 have Db:=Gj K w
 have bD:∀x∈Iy K w,x < 2 ^ 6:=λ x hx=>by
  unfold Iy at hx
  simp only [aaB,aaP,or_false] at hx
  rcases hx with rfl | rfl | rfl | rfl | rfl <;> exact acZ (Db _) ⋯
 have RY:2 ^ (6 * ((Iy K w).length - 1))≤ck 6 (Iy K w):=by
  show 2 ^ (6 * 4)≤cn K w 4+2 ^ 6 * (cn K w 3+2 ^ 6 * (cn K w 2+2 ^ 6 * (cn K w 1+2 ^ 6 * (cn K w 0+2 ^ 6 * 0))))
  lia
 have hg:=vQ (n:=6) (ds:=Iy K w) ⋯ (by show 6 * 5 < _;decide) (by show 1≤5;decide) bD RY
 rw [←TV] at hg
 generalize TT K w=x at *
 exact hg
structure Et (f l:Nat->Nat) (b:Nat):Prop where
 Ie:∀p,p < 5->fo (f p)
 xO:fo b
 ne:b≠46
 fok:∀p,p < 5->NV (f p)
 bok:NV b
 fold:∀p,p < 5->bx (f p)=l p∧64≤l p∧l p < 128
 TX:bx b=b
theorem xP{n h0 h1 h2 h3 h4 c side s b dr l0 l1 l2 l3 l4:Nat}{K:Nat->Nat->Bool}{e f l:Nat->Nat}{tl:Bool}{kn:List AV}{r0 r3 r5 r6 r7 r8 r9 pU pV pW pX pY vT t7 t8 t9 ua ub rR rS rT wL pZ ra rc:Option AV}{own:List (List AV)}(hh:h4 < 2 ^ 40)(hk:∀i,i < 5->kn[i]?=some (.lst ((zV K i).map .bool)))
(M:Et f l b)(Ix:l 0=l0)(GO:l 1=l1)(yN:l 2=l2)(hl3:l 3=l3)(hl4:l 4=l4)(he:∀p,p < 5->e p≤20)(hs:s≤20)(hc:c < 32)
(HE:∀p,p < 5->eS K c side e p=cn K (eT c side) p)(HS:sS c side s=di (eT c side))(HT:tQ h4 c side tl=decide (dS h4 c side dr % 4≠0))(H1:1≤cn K (eT c side) 0):
 bK tL n CP ⟨r0::some (.lst [af h0,af h1,af h2,af h3,af h4])::some (.lst kn)::r3::some (.lst ([l0,l1,l2,l3,l4].map dI))::r5::r6::r7::r8::r9::pU::pV::pW::pX::pY::vT::some (.lst (((abD 32).map (TT K)).map af))::t7::t8::t9::ua::ub::rR::rS::rT::some (af c)::some (.str (dP b))::some (.lst ((bP e f s b tl).map eV))::some (af dr)::some (af side)::wL::pZ::ra::rc::[],own⟩=some (⟨r0::some (.lst [af h0,af h1,af h2,af h3,af h4])::some (.lst kn)::r3::some (.lst ([l0,l1,l2,l3,l4].map dI))::r5::r6::r7::r8::r9::pU::pV::pW::pX::pY::vT::some (.lst (((abD 32).map (TT K)).map af))::t7::t8::t9::ua::ub::rR::rS::rT::some (af c)::some (.str (dP b))::some (.lst ((bP (eS K c side e) f (sS c side s) b (tQ h4 c side tl)).map eV))::some (af (dS h4 c side dr))::some (af side)::some (af 4)::some (af (eT c side))::some (.lst ((Iy K (eT c side)).map af))::some (.lst ((wK [cn K (eT c side) 0,cn K (eT c side) 1,cn K (eT c side) 2,cn K (eT c side) 3,cn K (eT c side) 4] [l0,l1,l2,l3,l4] (di (eT c side)) b++(if tQ h4 c side tl then [13,10] else [])).map af))::[],own⟩,none):=by
 have bY:aaW=16777216:=rfl
 have he0:=CT (K:=K) (c:=c) (side:=side) (i:=0) he
 have he1:=CT (K:=K) (c:=c) (side:=side) (i:=1) he0
 have he2:=CT (K:=K) (c:=c) (side:=side) (i:=2) he1
 have he3:=CT (K:=K) (c:=c) (side:=side) (i:=3) he2
 have he4:=CT (K:=K) (c:=c) (side:=side) (i:=4) he3
 have hs0:=CU (c:=c) (side:=side) (i:=0) hs
 have hs1:=CU (c:=c) (side:=side) (i:=1) hs0
 have hs2:=CU (c:=c) (side:=side) (i:=2) hs1
 have hs3:=CU (c:=c) (side:=side) (i:=3) hs2
 have hs4:=CU (c:=c) (side:=side) (i:=4) hs3
 have hw:eT c side < 32:=by unfold eT;split <;> (first | exact %[a<32,a<32|aV hc] | exact %[31<32|Rq])
 refine ao (σ':=⟨r0::some (.lst [af h0,af h1,af h2,af h3,af h4])::some (.lst kn)::r3::some (.lst ([l0,l1,l2,l3,l4].map dI))::r5::r6::r7::r8::r9::pU::pV::pW::pX::pY::vT::some (.lst (((abD 32).map (TT K)).map af))::t7::t8::t9::ua::ub::rR::rS::rT::some (af c)::some (.str (dP b))::some (.lst ((bP (eS K c side e) f (sS c side s) b (tQ h4 c side tl)).map eV))::some (af (dS h4 c side dr))::some (af side)::some (af 4)::pZ::ra::rc::[],own⟩) (gP (xs:=bI 0 5) (lT rfl ⋯) (ay (oO (i:=0) (e:=e) (s:=s) ⋯ hh (hk 0 ⋯) M.Ie M.xO M.ne (λ p h=>by have:=he p h;exact %[a≤100,a≤20|aV this]) %[a≤100,a≤20|(aV hs)]) (ay (oO (i:=1) (e:=(eN K c side 0 e)) (s:=(sN c side 0 s)) ⋯ hh (hk 1 ⋯) M.Ie M.xO M.ne (λ p h=>by have:=he0 p h;exact %[a≤100,a≤20+1|aV this]) %[a≤100,a≤20+1|(aV hs0)]) (ay (oO (i:=2) (e:=(eN K c side 1 (eN K c side 0 e))) (s:=(sN c side 1 (sN c side 0 s))) ⋯ hh (hk 2 ⋯) M.Ie M.xO M.ne (λ p h=>by have:=he1 p h;exact %[a≤100,a≤20+1+1|aV this]) %[a≤100,a≤20+1+1|(aV hs1)]) (ay (oO (i:=3) (e:=(eN K c side 2 (eN K c side 1 (eN K c side 0 e)))) (s:=(sN c side 2 (sN c side 1 (sN c side 0 s)))) ⋯ hh (hk 3 ⋯) M.Ie M.xO M.ne (λ p h=>by have:=he2 p h;exact %[a≤100,a≤20+1+1+1|aV this]) %[a≤100,a≤20+1+1+1|(aV hs2)]) (ay (oO (i:=4) (e:=(eN K c side 3 (eN K c side 2 (eN K c side 1 (eN K c side 0 e))))) (s:=(sN c side 3 (sN c side 2 (sN c side 1 (sN c side 0 s))))) ⋯ hh (hk 4 ⋯) M.Ie M.xO M.ne (λ p h=>by have:=he3 p h;exact %[a≤100,a≤20+1+1+1+1|aV this]) %[a≤100,a≤20+1+1+1+1|(aV hs3)]) cR)))))) ?_
 have FM:bP (eS K c side e) f (sS c side s) b (tQ h4 c side tl)=bP (cn K (eT c side)) f (di (eT c side)) b (tQ h4 c side tl):=by
  rw [HS]
  exact wa (HE 0 ⋯) (HE 1 ⋯) (HE 2 ⋯) (HE 3 ⋯) (HE 4 ⋯)
 rw [FM]
 have hwr:bj tL (.yx (.val (.cmp .Eq (.var 29) (.int 1))) (.var 25) (.int 31)) ⟨r0::some (.lst [af h0,af h1,af h2,af h3,af h4])::some (.lst kn)::r3::some (.lst ([l0,l1,l2,l3,l4].map dI))::r5::r6::r7::r8::r9::pU::pV::pW::pX::pY::vT::some (.lst (((abD 32).map (TT K)).map af))::t7::t8::t9::ua::ub::rR::rS::rT::some (af c)::some (.str (dP b))::some (.lst ((bP (eS K c side e) f (sS c side s) b (tQ h4 c side tl)).map eV))::some (af (dS h4 c side dr))::some (af side)::some (af 4)::pZ::ra::rc::[],own⟩=some (af (eT c side)):=by
  refine nC (p:=decide (side=1)) (aG (bq (x:=af side) (y:=af 1) rfl rfl zN)) ?_
  unfold eT
  by_cases h:side=1
  · rw [decide_eq_true h,if_pos rfl,if_pos h];rfl
  · rw [decide_eq_false h,if_neg h];rfl
 rw [FM] at hwr
 have hon:di (eT c side)≤25:=by rw [←HS];exact hs4
 generalize eT c side=w at *
 generalize htl:tQ h4 c side tl=T at *
 have Db:=Gj K w
 have Nu:∀p,p < 5->64≤l p∧l p < 128:=λ p hp=>(M.fold p hp).2
 have q0:=Nu 0 ⋯
 have q1:=Nu 1 ⋯
 have q2:=Nu 2 ⋯
 have q3:=Nu 3 ⋯
 have q4:=Nu 4 ⋯
 have Bi:=H6 (e:=cn K w) (s:=di w) (b:=b) (tl:=T) M.fold M.TX
 rw [Ix,GO,yN,hl3,hl4] at Bi
 rw [Ix] at q0
 rw [GO] at q1
 rw [yN] at q2
 rw [hl3] at q3
 rw [hl4] at q4
 have af5:(wK [cn K w 0,cn K w 1,cn K w 2,cn K w 3,cn K w 4] [l0,l1,l2,l3,l4] (di w) b).length≤200:=by
  have z0:=Db 0
  have z1:=Db 1
  have z2:=Db 2
  have z3:=Db 3
  have z4:=Db 4
  have e:(ah9 eQ [cn K w 0,cn K w 1,cn K w 2,cn K w 3,cn K w 4] [l0,l1,l2,l3,l4]).flatten=eQ (cn K w 0) l0++(eQ (cn K w 1) l1++(eQ (cn K w 2) l2++(eQ (cn K w 3) l3++(eQ (cn K w 4) l4++[])))):=rfl
  unfold wK ji
  rw [e]
  simp only [aao,lW,adp,ada,aec]
  split <;> simp only [ada,aec] <;> lia
 have acC:=Q0 (cs:=[cn K w 0,cn K w 1,cn K w 2,cn K w 3,cn K w 4]) (ls:=[l0,l1,l2,l3,l4]) (w:=di w) (b:=b) rfl rfl (λ x hx=>by
  simp only [aaB,aaP,or_false] at hx
  rcases hx with rfl | rfl | rfl | rfl | rfl <;> assumption) (λ x hx=>by
  simp only [aaB,aaP,or_false] at hx
  rcases hx with rfl | rfl | rfl | rfl | rfl <;> exact acW (Db _) ⋯) %[a≤1000,a≤25|(aV hon)]
 generalize wK [cn K w 0,cn K w 1,cn K w 2,cn K w 3,cn K w 4] [l0,l1,l2,l3,l4] (di w) b=due at *
 have SY:=vZ (e:=cn K w) (f:=f) (s:=di w) (b:=b) (tl:=T) (λ p V=>acW (Db p) ⋯) %[a≤100,a≤25|(aV hon)]
 have af6:=Nt (e:=cn K w) (f:=f) (s:=di w) (b:=b) (tl:=T) M.fok M.bok
 have X1:(bP (cn K w) f (di w) b T).length≤9:=by rw [v9];split <;> decide
 generalize bP (cn K w) f (di w) b T=RR at *
 have zc:(RR.map ae3).sum≤18000:=by
  have:=Nr (m:=2000) (l:=RR.map ae3) λ x hx=>by
   obtain ⟨r,hr,rfl⟩:=adb.mp hx
   exact SY r hr
  rw [aar] at this;exact %[a≤18000,b≤9,a≤2000*b|aU X1 this]
 have hjl:=MH cT RR
 rw [show cT.length=2 from rfl] at hjl
 refine ao (bp (x:=af w) hwr) (ao (bp (x:=.lst ((Iy K w).map af)) ?_) (ao (ec (p:=false) ?_ bQ) (ao (bp (x:=.lst ((due++(if T then [13,10] else [])).map af)) ?_) (ao (ec (p:=false) ?_ bQ) bQ))))
 · exact aA rfl (ae (bt rfl rfl (Er hw)) (ae rfl ak)) (bM (ys:=[af (TT K w),af 6]) rfl (XC H1))
 · exact aG (bq (x:=af 5) (y:=af 5) (aA rfl (ae rfl ak) (zU (l:=Iy K w) rfl (by show 5≤1000;decide))) rfl H8)
 · rw [aa6]
   refine ah (x:=.lst (due.map af)) (aA rfl (ae (x:=.lst ([cn K w 0,cn K w 1,cn K w 2,cn K w 3,cn K w 4].map af)) ((pM (v:=.none) rfl rfl rfl (nB rfl) (lh rfl rfl rfl rfl ⋯ (by rw [aar];show 5≤aaW;exact %[5≤a,a=16777216|aV bY]))).trans ?_) (ae rfl (ae (aA rfl (ae rfl ak) (bM (ys:=[af w]) rfl Gn)) (ae rfl ak)))) (bM (ys:=[.bor ([cn K w 0,cn K w 1,cn K w 2,cn K w 3,cn K w 4].map af),.bor ([l0,l1,l2,l3,l4].map dI),af (di w),.str (dP b)]) rfl acC)) (nC (p:=decide (dS h4 c side dr % 4=0)) (x:=.lst ((if T then [13,10] else []:List Nat).map af)) (aG (bq (x:=af (dS h4 c side dr % 4)) (y:=af 0) (ah (x:=af (dS h4 c side dr)) rfl rfl (iy (b:=4) ⋯ (p8 (e:=3) ⋯ ⋯))) rfl zN)) ?_) (j5 rfl rfl (decide_eq_true ?_))
   · rw [iw]
     unfold Iy
     rw [acw]
   · rw [HT]
     by_cases h:dS h4 c side dr % 4=0
     · rw [decide_eq_true h,decide_eq_false (λ q=>q h)];exact fe ak rfl
     · rw [decide_eq_false h,decide_eq_true h];exact fe (ae rfl (ae rfl ak)) rfl
   · rw [aar,aar]
     have:(if T then [13,10] else []:List Nat).length≤2:=by cases T <;> decide
     exact %[a+b≤c,c=16777216,a≤200,b≤2|cf bY af5 this]
 · have hq:∀x∈jn cT RR,gh (dP x)=dP (bx x):=by
    intro x hx
    rcases Nq hx with h | ⟨r,hr,h⟩
    · simp only [aaB,aaP,or_false] at h
      rcases h with rfl | rfl
      · rw [dF (.inr (.inl rfl))];exact oC (.inr (.inl rfl))
      · rw [dF (.inr (.inr rfl))];exact oC (.inr (.inr rfl))
    · exact af6 r hr x h
   have c1:tL (.ref 199) [.str (wS (jn cT RR))]=some (.str (wS ((jn cT RR).map bx))):=Gi %[a≤(qL 2 20),b≤9,c≤18000,a≤c+b*2|(cf X1 zc hjl)] hq
   have c2:tL (.ref 204) [.str (wS ((jn cT RR).map bx))]=some (.lst ((due++(if T then [13,10] else [])).map af)):=by
    rw [←Bi]
    exact tZ (by rw [aar];exact %[a<(qL 2 20),b≤9,c≤18000,a≤c+b*2|cf X1 zc hjl])
   have c3:∀σ:bB,kS σ (.str (wS cT)) "join" [.lst (RR.map eV)]=some (.str (wS (jn cT RR))):=λ σ=>Ej rfl (by show _+_ * 2≤_;exact %[a+b*2≤16777216,b≤9,a≤18000|aU X1 zc])
   generalize (jn cT RR).map bx=Z2 at *
   generalize jn cT RR=Z1 at *
   exact aG (bq (x:=.lst ((due++(if T then [13,10] else [])).map af)) (y:=.lst ((due++(if T then [13,10] else [])).map af)) (aA rfl (ae (x:=.str (wS Z2)) (aA rfl (ae (x:=.str (wS Z1)) (lR (x:=.str (wS cT)) (xs:=[.lst (RR.map eV)]) rfl (ae rfl ak) (c3 _)) ak) (bM (ys:=[.str (wS Z1)]) rfl c1)) ak) (bM (ys:=[.str (wS Z2)]) rfl c2)) rfl (zO rfl rfl))
end
section
set_option exponentiation.threshold 200
theorem nG(c i:Nat):mh c 1 i=aQ c i:=Go c i
theorem wM(c i:Nat):mh c 0 i=!aQ c i:=by
 unfold mh aQ
 rcases aed (c / 2 ^ i) with h | h <;> rw [h] <;> rfl
theorem Nv(K:Nat->Nat->Bool)(c side:Nat)(e:Nat->Nat)(p:Nat):eS K c side e p=e p+bn (mh c side 0&&K 0 p)+bn (mh c side 1&&K 1 p)+bn (mh c side 2&&K 2 p)+bn (mh c side 3&&K 3 p)+bn (mh c side 4&&K 4 p):=rfl
theorem Nw(c side s:Nat):sS c side s=s+bn (mh c side 0)+bn (mh c side 1)+bn (mh c side 2)+bn (mh c side 3)+bn (mh c side 4):=rfl
theorem wc(c:Nat):di c=bn (aQ c 0)+bn (aQ c 1)+bn (aQ c 2)+bn (aQ c 3)+bn (aQ c 4):=by
 have e:∀i,c / 2 ^ i % 2=bn (aQ c i):=λ i=>by
  unfold aQ
  rcases aed (c / 2 ^ i) with h | h <;> rw [h] <;> rfl
 show c / 2 ^ 0 % 2+(c / 2 ^ 1 % 2+(c / 2 ^ 2 % 2+(c / 2 ^ 3 % 2+(c / 2 ^ 4 % 2+0))))=_
 erw [e ..,e ..,e ..,e ..,e ..];exact %[a+(b+(c+(d+(e+0))))=a+b+c+d+e|rU]
theorem Nx(K:Nat->Nat->Bool)(c p:Nat):eS K c 1 (λ V=>0) p=cn K c p:=by
 erw [Nv ..,nG ..,nG ..,nG ..,nG ..,nG ..,ae7 ..];rfl
theorem Eu(c:Nat):sS c 1 0=di c:=by
 erw [Nw ..,nG ..,nG ..,nG ..,nG ..,nG ..,wc ..];exact %[0+a+b+c+d+e=a+b+c+d+e|rU]
theorem oP(a k:Bool):bn (a&&k)+bn (!a&&k)=bn (true&&k):=by cases a <;> cases k <;> rfl
theorem ly(a:Bool):bn a+bn (!a)=1:=by cases a <;> rfl
theorem Q5(K:Nat->Nat->Bool)(c p:Nat):eS K c 0 (cn K c) p=cn K 31 p:=by
 have h0:=oP (aQ c 0) (K 0 p)
 have h1:=oP (aQ c 1) (K 1 p)
 have h2:=oP (aQ c 2) (K 2 p)
 have h3:=oP (aQ c 3) (K 3 p)
 have h4:=oP (aQ c 4) (K 4 p)
 erw [Nv ..,wM ..,wM ..,wM ..,wM ..,wM ..]
 show _=bn (true&&K 0 p)+bn (true&&K 1 p)+bn (true&&K 2 p)+bn (true&&K 3 p)+bn (true&&K 4 p)
 unfold cn
 exact %[a+b+c+d+e+f+g+h+i+j=(.v 10)+(.v 11)+(.v 12)+(.v 13)+(.v 14),a+f=(.v 10),b+g=(.v 11),c+h=(.v 12),d+i=(.v 13),e+j=(.v 14)|Yn h0 h1 h2 h3 h4]
theorem Q6(c:Nat):sS c 0 (di c)=di 31:=by
 have h0:=ly (aQ c 0)
 have h1:=ly (aQ c 1)
 have h2:=ly (aQ c 2)
 have h3:=ly (aQ c 3)
 have h4:=ly (aQ c 4)
 erw [Nw ..,wM ..,wM ..,wM ..,wM ..,wM ..,wc ..]
 show _=5
 exact %[a+b+c+d+e+f+g+h+i+j=5,a+f=1,b+g=1,c+h=1,d+i=1,e+j=1|IQ h0 h1 h2 h3 h4]
noncomputable def JJ(tl:Bool)(dr:Nat):Prop:=tl=decide (dr % 4≠0)
theorem ce(h:mh c side i=true∨JJ tl dr):JJ (tN h4 c side i tl) (dN h4 c side i dr):=by
 unfold tN dN
 cases hw:mh c side i with
 | true=>(rw [if_pos rfl];erw [if_pos rfl]);rfl
 | false=>
   erw [if_neg ⋯,if_neg ⋯]
   rcases h with h | h
   · rw [hw] at h;exact e8 h
   · exact h
theorem Ny(h:(mh c side 0||mh c side 1||mh c side 2||mh c side 3||mh c side 4)=true∨JJ tl dr):JJ (tQ h4 c side tl) (dS h4 c side dr):=by
 unfold tQ dS
 rcases h with h | h
 · simp only [afr] at h
   rcases h with (((h | h) | h) | h) | h
   · exact ce (.inr (ce (.inr (ce (.inr (ce (.inr (ce (.inl h)))))))))
   · exact ce (.inr (ce (.inr (ce (.inr (ce (.inl h)))))))
   · exact ce (.inr (ce (.inr (ce (.inl h)))))
   · exact ce (.inr (ce (.inl h)))
   · exact ce (.inl h)
 · exact ce (.inr (ce (.inr (ce (.inr (ce (.inr (ce (.inr h)))))))))
theorem XD{K:Nat->Nat->Bool}{c:Nat}(h:nb R5 K (aQ c) 0=true):1≤cn K c 0:=by
 have:=ri K c 0
 rw [h] at this
 have e:bn true=1:=rfl
 lia
theorem CV{K:Nat->Nat->Bool}{c:Nat}(h:1≤cn K c 0):(mh c 1 0||mh c 1 1||mh c 1 2||mh c 1 3||mh c 1 4)=true:=by
 erw [nG ..,nG ..,nG ..,nG ..,nG ..]
 unfold cn at h
 cases h0:aQ c 0 with
 | true=>rfl
 | false=>
   cases h1:aQ c 1 with
   | true=>rfl
   | false=>
     cases h2:aQ c 2 with
     | true=>rfl
     | false=>
       cases h3:aQ c 3 with
       | true=>rfl
       | false=>
         cases h4:aQ c 4 with
         | true=>rfl
         | false=>
           rw [h0,h1,h2,h3,h4] at h
           exact absurd (show 1≤0 from h) ⋯
theorem acE{K:Nat->Nat->Bool}(hd:∀i,K i i=true):1≤cn K 31 0:=by
 have:bn (aQ 31 0&&K 0 0)=1:=by erw [hd ..];rfl
 unfold cn;exact %[1≤a+b+c+d+e,a=1|rU this]
theorem XE(k:Nat->Nat)(d:Nat->Int)(db:Int)(hk:∀p,p < 5->k p < 26):Et (λ p=>frm (97+k p) (d p)) (λ p=>97+k p) (HV db) where
 Ie p h:=⟨fS (by have:=xA (hk p h) (d p);exact %[ud (a<173) (65279<a),ud (bG (a<173) (65≤a)) (65279<a)|aV this]),by have:=xA (hk p h) (d p);unfold QG;exact %[bG (cY (a=10)) (cY (a=13)),ud (bG (a<173) (65≤a)) (65279<a)|aV this]⟩
 xO:=by
  have hr:=bO db (m:=16) ⋯
  have h3:=eP (l:=dX) (p:=λ i=>decide (172≤i)) ⋯ hr.1 hr.2
  have hb:=W5 db
  have e:172≤HV db:=by
   have:=of_decide_eq_true h3
   unfold HV My;exact %[172≤a,172⊆a,qD 4 a a (0)|T9 this rfl]
  exact ⟨by unfold dq;erw [hb];rfl,by unfold QG;exact %[bG (cY (a=10)) (cY (a=13)),172≤a|aV e]⟩
 ne:=by
  have hr:=bO db (m:=16) ⋯
  have h3:=eP (l:=dX) (p:=λ i=>decide (172≤i)) ⋯ hr.1 hr.2
  have:=of_decide_eq_true h3
  unfold HV My;exact %[cY (a=46),172⊆a,qD 4 a a (0)|T9 this rfl]
 fok p h:=by
  unfold NV bx
  rw [Cj (hk p h)];rfl
 bok:=by
  unfold NV bx
  rw [Ck];rfl
 fold p h:=⟨by unfold bx;erw [Cj (hk p h) ..];rfl,by have:=hk p h;exact %[bG (64≤97+a) (97+a<128),a<26|aV this]⟩
 TX:=by unfold bx;erw [Ck ..];rfl
end
section
set_option exponentiation.threshold 200
noncomputable def jm(h1:Nat):Nat:=h1 % 100 % 22
theorem XF:tL (.ref 209) [.int z]=some (.lst (HR z)):=rfl
theorem Gq:∀l:List Int,(l.map AV.int).mapM (j7 σ k)=some (l.map AV.int)
 | []=>rfl
 | z::l=>by
   erw [aaX,adu,Gq l]
   cases k <;> rfl
theorem Q7{σ:bB}{l:List Int}:[AV.bor (l.map .int)].mapM (j7 σ 3)=some [.bor (l.map .int)]:=by
 have e:j7 σ 3 (.bor (l.map .int))=some (.bor (l.map .int)):=by
  show ((l.map AV.int).mapM (j7 σ 2)).map AV.bor=_
  erw [Gq ..];rfl
 erw [adu,e];rfl
theorem Ev{n h0 h1 h2 h3 h4:Nat}{zs:List Int}{B:eU}{o:yK}(Nz:tL (.ref 166) [.bor (zs.map .int)]=some (.lst [af h0,af h1,af h2,af h3,af h4]))
(h:bK tL n B ⟨some (.bor (zs.map .int))::some (.lst [af h0,af h1,af h2,af h3,af h4])::some (.lst (HR (h0:Int)))::some (af 4)::some (.lst ([97+(jm h1+0),97+(jm h1+1),97+(jm h1+2),97+(jm h1+3),97+(jm h1+4)].map dI))::some (.own 0)::some (af (h2 / 10 ^ 4 % 10 % 6))::some (.str (wS ([du (KK (h0:Int) 4 0) (97+(jm h1+0)),du (KK (h0:Int) 4 1) (97+(jm h1+1)),du (KK (h0:Int) 4 2) (97+(jm h1+2)),du (KK (h0:Int) 4 3) (97+(jm h1+3)),du (KK (h0:Int) 4 4) (97+(jm h1+4))]++[13])))::some (.lst ([Eo (97+(jm h1+0) - 64 - 32 * bn (KK (h0:Int) 4 0)) (97+(jm h1+1) - 64 - 32 * bn (KK (h0:Int) 4 1)) (97+(jm h1+2) - 64 - 32 * bn (KK (h0:Int) 4 2)) (97+(jm h1+3) - 64 - 32 * bn (KK (h0:Int) 4 3)) (97+(jm h1+4) - 64 - 32 * bn (KK (h0:Int) 4 4))].map af))::some (.lst ([Eo (97+(jm h1+0) - 64) (97+(jm h1+1) - 64) (97+(jm h1+2) - 64) (97+(jm h1+3) - 64) (97+(jm h1+4) - 64)].map af))::none::none::none::none::none::none::none::none::none::none::none::none::none::none::none::none::none::none::none::none::none::none::none::none::[],[[2048 * en (KK (h0:Int)) 0,2048 * en (KK (h0:Int)) 1,2048 * en (KK (h0:Int)) 2,2048 * en (KK (h0:Int)) 3,2048 * en (KK (h0:Int)) 4].map af]⟩=o):
 bK tL n (.cons (.asg 1 (.call (.glob "_law_heaps" (.obj (.ref 166))) (.cons (.var 0) .nil)))
 (.cons (.asg 2 (.call (.glob "_law_knows" (.obj (.ref 209))) (.cons (.idx (.var 1) (.int 0)) .nil)))
 (.cons Tw
 (.cons (.own 5)
 (.cons (.iS 3 (.kP (.int 5)) M5) B))))) ⟨some (.bor (zs.map .int))::none::none::none::none::none::none::none::none::none::none::none::none::none::none::none::none::none::none::none::none::none::none::none::none::none::none::none::none::none::none::none::none::none::[],[]⟩=o:=by
 have low:∀p,p < 5->ey (97+(jm h1+p)):=λ p hp=>by unfold ey jm;exact %[bG (97≤97+(a+b)) (97+(a+b)≤122),b<5,qD 2 a c (22)|cf hp rfl]
 refine ao (bp (x:=.lst [af h0,af h1,af h2,af h3,af h4]) (aA rfl (ae (x:=.bor (zs.map .int)) rfl ak) (bM (ys:=[.bor (zs.map .int)]) ?_ Nz))) (ao (bp (x:=.lst (HR (h0:Int))) (aA rfl (ae (x:=af h0) (bt rfl rfl (df rfl ⋯ rfl)) ak) (bM (ys:=[af h0]) rfl XF))) (ao (bp (x:=.lst ([97+(jm h1+0),97+(jm h1+1),97+(jm h1+2),97+(jm h1+3),97+(jm h1+4)].map dI)) ?_) (ao rfl (ao (gP (xs:=bI 0 5) (lT rfl ⋯) (ay (fT (r3:=none) (p:=0) (lk:=[]) ⋯ rfl (low 0 ⋯) (low 1 ⋯) (low 2 ⋯) (low 3 ⋯) (low 4 ⋯) (show 0≤100 by decide)) (ay (fT (r3:=none) (p:=1) (lk:=[2048 * en (KK (h0:Int)) 0]) ⋯ rfl (low 0 ⋯) (low 1 ⋯) (low 2 ⋯) (low 3 ⋯) (low 4 ⋯) (show 1≤100 by decide)) (ay (fT (r3:=none) (p:=2) (lk:=[2048 * en (KK (h0:Int)) 0,2048 * en (KK (h0:Int)) 1]) ⋯ rfl (low 0 ⋯) (low 1 ⋯) (low 2 ⋯) (low 3 ⋯) (low 4 ⋯) (show 2≤100 by decide)) (ay (fT (r3:=none) (p:=3) (lk:=[2048 * en (KK (h0:Int)) 0,2048 * en (KK (h0:Int)) 1,2048 * en (KK (h0:Int)) 2]) ⋯ rfl (low 0 ⋯) (low 1 ⋯) (low 2 ⋯) (low 3 ⋯) (low 4 ⋯) (show 3≤100 by decide)) (ay (fT (r3:=none) (p:=4) (lk:=[2048 * en (KK (h0:Int)) 0,2048 * en (KK (h0:Int)) 1,2048 * en (KK (h0:Int)) 2,2048 * en (KK (h0:Int)) 3]) ⋯ rfl (low 0 ⋯) (low 1 ⋯) (low 2 ⋯) (low 3 ⋯) (low 4 ⋯) (show 4≤100 by decide)) cR)))))) h))))
 · exact Q7
 · refine (jR (xs:=bI 0 5) (g:=λ x=>match x with | .int p=>dI (97+(jm h1+p.toNat)) | _=>.none) (gp rfl ⋯) (λ x hx=>?_) ⋯).trans rfl
   (refine bF (oE hx) λ p hp cB=>?_;obtain rfl:=cB)
   have e:(AV.str ⟨#[((97+(jm h1+p):Nat):Int).toNat]⟩)=dI (97+(jm h1+p)):=by erw [aaV ..,rfl]
   refine (aA rfl (ae (x:=af (97+(jm h1+p))) ((ah (x:=af (97+jm h1)) (y:=af p) (ah (x:=af 97) (y:=af (jm h1)) rfl (ah (x:=af (h1 % 100)) (y:=af 22) (ah (x:=af h1) (y:=af 100) (bt rfl rfl (df rfl ⋯ rfl)) rfl (iy (b:=100) ⋯ (p8 (e:=7) ⋯ ⋯))) rfl (iy (b:=22) ⋯ (p8 (e:=6) ⋯ ⋯))) rQ) rfl rQ).trans (by erw [agB ..,rfl])) ak) (BU ?_)).trans ?_
   · unfold jm
     rw [aaQ]
     exact ⟨decide_eq_true %[0⊆(qC (97+(a+b)))|(aU)],decide_eq_true %[(qC (97+(a+b)))⊆1114111,b<5,qD 2 a c (22)|(cf hp rfl)]⟩
   · erw [e]
     show _=some (dI (97+(jm h1+((p:Int)).toNat)))
     erw [aaV ..,rfl]
end
section
set_option exponentiation.threshold 200
noncomputable def ll(h1 p:Nat):Nat:=97+(jm h1+p)
noncomputable def ff(h1 p:Nat):Nat:=frm (97+(jm h1+p)) ((h1 / 100 ^ (p+1) % 100:Nat):Int)
noncomputable def bb(h2:Nat):Nat:=HV ((h2 / 10 ^ 8:Nat):Int)
theorem Gr(h1 h2:Nat):Et (ff h1) (ll h1) (bb h2):=XE (λ p=>jm h1+p) (λ p=>((h1 / 100 ^ (p+1) % 100:Nat):Int)) _ λ p hp=>by show jm h1+p < 26;unfold jm;exact %[a+b<26,b<5,qD 2 a c (22)|cf hp rfl]
theorem NA(h:97≤x∧x≤122):tL (.ref 187) [dI x,af d]=some (.str (dP (frm x (d:Int)))):=by
 show Mz [.str (dP x),.int (d:Int)]=_
 simp only [Mz,so,wJ,wI,sq]
 rw [if_pos ⟨rfl,h⟩];rfl
theorem Q8:tL (.ref 180) [af d]=some (.str (dP (HV (d:Int)))):=rfl
theorem XG(hp:p≤6):dc σ .Pow (af 100) (af p)=some (af (100 ^ p)):=Gg (by
 have:aan ((100:Nat):Int)=7:=rfl
 erw [this];exact %[7*a≤(qL 2 20),a≤6|aV hp])
theorem Q9(hp:p≤6):0 < 100 ^ p∧100 ^ p < 2 ^ 8000:=
 ⟨Nat.pow_pos ⋯,acZ (acY ⋯ hp) (aaY (show 100 ^ 6 < 2 ^ 60 by decide) (acY ⋯ ⋯))⟩
theorem NB{h0 h1 h2 h3 h4 c:Nat}{K:Nat->Nat->Bool}{kn:List AV}{r0 r3 r5 r6 r7 r8 r9 pU pV pW pX pY vT t7 t8 t9 ua ub rR rS rT z7 zR zS wL pZ ra rc:Option AV}{own:List (List AV)}:
 bj tL WQ ⟨r0::some (.lst [af h0,af h1,af h2,af h3,af h4])::some (.lst kn)::r3::some (.lst ([ll h1 0,ll h1 1,ll h1 2,ll h1 3,ll h1 4].map dI))::r5::r6::r7::r8::r9::pU::pV::pW::pX::pY::vT::some (.lst (((abD 32).map (TT K)).map af))::t7::t8::t9::ua::ub::rR::rS::rT::some (af c)::some (.str (dP (bb h2)))::z7::zR::zS::wL::pZ::ra::rc::[],own⟩=some (.lst ((bP (λ V=>0) (ff h1) 0 (bb h2) false).map eV)):=by
 have hl:∀p,p < 5->([ll h1 0,ll h1 1,ll h1 2,ll h1 3,ll h1 4].map dI)[p]?=some (dI (ll h1 p)):=λ p hp=>match p,hp with
  | 0,_=>rfl
  | 1,_=>rfl
  | 2,_=>rfl
  | 3,_=>rfl
  | 4,_=>rfl
 refine (ah (jR (xs:=bI 0 5) (g:=λ x=>match x with | .int p=>eV (cX 0 (ff h1 p.toNat)) | _=>.none) (gp rfl ⋯) (λ x hx=>?_) ⋯) (fe (ae (x:=.str (wS [])) rfl (ae (x:=.str (wS [46])) rfl (ae (x:=.str (wS ([bb h2]++[46]))) (ah (x:=.str (wS [bb h2])) (y:=.str (wS [46])) rfl rfl ((BR ?_).trans (congrArg (λ z=>some (AV.str z)) (gR _ _)))) ak))) rfl) (j5 rfl rfl rfl)).trans rfl
 · (refine bF (oE hx) λ p hp cB=>?_;obtain rfl:=cB)
   show _=some (eV (cX 0 (ff h1 ((p:Int)).toNat)))
   erw [aaV ..]
   have hw:=Q9 (p:=p+1) %[a<6,a<5|(aV hp)]
   have hx:97≤ll h1 p∧ll h1 p≤122:=by unfold ll jm;exact %[bG (97≤97+(a+b)) (97+(a+b)≤122),b<5,qD 2 a c (22)|cf hp rfl]
   refine ah (x:=.str (wS [46])) (y:=.str (wS [ff h1 p])) rfl (aA rfl (ae (x:=dI (ll h1 p)) (bt rfl rfl (df rfl %[bG (0⊆(qC a)) ((qC a)⊂(qL 2 62)),a<5|(aV hp)] (by erw [aaV ..];exact hl p hp))) (ae (x:=af (h1 / 100 ^ (p+1) % 100)) (ah (x:=af (h1 / 100 ^ (p+1))) (y:=af 100) (ah (x:=af h1) (y:=af (100 ^ (p+1))) (bt rfl rfl (df rfl ⋯ rfl)) (ah (x:=af 100) (y:=af (p+1)) rfl (ah (x:=af p) (y:=af 1) rfl rfl rQ) (XG %[a<6,a<5|(aV hp)])) (rP hw.1 hw.2)) rfl (iy (b:=100) ⋯ (p8 (e:=7) ⋯ ⋯))) ak)) (bM (ys:=[dI (ll h1 p),af (h1 / 100 ^ (p+1) % 100)]) rfl (NA hx))) ((BR ?_).trans (congrArg (λ z=>some (AV.str z)) (gR _ _)))
   rw [bX,bX];rfl
 · rw [bX,bX];rfl
theorem Ig{n h0 h1 h2 h3 h4 c:Nat}{K:Nat->Nat->Bool}{kn:List AV}{r0 r3 r5 r6 r7 r8 r9 pU pV pW pX pY vT t7 t8 t9 ua ub rR rS rT xK z7 zR zS wL pZ ra rc:Option AV}{own:List (List AV)}(hh:h4 < 2 ^ 40)(hk:∀i,i < 5->kn[i]?=some (.lst ((zV K i).map .bool)))(hd:∀i,K i i=true)(hc:c < 32)(hnb:nb R5 K (aQ c) 0=true):
 ∃σ',bK tL n (.cons TA
 (.cons (.asg 27 WQ)
 (.cons (.asg 28 (.bin .FloorDiv (.idx (.var 1) (.int 4)) (.bin .Pow (.int 10) (.int 4))))
 (.cons (.iS 29 (.exp (.tup (.cons (.int 1) (.cons (.int 0) .nil)))) CP)
 (.cons (.ret (.bool true)) .nil))))) ⟨r0::some (.lst [af h0,af h1,af h2,af h3,af h4])::some (.lst kn)::r3::some (.lst ([ll h1 0,ll h1 1,ll h1 2,ll h1 3,ll h1 4].map dI))::r5::r6::r7::r8::r9::pU::pV::pW::pX::pY::vT::some (.lst (((abD 32).map (TT K)).map af))::t7::t8::t9::ua::ub::rR::rS::rT::some (af c)::xK::z7::zR::zS::wL::pZ::ra::rc::[],own⟩=some (σ',some (.bool true)):=by
 have hc1:=XD hnb
 have e1:eS K c 1 (λ V=>0)=cn K c:=funext (Nx K c)
 have j1:JJ (tQ h4 c 1 false) (dS h4 c 1 (h4 / 10 ^ 4)):=Ny (.inl (CV hc1))
 have hdr:bj tL (.bin .FloorDiv (.idx (.var 1) (.int 4)) (.bin .Pow (.int 10) (.int 4))) ⟨r0::some (.lst [af h0,af h1,af h2,af h3,af h4])::some (.lst kn)::r3::some (.lst ([ll h1 0,ll h1 1,ll h1 2,ll h1 3,ll h1 4].map dI))::r5::r6::r7::r8::r9::pU::pV::pW::pX::pY::vT::some (.lst (((abD 32).map (TT K)).map af))::t7::t8::t9::ua::ub::rR::rS::rT::some (af c)::some (.str (dP (bb h2)))::some (.lst ((bP (λ V=>0) (ff h1) 0 (bb h2) false).map eV))::zR::zS::wL::pZ::ra::rc::[],own⟩=some (af (h4 / 10 ^ 4)):=ah (x:=af h4) (bt rfl rfl (df rfl ⋯ rfl)) (ah (x:=af 10) (y:=af 4) rfl rfl (vS ⋯)) (rP (fq (p:=4) ⋯).1 (fq (p:=4) ⋯).2)
 have A1:=Gj K c
 have o1:di c≤5:=by
  have h0:=eY (aQ c 0)
  have h1:=eY (aQ c 1)
  have h2:=eY (aQ c 2)
  have h3:=eY (aQ c 3)
  have h4:=eY (aQ c 4)
  erw [wc ..];exact %[a+b+c+d+e≤5,a≤1,b≤1,c≤1,d≤1,e≤1|rU h0 h1 h2 h3 h4]
 refine ⟨_,ao (bp (x:=.str (dP (bb h2))) (aA rfl (ae (x:=af (h2 / 10 ^ 8)) (ah (x:=af h2) (bt rfl rfl (df rfl ⋯ rfl)) (ah (x:=af 10) (y:=af 8) rfl rfl (vS ⋯)) (rP (fq (p:=8) ⋯).1 (fq (p:=8) ⋯).2)) ak) (bM (ys:=[af (h2 / 10 ^ 8)]) rfl Q8))) (ao (bp NB) (ao (bp (x:=af (h4 / 10 ^ 4)) hdr) (ao (gP (xs:=[af 1,af 0]) (tO (x:=.tup [af 1,af 0]) (gO (ae rfl (ae rfl ak)) rfl) rfl) (ay (xP (side:=1) (e:=λ V=>0) (s:=0) (tl:=false) (dr:=h4 / 10 ^ 4) (f:=ff h1) (l:=ll h1) (b:=bb h2) hh hk (Gr h1 h2) rfl rfl rfl rfl rfl (λ V V=>adV _) (adV _) hc (λ p V=>Nx K c p) (Eu c) j1 hc1) (ay (xP (side:=0) (e:=eS K c 1 (λ V=>0)) (s:=sS c 1 0) (tl:=tQ h4 c 1 false) (dr:=dS h4 c 1 (h4 / 10 ^ 4)) (f:=ff h1) (l:=ll h1) (b:=bb h2) hh hk (Gr h1 h2) rfl rfl rfl rfl rfl ?_ ?_ hc ?_ ?_ (Ny (.inr j1)) (acE hd)) cR))) (bE (eh rfl)))))⟩
 · intro p _
   erw [e1];have:=A1 p;exact %[a≤20,a≤5|aV this]
 · erw [Eu ..];exact %[a≤20,a≤5|aV o1]
 · intro p _
   erw [e1];exact Q5 K c p
 · erw [Eu ..];exact Q6 c
end
section
set_option exponentiation.threshold 200
theorem we(h:a=b)(hb:∃σ',b=some (σ',v)):∃σ',a=some (σ',v):=h▸hb
theorem wf{z:Int}{m:Nat}(h:0≤z∧z < (m:Int)):∃n:Nat,z=(n:Int)∧n < m:=⟨z.toNat,%[a==(qC a),bG (0⊆a) (a⊂(qC b)),qD 4 a a (0)|(IM h rfl)],%[a<b,bG (0⊆a) (a⊂(qC b)),qD 4 a a (0)|(IM h rfl)]⟩
theorem gW(zs:List Int)(p:Int):0≤jh zs p∧jh zs p < ((10 ^ 12:Nat):Int):=bO _ ⋯
theorem Ri(z:Int):∀i,i < 5->(HR z)[i]?=some (.lst ((zV (KK z) i).map .bool)):=λ i hi=>match i,hi with
 | 0,_=>rfl
 | 1,_=>rfl
 | 2,_=>rfl
 | 3,_=>rfl
 | 4,_=>rfl
theorem acF(K:Nat->Nat->Bool)(i:Nat):en K i < 2 ^ 25:=by
 unfold en TU
 have h0:=eY (K i 0)
 have h1:=eY (K i 1)
 have h2:=eY (K i 2)
 have h3:=eY (K i 3)
 have h4:=eY (K i 4)
 exact %[(((a*64+b)*64+c)*64+d)*64+e<(qL 2 25),a≤1,b≤1,c≤1,d≤1,e≤1|rU h0 h1 h2 h3 h4]
theorem XH{K:Nat->Nat->Bool}(hd:∀i,K i i=true):1≤en K 4:=by
 unfold en TU
 rw [hd 4,show bn true=1 from rfl];exact %[1≤(((a*64+b)*64+c)*64+d)*64+1|dQ]
theorem XI{zs:List Int}(hl:zs.length≤2 ^ 20):∃σ',bK tL 0 TK ⟨[some (.bor (zs.map .int))]++aau 33 none,[]⟩=some (σ',some (.bool true)):=by
 obtain ⟨h0,e0,b0⟩:=wf (gW zs 0)
 obtain ⟨h1,e1,b1⟩:=wf (gW zs 1)
 obtain ⟨h2,e2,b2⟩:=wf (gW zs 2)
 obtain ⟨h3,e3,b3⟩:=wf (gW zs 3)
 obtain ⟨h4,e4,b4⟩:=wf (gW zs 4)
 have h12:10 ^ 12 < 2 ^ 40:=⋯
 have Nz:tL (.ref 166) [.bor (zs.map .int)]=some (.lst [af h0,af h1,af h2,af h3,af h4]):=by
  show MJ [.bor (zs.map .int)]=_
  simp only [MJ,so,aci,ach,sq,dD,aaT]
  (rw [if_pos hl];erw [e0,e1,e2,e3,e4]);rfl
 have hK:=Xx (h0:Int)
 have hd:=QT (h0:Int)
 have hr:=Ri (h0:Int)
 have hch:=vW hK hd h3
 have hm:∀m∈[en (KK (h0:Int)) 0,en (KK (h0:Int)) 1,en (KK (h0:Int)) 2,en (KK (h0:Int)) 3,en (KK (h0:Int)) 4],m < 2 ^ 25:=λ m hm=>by
  simp only [aaB,aaP,or_false] at hm
  rcases hm with rfl | rfl | rfl | rfl | rfl <;> exact acF _ _
 skip
 exact we (Ev (n:=0) Nz rfl) (we (Nf (afk b3 h12) hm (XH hd) rfl) (we (Es hK hd rfl) (Ig (afk b4 h12) hr hd hch.2.1 (hch.2.2 0 ⋯))))
end
section
variable{prog:aaq}{w:acb}{d:Nat}{P:abe}
noncomputable def af8:Spec:=aZ λ zs=>aE (if zs.length≤2 ^ 20 then some (.bool true) else none)
theorem bA.m6(h:bA prog w (d+1) P a S):bA prog w (d+7) P a S:=h.more.more.more.more.more.more
theorem acG:cz prog w (d+7) P [(166,MJ),(209,knF),(173,Qj),(194,Cm),(204,Mu),(199,MI),(214,Qq),(59,D9),(66,Cg),(80,idF),(219,W8),(180,WZ),(187,Mz),(226,ML),(233,Qr)]:=
 .cons W7.m6 (.cons acl.m6 (.cons Mx.m6 (.cons MF.more.more.more.more.more (.cons WY.more.more.more.more.more (.cons W6.more.more.more.more.more (.cons Xa.m6 (.cons Mt.m6 (.cons Eg.m6 (.cons acu (.cons W9.m6 (.cons W0.m6 (.cons W2.m6 (.cons Xg.more.more.more.more (.cons Xd.more.more.more.more.more cz.nil))))))))))))))
theorem XJ:bA prog w (d+8) P 238 af8:=bR acG (abU P) (ab2 P) λ xs res h=>by
 apply Mr h;clear h;intro zs _ h
 apply dh h;clear h;intro h
 refine eF h ?_
 clear h
 intro hl h
 obtain rfl:=aam h
 obtain ⟨σ',hs⟩:=XI hl
 refine ⟨0,cQ (v:=.bool true) ?_ hs rfl⟩
 rw [aaQ]
 refine ⟨rfl,?_⟩
 show ((zs.map AV.int).all (cF 3)&&true)=true
 rw [agy,aic]
 exact acP.mpr λ z V=>rfl
end
noncomputable def Gs(w:acb)(h:ac2):Prop:=∀b o,(jB pw w.params).get? b=some o->h.get? b=some o
theorem Gu(hx:x.isFreed=true)(h:aja ⟨o.set! i x,l⟩ a=some y):aja ⟨o,l⟩ a=some y:=by
 obtain ⟨e1,e2⟩:=akW.mp h
 refine akW.mpr ⟨?_,e2⟩
 have e1:(o.set! i x)[a]?=some y:=e1
 show o[a]?=some y
 rw [Array.set!_eq_setIfInBounds,Array.getElem?_setIfInBounds] at e1
 split at e1
 · split at e1
   · cases e1
     rw [hx] at e2
     exact e8 e2.symm
   · exact aw e1
 · exact e1
theorem acH(P:abe):KS (ej P) (jB pw P):=λ a o h=>Gu rfl (Gu rfl h)
theorem acI(P:abe):(jB pw P).get? 54=some (jC #[]):=∅
theorem acJ(P:abe):(jB pw P).get? 61=some (jC #[]):=∅
theorem acK(P:abe):(ej P).get? 54=none:=∅
theorem acL(P:abe):(ej P).get? 61=none:=∅
theorem XK(P:abe):(jB pw P).isNs 3=true:=∅
theorem XM(P:abe):(jB pw P).nsMap 3 (ac5 "law")=some (.ref 238):=∅
theorem XN{h:ac2}{a:abh}{m m':Str->Option aas}(x:h.Ns a m)(y:h.Ns a m'):m=m':=x.eq_nsMap.trans y.eq_nsMap.symm
theorem Rk{w:acb}{h:ac2}{mg:Str->Option aas}{fa:abh}(Y:Gs w h)(hn:h.Ns 3 mg)(hm:mg (ac5 "law")=some (.ref fa)):fa=238:=by
 have:=XN hn ((Heap.Ns.of_isNs (XK w.params)).keeps Y)
 rw [this,XM] at hm
 cases hm;rfl
noncomputable def zW(h:ac2)(c b:abh):Bool:=(h.get? c).any λ o=>(X7 o.cls).any λ n=>(L4 o.data).any λ vs=>n=="code"&&(vs[11]?:Option aas).any λ u=>(L3 u).any λ x=>x==b
theorem wg(e:zW h c b=true):alE h b:=by
 refine eO e λ o ho e=>eO e λ n hc e=>eO e λ vs hd e=>fF e λ e1 e=>eO e λ u hu e=>eO e λ x hx e=>?_
 rw [eq_of_beq e1] at hc
 rw [tP hx,eq_of_beq e] at hu
 exact ⟨c,o,vs,ho,vv hc,tT hd,hu⟩
theorem XO(P:abe):zW (jB pw P) 58 54=true:=∅
theorem XQ(P:abe):zW (jB pw P) 65 61=true:=∅
theorem iz(k:∀a o,h.get? a=some o->h'.get? a=some o)(x:alE h b):alE h' b:=by
 obtain ⟨c,o,vs,h1,h2⟩:=x
 exact ⟨c,o,vs,k _ _ h1,h2⟩
theorem XR(Y:Gs w h)(k:aR ⟨d0 [],aT⟩ h h'):OldK h h':=by
 have acM:∀b o,h.get? b=some o->asItWas h h' b o:=λ b o e=>by
  rcases k b o e with ⟨sl,h1,h2⟩ | ⟨h1,_,t,ht,hP,c,_,h3,_⟩
  · rw [h2 (by intro q;cases q)] at h1
    exact .inl h1
  · subst h1
    refine .inr (.inl ⟨?_,rfl,#[],t.item c,rfl,?_⟩)
    · simp only [aT,aaB,aaP,or_false] at ht
      rcases ht with rfl | rfl
      · erw [←hP];exact iz Y (wg (XO w.params))
      · erw [←hP];exact iz Y (wg (XQ w.params))
    · erw [h3,aiK,rfl]
 refine ⟨acM,λ b o e=>?_⟩
 rcases k b o e with ⟨sl,h1,_⟩ | ⟨_,_,t,_,_,c,_,h3,_⟩
 · exact ⟨_,h1⟩
 · exact ⟨_,h3⟩
theorem Ew{R:WRecords}{cl:Str->Option abh}{h:ac2}{n:Nat}{g:Gh}{zs:List Int}:∀{vs:List aas} {as:List abh},akT R cl h vs (zs.map .int) as->aq n g (zs.map .int) vs:=by
 induction zs with
 | nil=>
   intro vs as hr
   obtain rfl:=ago.mp (show vs.length=0 from hr.length)
   exact .nil
 | cons z zs ih=>
   intro vs as hr
   cases vs with
   | nil=>exact nomatch (show 0=_+1 from hr.length)
   | cons v vs=>
     (refine cL hr.cons_inv λ d dL=>?_;refine cL dL λ ds' eZ=>?_;refine cL eZ λ a oX=>?_;refine cL oX λ b oS=>?_;have e:=oS.1;have h1:=oS.2.2.1;have h2:=oS.2.2.2;clear oS oX eZ dL)
     refine gY (ajn (show ais z::zs.map .int=d::ds' from e)) λ e1 e2=>?_
     (refine bF (readsW_int_inv (e1▸h1)) λ t cB _=>?_;obtain rfl:=cB)
     exact .cons (.int _ _) (ih (e2▸h2))
theorem Rl{zs:List Int}(h:ajh [] (aio.row.pre) {args:=[.list (zs.map .int)]}=true):zs.length≤63:=by
 have h:ajh [] (.and (.not (.lt (.lit (.int 63)) (.len (.arg 0)))) (.lit (.bool true))) {args:=[.list (zs.map .int)]}=true:=h
 have e1:ah3 [] (.lt (.lit (.int 63)) (.len (.arg 0))) {args:=[.list (zs.map .int)]}=some (.bool (decide ((63:Int) < ((zs.map ais).length:Nat)))):=rfl
 have e:ah3 [] (.and (.not (.lt (.lit (.int 63)) (.len (.arg 0)))) (.lit (.bool true))) {args:=[.list (zs.map .int)]}=some (.bool (!decide ((63:Int) < ((zs.map ais).length:Nat)))):=by
  have e2:ah3 [] (.not (.lt (.lit (.int 63)) (.len (.arg 0)))) {args:=[.list (zs.map .int)]}=some (.bool (!decide ((63:Int) < ((zs.map ais).length:Nat)))):=by (rw [ah3];erw [e1,rfl])
  (rw [ah3];erw [e2])
  cases (decide ((63:Int) < ((zs.map ais).length:Nat))) <;> rfl
 unfold ajh at h
 rw [e] at h
 by_cases q:(63:Int) < ((zs.map ais).length:Nat)
 · rw [decide_eq_true q] at h;exact e8 h
 · rw [aar] at q;exact %[a≤63,cY (63⊂(qC a))|aV q]
noncomputable abbrev Iz:=aio
theorem Rm(Dr:Iz.row.claim.pre args=true):∃zs:List Int,args=[.list (zs.map .int)]∧zs.length≤63:=by
 refine gY (pre_splitW (r:=Iz.row.toRowW) Dr) λ h1 h2=>?_
 have h1:WShape.hasAll [] args [.list .int]=true:=h1
 (refine IB (hasAllW_cons h1) λ d r ju h3 h4=>?_;obtain rfl:=ju)
 have:=hasAllW_nil h4
 subst this
 (refine bF (hasW_list h3) λ xs cB h5=>?_;obtain rfl:=cB)
 (refine cL (items_int h5) λ zs dL=>?_;have cB:=dL;clear dL;obtain rfl:=cB)
 exact ⟨zs,rfl,Rl h2⟩
theorem Ih:Iz.row.claim.post args (.bool true) args=true:=by
 show (WShape.has [] (.bool true) .bool&&ajh [] (.eq .res (.lit (.bool true))) {args:=args,res:=some (.bool true),after:=args})=true
 exact (aaQ _ _).mpr ⟨by simp [WShape.has,WShape.arms],by
  have e:ah3 [] (.eq .res (.lit (.bool true))) {args:=args,res:=some (WData.bool true),after:=args}=some (.bool true):=by
   rw [ah3]
   exact congrArg (λ b=>some (WData.bool b)) (same_self ..)
  unfold ajh
  rw [e]⟩
theorem TY{p:C5->Prop}(a:p aT[0])(b:p aT[1]):∀t∈aT,p t:=λ t ht=>(aaB.mp ht).elim (λ e=>e▸a) λ h=>(aaU.mp h)▸b
theorem NC{R:WRecords}{cl:Str->Option abh}{h:ac2}{ds:List WData}{vals:List aas}{as:List abh}{G:List aas->Prop}(r:akT R cl h vals [.list ds] as)(k:∀a vs as',h.IsList a vs->akT R cl h vs.toList ds as'->G [.ref a]):G vals:=by
 cases vals with
 | nil=>exact nomatch (show 0=1 from r.length)
 | cons v vs=>
   obtain rfl:=ago.mp (show vs.length=0 from alq r.length)
   (refine cL r.cons_inv λ d dL=>?_;refine cL dL λ ds' eZ=>?_;refine cL eZ λ a oX=>?_;refine cL oX λ b oS=>?_;have e:=oS.1;have h1:=oS.2.2.1;have h2:=oS.2.2.2;clear oS oX eZ dL)
   refine gY (ajn e) λ e1 e2=>?_
   (refine cL (readsW_list_inv (e1▸h1)) λ l dL=>?_;refine cL dL λ xs eZ=>?_;refine cL eZ λ as' oX=>?_;have Yy:=oX.1;have h3:=oX.2.1;have h4:=oX.2.2.1;clear oX eZ dL;obtain rfl:=Yy)
   exact k l xs as' h3 h4
theorem Rn{h:ac2}{a:abh}{xs:Array aas}(hl:h.IsList a xs)(h1:h.get? 54=some (jC #[]))(h2:h.get? 61=some (jC #[])):a∉iQ []:=λ q=>by
 obtain ⟨o,e1,e2,_⟩:=hl
 have no:∀b,h.get? b=some (jC #[])->a≠b:=λ b hb e=>by
  rw [e,hb] at e1
  rw [←aam e1] at e2
  exact nomatch e2
 have q:a∈[54,61]:=q
 exact (aaB.mp q).elim (no _ h1) λ q=>no _ h2 (aaU.mp q)
theorem af9{w:acb}{s:aav}{mg:Str->Option aas}{cl:Str->Option abh}{mean:ExcName->Option aas}{fa:abh}{args:List WData}{vals:List aas}{as:List abh}(Y:Gs w s.heap)(hn:s.heap.Ns 3 mg)(hm:mg (ac5 "law")=some (.ref fa))(hg:s.gens=#[])
(Dr:Iz.row.claim.pre args=true)(hrd:akT Iz.row.records cl s.heap vals args as):
 acn (acr Iz.row.prog w) callerA (call (.ref fa) vals) (λ v s'=>GoodWG Iz.row.claim cl mean args s (.ok (.ret v)) s') (λ e s'=>GoodWG Iz.row.claim cl mean args s (.error e) s') s:=by
 have:=Rk Y hn hm
 subst this
 (refine bF (Rm Dr) λ zs cB hl=>?_;obtain rfl:=cB)
 have UZ:=(XJ (prog:=Iz.row.prog) (w:=w) (d:=0) (P:=w.params)).con [.bor (zs.map .int)] (.bool true) (by
  show (cP (zs.map AV.int)).bind (λ zs=>if zs.length≤2 ^ 20 then some (AV.bool true) else none)=_
  erw [dD ..,aaT ..,if_pos %[a≤(qL 2 20),a≤63|(aV hl)],rfl])
 have t1:=Y _ _ (acI w.params)
 have t2:=Y _ _ (acJ w.params)
 refine NC (G:=λ vals=>acn (acr Iz.row.prog w) callerA (call (.ref 238) vals) (λ v s'=>GoodWG Iz.row.claim cl mean _ s (.ok (.ret v)) s') (λ e s'=>GoodWG Iz.row.claim cl mean _ s (.error e) s') s) hrd λ a vs as' hL hr=>?_
 obtain ⟨o,e1,e2,n,e3⟩:=id hL
 refine UZ.2 [] callerA s _ _ _ ⟨rfl,rfl,⋯,⋯⟩ (λ a o h=>Y a o (acH w.params a o h)) trivial ⟨TY (acK _) (acL _),TY (.inl t1) (.inl t2)⟩ (.cons (.bor (dU.mpr ⟨⟨aaP,Rn hL t1 t2⟩,e1⟩) e2 (e3.trans (by erw [Array.toArray_toList,rfl])) (Ew hr)) .nil) λ v s' k hs hv=>?_
 apply RelV.mn hv
 exact ⟨.inl ⟨_,.bool true,[],rfl,λ V=>rfl,.bool true,Ih,λ V=>⟨.nil,λ a ha=>absurd ha aaP⟩⟩,XR Y k,hs.os,.of_eq (hs.gens.trans hg)⟩
end Mine.Internal
end
section
open PySem PySem.W PyProof.Rows PySem.W.Fast
section
set_option tactic.hygienic true
namespace Mine
noncomputable def acN(p:aaq):PySem.W.OpenLaw:={prog:=p,name:=ac5 "law",about:=[ac5 "_parse_varint"],foot:=13,most:=some 63,bound:=none,writes:=false}
noncomputable def hdSaid(p:aaq):Bool:=(acN p).wellSaid
lay_quick Mine.hdSaid
theorem Ro:hdSaid pw=true:=(congrFun te17709894492609887856 pw).trans (by kernel_rfl:tw17709894492609887856 pw=true)
end Mine
end
end
end
end
open Mine Mine.Internal PySem PySem.W PyProof.Rows PySem.W.Fast
theorem PySem.Challenge.cw_uc0040_01_holds : PySem.Challenge.rw_uc0040_01.Holds := by
 w_on
 refine PySem.W.holds_law (show PySem.W.OpenLaw.wellSaid PySem.Challenge.rw_uc0040_01=true from Ro) λ ajF=>?_
 refine holds_open (q:=hdQ pw) (loose:=tv pw) (Xt:=UB) (XP:=λ V V=>True) (Yf:=λ s=>s.heap) (Ya:=λ w=>jB pw w.params) (YP:=Gs) (N:=20000) Oq (λ w s e b o h=>by rw [e];exact h) (λ w h h' x k b o e=>k b o (x b o e))
  (λ s e=>trivial) (λ V V V V V=>trivial) (by rfl) (by rfl) (by rfl) (λ s e=>recFacts_nil rfl) (by rfl) (by first | assumption | decide+kernel) (by decide+kernel) ⟨rfl,rfl,rfl,rfl,rfl,by decide+kernel⟩ ?hw ?hc
 case hw=>w_witness2
 intro w y9 s₁ mg mb G Y fa o pm cd doc dV kV ho hd hcd hD hmg hg args vals as Dr ajG hrd hwl RY
 exact af9 Y G.T.g hmg hg Dr hrd
