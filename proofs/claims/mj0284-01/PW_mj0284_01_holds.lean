import PyProof.Rows.All
import Wide.All
import OpenK.AllK
import Wide.FinOn
import PySem.Challenge.RW_mj0284_01
set_option linter.unusedVariables false
set_option linter.unusedSimpArgs false
set_option Elab.async false
set_option maxRecDepth 100000
set_option maxHeartbeats 4000000
set_option bootstrap.genMatcherCode false
set_option genSizeOf false
set_option genSizeOfSpec false
local macro_rules | `(($x:term :)) => `(by exact $x)
local macro_rules | `(()) => `(by kernel_rfl)
local macro_rules | `(∅) => `(by decide +kernel)
open _root_ renaming List→af,Option→ag,Nat→ah,Int→aE,if_pos→aP,Rat→aV,UInt64→aW,if_neg→aZ,congrArg→bI,Bool→cj,of_decide_eq_true→cz,decide_eq_true→cM,decide_eq_false→dO,beq_eq_false_iff_ne→ef,absurd→ej,Array→fm,if_false→iv,if_true→kU,Inv→v3,Unit→xX,beq_iff_eq→xY,String→Bn,DecidableEq→Bv,False→IG,congrFun→PX,of_decide_eq_false→VO,beq_self_eq_true→afG,decide_eq_decide→afK
open _root_.Array renaming getD_eq_getD_getElem?→ye,perm_iff_toList_perm→yL,mem_toList_iff→EO,forIn_toList→Ip
open _root_.Bool renaming false_eq_true→cR,and_eq_true→d6,or_eq_true→nq,false_ne_true→tJ,not_eq_true'→u9,and_eq_true_iff→GG,bne_false→Ro
open _root_.Classical renaming byContradiction→nT,propDecidable→oU,not_imp→sG,em→Me
open _root_.Decidable renaming em→Mg
open _root_.Eq renaming trans→jD
open _root_.ForInStep renaming yield→fN
open _root_.Int renaming fmod_nonneg_of_pos→dw,natCast_nonneg→dE,natAbs→dK,fmod_lt_of_pos→eU,toNat→eZ,ofNat_le→fy,le_trans→fX,toNat_natCast→fY,compare_eq_lt→iM,natCast_mul→jA,natCast_pow→jB,compare_eq_gt→jR,neg_mul→kl,one_mul→km,zero_mul→lY,toNat_of_nonneg→n4,add_zero→oy,zero_add→oA,fdiv_eq_ediv_of_nonneg→oV,min_le_right→qi,le_total→qL,mul_comm→qM,not_lt→qN,min_le_left→rC,ofNat→sM,natAbs_natCast→uy,compare_eq_eq→vz,le_of_lt→vA,lt_trans→vB,le_max_right→xS,mul_le_mul_of_nonneg_left→yg,le_max_left→yM,natCast_add→yN,mul_assoc→C9,mul_zero→ET,ofNat_lt→EU,mul_one→Ir,le_min→Mj,max_le→Mk,add_left_comm→MJ,max_eq_right→PJ,min_eq_right→PK,max_eq_left→Rt,min_eq_left→Ru,sub_nonneg→VK,add_assoc→Wm,max_assoc→Wn,min_assoc→Wo,le_of_eq→afx,add_mul→af5,mul_add→af6
open _root_.List renaming getElem?_eq_getElem→ao,getElem?_append_left→aA,getElem?_set_ne→aC,mem_append_left→aI,mem_of_getElem?→aM,mem_map→aU,getElem?_append_right→aY,length_map→a8,prefix_rfl→a9,getElem?_set_self→bh,append_assoc→bq,mem_append_right→bw,mem_cons→bE,mem_append→bK,size_toArray→bN,getElem?_eq_some_iff→bR,mem_singleton→bT,map_cons→bX,getElem?_map→b9,length_append→cK,range→cO,nodup_cons→cQ,length_cons→cU,getElem_of_mem→dm,rec→dC,all_eq_true→dS,map_append→d4,getElem?_zip_eq_some→eo,nodup_nil→eB,replicate→eC,mem_range→eP,getElem?_eq_none_iff→fj,length_range→fq,getD_eq_getElem?_getD→fT,contains_iff_mem→gp,nodup_append→gN,reverse_cons→gO,of_mem_zip→gQ,getElem?_range→g7,length_take→ij,perm_middle→ik,take_length→ip,getElem?_take→ix,drop_eq_getElem_cons→iE,foldl_append→iI,map_map→iJ,mergeSort_perm→iZ,getElem_inj→i9,foldl_cons→jx,mem_filter→jy,length_filter_le→jE,any_eq_false→jP,map_congr_left→kJ,append_nil→kR,range_succ→kS,pairwise_map→lK,take_sublist→lL,countP_cons→mC,lookup_cons→mD,set_append→nu,length_pos_iff→nU,mem_map_of_mem→nV,toArray→n8,filter_append→oK,lookup→pA,cons_append→qb,drop_length→qc,filter_cons→qe,getElem?_cons_succ→qf,lookup_eq_none_iff→qg,length_eq_one_iff→qm,count_cons→qO,set_append_right→rD,pairwise_append→sj,countP_eq_zero→sN,filter_eq_self→sO,length_reverse→sP,count_eq_zero→tK,count_pos_iff→tL,find?_eq_none→tM,findIdx?_cons→tN,getElem?_drop→tO,take_succ_eq_append_getElem→vc,any_eq_true→v5,mem_flatMap→v7,nodup_range→v8,not_mem_nil→v9,eq_nil_of_length_eq_zero→xV,nil_append→yh,getLast?_eq_getElem?→Bk,all_cons→Bw,getD→Dc,getElem?_replicate→Dd,pairwise_mergeSort→De,filter_eq_nil_iff→Dj,map_nil→Dk,length_singleton→EV,dropLast_concat→GJ,findIdx?_isSome→GK,getLast?_concat→GL,lookup_append→II,mem_replicate→IJ,count_append→Ml,getElem_take→Mm,range'_succ→MH,length_drop→MK,filter_nil→PL,forIn_cons→PM,length_set→PN,zip_append→PO,forIn_nil→Rv,map_id→afz,Nodup→af7,foldl→af8
open _root_.List.IsPrefix renaming trans→lJ
open _root_.List.Mem renaming head→gU,tail→gV
open _root_.List.Nodup renaming sublist→ko
open _root_.List.Pairwise renaming imp_of_mem→m7,filter→xT,nil→afy
open _root_.List.Perm renaming eq_of_pairwise→xU
open _root_.Nat renaming zero_add→cw,ble_eq_true_of_le→cA,le_refl→cL,ne_of_lt→dP,le_of_ble_eq_true→dZ,le_add_right→d8,lt_succ_of_lt→eL,le_trans→fA,lt_of_lt_of_le→fE,lt_irrefl→fU,add_sub_cancel_left→gR,two_pow_pos→iK,mul_assoc→iW,zero_le→jn,not_lt_zero→jC,blt→lZ,mul_comm→l8,le_total→oD,pow_add→pD,lt_succ_self→qj,rec→qP,sub_self→qQ,div_add_mod→rE,eq_of_beq_eq_true→rP,sub_eq_zero_of_le→rQ,not_lt→uA,le_of_eq→vC,le_of_lt→vD,lt_trans→vE,ne_of_gt→vG,exists_eq_succ_of_ne_zero→yi,one_mul→yj,mul_eq_zero→yO,le_of_mul_le_mul_right→Bl,lt_of_mul_lt_mul_right→Bm,sub_le_iff_le_add'→EN,succ_pos→EW,mod_lt→Mn,pos_of_ne_zero→Mo,max_eq_right→PS,min_eq_right→PT,le_add_left→Rw,max_eq_left→Ry,min_eq_left→Rz,beq→afA,ble→afB,pow_succ→afC,le_succ→aga
open _root_.Nat.succ renaming inj→pE
open _root_.Ne renaming symm→oM
open _root_.Option renaming some→aa,rec→ji,map_some→Mq
open _root_.Option.some renaming inj→aR,injEq→Bx
open _root_.Ordering renaming eq→cZ,lt→e9,gt→oE
open _root_.PyProof.Rows renaming callWith_type→mE,seqObj→p4,MethodCall_→uz,News→EX,args_nil→PV,envOfC→VN,Call_→Wf,callWith_method0→afI,add_int→agb,eq_int→agc,ge_int→agd,getItem_tuple→age,gt_int→agf,iadd_int→agg,isub_int→agh,le_int→agi,lt_int→agj,ne_int→agk,sub_int→agl
open _root_.PyProof.Rows.LCg renaming NsObj→lA
open _root_.PySem renaming wpAny_bind→aw,Value→aB,Shared→aD,mainGlobals→aK,Addr→aX,wpAny→bg,wpAny_pure→bA,wpAny_holding→cN,Params→df,Str→dv,compEnvC→dB,starEach→dT,Obj→d9,Around→eD,intKind→eE,callWith→fg,sizeLine_eq→fQ,letOwnedTupleGo→gx,backTo→gE,standAt→g9,wpAny_mono→ie,builtinType_eq_fast→iq,Pos→iP,foldedSetIterable→i5,wpAny_field→i6,Heap→jf,PyData→jg,wpAny_standAt→jh,notedBy→jo,swapsWith→jt,wpAny_execs_cons→ju,keywordEach→jF,Operator→jY,DictEntry→j9,Program→kp,wpAny_assign_Name→kq,wpAny_newObj_type→kr,CmpOp→kL,Scope→kO,assignEach→kP,wpAny_call_entry→kW,sizeLine→lE,getMethod→mi,rawInt→mO,wpAny_pyIter_list→mP,builtinLookup_eq_fast→nv,Builtin→nZ,codeAny→oj,getAttr→om,Stmt→oF,backToKw→oG,builtinType→oH,wpAny_execs_nil→oX,Arguments→pC,isSubtype_type→pY,valueAt→qn,wpAny_truthy_bool→qo,wpAny_comprehension_free→qS,wpAny_callSpecial?_slot→rS,typeLookup_type→sQ,Env→ux,letTemporaryGo→uD,wpAny_seqItems→uE,wpAny_updateDictKeys→uF,World→wc,swappedStores→we,Result→xW,closureFor→xZ,isTrue→x8,pyNext→x9,wpAny_call→ya,wpAny_rule→yb,ZipApart→yP,binaryOp→yS,bootBuiltins→yT,dictSet→yU,getMethod_builtin→yV,wpAny_Assign_Name→yX,wpAny_dictFind_of→yZ,compareOp→Bo,pyIter→Bp,typeOf→Bq,wpAny_of_eq→By,argBest→Dl,evalArgs→E4,recursionLimit→E5,assignInOrder→Iw,swapsWithSole→Iy,cellsFrom→IK,noteFrame→IP,scanBound→IQ,storeName→IS,call_meetsIn→Mt,callerA→Mu,firstIterPos→Mv,wpAny_nextOf_list_item→My,wpAny_pyNext_list_item→Mz,codeAny_call_function→MM,wpAny_notOrdered_dict→MO,wpAny_pyNext_list_end→MP,wpAny_storeName_local→MQ,Model→PQ,codeAny_call_builtin→PW,loadIfAlive→PY,lookup_relabel_local→PZ,wpAny_newFunctionEnv→P0,builtinsNs→VL,call_meets→VM,preSum→VP,typeLookup→VQ,wpAny_pyIter_tuple→VS,BindsTo→We,slot_dict_setitem→Wu,slot_list_getitem→Wv,wpAny_truthy_list→Ww,codeAny_call_def→afJ,wpAny_Try_except→afM,wpAny_eqBool_int→afN,wpAny_updateDict→afO,wpAny_tests_nil→agn
open _root_.PySem.Around renaming frames_deeper→Dh
open _root_.PySem.AutoFloatOps renaming add_0→afQ,eq_0→afR,gt_0→afS,le_0→afT,lt_0→afU,mod_1→afV,mul_0→afW,mul_fi_1→afX,neg_0→afY,sub_0→afZ,sub_fi_1→af0,sub_if_1→af1,truediv_1→af2
open _root_.PySem.BindsTo renaming of_eq→dr
open _root_.PySem.Builtin.Dict renaming takeOut→yf,dictSlotArgs→af3,notOrdered→af4
open _root_.PySem.Builtin.Range renaming rangeSize→afw
open _root_.PySem.Builtin.SmallTypes renaming ownedTupleIsFree→gw,nextOf→lI
open _root_.PySem.Calls renaming evalArgs_plain→EP,Name_function_global→PR,callWith_builtin→afH
open _root_.PySem.CmpOp renaming rec→Mf
open _root_.PySem.Code renaming builtin→Wg
open _root_.PySem.Data renaming fields→cX,func→eF,dict→C8,cls→Rp
open _root_.PySem.DictEntry renaming refKey→ES
open _root_.PySem.F renaming plainAttrs_list→eM,slot_list_append→gF,slot_zip_next→ox,plainAttrs_dict→qa,slot_dict_get→Bi,slot_dict_delitem→MI,slot_dict_values→PG,slot_tuple_index→PH,args_zip_next_1→Rq,slot_dict_items→Rr,entry_zip_next→VJ,slot_list_pop→Wh,slot_zip_iter→Wi
open _root_.PySem.Float64 renaming sub→aL,div→bk,mul→bJ,add→bP,cmp→bQ,ofInt→cu,isZero→cG,isInf→dD,fmod→fM,truncOf→iB,neg→i8,decode→jM,divmod→jN,val_eq→jO,isFinite→jX,val_natAbs→kM,cmp_right→lz,zero→m6,lt→sH,decode_pack→Di,decode_ge→GH,val_pack→Iq,floorOf→IH,ofFrac→Mh,V_at→PI
open _root_.PySem.Float64.Num renaming rec→ao0
open _root_.PySem.FuncBody renaming stmts→cT
open _root_.PySem.Heap renaming get?_push_of_some→bY,lt_size→cW,get?_push_size→dR,get?_update_self→gm,SameBut→kn,size_push→se,size_update→vZ,ExtBut→GI,get?_push_ne→Mi,FlyingW→Wj
open _root_.PySem.Heap.IsSliceOf renaming new→Wk
open _root_.PySem.Heap.SameBut renaming update→eO,refl→Bj
open _root_.PySem.Heap.UpToSlots renaming of_keeps→Wl
open _root_.PySem.Made renaming float→af9
open _root_.PySem.Obj renaming data_mapDictKeys→iN,isFreed_of_dict→kN,data_mapDict→qk,mapSeq→qR,isFreed_of_fields→GN,data_mapFields→Mp
open _root_.PySem.Operator renaming rec→pF
open _root_.PySem.PyData renaming keyHash→lB,eqv→n9,canLayAll0→Iu,depthAll→Mr,canLay0→ML,eqvAll→PU,depth→RA,int→Wq
open _root_.PySem.SeqAt renaming shaped→jl
open _root_.PySem.Str renaming ofString→ic
open _root_.PySem.Value renaming str→aj,int→ak,ref→aq,none→aG,type→aS,bool→dJ,builtin→eQ,isInt_shape→oY,float→E0
open _root_.PySem.W renaming codeIn→dN,nsIn→eA,keepIn→eI,findIn→gJ,hideAll→gP,plainGet→iF,envX→jm,fnOf→lD,plainOver→nX,hasDictIn→pG,of_hideAll→pZ,specialIn→rR,takerIn→sJ,takesIn→yW,codeRec_of→E3,emptyDict→IL,kas_place→IM,hideAll_none→Mw,hideAll_size→Mx,isClsIn→Ws,kas_rev→Wt,kas_tail3→afL
open _root_.PySem.W.KasT renaming kasWp_bind→nr
open _root_.PySem.W.KtsTurn renaming refl→tI
open _root_.PySem.W.WData renaming float→E2
open _root_.PySem.Walks renaming list→afF
open _root_.Rat renaming le_of_mul_le_mul_right→bb,intCast_add→dg,intCast_natCast→du,intCast_le_intCast→dy,intCast_lt_intCast→dz,intCast_sub→eW,neg_mul→fH,intCast_mul→gc,natCast_add→gh,mul_le_mul_of_nonneg_right→gC,natCast_nonneg→gD,le_antisymm→gW,natCast_mul→iL,not_lt→iX,intCast_pow→nW,mul_nonneg→oW,intCast_neg→rF,one_mul→sI,mul_assoc→tP,div_mul_cancel→uB,not_le→uC,add_zero→vH,zero_add→vI,zero_mul→vJ,div_def→yk,le_refl→yl,mul_le_mul_of_nonneg_left→ym,mul_comm→EY,natCast_le_natCast→EZ,add_mul→Iv,sub_eq_add_neg→Ms,natCast_pow→RC,add_assoc→Wr,le_of_lt→afD,mul_zero→afE,mul_one→agm
open _root_.Std.Legacy.Range renaming forIn_eq_forIn_range'→Rn,size→RD
namespace fG
open PyProof.Rows
theorem gM{α:Type u}{l:af α}{i:ah}{a:α}(h:l[i]?=aa a):i<l.length:=(bR.mp h).1
theorem lR{α:Type u}{a:α}{P:Prop}(h:none=aa a):P:=nomatch h
theorem Rg{α:Type u}{β:Type v}{a c:α}{b d:β}{P:Prop}(h:aa (a,b)=aa (c,d))(k:a=c->b=d->P):P:=k (bI Prod.fst (aR h)) (bI Prod.snd (aR h))
noncomputable def ob{α β γ:Type}(o:ag (α×β))(F:α->β->ag γ):ag γ:=@ji (α×β) (λ_=>ag γ) none (λp=>F p.1 p.2) o
noncomputable def ot{α γ:Type}(o:ag α)(F:α->ag γ):ag γ:=@ji α (λ_=>ag γ) none F o
noncomputable def bc{γ:Type}(b:cj)(x y:γ):γ:=@Bool.rec (λ_=>γ) y x b
theorem eh{α γ:Type}{o:ag α}{F:α->ag γ}{r:γ}{P:Prop}(e:ot o F=aa r)(k:∀a,o=aa a->F a=aa r->P):P:=by
 cases o with
 |none=>exact lR e
 |some a=>exact k a rfl e
theorem ea{α β γ:Type}{o:ag (α×β)}{F:α->β->ag γ}{r:γ}{P:Prop}(e:ob o F=aa r)(k:∀a b,o=aa (a,b)->F a b=aa r->P):P:=eh (o:=o) (F:=λp=>F p.1 p.2) e λp h q=>k p.1 p.2 h q
noncomputable def YI{α β δ γ:Type}(o:ag ((α×β)×δ))(F:α->β->δ->ag γ):ag γ:=ob o λp s=>F p.1 p.2 s
theorem K9{α β δ γ:Type}{o:ag ((α×β)×δ)}{F:α->β->δ->ag γ}{r:γ}{P:Prop}(e:YI o F=aa r)(k:∀a b s,o=aa ((a,b),s)->F a b s=aa r->P):P:=ea e λp s h q=>k p.1 p.2 s h q
theorem fP{γ:Type}{c:Prop}[Decidable c]{x:ag γ}{r:γ}{P:Prop}(e:(if c then x else none)=aa r)(k:c->x=aa r->P):P:=(Mg c).elim (λh=>k h ((aP h).symm.trans e)) λh=>lR ((aZ h).symm.trans e)
theorem Wa{γ:Sort u}{c:Prop}[Decidable c]{x y z:γ}{P:Prop}(e:(if c then x else y)=z)(h:c->x=z->P)(k:¬c->y=z->P):P:=(Mg c).elim (λi=>h i ((aP i).symm.trans e)) λi=>k i ((aZ i).symm.trans e)
noncomputable def cq(p:Prop):cj:=@decide p (oU p)
theorem vf{p:Prop}(h:p):cq p=true:=@cM p (oU p) h
theorem yt{p:Prop}(h:cq p=true):p:=@cz p (oU p) h
theorem WQ{γ:Type}{x y z:γ}(e:bc true x y=z):x=z:=e
theorem AP{α:Type}{l:af α}(h:l.length=1):∃a,l=[a]:=qm.mp h
theorem yC{α:Type}{l:af α}(h:l.length=2):∃a b,l=[a,b]:=by
 cases l with
 |nil=>exact nomatch h
 |cons a t=>exact(AP (pE h)).elim λb e=>⟨a,b,e▸rfl⟩
theorem Cv{α:Type}{l:af α}(h:l.length=3):∃a b d,l=[a,b,d]:=by
 cases l with
 |nil=>exact nomatch h
 |cons a t=>exact(yC (pE h)).elim λb e=>e.elim λd e=>⟨a,b,d,e▸rfl⟩
theorem R3{γ:Type}{b:cj}{x y z:γ}{P:Prop}(e:bc b x y=z)(h:b=true->x=z->P)(k:b=false->y=z->P):P:=by
 cases b with
 |true=>exact h rfl e
 |false=>exact k rfl e
theorem cV{α β γ:Type}{o:ag (α×β)}{F:α->β->ag γ}{r:ag γ}{a:α}{b:β}(h:o=aa (a,b))(k:F a b=r):ob o F=r:=by rw[h];exact k
theorem eJ{α γ:Type}{o:ag α}{F:α->ag γ}{r:ag γ}{a:α}(h:o=aa a)(k:F a=r):ot o F=r:=by rw[h];exact k
inductive Ta where
 |v (i:ah)|n (k:aE)|a (x y:Ta)|s (x y:Ta)|m (k:aE) (x:Ta)|w (x:Ta) (k:aE)|g (x:Ta)
noncomputable abbrev LI:=af aE
noncomputable def kj(p:LI):LI->aE:=@dC aE (λ_=>LI->aE) (λ_=>0) (λc _ ih e=>c*e.headD 0+ih e.tail) p
noncomputable def AK(p:LI):LI->LI:=@dC aE (λ_=>LI->LI) (λq=>q) (λc r ih q=>@dC aE (λ_=>LI) (c::r) (λd q' _=>(c+d)::ih q') q) p
noncomputable def uj(k:aE)(p:LI):LI:=@dC aE (λ_=>LI) [] (λc _ ih=>(k*c)::ih) p
noncomputable def F5(i:ah):LI:=@qP (λ_=>LI) [1] (λ_ ih=>0::ih) i
theorem Kz(p:LI):kj p []=0:=by
 induction p with
 |nil=>rfl
 |cons c p ih=>show c*0+kj p []=0;rw[ih,ET];rfl
theorem qD(p:LI):∀q e,kj (AK p q) e=kj p e+kj q e:=by
 induction p with
 |nil=>intro q e;exact(oA _).symm
 |cons c p ih=>
  intro q e;cases q with
  |nil=>exact(oy _).symm
  |cons d q=>show(c+d)*e.headD 0+kj (AK p q) e.tail=(c*e.headD 0+kj p e.tail)+(d*e.headD 0+kj q e.tail);rw[ih,af5,Wm,Wm,MJ (d*_)]
theorem nI(k:aE)(p:LI):∀e,kj (uj k p) e=k*kj p e:=by
 induction p with
 |nil=>intro e;exact(ET _).symm
 |cons c p ih=>intro e;show k*c*e.headD 0+kj (uj k p) e.tail=k*(c*e.headD 0+kj p e.tail);rw[ih,af6,C9]
theorem HH(i:ah):∀e,kj (F5 i) e=e.getD i 0:=by
 induction i with
 |zero=>intro e;show 1*e.headD 0+0=_;rw[km,oy];cases e<;>rfl
 |succ i ih=>intro e;show 0*e.headD 0+kj (F5 i) e.tail=_;rw[ih,lY,oA];cases e<;>rfl
noncomputable def Ta.I(e:LI)(x:Ta):aE:=@Ta.rec (λ_=>aE) (λi=>e.getD i 0) (λk=>k) (λ_ _ p q=>p+q) (λ_ _ p q=>p-q) (λk _ p=>k*p) (λ_ k p=>p*k) (λ_ p=> -p) x
noncomputable def Ta.P(x:Ta):LI:=@Ta.rec (λ_=>LI) (λi=>0::F5 i) (λk=>[k]) (λ_ _ p q=>AK p q) (λ_ _ p q=>AK p (uj (-1) q)) (λk _ p=>uj k p) (λ_ k p=>uj k p) (λ_ p=>uj (-1) p) x
theorem Ta.ok(e:LI)(x:Ta):kj x.P (1::e)=x.I e:=by
 induction x with
 |v i=>show 0*1+kj (F5 i) e=e.getD i 0;rw[HH,lY,oA]
 |n k=>show k*1+0=k;rw[Ir,oy]
 |a x y p q=>show kj (AK x.P y.P) (1::e)=x.I e+y.I e;rw[qD,p,q]
 |s x y p q=>show kj (AK x.P (uj (-1) y.P)) (1::e)=x.I e-y.I e;rw[qD,nI,p,q,kl,km];rfl
 |m k x p=>show kj (uj k x.P) (1::e)=k*x.I e;rw[nI,p]
 |w x k p=>show kj (uj k x.P) (1::e)=x.I e*k;rw[nI,p,qM]
 |g x p=>show kj (uj (-1) x.P) (1::e)=-x.I e;rw[nI,p,kl,km]
noncomputable def xk(k:aE)(x y:Ta):LI:=AK [k] (AK x.P (uj (-1) y.P))
theorem Ou(e:LI)(k:aE)(x y:Ta):kj (xk k x y) (1::e)=k+(x.I e-y.I e):=by unfold xk;rw[qD,qD,nI,Ta.ok,Ta.ok,kl,km];show k*1+0+_=_;rw[Ir,oy];rfl
inductive Fa where
 |le (x y:Ta)|lt (x y:Ta)|eq (x y:Ta)|an (p q:Fa)|or (p q:Fa)|to (p q:Fa)|no
noncomputable def Fa.D(e:LI)(f:Fa):Prop:=@Fa.rec (λ_=>Prop) (λx y=>x.I e<=y.I e) (λx y=>x.I e<y.I e) (λx y=>x.I e=y.I e) (λ_ _ p q=>p/\q) (λ_ _ p q=>p\/q) (λ_ _ p q=>p->q) IG f
noncomputable abbrev LL:=af (af LI)
noncomputable def F4(A B:LL):LL:=A.flatMap λa=>B.map λb=>a++b
noncomputable def Fa.C(f:Fa):LL×LL:=@Fa.rec (λ_=>LL×LL)
 (λx y=>([[xk 0 x y]],[[xk 1 y x]])) (λx y=>([[xk 1 x y]],[[xk 0 y x]])) (λx y=>([[xk 0 x y,xk 0 y x]],[[xk 1 x y],[xk 1 y x]]))
 (λ_ _ p q=>(F4 p.1 q.1,p.2++q.2)) (λ_ _ p q=>(p.1++q.1,F4 p.2 q.2)) (λ_ _ p q=>(p.2++q.1,F4 p.1 q.2)) ([],[[]]) f
noncomputable def HI(e:LI)(L:af LI):Prop:=∀p∈L,kj p e<=0
noncomputable def yA(e:LI)(A:LL):Prop:=∃L∈A,HI e L
theorem AL{e:LI}{A B:LL}(h:yA e A):yA e (A++B):=h.elim λL q=>⟨L,aI _ q.1,q.2⟩
theorem AM{e:LI}{A B:LL}(h:yA e B):yA e (A++B):=h.elim λL q=>⟨L,bw _ q.1,q.2⟩
theorem Ed{e:LI}{A B:LL}(h:yA e A)(h2:yA e B):yA e (F4 A B):=h.elim λL q=>h2.elim λM r=>⟨L++M,v7.mpr ⟨L,q.1,aU.mpr ⟨M,r.1,rfl⟩⟩,λp hp=>(bK.mp hp).elim (q.2 p) (r.2 p)⟩
theorem ui{e p:LI}(h:kj p e<=0):yA e [[p]]:=⟨_,.head _,λq hq=>by rw[bT.mp hq];exact h⟩
theorem ahm{k x y:aE}(h:x+k<=y):k+(x-y)<=0:=by omega
theorem Fa.ok(e:LI)(f:Fa):(f.D e->yA (1::e) f.C.1)/\(¬f.D e->yA (1::e) f.C.2):=by
 have L:∀{k x y},Ta.I e x+k<=Ta.I e y->kj (xk k x y) (1::e)<=0:=λh=>by rw[Ou];exact ahm h
 have z:∀{x y:aE},x<=y->x+0<=y:=λh=>by rwa[oy]
 induction f with
 |le x y=>exact⟨λh=>ui (L (z h)),λh=>ui (L (Int.not_le.mp h))⟩
 |lt x y=>exact⟨λh=>ui (L h),λh=>ui (L (z (qN.mp h)))⟩
 |eq x y=>
  refine⟨λh=>⟨_,.head _,λq hq=>?_⟩,λh=>?_⟩
  ·rcases bE.mp hq with r|r
   ·rw[r];exact L (z (afx h))
   ·rw[bT.mp r];exact L (z (afx (Eq.symm h)))
  ·rcases Int.lt_or_gt_of_ne h with r|r
   ·exact AL (A:=[[_]]) (ui (L r))
   ·exact AM (A:=[[_]]) (ui (L r))
 |an f g p q=>exact⟨λh=>Ed (p.1 h.1) (q.1 h.2),λh=>(Me (f.D e)).elim (λa=>AM (q.2 λb=>h ⟨a,b⟩)) λa=>AL (p.2 a)⟩
 |or f g p q=>exact⟨λh=>h.elim (λa=>AL (p.1 a)) λa=>AM (q.1 a),λh=>Ed (p.2 λa=>h (.inl a)) (q.2 λa=>h (.inr a))⟩
 |to f g p q=>exact⟨λh=>(Me (f.D e)).elim (λa=>AM (q.1 (h a))) λa=>AL (p.2 a),λh=>Ed (p.1 (nT λa=>h λb=>ej b a)) (q.2 λb=>h λ_=>b)⟩
 |no=>exact⟨λh=>h.elim,λ_=>⟨[],.head _,λ_ h=>nomatch h⟩⟩
noncomputable def Wb(p:LI):aE:=p.tail.headD 0
noncomputable def Ot(p:LI):LI:=p.headD 0::p.tail.tail
theorem AN(p:LI)(x:aE)(e:LI):kj p (1::x::e)=Wb p*x+kj (Ot p) (1::e):=by
 cases p with
 |nil=>show(0:aE)=0*x+(0*1+0);rw[lY];rfl
 |cons c p=>cases p with
  |nil=>show c*1+0=0*x+(c*1+0);rw[lY,oA]
  |cons d p=>exact MJ (c*1) (d*x) (kj p e)
noncomputable def QI(L:af LI):af LI:=((L.filter λp=>Wb p==0).map Ot)++(L.filter λp=>decide (0<Wb p)).flatMap λp=>(L.filter λq=>decide (Wb q<0)).map λq=>AK (uj (-(Wb q)) (Ot p)) (uj (Wb p) (Ot q))
theorem Yr{a b x s t:aE}(ha:0<a)(hb:b<0)(h1:a*x+s<=0)(h2:b*x+t<=0):-b*s+a*t<=0:=by
 have p:=yg h1 (show 0<=-b by omega);have q:=yg h2 (vA ha);have r:-b*(a*x)+a*(b*x)=0:=by rw[<-C9,<-C9,<-af5,kl,qM b a,Int.add_left_neg,lY]
 rw[af6] at p q;omega
theorem Cu{L:af LI}{x:aE}{e:LI}(h:HI (1::x::e) L):HI (1::e) (QI L):=by
 intro p hp;rcases bK.mp hp with q|q
 ·obtain⟨r,hr,rfl⟩:=aU.mp q
  have hr:=jy.mp hr;have:=h r hr.1;rw[AN,eq_of_beq hr.2,lY,oA] at this;exact this
 ·obtain⟨r,hr,q⟩:=v7.mp q
  obtain⟨t,ht,rfl⟩:=aU.mp q;have hr:=jy.mp hr;have ht:=jy.mp ht;have a:=h r hr.1;have b:=h t ht.1;rw[AN] at a b;rw[qD,nI,nI];exact Yr (cz hr.2) (cz ht.2) a b
noncomputable def Yq(L:af LI):cj:=L.any λp=>decide (0<p.headD 0)&&p.tail.all λc=>c==0
noncomputable def lfm(n:ah):af LI->cj:=@qP (λ_=>af LI->cj) Yq (λ_ ih L=>ih (QI L)) n
theorem Ys(p:LI):(p.all λc=>c==0)=true->∀e,kj p e=0:=by
 induction p with
 |nil=>intro _ e;rfl
 |cons c p ih=>intro h e;have h:=(d6 _ _).mp h;show c*e.headD 0+kj p e.tail=0;rw[eq_of_beq h.1,ih h.2,lY];rfl
theorem Oq{L:af LI}{e:LI}(h:Yq L=true)(hs:HI (1::e) L):IG:=by
 obtain⟨p,hp,hq⟩:=v5.mp h;have hq:=(d6 _ _).mp hq;have a:=hs p hp;cases p with
 |nil=>exact ej (cz hq.1) (by decide)
 |cons c p=>have a:c*1+kj p e<=0:=a;rw[Ys p hq.2,Ir,oy] at a;exact ej (cz hq.1) (qN.mpr a)
theorem Ua(n:ah):∀(L:af LI)(e:LI),lfm n L=true->HI (1::e) L->IG:=by
 induction n with
 |zero=>intro L e h hs;exact Oq h hs
 |succ n ih=>
  intro L e h hs;cases e with
  |nil=>
   have hs:HI (1::0::[]) L:=λp hp=>by
    have:=hs p hp;rw[AN,ET,oA];cases p with
    |nil=>exact this
    |cons c p=>have t:c*1+kj p []<=0:=this;show c*1+kj p.tail []<=0;rw[Kz] at t⊢;exact t
   exact ih _ [] h (Cu hs)
  |cons x e=>exact ih _ e h (Cu hs)
theorem ar(n:ah)(f:Fa)(e:LI)(h:(f.C.2.all λL=>lfm n L)=true):f.D e:=nT λq=>((Fa.ok e f).2 q).elim λL r=>Ua n L e (dS.mp h L r.1) r.2
theorem sbF(a b:ah):(((b:ah):aE)<=a/\((a-b:ah):aE)=a-b)\/((a:aE)<=b/\((a-b:ah):aE)=0):=(oD b a).imp (λh=>⟨fy.mpr h,Int.ofNat_sub h⟩) λh=>⟨fy.mpr h,bI sM (rQ h)⟩
theorem mnN(a b:ah):((a:aE)<=b/\((min a b:ah):aE)=a)\/((b:aE)<=a/\((min a b:ah):aE)=b):=(oD a b).imp (λh=>⟨fy.mpr h,bI sM (Rz h)⟩) λh=>⟨fy.mpr h,bI sM (PT h)⟩
theorem mxN(a b:ah):((b:aE)<=a/\((max a b:ah):aE)=a)\/((a:aE)<=b/\((max a b:ah):aE)=b):=(oD b a).imp (λh=>⟨fy.mpr h,bI sM (Ry h)⟩) λh=>⟨fy.mpr h,bI sM (PS h)⟩
theorem rq(a b:aE):(a<=b/\min a b=a)\/(b<=a/\min a b=b):=(qL a b).imp (λh=>⟨h,Ru h⟩) λh=>⟨h,PK h⟩
theorem pQ(a b:aE):(b<=a/\max a b=a)\/(a<=b/\max a b=b):=(qL b a).imp (λh=>⟨h,Rt h⟩) λh=>⟨h,PJ h⟩
theorem uJ(x:aE):(0<=x/\(x.natAbs:aE)=x)\/(x<=0/\(x.natAbs:aE)=-x):=(qL 0 x).imp (λh=>⟨h,Int.natAbs_of_nonneg h⟩) λh=>⟨h,Int.ofNat_natAbs_of_nonpos h⟩
theorem yH(x:aE):(0<=x/\(x.toNat:aE)=x)\/(x<=0/\(x.toNat:aE)=0):=(qL 0 x).imp (λh=>⟨h,n4 h⟩) λh=>⟨h,bI sM (Int.toNat_of_nonpos h)⟩
theorem WW(a k:aE)(h:0<k):k*(a/k)<=a/\a<k*(a/k)+k:=⟨Int.mul_ediv_self_le (Int.ne_of_gt h),Int.lt_mul_ediv_self_add h⟩
theorem dvN(a k:ah)(h:0<k):(k:aE)*((a/k:ah):aE)<=a/\(a:aE)<k*((a/k:ah):aE)+k:=WW a k (EU.mpr h)
theorem mdI(a k:aE):a=k*(a/k)+a % k:=(Int.mul_ediv_add_emod a k).symm
theorem mdN(a k:ah):(a:aE)=k*((a/k:ah):aE)+((a % k:ah):aE):=mdI a k
theorem dQ{A B:Prop}{P:Prop}(h:A/\B)(k:A->B->P):P:=k h.1 h.2
theorem fD{A B C:Prop}{P:Prop}(h:A/\B/\C)(k:A->B->C->P):P:=k h.1 h.2.1 h.2.2
theorem oS{A B C D:Prop}{P:Prop}(h:A/\B/\C/\D)(k:A->B->C->D->P):P:=k h.1 h.2.1 h.2.2.1 h.2.2.2
theorem El{A B C D E:Prop}{P:Prop}(h:A/\B/\C/\D/\E)(k:A->B->C->D->E->P):P:=k h.1 h.2.1 h.2.2.1 h.2.2.2.1 h.2.2.2.2
theorem dA{α:Sort _}{A:α->Prop}{P:Prop}(h:∃x,A x)(k:∀x,A x->P):P:=h.elim λx q=>k x q
theorem cv{α:Sort _}{A B:α->Prop}{P:Prop}(h:∃x,A x/\B x)(k:∀x,A x->B x->P):P:=h.elim λx q=>k x q.1 q.2
theorem js{α:Sort _}{A B C:α->Prop}{P:Prop}(h:∃x,A x/\B x/\C x)(k:∀x,A x->B x->C x->P):P:=h.elim λx q=>k x q.1 q.2.1 q.2.2
theorem lT{α:Sort _}{A B C D:α->Prop}{P:Prop}(h:∃x,A x/\B x/\C x/\D x)(k:∀x,A x->B x->C x->D x->P):P:=h.elim λx q=>k x q.1 q.2.1 q.2.2.1 q.2.2.2
theorem OS{α:Sort _}{A B C D E:α->Prop}{P:Prop}(h:∃x,A x/\B x/\C x/\D x/\E x)(k:∀x,A x->B x->C x->D x->E x->P):P:=h.elim λx q=>k x q.1 q.2.1 q.2.2.1 q.2.2.2.1 q.2.2.2.2
theorem aid{α:Sort _}{β:Sort _}{A:α->β->Prop}{P:Prop}(h:∃x y,A x y)(k:∀x y,A x y->P):P:=h.elim λx q0=>q0.elim λy q=>k x y q
theorem uq{α:Sort _}{β:Sort _}{A B:α->β->Prop}{P:Prop}(h:∃x y,A x y/\B x y)(k:∀x y,A x y->B x y->P):P:=h.elim λx q0=>q0.elim λy q=>k x y q.1 q.2
theorem eu{α:Sort _}{β:Sort _}{A B C:α->β->Prop}{P:Prop}(h:∃x y,A x y/\B x y/\C x y)(k:∀x y,A x y->B x y->C x y->P):P:=h.elim λx q0=>q0.elim λy q=>k x y q.1 q.2.1 q.2.2
theorem xv{α:Sort _}{β:Sort _}{A B C D:α->β->Prop}{P:Prop}(h:∃x y,A x y/\B x y/\C x y/\D x y)(k:∀x y,A x y->B x y->C x y->D x y->P):P:=h.elim λx q0=>q0.elim λy q=>k x y q.1 q.2.1 q.2.2.1 q.2.2.2
theorem HS{α:Sort _}{β:Sort _}{A B C D E:α->β->Prop}{P:Prop}(h:∃x y,A x y/\B x y/\C x y/\D x y/\E x y)(k:∀x y,A x y->B x y->C x y->D x y->E x y->P):P:=h.elim λx q0=>q0.elim λy q=>k x y q.1 q.2.1 q.2.2.1 q.2.2.2.1 q.2.2.2.2
theorem OT{α:Sort _}{β:Sort _}{A B C D E F:α->β->Prop}{P:Prop}(h:∃x y,A x y/\B x y/\C x y/\D x y/\E x y/\F x y)(k:∀x y,A x y->B x y->C x y->D x y->E x y->F x y->P):P:=h.elim λx q0=>q0.elim λy q=>k x y q.1 q.2.1 q.2.2.1 q.2.2.2.1 q.2.2.2.2.1 q.2.2.2.2.2
theorem Li{α:Sort _}{β:Sort _}{γ:Sort _}{A:α->β->γ->Prop}{P:Prop}(h:∃x y z,A x y z)(k:∀x y z,A x y z->P):P:=h.elim λx q0=>q0.elim λy q1=>q1.elim λz q=>k x y z q
theorem YN{α:Sort _}{β:Sort _}{γ:Sort _}{A B:α->β->γ->Prop}{P:Prop}(h:∃x y z,A x y z/\B x y z)(k:∀x y z,A x y z->B x y z->P):P:=h.elim λx q0=>q0.elim λy q1=>q1.elim λz q=>k x y z q.1 q.2
theorem YO{α:Sort _}{β:Sort _}{γ:Sort _}{A B C:α->β->γ->Prop}{P:Prop}(h:∃x y z,A x y z/\B x y z/\C x y z)(k:∀x y z,A x y z->B x y z->C x y z->P):P:=h.elim λx q0=>q0.elim λy q1=>q1.elim λz q=>k x y z q.1 q.2.1 q.2.2
theorem CJ{α:Sort _}{β:Sort _}{γ:Sort _}{A B C D:α->β->γ->Prop}{P:Prop}(h:∃x y z,A x y z/\B x y z/\C x y z/\D x y z)(k:∀x y z,A x y z->B x y z->C x y z->D x y z->P):P:=h.elim λx q0=>q0.elim λy q1=>q1.elim λz q=>k x y z q.1 q.2.1 q.2.2.1 q.2.2.2
theorem aie{α:Sort _}{β:Sort _}{γ:Sort _}{A B C D E:α->β->γ->Prop}{P:Prop}(h:∃x y z,A x y z/\B x y z/\C x y z/\D x y z/\E x y z)(k:∀x y z,A x y z->B x y z->C x y z->D x y z->E x y z->P):P:=h.elim λx q0=>q0.elim λy q1=>q1.elim λz q=>k x y z q.1 q.2.1 q.2.2.1 q.2.2.2.1 q.2.2.2.2
theorem aif{α:Sort _}{β:Sort _}{γ:Sort _}{A B C D E F:α->β->γ->Prop}{P:Prop}(h:∃x y z,A x y z/\B x y z/\C x y z/\D x y z/\E x y z/\F x y z)(k:∀x y z,A x y z->B x y z->C x y z->D x y z->E x y z->F x y z->P):P:=h.elim λx q0=>q0.elim λy q1=>q1.elim λz q=>k x y z q.1 q.2.1 q.2.2.1 q.2.2.2.1 q.2.2.2.2.1 q.2.2.2.2.2
theorem aih{α:Sort _}{β:Sort _}{γ:Sort _}{δ:Sort _}{A B:α->β->γ->δ->Prop}{P:Prop}(h:∃x y z u,A x y z u/\B x y z u)(k:∀x y z u,A x y z u->B x y z u->P):P:=h.elim λx q0=>q0.elim λy q1=>q1.elim λz q2=>q2.elim λu q=>k x y z u q.1 q.2
theorem aii{α:Sort _}{β:Sort _}{γ:Sort _}{δ:Sort _}{A B C:α->β->γ->δ->Prop}{P:Prop}(h:∃x y z u,A x y z u/\B x y z u/\C x y z u)(k:∀x y z u,A x y z u->B x y z u->C x y z u->P):P:=h.elim λx q0=>q0.elim λy q1=>q1.elim λz q2=>q2.elim λu q=>k x y z u q.1 q.2.1 q.2.2
theorem aij{α:Sort _}{β:Sort _}{γ:Sort _}{δ:Sort _}{A B C D E F G:α->β->γ->δ->Prop}{P:Prop}(h:∃x y z u,A x y z u/\B x y z u/\C x y z u/\D x y z u/\E x y z u/\F x y z u/\G x y z u)(k:∀x y z u,A x y z u->B x y z u->C x y z u->D x y z u->E x y z u->F x y z u->G x y z u->P):P:=h.elim λx q0=>q0.elim λy q1=>q1.elim λz q2=>q2.elim λu q=>k x y z u q.1 q.2.1 q.2.2.1 q.2.2.2.1 q.2.2.2.2.1 q.2.2.2.2.2.1 q.2.2.2.2.2.2
theorem OU{α:Sort _}{β:Sort _}{γ:Sort _}{δ:Sort _}{ε:Sort _}{A B C D:α->β->γ->δ->ε->Prop}{P:Prop}(h:∃x y z u v,A x y z u v/\B x y z u v/\C x y z u v/\D x y z u v)(k:∀x y z u v,A x y z u v->B x y z u v->C x y z u v->D x y z u v->P):P:=h.elim λx q0=>q0.elim λy q1=>q1.elim λz q2=>q2.elim λu q3=>q3.elim λv q=>k x y z u v q.1 q.2.1 q.2.2.1 q.2.2.2
theorem aik{α:Sort _}{β:Sort _}{γ:Sort _}{δ:Sort _}{ε:Sort _}{ζ:Sort _}{A B:α->β->γ->δ->ε->ζ->Prop}{P:Prop}(h:∃x y z u v w,A x y z u v w/\B x y z u v w)(k:∀x y z u v w,A x y z u v w->B x y z u v w->P):P:=h.elim λx q0=>q0.elim λy q1=>q1.elim λz q2=>q2.elim λu q3=>q3.elim λv q4=>q4.elim λw q=>k x y z u v w q.1 q.2
theorem YQ{α:Sort _}{β:Sort _}{γ:Sort _}{δ:Sort _}{ε:Sort _}{ζ:Sort _}{A B C D:α->β->γ->δ->ε->ζ->Prop}{P:Prop}(h:∃x y z u v w,A x y z u v w/\B x y z u v w/\C x y z u v w/\D x y z u v w)(k:∀x y z u v w,A x y z u v w->B x y z u v w->C x y z u v w->D x y z u v w->P):P:=h.elim λx q0=>q0.elim λy q1=>q1.elim λz q2=>q2.elim λu q3=>q3.elim λv q4=>q4.elim λw q=>k x y z u v w q.1 q.2.1 q.2.2.1 q.2.2.2
theorem ex4{α:Sort _}{β:Sort _}{γ:Sort _}{δ:Sort _}{P:α->β->γ->δ->Prop}{G:Prop}(h:∃a b c d,P a b c d)(k:∀a b c d,P a b c d->G):G:=h.elim λa h=>h.elim λb h=>h.elim λc h=>h.elim λd h=>k a b c d h
theorem ex5{α:Sort _}{β:Sort _}{γ:Sort _}{δ:Sort _}{ε:Sort _}{P:α->β->γ->δ->ε->Prop}{G:Prop}(h:∃a b c d e,P a b c d e)(k:∀a b c d e,P a b c d e->G):G:=h.elim λa h=>ex4 h (k a)
theorem an3{A B C G:Prop}(h:A/\B/\C)(k:A->B->C->G):G:=k h.1 h.2.1 h.2.2
theorem an5{A B C D E G:Prop}(h:A/\B/\C/\D/\E)(k:A->B->C->D->E->G):G:=k h.1 h.2.1 h.2.2.1 h.2.2.2.1 h.2.2.2.2
theorem an6{A B C D E F G:Prop}(h:A/\B/\C/\D/\E/\F)(k:A->B->C->D->E->F->G):G:=k h.1 h.2.1 h.2.2.1 h.2.2.2.1 h.2.2.2.2.1 h.2.2.2.2.2
inductive Rx where
 |n (q:aV)|v (i:ah)|a (x y:Rx)|s (x y:Rx)|g (x:Rx)|m (q:aV) (x:Rx)|w (x:Rx) (q:aV)|o (x:Rx) (q:aV)
noncomputable abbrev LR:=af aV
noncomputable def lC(p:LR):LR->aV:=@dC aV (λ_=>LR->aV) (λ_=>0) (λc _ ih e=>c*e.headD 0+ih e.tail) p
noncomputable def tA(p:LR):LR->LR:=@dC aV (λ_=>LR->LR) (λq=>q) (λc r ih q=>@dC aV (λ_=>LR) (c::r) (λd q' _=>(c+d)::ih q') q) p
noncomputable def pw(k:aV)(p:LR):LR:=@dC aV (λ_=>LR) [] (λc _ ih=>(k*c)::ih) p
noncomputable def Gx(i:ah):LR:=@qP (λ_=>LR) [1] (λ_ ih=>0::ih) i
theorem tB(p:LR):∀q e,lC (tA p q) e=lC p e+lC q e:=by
 induction p with
 |nil=>intro q e;exact(vI _).symm
 |cons c p ih=>
  intro q e;cases q with
  |nil=>exact(vH _).symm
  |cons d q=>show(c+d)*e.headD 0+lC (tA p q) e.tail=(c*e.headD 0+lC p e.tail)+(d*e.headD 0+lC q e.tail);rw[ih,Iv,Wr,Wr,Rat.add_left_comm (d*_)]
theorem nR(k:aV)(p:LR):∀e,lC (pw k p) e=k*lC p e:=by
 induction p with
 |nil=>intro e;exact(afE _).symm
 |cons c p ih=>intro e;show k*c*e.headD 0+lC (pw k p) e.tail=k*(c*e.headD 0+lC p e.tail);rw[ih,Rat.mul_add,tP]
theorem Ic(i:ah):∀e,lC (Gx i) e=e.getD i 0:=by
 induction i with
 |zero=>intro e;show 1*e.headD 0+0=_;rw[sI,vH];cases e<;>rfl
 |succ i ih=>intro e;show 0*e.headD 0+lC (Gx i) e.tail=_;rw[ih,vJ,vI];cases e<;>rfl
noncomputable def Rx.d(c:LR)(x:Rx):aV:=@Rx.rec (λ_=>aV) (λq=>q) (λi=>c.getD i 0) (λ_ _ p q=>p+q) (λ_ _ p q=>p-q) (λ_ p=> -p) (λk _ p=>k*p) (λ_ k p=>p*k) (λ_ k p=>p/k) x
noncomputable def Rx.P(x:Rx):LR:=@Rx.rec (λ_=>LR) (λq=>[q]) (λi=>0::Gx i) (λ_ _ p q=>tA p q) (λ_ _ p q=>tA p (pw (-1) q)) (λ_ p=>pw (-1) p) (λk _ p=>pw k p) (λ_ k p=>pw k p) (λ_ k p=>pw k⁻¹ p) x
theorem Rx.ok(c:LR)(x:Rx):lC x.P (1::c)=x.d c:=by
 induction x with
 |n q=>show q*1+0=q;rw[agm,vH]
 |v i=>show 0*1+lC (Gx i) c=c.getD i 0;rw[Ic,vJ,vI]
 |a x y p q=>show lC (tA x.P y.P) (1::c)=x.d c+y.d c;rw[tB,p,q]
 |s x y p q=>show lC (tA x.P (pw (-1) y.P)) (1::c)=x.d c-y.d c;rw[tB,nR,p,q,fH,sI,Ms]
 |g x p=>show lC (pw (-1) x.P) (1::c)=-x.d c;rw[nR,p,fH,sI]
 |m k x p=>show lC (pw k x.P) (1::c)=k*x.d c;rw[nR,p]
 |w x k p=>show lC (pw k x.P) (1::c)=x.d c*k;rw[nR,p,EY]
 |o x k p=>show lC (pw k⁻¹ x.P) (1::c)=x.d c/k;rw[nR,p,yk,EY]
inductive Rc where
 |z|l (k:aV) (x y:Rx) (t:Rc)|t (k:aV) (x y:Rx) (t:Rc)|e (k:aV) (x y:Rx) (t:Rc)
noncomputable def Rc.d(c:LR)(C:Rc):Prop:=@Rc.rec (λ_=>Prop) IG (λ_ x y _ u=>x.d c<=y.d c->u) (λ_ x y _ u=>x.d c<y.d c->u) (λ_ x y _ u=>x.d c=y.d c->u) C
noncomputable def Rc.V(C:Rc):LR:=@Rc.rec (λ_=>LR) [] (λk x y _ u=>tA (pw k (tA x.P (pw (-1) y.P))) u) (λk x y _ u=>tA (pw k (tA x.P (pw (-1) y.P))) u) (λk x y _ u=>tA (pw k (tA x.P (pw (-1) y.P))) u) C
noncomputable def Rc.b(C:Rc):cj:=@Rc.rec (λ_=>cj) true (λk _ _ _ u=>decide (0<=k)&&u) (λk _ _ _ u=>decide (0<=k)&&u) (λ_ _ _ _ u=>u) C
noncomputable def Rc.st(C:Rc):cj:=@Rc.rec (λ_=>cj) false (λ_ _ _ _ u=>u) (λk _ _ _ u=>decide (0<k)||u) (λ_ _ _ _ u=>u) C
theorem rk0{k a b:aV}(h:a=b):k*(a-b)<=0:=by rw[h,Rat.sub_self,afE];exact yl
theorem rk1{k a b:aV}(hk:0<=k)(h:a<=b):k*(a-b)<=0:=by have:=oW hk (show 0<=b-a by grind);grind
theorem rk2{k a b:aV}(hk:0<k)(h:a<b):k*(a-b)<0:=by have:=Rat.mul_pos hk (show 0<b-a by grind);grind
theorem rs1{a b:aV}(h:a<=0)(h2:b<=0):a+b<=0:=by grind
theorem rs2{a b:aV}(h:a<0)(h2:b<=0):a+b<0:=by grind
theorem rs3{a b:aV}(h:a<=0)(h2:b<0):a+b<0:=by grind
theorem Rc.step(c:LR)(k:aV)(x y:Rx)(u:LR):lC (tA (pw k (tA x.P (pw (-1) y.P))) u) (1::c)=k*(x.d c-y.d c)+lC u (1::c):=by rw[tB,nR,tB,nR,Rx.ok,Rx.ok,fH,sI,Ms]
theorem Rc.run(c:LR)(C:Rc):C.b=true->¬C.d c->lC C.V (1::c)<=0/\(C.st=true->lC C.V (1::c)<0):=by
 induction C with
 |z=>intro _ _;exact⟨yl,λh=>nomatch h⟩
 |l k x y u ih=>intro h q;have h:=(d6 _ _).mp h;have q:=sG.mp q;have i:=ih h.2 q.2;have z:=rk1 (cz h.1) q.1;exact⟨(Rc.step c k x y u.V).symm▸rs1 z i.1,λs=>(Rc.step c k x y u.V).symm▸rs3 z (i.2 s)⟩
 |t k x y u ih=>intro h q;have h:=(d6 _ _).mp h;have q:=sG.mp q;have i:=ih h.2 q.2;have z:=rk1 (cz h.1) (afD q.1);exact⟨(Rc.step c k x y u.V).symm▸rs1 z i.1,λs=>(Rc.step c k x y u.V).symm▸((nq _ _).mp s).elim (λs=>rs2 (rk2 (cz s) q.1) i.1) λs=>rs3 z (i.2 s)⟩
 |e k x y u ih=>intro h q;have q:=sG.mp q;have i:=ih h q.2;have z:=rk0 (k:=k) q.1;exact⟨(Rc.step c k x y u.V).symm▸rs1 z i.1,λs=>(Rc.step c k x y u.V).symm▸rs3 z (i.2 s)⟩
noncomputable def Rc.ok(C:Rc):cj:=C.b&&((C.V.tail.all λq=>q==0)&&(decide (0<C.V.headD 0)||(decide (0<=C.V.headD 0)&&C.st)))
theorem aeY(p:LR):(p.all λc=>c==0)=true->∀e,lC p e=0:=by
 induction p with
 |nil=>intro _ e;rfl
 |cons c p ih=>intro h e;have h:=(d6 _ _).mp h;show c*e.headD 0+lC p e.tail=0;rw[eq_of_beq h.1,ih h.2,vJ,vI]
theorem rl(n:ah)(c:LR)(C:Rc)(h:C.ok=true):C.d c:=
 nT λq=>by
  have h:=(d6 _ _).mp h;have g:=(d6 _ _).mp h.2;have r:=Rc.run c C h.1 q;have v:lC C.V (1::c)=C.V.headD 0:=by
   have g:=g.1;generalize C.V=p at g;cases p with
   |nil=>rfl
   |cons a p=>show a*1+lC p c=a;rw[aeY p g,agm,vH]
  rw[v] at r;rcases(nq _ _).mp g.2 with s|s
  ·exact iX.mpr r.1 (cz s)
  ·have s:=(d6 _ _).mp s
   exact uC.mpr (r.2 s.2) (cz s.1)
inductive Tn where
 |v (i:ah)|n (k:ah)|a (x y:Tn)|m (k:ah) (x:Tn)|w (x:Tn) (k:ah)
inductive Ti where
 |v (i:ah)|n (k:aE)|c (x:Tn)|a (x y:Ti)|s (x y:Ti)|m (k:aE) (x:Ti)|w (x:Ti) (k:aE)|g (x:Ti)
noncomputable abbrev LN:=af ah
@[reducible] noncomputable def atN(e:LN):ah->ah:=@dC ah (λ_=>ah->ah) (λ_=>0) (λa _ ih i=>@qP (λ_=>ah) a (λj _=>ih j) i) e
@[reducible] noncomputable def atI(e:LI):ah->aE:=@dC aE (λ_=>ah->aE) (λ_=>0) (λa _ ih i=>@qP (λ_=>aE) a (λj _=>ih j) i) e
@[reducible] noncomputable def Tn.N(e:LN)(x:Tn):ah:=@Tn.rec (λ_=>ah) (λi=>atN e i) (λk=>k) (λ_ _ p q=>p+q) (λk _ p=>k*p) (λ_ k p=>p*k) x
@[reducible] noncomputable def Ti.I(e:LN)(d:LI)(x:Ti):aE:=@Ti.rec (λ_=>aE) (λi=>atI d i) (λk=>k) (λx=>(x.N e:ah)) (λ_ _ p q=>p+q) (λ_ _ p q=>p-q) (λk _ p=>k*p) (λ_ k p=>p*k) (λ_ p=> -p) x
inductive Fm where
 |l (x y:Tn)|t (x y:Tn)|e (x y:Tn)|L (x y:Ti)|T (x y:Ti)|E (x y:Ti)|k (p q:Fm)|o (p q:Fm)|i (p q:Fm)|z
@[reducible] noncomputable def Fm.D(e:LN)(d:LI)(f:Fm):Prop:=@Fm.rec (λ_=>Prop) (λx y=>x.N e<=y.N e) (λx y=>x.N e<y.N e) (λx y=>x.N e=y.N e) (λx y=>x.I e d<=y.I e d) (λx y=>x.I e d<y.I e d) (λx y=>x.I e d=y.I e d) (λ_ _ p q=>p/\q) (λ_ _ p q=>p\/q) (λ_ _ p q=>p->q) IG f
@[reducible] noncomputable def nl(L:af Fm)(e:LN)(d:LI):Prop:=@dC Fm (λ_=>Prop) IG (λf t ih=>@dC Fm (λ_=>Prop) (f.D e d) (λ_ _ _=>f.D e d->ih) t) L
noncomputable def Tn.T(x:Tn):Ta:=@Tn.rec (λ_=>Ta) (λi=> .v (2*i)) (λk=> .n (k:ah)) (λ_ _ p q=> .a p q) (λk _ p=> .m (k:ah) p) (λ_ k p=> .w p (k:ah)) x
noncomputable def Ti.T(x:Ti):Ta:=@Ti.rec (λ_=>Ta) (λi=> .v (2*i+1)) (λk=> .n k) (λx=>x.T) (λ_ _ p q=> .a p q) (λ_ _ p q=> .s p q) (λk _ p=> .m k p) (λ_ k p=> .w p k) (λ_ p=> .g p) x
noncomputable def Fm.F(f:Fm):Fa:=@Fm.rec (λ_=>Fa) (λx y=> .le x.T y.T) (λx y=> .lt x.T y.T) (λx y=> .eq x.T y.T) (λx y=> .le x.T y.T) (λx y=> .lt x.T y.T) (λx y=> .eq x.T y.T) (λ_ _ p q=> .an p q) (λ_ _ p q=> .or p q) (λ_ _ p q=> .to p q) .no f
noncomputable def nlT(L:af Fm):Fa:=@dC Fm (λ_=>Fa) .no (λf t ih=>@dC Fm (λ_=>Fa) f.F (λ_ _ _=> .to f.F ih) t) L
noncomputable def xm(e:LN):LI->LI:=@dC ah (λ_=>LI->LI) (λd=>@dC aE (λ_=>LI) [] (λa _ ih=>0::a::ih) d) (λa _ ih d=>(a:aE)::d.headD 0::ih d.tail) e
theorem ahp(d:LI):∀i,(xm [] d).getD (2*i) 0=0/\(xm [] d).getD (2*i+1) 0=atI d i:=by
 induction d with
 |nil=>intro i;exact⟨rfl,rfl⟩
 |cons a d ih=>intro i;cases i with
  |zero=>exact⟨rfl,rfl⟩
  |succ i=>exact ih i
theorem Ug(e:LN):∀d i,(xm e d).getD (2*i) 0=(atN e i:ah)/\(xm e d).getD (2*i+1) 0=atI d i:=by
 induction e with
 |nil=>intro d i;exact ahp d i
 |cons a e ih=>intro d i;cases i with
  |zero=>refine⟨rfl,?_⟩;cases d<;>rfl
  |succ i=>have h:=ih d.tail i;refine⟨h.1,h.2.trans ?_⟩;cases d<;>rfl
theorem Tn.ok(e:LN)(d:LI)(x:Tn):x.T.I (xm e d)=(x.N e:ah):=by
 induction x with
 |v i=>exact(Ug e d i).1
 |n k=>rfl
 |a x y p q=>show x.T.I _+y.T.I _=((x.N e+y.N e:ah):aE);rw[p,q];rfl
 |m k x p=>show(k:aE)*x.T.I _=((k*x.N e:ah):aE);rw[p];rfl
 |w x k p=>show x.T.I _*(k:aE)=((x.N e*k:ah):aE);rw[p];rfl
theorem Ti.ok(e:LN)(d:LI)(x:Ti):x.T.I (xm e d)=x.I e d:=by
 induction x with
 |v i=>exact(Ug e d i).2
 |n k=>rfl
 |c x=>exact x.ok e d
 |a x y p q=>show x.T.I _+y.T.I _=x.I e d+y.I e d;rw[p,q]
 |s x y p q=>show x.T.I _-y.T.I _=x.I e d-y.I e d;rw[p,q]
 |m k x p=>show k*x.T.I _=k*x.I e d;rw[p]
 |w x k p=>show x.T.I _*k=x.I e d*k;rw[p]
 |g x p=>show -x.T.I _=-x.I e d;rw[p]
theorem Fm.ok(e:LN)(d:LI)(f:Fm):f.F.D (xm e d)↔f.D e d:=by
 induction f with
 |l x y=>show x.T.I _<=y.T.I _↔x.N e<=y.N e;rw[x.ok,y.ok];exact fy
 |t x y=>show x.T.I _<y.T.I _↔x.N e<y.N e;rw[x.ok,y.ok];exact EU
 |e x y=>show x.T.I _=y.T.I _↔x.N e=y.N e;rw[x.ok,y.ok];exact Int.ofNat_inj
 |L x y=>show x.T.I _<=y.T.I _↔x.I e d<=y.I e d;rw[x.ok,y.ok]
 |T x y=>show x.T.I _<y.T.I _↔x.I e d<y.I e d;rw[x.ok,y.ok]
 |E x y=>show x.T.I _=y.T.I _↔x.I e d=y.I e d;rw[x.ok,y.ok]
 |k p q h1 h2=>exact and_congr h1 h2
 |o p q h1 h2=>exact or_congr h1 h2
 |i p q h1 h2=>exact imp_congr h1 h2
 |z=>exact Iff.rfl
theorem YD(e:LN)(d:LI)(L:af Fm):(nlT L).D (xm e d)->nl L e d:=by
 induction L with
 |nil=>exactλh=>h
 |cons f t ih=>cases t with
  |nil=>exact(f.ok e d).mp
  |cons g t=>exactλh q=>ih (h ((f.ok e d).mpr q))
noncomputable def nnF(f:Fa)(n:ah):Fa:=@qP (λ_=>Fa) f (λi ih=> .to (.le (.n 0) (.v (2*i))) ih) n
theorem YE(e:LN)(d:LI)(f:Fa)(n:ah):(nnF f n).D (xm e d)->f.D (xm e d):=by
 induction n with
 |zero=>exactλh=>h
 |succ i ih=>exactλh=>ih (h (by show 0<=(xm e d).getD (2*i) 0;rw[(Ug e d i).1];exact dE _))
noncomputable def YC(L:af Fm)(e:ah)(d:ah):cj:=(nnF (nlT L) e).C.2.all λL=>lfm (2*max e d) L
theorem nt{L:af Fm}{e:LN}{d:LI}(h:YC L e.length d.length=true:=by kernel_rfl):nl L e d:=YD e d L (YE e d _ e.length (ar _ _ _ h))
theorem nf{L:af Fm}{e:LN}{d:LI}{p:Fm}(f:Fm)(k:f.D e d)(h:YC (f::p::L) e.length d.length=true:=by kernel_rfl):nl (p::L) e d:=nt h k
theorem ng{L:af Fm}{e:LN}{d:LI}{p:Fm}(f g:Fm)(k:f.D e d)(j:g.D e d)(h:YC (f::g::p::L) e.length d.length=true:=by kernel_rfl):nl (p::L) e d:=nt h k j
theorem nh{L:af Fm}{e:LN}{d:LI}{p:Fm}(f g i:Fm)(k:f.D e d)(j:g.D e d)(l:i.D e d)(h:YC (f::g::i::p::L) e.length d.length=true:=by kernel_rfl):nl (p::L) e d:=nt h k j l
theorem nj{L:af Fm}{e:LN}{d:LI}{p:Fm}(f g i m:Fm)(k:f.D e d)(j:g.D e d)(l:i.D e d)(n:m.D e d)(h:YC (f::g::i::m::p::L) e.length d.length=true:=by kernel_rfl):nl (p::L) e d:=nt h k j l n
@[reducible] noncomputable def nN(L:af Fm)(e:LN):Prop:=nl L e []
noncomputable abbrev x0:=Tn.v 0
noncomputable abbrev x1:=Tn.v 1
noncomputable abbrev x2:=Tn.v 2
noncomputable abbrev x3:=Tn.v 3
noncomputable abbrev x4:=Tn.v 4
noncomputable abbrev x5:=Tn.v 5
noncomputable abbrev x6:=Tn.v 6
noncomputable abbrev x7:=Tn.v 7
noncomputable abbrev y0:=Ti.v 0
noncomputable abbrev y1:=Ti.v 1
noncomputable abbrev y2:=Ti.v 2
noncomputable abbrev y3:=Ti.v 3
noncomputable abbrev y4:=Ti.v 4
noncomputable abbrev y5:=Ti.v 5
noncomputable abbrev y6:=Ti.v 6
noncomputable abbrev y7:=Ti.v 7
noncomputable abbrev u0:=Tn.n 0
noncomputable abbrev u1:=Tn.n 1
noncomputable abbrev u2:=Tn.n 2
noncomputable abbrev u3:=Tn.n 3
noncomputable abbrev u4:=Tn.n 4
noncomputable abbrev m0:=Ti.n 0
noncomputable abbrev m1:=Ti.n 1
noncomputable abbrev SB(x y z:Tn):Fm:=.o (.k (.l y x) (.e (.a z y) x)) (.k (.l x y) (.e z u0))
noncomputable abbrev MN(x y z:Tn):Fm:=.o (.k (.l x y) (.e z x)) (.k (.l y x) (.e z y))
noncomputable abbrev MX(x y z:Tn):Fm:=.o (.k (.l y x) (.e z x)) (.k (.l x y) (.e z y))
noncomputable abbrev NI(x y z:Ti):Fm:=.o (.k (.L x y) (.E z x)) (.k (.L y x) (.E z y))
noncomputable abbrev XI(x y z:Ti):Fm:=.o (.k (.L y x) (.E z x)) (.k (.L x y) (.E z y))
noncomputable abbrev AB(x:Ti)(z:Tn):Fm:=.o (.k (.L m0 x) (.E (.c z) x)) (.k (.L x m0) (.E (.c z) (.g x)))
noncomputable abbrev TN(x:Ti)(z:Tn):Fm:=.o (.k (.L m0 x) (.E (.c z) x)) (.k (.L x m0) (.E (.c z) m0))
noncomputable abbrev DN(x:Tn)(q:ah)(z:Tn):Fm:=.k (.l (.m q z) x) (.t x (.a (.m q z) (.n q)))
noncomputable abbrev DV(x:Ti)(q:aE)(z:Ti):Fm:=.k (.L (.m q z) x) (.T x (.a (.m q z) (.n q)))
noncomputable abbrev RN(x:Tn)(q:ah)(w z:Tn):Fm:=.e x (.a (.m q w) z)
noncomputable abbrev RI(x:Ti)(q:aE)(w z:Ti):Fm:=.E x (.a (.m q w) z)
theorem jQ(a b:ah):(b<=a/\a-b+b=a)\/(a<=b/\a-b=0):=(oD b a).imp (λh=>⟨h,Nat.sub_add_cancel h⟩) λh=>⟨h,rQ h⟩
theorem IE(a b:ah):(a<=b/\min a b=a)\/(b<=a/\min a b=b):=(oD a b).imp (λh=>⟨h,Rz h⟩) λh=>⟨h,PT h⟩
theorem mxn(a b:ah):(b<=a/\max a b=a)\/(a<=b/\max a b=b):=(oD b a).imp (λh=>⟨h,Ry h⟩) λh=>⟨h,PS h⟩
theorem uL(a k:ah)(h:0<k:=by decide):k*(a/k)<=a/\a<k*(a/k)+k:=⟨Nat.mul_div_le a k,Eq.subst (motive:=λz=>z<k*(a/k)+k) (rE a k) (Nat.add_lt_add_left (Mn a h) _)⟩
theorem Dg(a k:ah):a=k*(a/k)+a % k:=(rE a k).symm
inductive Rk where
 |l (k:aV) (x y:Rx)|t (k:aV) (x y:Rx)|e (k:aV) (x y:Rx)
@[reducible] noncomputable def atR(e:LR):ah->aV:=@dC aV (λ_=>ah->aV) (λ_=>0) (λa _ ih i=>@qP (λ_=>aV) a (λj _=>ih j) i) e
@[reducible] noncomputable def Rx.R(c:LR)(x:Rx):aV:=@Rx.rec (λ_=>aV) (λq=>q) (λi=>atR c i) (λ_ _ p q=>p+q) (λ_ _ p q=>p-q) (λ_ p=> -p) (λk _ p=>k*p) (λ_ k p=>p*k) (λ_ k p=>p/k) x
@[reducible] noncomputable def Rk.D(c:LR)(f:Rk):Prop:=@Rk.rec (λ_=>Prop) (λ_ x y=>x.R c<=y.R c) (λ_ x y=>x.R c<y.R c) (λ_ x y=>x.R c=y.R c) f
@[reducible] noncomputable def rn(L:af Rk)(c:LR):Prop:=@dC Rk (λ_=>Prop) IG (λf t ih=>@dC Rk (λ_=>Prop) (f.D c) (λ_ _ _=>f.D c->ih) t) L
theorem R2(c:LR):∀i,c.getD i 0=atR c i:=by
 induction c with
 |nil=>intro i;rfl
 |cons a c ih=>intro i;cases i with
  |zero=>rfl
  |succ i=>exact ih i
theorem Rx.eq(c:LR)(x:Rx):x.d c=x.R c:=by
 induction x with
 |n q=>rfl
 |v i=>exact R2 c i
 |a x y p q=>show x.d c+y.d c=x.R c+y.R c;rw[p,q]
 |s x y p q=>show x.d c-y.d c=x.R c-y.R c;rw[p,q]
 |g x p=>show -x.d c=-x.R c;rw[p]
 |m k x p=>show k*x.d c=k*x.R c;rw[p]
 |w x k p=>show x.d c*k=x.R c*k;rw[p]
 |o x k p=>show x.d c/k=x.R c/k;rw[p]
noncomputable def Rk.N(f:Rk):Rc:=@Rk.rec (λ_=>Rc) (λk x y=> .t k y x .z) (λk x y=> .l k y x .z) (λ_ _ _=> .z) f
noncomputable def Rk.H(f:Rk)(t:Rc):Rc:=@Rk.rec (λ_=>Rc) (λk x y=> .l k x y t) (λk x y=> .t k x y t) (λk x y=> .e k x y t) f
noncomputable def rnC(L:af Rk):Rc:=@dC Rk (λ_=>Rc) .z (λf t ih=>@dC Rk (λ_=>Rc) f.N (λ_ _ _=>f.H ih) t) L
theorem aeX(c:LR)(L:af Rk):(rnC L).d c->rn L c:=by
 induction L with
 |nil=>exactλh=>h
 |cons f t ih=>cases t with
  |nil=>cases f with
   |l k x y=>exactλh=>iX.mp λq=>h (by rw[y.eq,x.eq];exact q)
   |t k x y=>exactλh=>uC.mp λq=>h (by rw[y.eq,x.eq];exact q)
   |e k x y=>exactλh=>h.elim
  |cons g t=>cases f with
   |l k x y=>exactλh q=>ih (h (by rw[y.eq,x.eq];exact q))
   |t k x y=>exactλh q=>ih (h (by rw[y.eq,x.eq];exact q))
   |e k x y=>exactλh q=>ih (h (by rw[y.eq,x.eq];exact q))
theorem rt{L:af Rk}{c:LR}(h:(rnC L).ok=true:=by kernel_rfl):rn L c:=aeX c L (rl 0 c _ h)
theorem rf{L:af Rk}{p:Rk}{c:LR}(f:Rk)(k:f.D c)(h:(rnC (f::p::L)).ok=true:=by kernel_rfl):rn (p::L) c:=rt h k
noncomputable abbrev j0:=Rx.v 0
noncomputable abbrev j1:=Rx.v 1
noncomputable abbrev j2:=Rx.v 2
noncomputable abbrev j3:=Rx.v 3
noncomputable abbrev j4:=Rx.v 4
noncomputable abbrev j5:=Rx.v 5
noncomputable abbrev j6:=Rx.v 6
noncomputable abbrev j7:=Rx.v 7
noncomputable abbrev j8:=Rx.v 8
noncomputable abbrev LU:Rx:=.a (.a (.m (30/100) (.o j0 16)) (.m (59/100) (.o j1 16))) (.m (11/100) (.o j2 16))
noncomputable abbrev r0:=Rx.n 0
noncomputable abbrev r1:=Rx.n 1
noncomputable abbrev r2:=Rx.n 2
theorem q0:rn [.l 1 (.n (-2)) r2] []:=rt
theorem q1:rn [.l 1 (.n (-6)) (.n 6)] []:=rt
theorem q5:(0:aV)=(1:aV)-(1:aV):=gW (iX.mp λk=>rl 0 [] (.t 1 (.n (1-1)) (.n 0) .z) () k) (iX.mp λk=>rl 0 [] (.t 1 (.n 0) (.n (1-1)) .z) () k)
theorem q6:nN [.l u1 (.a u1 u1)] []:=nt
theorem q8:nN [.t u2 u4] []:=nt
theorem q9:nN [.l u2 (.n 16777216)] []:=nt
theorem q10:rn [.l 1 r2 r2] []:=rt
theorem q11:rn [.l 1 (.n 6) (.n 6)] []:=rt
theorem q12:nN [.i (.t (.n 5) u4) .z] []:=nt
theorem q13:nN [.i (.t (.n 6) u4) .z] []:=nt
theorem q15:nN [.i (.t (.n 8) u4) .z] []:=nt
theorem q16:nN [.i (.t (.n 9) u4) .z] []:=nt
theorem q78{a b c:aE}:a*1000+b<a*1000+c↔b<c:=Int.add_lt_add_iff_left (a*1000)
theorem ain{c:ah}{a b:aE}:nl [.t x0 u0,.T y0 y1] [c] [a,b]:=nt
theorem aio{c:ah}{a b d:aE}:nl [.E y0 (.s (.c x0) y1),.T y2 y0,.T (.a y1 y2) (.c x0)] [c] [d,a,b]:=nt
theorem YW{c d:ah}{a b:aE}:nl [.t x0 x1,.t x1 u1,.T y0 y1] [c,d] [a,b]:=nt
theorem aip{c d:ah}{a b:aE}:nl [.l x0 x1,.t x1 x0,.T y0 y1] [c,d] [a,b]:=nt
theorem aiq{b:ah}{a:aE}:nl [.E (.s y0 m1) m0,.E (.s y0 m1) (.a (.c x0) m1),.z] [b] [a]:=nt
theorem air{b:ah}{a:aE}:nl [.E (.s y0 m1) (.a (.c x0) m1),.E y0 (.a (.a (.c x0) m1) m1)] [b] [a]:=nt
theorem ais{b:ah}{a:aE}:nl [.E y0 (.a (.c x0) m1),.E (.s y0 m1) (.c x0)] [b] [a]:=nt
theorem ait{b:ah}{a:aE}:nl [.E y0 (.c x0),.l u1 x0,.L m1 y0] [b] [a]:=nt
theorem aiu{b:ah}{a:aE}:nl [.t x0 x1,.t x0 (.w x1 1)] [dK a,b] [a]:=nf (AB y0 x0) (uJ a)
theorem Z6{b:ah}{a:aE}:nl [.E (.s (.s y0 m1) (.c x0)) (.s y0 (.a (.c x0) m1))] [b] [a]:=nt
theorem aat{b c:ah}{a:aE}:nl [.e x0 x1,.t x2 x1,.T y0 (.c x0)] [b,c,eZ a] [a]:=nf (TN y0 x2) (yH a)
theorem aiv{b c:ah}{a:aE}:nl [.E (.s (.s y0 (.c x0)) (.c x1)) (.s y0 (.a (.c x0) (.c x1)))] [b,c] [a]:=nt
theorem aiw{b c d e:ah}{a:aE}:nl [.e x0 x1,.E y0 (.c x2),.e x2 (.a x3 x1),.e x3 u0,.E y0 (.c x0)] [b,c,d,e] [a]:=nt
theorem ajC{a:ah}{b:aE}:nl [.T (.n (-1)) (.a (.c x0) y0),.E (.c x1) (.a (.c x0) y0)] [a,(eZ (((a:ah):aE)+b))] [b]:=nf (TN (.a (.c x0) y0) x1) (yH (((a:ah):aE)+b))
theorem UG{a:ah}{b:aE}:nl [.T m0 y0] [a] [(max 1 (((a:ah):aE)-b)),b]:=nf (XI m1 (.s (.c x0) y1) y0) (pQ 1 (((a:ah):aE)-b))
theorem UH{a c:ah}{b:aE}:nl [.e x0 x1,.L m0 (.a y0 (.c x1)),.L (.g (.c x0)) y0] [a,c] [b]:=nt
theorem ajD{a c d e:ah}{b:aE}:nl [.E y0 (.c x0),.e x0 x1,.E y0 (.c x2),.e x2 (.a x3 x1),.e x3 u0] [c,d,e,a] [b]:=nt
theorem akh{a b:ah}(h0:b=a+2):(a+4) % 6=(b+2) % 6:=Eq.symm (Nat.add_mod_eq_add_mod_right 2 (PX (bI HMod.hMod h0) 6))
theorem akF{a b:ah}{c d:aE}:nl [.T y0 y1,.T y1 y0,.e x0 x1] [a,b] [c,d]:=nt
theorem ak3{a b c:ah}(h0:a<=b+c)(h1:b<=a+c):((↑a:aE)-(↑b:aE)).natAbs<=c:=fy.mp (ar 4 (.to (.le (.v 1) (.a (.v 2) (.v 3))) (.to (.le (.v 2) (.a (.v 1) (.v 3))) (.to (.or (.an (.le (.n 0) (.s (.v 1) (.v 2))) (.eq (.v 0) (.s (.v 1) (.v 2)))) (.an (.le (.s (.v 1) (.v 2)) (.n 0)) (.eq (.v 0) (.g (.s (.v 1) (.v 2)))))) (.le (.v 0) (.v 3))))) [(((dK (((a:ah):aE)-((b:ah):aE))):ah):aE),a,b,c] rfl (fy.mpr h0) (fy.mpr h1) (uJ (((a:ah):aE)-((b:ah):aE))))
theorem ak4{a b c:ah}(h0:a<=b+c)(h1:b<=a+c):(-(↑a:aE)- -(↑b:aE)).natAbs<=c:=fy.mp (ar 4 (.to (.le (.v 1) (.a (.v 2) (.v 3))) (.to (.le (.v 2) (.a (.v 1) (.v 3))) (.to (.or (.an (.le (.n 0) (.s (.g (.v 1)) (.g (.v 2)))) (.eq (.v 0) (.s (.g (.v 1)) (.g (.v 2))))) (.an (.le (.s (.g (.v 1)) (.g (.v 2))) (.n 0)) (.eq (.v 0) (.g (.s (.g (.v 1)) (.g (.v 2))))))) (.le (.v 0) (.v 3))))) [(((dK ((-((a:ah):aE))-(-((b:ah):aE)))):ah):aE),a,b,c] rfl (fy.mpr h0) (fy.mpr h1) (uJ ((-((a:ah):aE))-(-((b:ah):aE)))))
theorem alJ{a b c d:ah}(h0:a<b):a=b->c+1=d:=λe=>ej e (dP h0)
theorem ami{a b d:ah}{c e f:aV}:rn [.l 1 (.s (.m 6 (.a j0 j1)) (.a j2 j3)) j4,.l 1 (.s (.a (.a (.a j5 (.m 6 j1)) (.n 4)) (.s (.m 6 j0) j5)) (.a (.a j2 (.n 4)) j3)) j4] [c,↑b,↑d,e,f,↑a]:=rt
theorem amj{a b:ah}{c d e:aV}:rn [.l 1 j0 (.a r1 j1),.l 1 r0 j2,.l 2 j1 (.n (1/4)),.l 1 (.g j1) (.s (.a j3 j0) (.a j4 j2)),.t 1 j4 (.a j3 r2)] [c,d,e,↑b,↑a]:=rt
theorem amk{a:ah}{b:aV}:rn [.l 1 r0 j0,.l 6 (.n (-1)) (.o (.s (.a j1 j0) (.n 6)) 6)] [b,↑a]:=rf (.l 1 r0 j1) gD
theorem aml{a:ah}{b:aV}:rn [.l 1 (.s j0 (.n (2/5))) (.m 16 j1),.l 1 (.s j0 (.n (504/1000))) (.m 16 j1)] [↑a,b]:=rt
theorem amm{a:ah}{b:aV}:rn [.l 1 j0 (.n 10),.l 1 j1 r1,.l 6 (.o (.s (.a j0 j1) (.n 6)) 6) r1] [↑a,b]:=rt
theorem amn{a:ah}{b c d e f:aV}:rn [.l 1 (.s j0 (.n (504/1000))) (.m 16 j1),.l 1 (.n (5049/10000)) j2,.l 2 j3 (.n (1/1000000)),.l 1 (.g j3) (.s j4 (.w j1 16)),.l 1 (.g j3) (.s j5 (.a j4 j2)),.l 1 j0 j5] [↑a,c,d,e,f,b]:=rt
theorem amJ{b:ah}{a:aV}:rn [.l 1 (.m 16 j0) (.a j1 (.n (2/5))),.l 1 (.m 16 j0) (.a j1 (.n (494/1000)))] [a,↑b]:=rt
theorem amK{b:ah}{a:aV}:rn [.l 1 (.m 16 j0) (.a j1 (.n (494/1000))),.l 1 j1 (.n 16),.t 1 (.w j0 16) (.n 32)] [a,↑b]:=rt
theorem amL{b:ah}{a:aV}:rn [.l 1 (.s j0 (.n (504/1000))) (.m 16 j1),.t 1 (.n (-32)) (.w j1 16)] [↑b,a]:=rf (.l 1 r0 j0) gD
theorem amM{b:ah}{a:aV}:rn [.l 1 j0 j1,.l 1 (.n (-16)) (.s j1 j0)] [↑b,a]:=rt
theorem amN{b:ah}{a:aV}:rn [.t 1 j0 (.a j1 r1),.l 1 (.s j0 j1) (.n 16)] [a,↑b]:=rt
theorem amO{b c e:ah}{a d f:aV}:rn [.l 1 (.g j0) (.s (.m 6 (.a j1 j2)) (.a j3 j4)),.l 1 (.g j0) (.s (.a (.a (.a j5 (.m 6 j2)) (.n 4)) (.s (.m 6 j1) j5)) (.a (.a j3 (.n 4)) j4))] [a,d,↑c,↑e,f,↑b]:=rt
theorem amP{b:ah}{a c:aV}:rn [.l 1 (.m 6 j0) (.a (.a j1 r1) j2),.l 1 (.s (.m 6 j0) j1) (.a r1 j2)] [a,↑b,c]:=rt
theorem amQ{b:ah}{a c:aV}:rn [.l 1 j0 j1,.e 1 (.s j1 j0) j2,.l 1 r0 j2] [↑b,c,a]:=rt
theorem amR{b:ah}{a c:aV}:rn [.l 1 j0 (.a (.m 100 j1) (.n 49)),.l 100 (.m 16 j2) (.a (.o j0 100) (.n (2/1000))),.l 100 (.m 16 j2) (.a j1 (.n (494/1000)))] [c,↑b,a]:=rt
theorem amS{b:ah}{a c d e f:aV}:rn [.l 1 (.m 16 j0) (.a j1 (.n (494/1000))),.l 1 j2 (.n (5051/10000)),.l 2 j3 (.n (1/1000000)),.l 1 (.s j4 (.w j0 16)) j3,.l 1 (.s j5 (.a j4 j2)) j3,.t 1 j5 (.a j1 r1)] [c,↑b,d,e,f,a]:=rt
theorem anj{a b:aV}(h0:1<=a-b):a-b≠0:=by grind
theorem anl{a b:aV}(h0:1<=b)(h1:b<=a):a≠0:=by grind
theorem anN{c:ah}{a b:aV}:rn [.l 1 (.s j0 j1) (.m 6 j2),.l 1 (.g j1) (.s (.m 6 j2) j0)] [↑c,a,b]:=rt
theorem anO{c:ah}{a b:aV}:rn [.t 1 j0 (.a j1 r1),.e (-1) (.s j0 j1) j2,.l 1 j2 r1] [b,↑c,a]:=rt
theorem anV{a b c:aV}(h0:0<=b)(h1:c*(a+b)=a-b):1-(a+b)/32+c-(1-(a+b)/32)*c<=16:=by grind
theorem anZ{a b c:aV}(h0:1<=a-b)(h1:a<=16)(h2:c*(a+b)=a-b):(-16)<=1-(a+b)/32+c-(1-(a+b)/32)*c:=by grind
theorem an7{a b c:aV}(h0:a*(32-b-c)=b-c):a*(2-b/16-c/16)=b/16-c/16:=by grind
theorem an8{a b c:aV}(h0:a*(b+c)=b-c):a*(b/16+c/16)=b/16-c/16:=by grind
theorem aoh{a b c:aV}(h0:c*(32-a-b)=a-b):(1-(a+b)/32)*(1+c)=1-b/16:=by grind
theorem aeG{a b c:aV}:-(a-a)<=b*(1-c)-b*(1-c*(1-0)):=by grind
theorem aeH{a b c:aV}:-(a-a)<=b-b*(1-c*(1-1)):=by grind
theorem aeI{a b c:aV}:a*(1-b)-a*(1-b*(1-0))<=c-c:=by grind
theorem aeJ{a b c:aV}:a*b*(c*b)=a*c*b*b:=by grind
theorem aeK{a b c:aV}:a-a*(1-b*(1-1))<=c-c:=by grind
theorem aok{d:ah}{a b c:aV}:rn [.l 1 (.g j0) (.s (.a j1 j2) (.a j1 j3)),.l 2 (.s (.a j1 j2) (.a j1 j3)) j0,.l 1 (.g (.m 3 j0)) (.s (.s r1 j2) (.s r1 j3))] [a,↑d,b,c]:=rt
theorem aeL{d:ah}{a b c:aV}:rn [.l 2 (.g j0) (.s (.a j1 j2) (.a j1 j3)),.l 1 (.s (.a j1 j2) (.a j1 j3)) j0,.l 1 (.s (.s r1 j2) (.s r1 j3)) (.m 3 j0)] [a,↑d,b,c]:=rt
theorem aol{d:ah}{a b c:aV}:rn [.l 2 (.g j0) (.s (.a j1 j2) (.a j1 j3)),.l 1 (.s (.a j1 j2) (.a j1 j3)) j0,.l 1 (.g (.m 3 j0)) (.s j2 j3)] [a,↑d,b,c]:=rt
theorem aeM{d:ah}{a b c:aV}:rn [.l 1 (.g j0) (.s (.a j1 j2) (.a j1 j3)),.l 2 (.s (.a j1 j2) (.a j1 j3)) j0,.l 1 (.s j2 j3) (.m 3 j0)] [a,↑d,b,c]:=rt
theorem aor{a b c d:aV}(h0:a*(b-c)=d-c):(1-a)*(b/16-c/16)=b/16-d/16:=by grind
theorem aos{a b c d:aV}(h0:a*d=c):a*b=c-a*(d-b):=by grind
theorem aoy{a b c d:aV}:-(a-a)<=b*(1-c*d)-b*(1-c*(1-(1-d))):=by grind
theorem aoz{a b c d:aV}:a*(1-b*c)-a*(1-b*(1-(1-c)))<=d-d:=by grind
theorem aoA{a b c d:aV}:a*b*(c*b)-d*b*b=a*c*b*b-d*b*b:=by grind
theorem aoB{a b c d:aV}:a*b-c*d=a*(b-d)+d*(a-c):=by grind
theorem aoG{a b c d e:aV}(h0:e*(a-b)=d-b):(a-b)*c-(d-b)=(a-b)*(c-e):=by grind
theorem aeU{a b c d e:aV}(h0:e*(b-c)=d-c)(h1:a=1-e):a*(b-c)=c+b-d-c:=by grind
theorem aoH{a b c d e:aV}(h0:e*(b-c)=d-c)(h1:e=1-a):a*(b-c)=c+b-d-c:=by grind
theorem aoL{a b c d e f g h i j k l:aV}(h0:b*e=f)(h1:g+h*i<=(d-(1/100000000000000))*j)(h2:k-f<=g)(h3:-(h*i)<=b*(e-c)/\b*(e-c)<=h*i)(h4:(d-(1/100000000000000))*j<=(d-(1/100000000000000))*c)(h5:c*l<=c*(1/100000000000000))(h6:a*c-k<=c*l):(a-b)*c<=d*c:=by grind
theorem YU{b:ah}{a:aE}:nl [.l x0 x1,.L y0 (.c x1)] [dK a,b] [a]:=nf (AB y0 x0) (uJ a)
theorem YY{a b c e f:ah}{d g h i:aV}:rn [.l 1 (.s (.m 6 (.a j0 j1)) (.a j2 j3)) (.n (1/100000000)),.l 1 (.s j4 (.w (.a j0 (.o (.a r1 j5) 6)) 6)) (.n (1/10000000000)),.e (-1) (.s j4 j6) j7,.l 1 (.s (.a (.a (.a j6 (.m 6 j1)) j8) j7) (.a (.a (.a j2 (.a r1 j5)) j8) j3)) (.n (1/10000000))] [h,↑b,↑e,g,i,↑f,↑a,d,↑c]:=rt
theorem YZ{a b c e f:ah}{d g h i:aV}:rn [.l 1 (.n (-(1/100000000))) (.s (.m 6 (.a j0 j1)) (.a j2 j3)),.l 1 (.n (-(1/10000000000))) (.s j4 (.w (.a j0 (.o (.a r1 j5) 6)) 6)),.e 1 (.s j4 j6) j7,.l 1 (.n (-(1/10000000))) (.s (.a (.a (.a j6 (.m 6 j1)) j8) j7) (.a (.a (.a j2 (.a r1 j5)) j8) j3))] [h,↑b,↑e,g,i,↑f,↑a,d,↑c]:=rt
theorem Y0{a b:ah}{c d e:aV}:rn [.l 1 (.g j0) j1,.l 1 j2 r1,.l 2 j0 (.n (1/4)),.l 1 (.s (.a j3 j1) (.a j4 j2)) j0,.t 1 j3 (.a j4 r2)] [c,d,e,↑a,↑b]:=rt
theorem Y1{a:ah}{b:aV}:rn [.l 1 (.w (.o (.s (.a j0 j1) (.n 6)) 6) 6) (.s (.a j0 j1) (.n 6))] [↑a,b]:=rt
theorem Uv{a:ah}{b:aV}:rn [.l 1 (.s (.a j0 j1) (.n 6)) (.w (.o (.s (.a j0 j1) (.n 6)) 6) 6)] [↑a,b]:=rt
theorem Y2{a:ah}{b c:aV}:rn [.l 1 (.s (.m 100 j0) (.n 50)) j1,.l 100 (.s (.o j1 100) (.n (2/1000))) (.m 16 j2),.l 100 (.s j0 (.n (504/1000))) (.m 16 j2)] [↑a,c,b]:=rt
theorem Y3{a e:ah}{b c d f g:aV}:rn [.l 1 r0 j0,.l 1 (.n (-(5*(1/100000000)))) (.s (.m 6 (.a j1 j2)) (.a j3 j0)),.l 6 (.g (.m 2 j4)) (.s j5 (.s j1 j6)),.l 6 j5 (.a r1 (.m 2 j4)),.l 24 j4 (.n (1/100000000000000)),.l 1 (.n 3) j3,.t 6 (.n (-1)) (.a j2 j6)] [c,d,↑a,↑e,f,g,b]:=rt
theorem Zq{b:ah}{a:aV}:rn [.l 6 (.n (-(1/100000000))) j0,.l 6 (.n (-16)) (.a j0 (.o (.a r1 j1) 6))] [a,↑b]:=rf (.l 1 r0 j1) gD
theorem Zr{b:ah}{a:aV}:rn [.l 6 (.n (-(1/100000000))) j0,.l 6 (.n (-2)) (.a j0 (.o (.a r1 j1) 6))] [a,↑b]:=rf (.l 1 r0 j1) gD
theorem Zs{b:ah}{a:aV}:rn [.l 6 j0 (.n (1+(1/100000000))),.l 1 j1 (.n 4),.l 6 (.a j0 (.o (.a r1 j1) 6)) (.n 16)] [a,↑b]:=rt
theorem Zt{b:ah}{a:aV}:rn [.l 6 j0 (.n (1+(1/100000000))),.l 1 j1 (.n 4),.l 6 (.a j0 (.o (.a r1 j1) 6)) r2] [a,↑b]:=rt
theorem Zu{b c:ah}{a d:aV}:rn [.l 1 (.s (.m 6 (.a j0 j1)) (.a j2 j3)) (.n (1/100000000)),.l 1 (.s (.m 6 (.a j0 j1)) (.a j2 j3)) (.n (5*(1/100000000)))] [a,↑b,↑c,d]:=rt
theorem Zv{b c:ah}{a d:aV}:rn [.l 1 (.n (-(1/100000000))) (.s (.m 6 (.a j0 j1)) (.a j2 j3)),.l 1 (.n (-(5*(1/100000000)))) (.s (.m 6 (.a j0 j1)) (.a j2 j3))] [a,↑b,↑c,d]:=rt
theorem Zw{b c:ah}{a d e:aV}:rn [.l 1 (.s (.m 6 (.a j0 j1)) (.a j2 j3)) (.n (1/100000000)),.l 6 (.s j4 (.a j0 (.n (1/3)))) (.n (2*(1/1000000000000))),.l 1 (.s (.m 6 (.a j4 j1)) (.a (.a j2 r2) j3)) (.n (5*(1/100000000)))] [e,↑b,↑c,d,a]:=rt
theorem Zx{b c:ah}{a d e:aV}:rn [.l 1 (.n (-(1/100000000))) (.s (.m 6 (.a j0 j1)) (.a j2 j3)),.l 6 (.n (-(2*(1/1000000000000)))) (.s j4 (.a j0 (.n (1/3)))),.l 1 (.n (-(5*(1/100000000)))) (.s (.m 6 (.a j4 j1)) (.a (.a j2 r2) j3))] [e,↑b,↑c,d,a]:=rt
theorem Zy{b c f:ah}{a d e:aV}:rn [.l 1 (.s (.m 6 (.a j0 j1)) (.a j2 j3)) (.n (1/100000000)),.e 1 j2 (.a j4 r2),.l 6 (.s j5 (.s j0 (.n (1/3)))) (.n (2*(1/1000000000000))),.l 1 (.s (.m 6 (.a j5 j1)) (.a j4 j3)) (.n (5*(1/100000000)))] [e,↑b,↑f,d,↑c,a]:=rt
theorem Zz{b c f:ah}{a d e:aV}:rn [.l 1 (.n (-(1/100000000))) (.s (.m 6 (.a j0 j1)) (.a j2 j3)),.e (-1) j2 (.a j4 r2),.l 6 (.n (-(2*(1/1000000000000)))) (.s j5 (.s j0 (.n (1/3)))),.l 1 (.n (-(5*(1/100000000)))) (.s (.m 6 (.a j5 j1)) (.a j4 j3))] [e,↑b,↑f,d,↑c,a]:=rt
theorem ZA{b:ah}{a c:aV}:rn [.l 1 j0 j1,.e 1 (.s j1 j0) j2,.l 1 (.n (-(1/10000000))) j2] [↑b,c,a]:=rt
theorem ZC{b d:ah}{a c e f g:aV}:rn [.l 1 (.s (.m 6 (.a j0 j1)) (.a j2 j3)) (.n (5*(1/100000000))),.l 6 (.s j4 (.s j0 j5)) (.m 2 j6),.l 12 j6 (.n (1/100000000000000)),.l 1 (.s (.m 6 (.a j4 (.a j1 j5))) (.a j2 j3)) (.n (1/10000000))] [f,↑b,↑d,e,a,c,g]:=rt
theorem ZD{b d:ah}{a c e f g:aV}:rn [.l 1 (.n (-(5*(1/100000000)))) (.s (.m 6 (.a j0 j1)) (.a j2 j3)),.l 6 (.g (.m 2 j4)) (.s j5 (.s j0 j6)),.l 12 j4 (.n (1/100000000000000)),.l 1 (.n (-(1/10000000))) (.s (.m 6 (.a j5 (.a j1 j6))) (.a j2 j3))] [f,↑b,↑d,e,g,a,c]:=rt
theorem ZE{b:ah}{a c d e:aV}:rn [.l 6 (.n (-(1/1000000000))) (.s j0 (.o (.s (.a j1 j2) (.n 6)) 6)),.l 12 j3 (.n (1/100000000000000)),.l 6 (.g (.m 2 j3)) (.s j4 (.s j0 (.n (-1)))),.l 1 (.n (-(1/100000000))) (.s (.m 6 (.a j4 r0)) (.a j1 j2))] [d,↑b,c,e,a]:=rt
theorem ZF{b:ah}{a c d e:aV}:rn [.l 6 (.n (-(1/1000000000))) (.s j0 (.o (.s (.a j1 j2) (.n 6)) 6)),.l 12 j3 (.n (1/100000000000000)),.l 6 (.g (.m 2 j3)) (.s j4 (.s j0 r0)),.l 1 (.n (-(1/100000000))) (.s (.m 6 (.a j4 r1)) (.a j1 j2))] [d,↑b,c,e,a]:=rt
theorem ZG{b:ah}{a c d e:aV}:rn [.l 6 (.s j0 (.o (.s (.a j1 j2) (.n 6)) 6)) (.n (1/1000000000)),.l 12 j3 (.n (1/100000000000000)),.l 6 (.s j4 (.s j0 (.n (-1)))) (.m 2 j3),.l 1 (.s (.m 6 (.a j4 r0)) (.a j1 j2)) (.n (1/100000000))] [d,↑b,c,e,a]:=rt
theorem ZH{b:ah}{a c d e:aV}:rn [.l 6 (.s j0 (.o (.s (.a j1 j2) (.n 6)) 6)) (.n (1/1000000000)),.l 12 j3 (.n (1/100000000000000)),.l 6 (.s j4 (.s j0 r0)) (.m 2 j3),.l 1 (.s (.m 6 (.a j4 r1)) (.a j1 j2)) (.n (1/100000000))] [d,↑b,c,e,a]:=rt
theorem ZI{b:ah}{a c d e f:aV}:rn [.l 1 (.n 5) j0,.l 1 r0 j1,.l 6 (.n (-(1/1000000000))) (.s j2 (.o (.s (.a j0 j1) (.n 6)) 6)),.l 6 (.g (.m 2 j3)) (.s j4 (.s j2 j5)),.l 6 j4 (.a r1 (.m 2 j3)),.l 24 j3 (.n (1/100000000000000)),.t 6 (.n (-2)) j5] [↑b,c,d,e,f,a]:=rt
theorem ZJ{b:ah}{a c d e f:aV}:rn [.l 1 j0 (.n 10),.l 1 j1 r1,.l 6 (.s j2 (.o (.s (.a j0 j1) (.n 6)) 6)) (.n (1/1000000000)),.l 6 (.s j3 (.s j2 j4)) (.m 2 j5),.l 6 (.g (.m 2 j5)) j3,.l 24 j5 (.n (1/100000000000000)),.t 6 j4 r1] [↑b,c,d,e,a,f]:=rt
theorem aae{c:ah}{a b:aV}:rn [.l 6 (.n (-(1/100000000))) j0,.l 1 (.n (-(1/10000000000))) (.s j1 (.w (.a j0 (.o (.a r1 j2) 6)) 6)),.l 1 r0 j1] [b,a,↑c]:=rf (.l 1 r0 j2) gD
theorem aaf{c:ah}{a b:aV}:rn [.t 1 j0 (.a j1 r1),.e (-1) (.s j0 j1) j2,.l 1 j2 (.n (1+(1/10000000)))] [b,↑c,a]:=rt
theorem aag{c:ah}{a b:aV}:rn [.l 6 j0 (.n (1+(1/100000000))),.l 1 j1 (.n 4),.l 1 (.s j2 (.w (.a j0 (.o (.a r1 j1) 6)) 6)) (.n (1/10000000000)),.t 1 j2 (.n 12)] [b,↑c,a]:=rt
theorem aah{c:ah}{a b d e:aV}:rn [.l 1 (.s j0 (.n (504/1000))) (.m 16 j1),.l 1 (.n (5049/10000)) j2,.l 1 j3 (.n (1/1000000)),.l 1 (.g j3) (.s j4 (.w j1 16)),.t 1 (.n (-32)) (.a j4 j2)] [↑c,d,b,e,a]:=rf (.l 1 r0 j0) gD
theorem aay{a b c:aV}:(a-b)*c=a*c-b*c:=by grind
theorem aaH{d:ah}{a b c e:aV}:rn [.l 1 (.m 16 j0) (.a j1 (.n (494/1000))),.l 1 j1 (.n 16),.l 1 j2 (.n (5051/10000)),.l 1 j3 (.n (1/1000000)),.l 1 (.s j4 (.w j0 16)) j3,.t 1 (.a j4 j2) (.n 32)] [c,↑d,b,e,a]:=rt
theorem aaK{a b c d:aV}(h0:(b-a)*(6*c)-(b-a)*d<=3*(1/10000000)):a+(b-a)*c*6-(a+(b-a)*d)<=(1/100000)-32*(1/100000000):=by grind
theorem aaL{a b c d:aV}(h0:-(3*(1/10000000))<=(b-a)*(4-6*c)-(b-a)*d):-((1/100000)-32*(1/100000000))<=a+(b-a)*((2/3)-c)*6-(a+(b-a)*d):=by grind
theorem aaM{a b c d:aV}(h0:-(3*(1/10000000))<=(b-a)*(6*c)-(b-a)*d):-((1/100000)-32*(1/100000000))<=a+(b-a)*c*6-(a+(b-a)*d):=by grind
theorem aa5:nN [.k (.L m0 m0) (.L m0 (.n 3))] []:=nt
theorem Q3:nN [.i (.t (.n 7) u4) .z] []:=nt
theorem abC{c:ah}{a b:aE}:nl [.l x0 (.w x1 1000000000),.t x2 (.n 1000000000),.l x3 (.w (.a x1 u1) 1000000000)] [dK a,c,dK b,(dK (a+b))] [a,b]:=nh (AB y0 x0) (AB y1 x2) (AB (.a y0 y1) x3) (uJ a) (uJ b) (uJ (a+b))
theorem abD{c:ah}{a b:aE}:nl [.L (.a y0 m1) (.c x0),.E y1 (.s (.c x0) y0),.T m0 y1] [c] [b,a]:=nt
theorem abE{b:ah}{a:aE}:nl [.E y0 (.c x0),.L y1 (.a (.m 100 (.c x0)) (.n 49))] [b] [(((a*10)+505)/1000),a]:=nf (DV (.a (.w y1 10) (.n 505)) 1000 y0) (WW ((a*10)+505) 1000 (by decide))
theorem abG{b:ah}{a:aE}:nl [.T (.g (.c x0)) y0,.T y0 (.c x0),.t x1 x0] [b,dK a] [a]:=nf (AB y0 x1) (uJ a)
theorem abH{b:ah}{a:aE}:nl [.E y0 (.a (.c x0) m1),.E y0 (.a (.c x0) m1)] [b] [a]:=nt
theorem abI{b:ah}{a:aE}:nl [.E y0 (.c x0),.E y0 (.c x0)] [b] [a]:=nt
theorem abJ{b:ah}{a:aE}:nl [.i (.E (.s y0 m1) m0) .z,.E y0 (.a (.c x0) m1),.L m1 (.s y0 m1)] [b] [a]:=nt
theorem abK{b:ah}{a:aE}:nl [.E (.a (.a y0 m1) (.c x0)) (.a y0 (.a (.c x0) m1))] [b] [a]:=nt
theorem abL{b c d e:ah}{a:aE}:nl [.l x0 x3,.l x1 (.a x4 x3),.l x4 (.a x1 x3),.t x4 x2,.k (.l x5 (.m 2 x3)) (.k (.L (.g (.m 2 (.c x3))) y0) (.L y0 (.a (.c x2) (.m 2 (.c x3)))))] [(dK (a-((-((e:ah):aE))+((b:ah):aE)))),e,b,d,c,(dK (a-(((b:ah):aE)-((c:ah):aE))))] [a]:=ng (AB (.s y0 (.a (.g (.c x1)) (.c x2))) x0) (AB (.s y0 (.s (.c x2) (.c x4))) x5) (uJ (a-((-((e:ah):aE))+((b:ah):aE)))) (uJ (a-(((b:ah):aE)-((c:ah):aE))))
theorem abM{b c d e f g:ah}{a:aE}:nl [.E y0 (.a (.c x0) m1),.e x1 (.a x0 (.a x2 u1)),.e x1 x3,.E y0 (.c x4),.e x4 (.a x5 x3),.E y0 (.c x1)] [c,b,d,e,f,g] [a]:=nt
theorem abZ{a:ah}{b:aE}:nl [.k (.L m0 y0) (.L y0 (.n 1600)),.E y1 (.c x0),.l x0 (.n 16)] [a] [b,(((b*10)+505)/1000)]:=nf (DV (.a (.w y0 10) (.n 505)) 1000 y1) (WW ((b*10)+505) 1000 (by decide))
theorem ab0{a:ah}{b:aE}:nl [.E y0 (.c x0),.L (.s (.m 100 (.c x0)) (.n 50)) y1] [a] [(((b*10)+505)/1000),b]:=nf (DV (.a (.w y1 10) (.n 505)) 1000 y0) (WW ((b*10)+505) 1000 (by decide))
theorem ab1{a:ah}{b:aE}:nl [.l x0 (.n 100),.L m0 y0,.L y1 (.n 100)] [a] [b,(max 1 (((a:ah):aE)-b))]:=nf (XI m1 (.s (.c x0) y0) y1) (pQ 1 (((a:ah):aE)-b))
theorem ab2{a:ah}{b:aE}:nl [.L (.a y0 m1) (.c x0),.E y1 (.s (.c x0) y0)] [a] [b,(max 1 (((a:ah):aE)-b))]:=nf (XI m1 (.s (.c x0) y0) y1) (pQ 1 (((a:ah):aE)-b))
theorem ab3{a:ah}{b:aE}:nl [.t x0 x1,.k (.T (.g (.c x1)) y0) (.T y0 (.c x1))] [dK b,a] [b]:=nf (AB y0 x0) (uJ b)
theorem ab4{a:ah}{b:aE}:nl [.l x0 x1,.L (.g (.c x1)) y0] [dK b,a] [b]:=nf (AB y0 x0) (uJ b)
theorem ab5{a c:ah}{b:aE}:nl [.l (.m 1 x0) (.a x1 (.m 1 x2)),.l x1 (.a (.m 1 x0) (.m 1 x2)),.T y0 m0,.l x3 x2] [a,dK b,c,(dK ((-((a:ah):aE))-b))] [b]:=ng (AB y0 x1) (AB (.s (.g (.c x0)) y0) x3) (uJ b) (uJ ((-((a:ah):aE))-b))
theorem ab6{a c:ah}{b:aE}:nl [.l (.m 1 x0) (.a x1 (.m 1 x2)),.l x1 (.a (.m 1 x0) (.m 1 x2)),.i (.T y0 m0) .z,.l x3 x2] [a,dK b,c,(dK (((a:ah):aE)-b))] [b]:=ng (AB y0 x1) (AB (.s (.c x0) y0) x3) (uJ b) (uJ (((a:ah):aE)-b))
theorem ab7{a c d e f g:ah}{b:aE}:nl [.E y0 (.a (.c x0) m1),.e x1 (.a x0 (.a x2 u1)),.e x1 x3,.E y0 (.c x4),.e x4 (.a x5 x3),.e x2 u0] [c,d,a,e,f,g] [b]:=nt
theorem acw{a b d e f g h i:ah}{c:aE}:nl [.E y0 (.a (.c x0) m1),.e x1 (.a x0 (.a x2 u1)),.e x1 x3,.E y0 (.c x4),.e x4 (.a x5 x3),.t u0 x2,.l x6 x7] [d,e,f,g,h,i,a,b] [c]:=nt
theorem acW{a b c d g h:ah}{e f:aE}:nl [.k (.e x0 x1) (.k (.E (.c x2) (.c x3)) (.k (.E y0 y1) (.e x4 x5))),.e x3 x2] [c,d,b,a,g,h] [e,f]:=nt
theorem Ls:nN [.L m0 m0] []:=nt
theorem acu{a b:ah}{c:aE}:nl [.T y0 (.c x0),.L m0 y0,.e x1 x2,.t x1 x0] [b,a,eZ c] [c]:=nf (TN y0 x2) (yH c)
theorem acv{a b:ah}{c d:aE}:nl [.T y0 (.c x0),.T y1 (.c x0),.L m0 y1,.o (.e x1 x2) (.e x1 x3),.t x1 x0] [b,a,eZ c,eZ d] [c,d]:=ng (TN y0 x2) (TN y1 x3) (yH c) (yH d)
theorem adk{a b c:aV}(h0:c=0)(h1:1<c):-a<=b:=iX.mp λk=>rl 3 [c,b,a] (.e 1 (.v 0) (.n 0) (.t 1 (.n 1) (.v 0) .z)) () h0 h1
theorem adl{a b c:aV}(h0:c=0)(h1:1<c):a-1<=b:=iX.mp λk=>rl 3 [c,b,a] (.e 1 (.v 0) (.n 0) (.t 1 (.n 1) (.v 0) .z)) () h0 h1
theorem adN{a b c d e f g h i:aV}:rn [.l 1 (.a (.a j0 j1) (.n (1/100000000000000))) j2,.l 1 (.g j0) (.s j3 j4),.l 1 (.g j1) (.s j5 j6),.l 1 j7 (.n (1/100000000000000)),.l 1 (.g j7) (.s j8 (.a j3 j5)),.l 1 (.g j2) (.s j8 (.a j4 j6))] [e,f,a,g,c,h,d,i,b]:=rt
theorem adO{a b c d e f g h i:aV}:rn [.l 1 (.a (.a j0 j1) (.n (1/100000000000000))) j2,.l 1 (.g j0) (.s j3 j4),.l 1 (.s j5 j6) j1,.l 1 j7 (.n (1/100000000000000)),.l 1 (.g j7) (.s j8 (.s j3 j5)),.l 1 (.g j2) (.s j8 (.s j4 j6))] [e,f,a,g,c,h,d,i,b]:=rt
theorem adP{a b c d e f g h i:aV}:rn [.l 1 (.a (.a j0 j1) (.n (1/100000000000000))) j2,.l 1 (.s j3 j4) j0,.l 1 (.g j1) (.s j5 j6),.l 1 j7 (.n (1/100000000000000)),.l 1 (.s j8 (.s j3 j5)) j7,.l 1 (.s j8 (.s j4 j6)) j2] [e,f,d,g,b,h,c,i,a]:=rt
theorem adQ{a b c d e f g h i:aV}:rn [.l 1 (.a (.a j0 j1) (.n (1/100000000000000))) j2,.l 1 (.s j3 j4) j0,.l 1 (.s j5 j6) j1,.l 1 j7 (.n (1/100000000000000)),.l 1 (.s j8 (.a j3 j5)) j7,.l 1 (.s j8 (.a j4 j6)) j2] [e,f,d,g,b,h,c,i,a]:=rt
theorem um{a k n r:ah}(h:a % 6=k)(e:(k+n) % 6=r:=by rfl):(a+n) % 6=r:=by omega
section
variable{a b c d e f g h:ah}
theorem aix:nN [.t u0 x0,.i (.l u2 x0) .z,.e x0 u1] [a]:=nt
theorem aiy:nN [.l (.a u1 u1) x0,.l u1 x0] [a]:=nt
theorem aiz:nN [.l u1 x0,.i (.t u1 x0) .z,.e x0 u1] [a]:=nt
theorem aaS:nN [.l u1 x0,.t x1 x0] [a,a-1]:=nf (SB x0 u1 x1) (jQ a 1)
theorem aaT:nN [.l u1 x0,.i (.e x0 x1) .z] [a,a-1]:=nf (SB x0 u1 x1) (jQ a 1)
theorem aiA:nN [.l u1 x0,.e x1 x0] [a,max a 1]:=nf (MX x0 u1 x1) (mxn a 1)
theorem aiB:nN [.k (.l u2 x0) (.l x0 (.n 9)),.L (.c x0) (.n 1000)] [a]:=nt
theorem aiC:nN [.k (.l u2 x0) (.l x0 (.n 9)),.l x0 (.n 100)] [a]:=nt
theorem aiD:nN [.l u2 x0,.t u0 x0] [a]:=nt
theorem aiE:nN [.l u2 x0,.l (.a u1 x1) x0] [a,a-1]:=nf (SB x0 u1 x1) (jQ a 1)
theorem aiF:nN [.l u2 x0,.i (.e u1 (.a u1 x1)) .z] [a,a-1]:=nf (SB x0 u1 x1) (jQ a 1)
theorem aiG:nN [.l (.n 5) x0,.l u3 x0] [a]:=nt
theorem aiH:nN [.T (.c x0) (.n 5),.t x0 (.n 5)] [a]:=nt
theorem aiI:nN [.e x0 u1,.i (.e x0 u0) .z] [a%6,a,a/6]:=ng (DN x1 6 x2) (RN x1 6 x2 x0) (uL a 6) (Dg a 6)
theorem aiJ:nN [.e x0 u2,.i (.e x0 u0) .z] [a%6,a,a/6]:=ng (DN x1 6 x2) (RN x1 6 x2 x0) (uL a 6) (Dg a 6)
theorem aiK:nN [.e x0 u2,.i (.e x0 u1) .z] [a%6,a,a/6]:=ng (DN x1 6 x2) (RN x1 6 x2 x0) (uL a 6) (Dg a 6)
theorem aiL:nN [.e x0 u3,.i (.e x0 u0) .z] [a%6,a,a/6]:=ng (DN x1 6 x2) (RN x1 6 x2 x0) (uL a 6) (Dg a 6)
theorem aiM:nN [.e x0 u3,.i (.e x0 u2) .z] [a%6,a,a/6]:=ng (DN x1 6 x2) (RN x1 6 x2 x0) (uL a 6) (Dg a 6)
theorem aiN:nN [.e x0 u4,.i (.e x0 u0) .z] [a%6,a,a/6]:=ng (DN x1 6 x2) (RN x1 6 x2 x0) (uL a 6) (Dg a 6)
theorem aiO:nN [.e x0 u4,.i (.e x0 u1) .z] [a%6,a,a/6]:=ng (DN x1 6 x2) (RN x1 6 x2 x0) (uL a 6) (Dg a 6)
theorem aiP:nN [.e x0 u4,.i (.e x0 u2) .z] [a%6,a,a/6]:=ng (DN x1 6 x2) (RN x1 6 x2 x0) (uL a 6) (Dg a 6)
theorem aiQ:nN [.e x0 u4,.i (.e x0 u3) .z] [a%6,a,a/6]:=ng (DN x1 6 x2) (RN x1 6 x2 x0) (uL a 6) (Dg a 6)
theorem aiR:nN [.e x0 (.n 5),.i (.e x0 u0) .z] [a%6,a,a/6]:=ng (DN x1 6 x2) (RN x1 6 x2 x0) (uL a 6) (Dg a 6)
theorem aiS:nN [.e x0 (.n 5),.i (.e x0 u1) .z] [a%6,a,a/6]:=ng (DN x1 6 x2) (RN x1 6 x2 x0) (uL a 6) (Dg a 6)
theorem aiT:nN [.e x0 (.n 5),.i (.e x0 u2) .z] [a%6,a,a/6]:=ng (DN x1 6 x2) (RN x1 6 x2 x0) (uL a 6) (Dg a 6)
theorem aiU:nN [.e x0 (.n 5),.i (.e x0 u3) .z] [a%6,a,a/6]:=ng (DN x1 6 x2) (RN x1 6 x2 x0) (uL a 6) (Dg a 6)
theorem aiV:nN [.t x0 x1,.t u0 x1] [a-1,a]:=nf (SB x1 u1 x0) (jQ a 1)
theorem aiW:nN [.t x0 (.n 10),.T (.c x0) (.n 10)] [a]:=nt
theorem aiX:nN [.t x0 (.n 1000),.t (.a x0 u1) (.n 4096)] [a]:=nt
theorem aiY:nN [.t x0 (.n 1000),.t x0 (.n 4096)] [a]:=nt
theorem Uz:nN [.t x0 (.n 1000),.l x0 (.n 16777216)] [a]:=nt
theorem OZ:nN [.t x0 (.n 1000),.l x0 (.n 999)] [a]:=nt
theorem aiZ:nN [.t x0 (.n 12),.t x0 (.n 13)] [a]:=nt
theorem ai0:nN [.t x0 u3,.t x0 (.n 1000)] [a]:=nt
theorem ai1:nN [.t x0 u4,.i (.e x0 (.n 6)) .z] [a]:=nt
theorem ai2:nN [.t x0 u4,.l x0 u3] [a]:=nt
theorem ai3:nN [.t x0 u4,.l x0 (.n 999)] [a]:=nt
theorem UA:nN [.t x0 x0,.z] [a]:=nt
theorem ai4:nN [.t u1 x0,.t u0 x1] [a,a-1]:=nf (SB x0 u1 x1) (jQ a 1)
theorem ai5:nN [.t u1 x0,.t x1 x0] [a,a-1]:=nf (SB x0 u1 x1) (jQ a 1)
theorem aaU:nN [.l x0 (.n 100),.l x0 (.n 1000)] [a]:=nt
theorem aaV:nN [.l x0 (.n 100),.l x0 (.n 16777216)] [a]:=nt
theorem aaW:nN [.l x0 (.n 1000),.t x0 (.n 4096)] [a]:=nt
theorem ai6:nN [.l x0 (.n 1000),.l x0 (.n 1001)] [a]:=nt
theorem Es:nN [.l x0 (.n 1000),.l x0 (.n 16777216)] [a]:=nt
theorem ai7:nN [.l x0 u2,.l (.a u1 x0) (.n 1000)] [a]:=nt
theorem aaX:nN [.l x0 u2,.l x0 (.n 1000)] [a]:=nt
theorem ai8:nN [.l x0 u2,.l x0 (.n 9)] [a]:=nt
theorem ai9:nN [.l x0 u4,.l x0 (.n 1000)] [a]:=nt
theorem aja:nN [.l x0 (.n 63),.l x0 (.n 1000)] [a]:=nt
theorem UB:nN [.l x0 (.n 9),.L (.c x0) (.n 1000)] [a]:=nt
theorem ajb:nN [.l x0 (.n 9),.t x0 (.n 1000)] [a]:=nt
theorem vq:nN [.l x0 (.n 9),.l x0 (.n 1000)] [a]:=nt
theorem ajc:nN [.l x0 (.n 9),.l x0 (.n 999)] [a]:=nt
theorem ajd:nN [.l x0 (.n 900),.l (.a x0 u1) (.n 1000)] [a]:=nt
theorem aje:nN [.e x0 (.a u1 x1)] [(eZ (1+((a:ah):aE))),a]:=nf (TN (.a m1 (.c x1)) x0) (yH (1+((a:ah):aE)))
theorem ajf:rn [.l 1 (.n (-0)) (.s j0 j0)] [↑a]:=rt
theorem ajg:nN [.L (.n (-1)) (.c x0)] [a]:=nt
theorem pV:nN [.e (.a (.a u0 x0) u1) (.a x0 u1)] [a]:=nt
theorem ajh:nN [.e (.a u0 x0) x0] [a]:=nt
theorem aji:nN [.l (.a u0 x0) x0] [a]:=nt
theorem ajj:nN [.t u0 (.a x0 u1)] [a]:=nt
theorem ajk:nN [.l u0 x0] [a]:=nt
theorem aaY:nN [.l u1 (.a x0 u1)] [a]:=nt
theorem ajl:nN [.E (.a (.c x0) m1) (.c (.a x0 u1))] [a]:=nt
theorem ajm:rn [.l 1 (.s j0 j0) r0] [↑a]:=rt
theorem ajn:nN [.e x0 u3] [((((a+1)+1)+1)-a),a]:=nf (SB (.a (.a (.a x1 u1) u1) u1) x1 x0) (jQ (((a+1)+1)+1) a)
theorem ajo:nN [.i (.e (.a (.a x0 u1) u1) x0) .z] [a]:=nt
theorem ajp:nN [.e (.a (.a x0 u1) u3) (.a x0 u4)] [a]:=nt
theorem ajq:nN [.t (.a x0 u1) (.a x0 u4)] [a]:=nt
theorem UC:nN [.i (.e (.a x0 u1) x0) .z] [a]:=nt
theorem O0:nN [.i (.e (.a x0 u1) (.a x0 u2)) .z] [a]:=nt
theorem UD:nN [.i (.e (.a x0 u1) (.a x0 u3)) .z] [a]:=nt
theorem ajr:nN [.e (.a (.a x0 u2) u3) (.a (.a x0 u1) u4)] [a]:=nt
theorem ajs:nN [.t (.a x0 u2) (.a x0 u4)] [a]:=nt
theorem aaZ:nN [.i (.e (.a x0 u2) x0) .z] [a]:=nt
theorem ajt:nN [.i (.e (.a x0 u2) (.a x0 u1)) .z] [a]:=nt
theorem UE:nN [.i (.e (.a x0 u2) (.a x0 u3)) .z] [a]:=nt
theorem aju:nN [.t (.a x0 u3) (.a x0 u4)] [a]:=nt
theorem aa0:nN [.i (.e (.a x0 u3) x0) .z] [a]:=nt
theorem aa1:nN [.i (.e (.a x0 u3) (.a x0 u1)) .z] [a]:=nt
theorem aa2:nN [.i (.e (.a x0 u3) (.a x0 u2)) .z] [a]:=nt
theorem ajv:nN [.l x0 x1] [a-0,a]:=nf (SB x1 u0 x0) (jQ a 0)
theorem HV:nN [.t x0 (.a x0 u1)] [a]:=nt
theorem ajw:nN [.t x0 (.a x0 u4)] [a]:=nt
theorem HW:nN [.i (.e x0 (.a x0 u1)) .z] [a]:=nt
theorem O1:nN [.i (.e x0 (.a x0 u2)) .z] [a]:=nt
theorem O2:nN [.i (.e x0 (.a x0 u3)) .z] [a]:=nt
theorem aa3:nN [.l x0 x0] [a]:=nt
theorem HX:nN [.l x0 (.a x0 u1)] [a]:=nt
theorem ajx:nN [.l x0 (.a (.a x0 u1) u1)] [a]:=nt
theorem ajy:nN [.l x0 (.a (.a (.a x0 u1) u1) u1)] [a]:=nt
theorem ajz:nN [.l x0 (.n 1000)] [min 7 a,a]:=nf (MN (.n 7) x1 x0) (IE 7 a)
theorem ajA:nN [.i (.E (.a (.c x0) m1) m0) .z] [a]:=nt
theorem ajB:nN [.i (.t x0 x0) .z] [a]:=nt
theorem ajE:nN [.t u0 u0,.l x0 x1] [a,b]:=nt
theorem ajF:nN [.l u1 x0,.l x0 x1,.l u1 x1] [b,a]:=nt
theorem ajG:nN [.l u2 x0,.l x1 (.a u1 x2),.l x1 x0] [b,a,b-1]:=nf (SB x0 u1 x2) (jQ b 1)
theorem ajH:nN [.l (.n 5) x0,.e x0 (.a x1 u2),.l u3 x1] [b,a]:=nt
theorem aa4:nN [.E (.c x0) (.c x1),.e x0 x1] [a,b]:=nt
theorem Et:nN [.l (.a x0 u1) x1,.t x0 x1] [a,b]:=nt
theorem Lr:nN [.l (.a x0 u1) x1,.l x0 x1] [a,b]:=nt
theorem ajI:nN [.l (.a x0 u1) x1,.l x0 x2] [a,b,b-1]:=nf (SB x1 u1 x2) (jQ b 1)
theorem UI:nN [.l (.a x0 u2) x1,.t (.a x0 u1) x1] [a,b]:=nt
theorem ajJ:nN [.l (.a x0 u2) x1,.l (.a x0 u1) x1] [a,b]:=nt
theorem UJ:nN [.l (.a x0 u2) x1,.t x0 x1] [a,b]:=nt
theorem ajK:nN [.l (.a x0 u4) x1,.t (.a x0 u1) x1] [a,b]:=nt
theorem ajL:nN [.l (.a x0 u4) x1,.i (.e (.a x0 u1) x1) .z] [a,b]:=nt
theorem ajM:nN [.l (.a x0 u4) x1,.i (.e (.a x0 u1) (.a x1 u1)) .z] [a,b]:=nt
theorem UK:nN [.l (.a x0 u4) x1,.t (.a x0 u2) x1] [a,b]:=nt
theorem ajN:nN [.l (.a x0 u4) x1,.i (.e (.a x0 u2) x1) .z] [a,b]:=nt
theorem acd:nN [.l (.a x0 u4) x1,.t (.a x0 u3) x1] [a,b]:=nt
theorem ajO:nN [.l (.a x0 u4) x1,.t x0 x1] [a,b]:=nt
theorem ajP:nN [.l (.a x0 u4) x1,.i (.e x0 x1) .z] [a,b]:=nt
theorem ajQ:nN [.l (.a x0 x1) (.n 1000),.l (.a x0 x1) (.n 16777216)] [a,b]:=nt
theorem HY:nN [.t x0 (.a (.a u0 x1) u1),.i (.e x0 x1) .z,.t x0 x1] [a,b]:=nt
theorem xx:nN [.t x0 (.a x1 u1),.i (.e x0 x1) .z,.t x0 x1] [a,b]:=nt
theorem ajR:nN [.t x0 x1,.e x0 x1,.z] [a,b]:=nt
theorem ajS:nN [.t x0 x1,.l x1 (.n 100),.t x0 (.n 1000)] [a,b]:=nt
theorem ajT:nN [.t x0 x1,.l x1 (.n 100),.t x0 (.n 18446744073709551616)] [a,b]:=nt
theorem adE:nN [.t x0 x1,.l x1 x0,.z] [a,b]:=nt
theorem ajU:nN [.t x0 x1,.i (.E (.c x0) (.s (.c x1) m1)) .z,.t (.a x0 u1) x1] [a,b]:=nt
theorem adR:nN [.t x0 x1,.i (.e x0 x2) .z,.t x0 x2] [a,b,b-1]:=nf (SB x1 u1 x2) (jQ b 1)
theorem ajV:nN [.t x0 x1,.T (.a (.w (.n (-1)) 1000) (.c x0)) (.a (.w (.n (-1)) 1000) (.c x1))] [a,b]:=nt
theorem ajW:nN [.t x0 x1,.T (.c x0) (.c x1)] [a,b]:=nt
theorem ajX:nN [.t x0 x1,.e (.a x0 x2) x1] [a,b,b-a]:=nf (SB x1 x0 x2) (jQ b a)
theorem HZ:nN [.t x0 x1,.t x0 (.a x1 u1)] [a,b]:=nt
theorem Eu:nN [.t x0 x1,.i (.e x0 x1) .z] [a,b]:=nt
theorem adS:nN [.t x0 x1,.i (.e x0 (.a x1 u1)) .z] [a,b]:=nt
theorem adT:nN [.t x0 x1,.l x0 x1] [a,b]:=nt
theorem ajY:nN [.t x0 x1,.l x0 (.a x1 u1)] [a,b]:=nt
theorem adU:nN [.t x0 x1,.i (.E (.c x0) (.c x1)) .z] [a,b]:=nt
theorem ajZ:nN [.t x0 x1,.i (.e x0 x1) .z] [a,b]:=nt
theorem aj0:nN [.e x0 (.a x1 u2),.l u3 (.a x0 u2)] [a,b]:=nt
theorem aj1:nN [.e x0 x1,.t x0 x1,.z] [a,b]:=nt
theorem Lw:nN [.e x0 x1,.t x1 x0,.z] [a,b]:=nt
theorem adV:nN [.e x0 x1,.l x0 x1] [a,b]:=nt
theorem aj2:nN [.e x0 x1,.l x0 (.a x1 u1)] [a,b]:=nt
theorem adW:nN [.i (.e x0 x1) .z,.i (.E (.c x0) (.c x1)) .z] [a,b]:=nt
theorem aj3:nN [.l x0 (.n 9),.t (.a (.w x1 101) u0) (.n 1000)] [a,a-b,b]:=nf (SB x0 x2 x1) (jQ a b)
theorem aj4:nN [.l x0 (.n 9),.t x1 (.n 1000)] [a,a-b,b]:=nf (SB x0 x2 x1) (jQ a b)
theorem aj5:nN [.l x0 x1,.l x1 x0,.e x0 x1] [a,b]:=nt
theorem Lx:nN [.l x0 x1,.i (.t x0 x1) .z,.e x0 x1] [a,b]:=nt
theorem aj6:nN [.l x0 x1,.i (.e x0 x1) .z,.t x0 x1] [a,b]:=nt
theorem aj7:nN [.l x0 x1,.l (.a u0 x0) x1] [a,b]:=nt
theorem aj8:nN [.l x0 x1,.k (.l u1 (.a x0 u1)) (.l (.a x0 u1) (.a u1 x1))] [a,b]:=nt
theorem adX:nN [.l x0 x1,.l (.a x0 u1) (.a x1 u1)] [a,b]:=nt
theorem aj9:nN [.l x0 x1,.e (.a x0 x2) x1] [a,b,b-a]:=nf (SB x1 x0 x2) (jQ b a)
theorem aka:nN [.l x0 x1,.l (.a x0 x2) x1] [a,b,b-a]:=nf (SB x1 x0 x2) (jQ b a)
theorem akb:nN [.l (.a x0 u1) x1,.t u0 x1] [b,a]:=nt
theorem adY:nN [.l (.a x0 u2) x1,.i (.e x1 x0) .z] [b,a]:=nt
theorem adZ:nN [.l (.a x0 u2) x1,.i (.e x1 (.a x0 u1)) .z] [b,a]:=nt
theorem akc:nN [.l (.a x0 u4) x1,.i (.e (.a x1 u1) (.a x0 u3)) .z] [b,a]:=nt
theorem Ew:nN [.l (.a x0 u4) x1,.i (.e x1 x0) .z] [b,a]:=nt
theorem Ly:nN [.l (.a x0 u4) x1,.i (.e x1 (.a x0 u1)) .z] [b,a]:=nt
theorem UL:nN [.l (.a x0 u4) x1,.i (.e x1 (.a x0 u2)) .z] [b,a]:=nt
theorem Ex:nN [.l (.a x0 u4) x1,.i (.e x1 (.a x0 u3)) .z] [b,a]:=nt
theorem akd:nN [.t x0 x1,.T m0 (.s (.c x1) (.c x0))] [b,a]:=nt
theorem ake:nN [.t x0 x1,.i (.e (.a (.a x1 u1) u1) x0) .z] [b,a]:=nt
theorem O3:nN [.t x0 x1,.t x2 x3] [b,a,(a-(b+1)),a-b]:=ng (SB x1 (.a x0 u1) x2) (SB x1 x0 x3) (jQ a (b+1)) (jQ a b)
theorem ad0:nN [.t x0 x1,.i (.e x1 u0) .z] [b,a]:=nt
theorem akf:nN [.t x0 x1,.i (.E (.c x1) (.c x0)) .z] [b,a]:=nt
theorem akg:nN [.t x0 x1,.i (.e x1 x0) .z] [b,a]:=nt
theorem aki:nN [.e x0 x1,.t x1 (.a x0 u1)] [b,a]:=nt
theorem UM:nN [.i (.e x0 x1) .z,.i (.E (.c x1) (.c x0)) .z] [b,a]:=nt
theorem akj:nN [.l x0 (.n 9),.l (.a x1 u1) x0,.t (.a x1 u1) (.n 1000)] [b,a]:=nt
theorem akk:nN [.l x0 (.n 9),.t x1 x0,.T (.c x1) (.n 1000)] [b,a]:=nt
theorem akl:nN [.l x0 (.n 9),.l x1 (.m 2 x0),.l x1 (.n 100)] [b,a]:=nt
theorem UN:nN [.l x0 (.n 9),.l x1 x0,.t x1 (.n 1000)] [b,a]:=nt
theorem akm:nN [.l x0 (.n 9),.l x1 x0,.t x1 (.n 64)] [b,a]:=nt
theorem akn:nN [.l x0 (.n 9),.l x1 x0,.t x1 (.n 900)] [b,a]:=nt
theorem ako:nN [.l x0 (.n 999),.t x1 x0,.t x1 (.n 1000)] [b,a]:=nt
theorem akp:nN [.k (.l x0 x1) (.l x1 (.a x0 (.n 9))),.l x2 (.n 1000)] [b,a,a-b]:=nf (SB x1 x0 x2) (jQ a b)
theorem akq:nN [.l x0 x1,.t x1 (.a x0 u1),.e x1 x0] [b,a]:=nt
theorem akr:nN [.l x0 x1,.e x2 x0] [b,a,(a-(a-b)),a-b]:=ng (SB x1 x0 x3) (SB x1 x3 x2) (jQ a b) (jQ a (a-b))
theorem Lz:nN [.i (.t x0 x1) .z,.t x0 (.a x1 u1),.e x0 x1] [a,b]:=nt
theorem aks:nN [.i (.t x0 x1) .z,.i (.e x1 x0) .z,.i (.t x0 (.a x1 u1)) .z] [a,b]:=nt
theorem akt:nN [.i (.e x0 x1) .z,.i (.t x0 x1) .z,.i (.t x0 (.a x1 u1)) .z] [a,b]:=nt
theorem aku:nN [.i (.e x0 x1) .z,.i (.t x1 x0) .z,.t x0 x1] [a,b]:=nt
theorem UO:nN [.i (.e x0 x1) .z,.i (.E (.c x0) (.c x1)) .z] [a,b]:=nt
theorem akv:nN [.i (.l x0 x1) .z,.l (.a x2 u1) x0] [b,a,((a+b)/2)]:=nf (DN (.a x1 x0) 2 x2) (uL (a+b) 2)
theorem akw:nN [.i (.l x0 x1) .z,.l x1 x2] [b,a,((a+b)/2)]:=nf (DN (.a x1 x0) 2 x2) (uL (a+b) 2)
theorem O4:nN [.i (.t x0 x1) .z,.l x1 x0] [b,a]:=nt
theorem akx:nN [.i (.e x0 x1) .z,.i (.e x1 x0) .z] [b,a]:=nt
theorem aky:nN [.e (.a (.a x0 u1) x1) (.a (.a x0 x1) u1)] [a,b]:=nt
theorem vr:nN [.e (.a x0 (.a x1 u1)) (.a (.a x0 u1) x1)] [a,b]:=nt
theorem ad1:nN [.e (.a x0 (.a x1 u1)) (.a (.a x0 x1) u1)] [a,b]:=nt
theorem akz:nN [.l (.a (.a x0 x1) u1) (.a (.a x0 x1) u1)] [a,b]:=nt
theorem akA:nN [.l (.a (.a x0 x1) u1) (.a (.a x0 x1) u2)] [a,b]:=nt
theorem akB:nN [.e x0 u1] [(((a+b)+2)-((a+b)+1)),a,b]:=nf (SB (.a (.a x1 x2) u2) (.a (.a x1 x2) u1) x0) (jQ ((a+b)+2) ((a+b)+1))
theorem akC:nN [.l (.a x0 x1) (.a x0 x1)] [a,b]:=nt
theorem akD:nN [.l x0 x1] [a-b,a,b]:=nf (SB x1 x2 x0) (jQ a b)
theorem ad2:nN [.t x0 (.a x1 x2)] [a,b,((a+1)-b)]:=nf (SB (.a x0 u1) x1 x2) (jQ (a+1) b)
theorem ad3:nN [.l x0 (.a (.a x0 u1) x1)] [a,b]:=nt
theorem O5:nN [.l x0 (.a x0 (.a (.a (.a x1 u1) u1) u1))] [a,b]:=nt
theorem ad4:nN [.l x0 (.a x0 (.a (.a x1 u1) u1))] [a,b]:=nt
theorem ad5:nN [.l x0 (.a x0 (.a x1 u1))] [a,b]:=nt
theorem ad6:nN [.l x0 (.a x0 x1)] [a,b]:=nt
theorem akE:nN [.l x0 x1] [min a b,a,b]:=nf (MN x1 x2 x0) (IE a b)
theorem akG:nN [.t u0 x0,.t (.a x1 (.m 8 x0)) x2,.t (.a (.a x1 u1) (.m 8 x3)) x2] [b,a,c,b-1]:=nf (SB x0 u1 x3) (jQ b 1)
theorem akH:nN [.t u0 x0,.e x1 x0,.e x2 x1,.t u0 x2] [b,c,a]:=nt
theorem akI:nN [.l (.n 9) x0,.t (.a x1 (.m 8 x0)) x2,.t (.a (.a x1 u1) (.n 64)) x2] [c,a,b]:=nt
theorem akJ:nN [.l x0 x3,.i (.e x3 x0) .z,.t x0 x3] [((a+b)/2),a,b,c]:=nf (DN (.a x1 x2) 2 x0) (uL (a+b) 2)
theorem akK:nN [.l (.a x0 u4) x1,.e x2 (.a x1 u2),.t (.a x0 u3) x2] [a,c,b]:=nt
theorem akL:nN [.l (.a x0 u4) x1,.e x2 (.a x1 u2),.t x0 x2] [a,c,b]:=nt
theorem akM:nN [.l (.a x0 u4) x1,.t x1 x2,.t (.a x0 u1) x2] [a,c,b]:=nt
theorem akN:nN [.l (.a x0 u4) x1,.t x1 x2,.t (.a x0 u3) x2] [a,c,b]:=nt
theorem ad7:nN [.e (.a x0 (.a x1 u1)) x2,.e (.a (.a x0 u1) x1) x2] [a,b,c]:=nt
theorem UP:nN [.l (.a x0 (.a x1 u1)) x2,.l (.a (.a x0 u1) x1) x2] [a,b,c]:=nt
theorem akO:nN [.l (.a x0 (.a (.a x1 u1) u1)) x2,.l x0 x2] [a,c,b]:=nt
theorem ad8:nN [.e (.a x0 (.a x1 u1)) x2,.t x0 x2] [a,c,b]:=nt
theorem LA:nN [.l (.a x0 (.a x1 u1)) x2,.t x3 x2] [a,c,b,a-1]:=nf (SB x0 u1 x3) (jQ a 1)
theorem H6:nN [.l (.a x0 (.a x1 u1)) x2,.t x0 x2] [a,c,b]:=nt
theorem akP:nN [.e (.a x0 x1) x2,.e (.a (.a x0 u1) x1) (.a x2 u1)] [a,b,c]:=nt
theorem akQ:nN [.l (.a x0 x1) x2,.l (.a x0 x1) (.a x2 u1)] [a,b,c]:=nt
theorem O6:nN [.t (.a x0 x1) x2,.t x0 x2] [a,c,b]:=nt
theorem akR:nN [.l (.a x0 x1) x2,.i (.e x0 (.a x2 u1)) .z] [a,c,b]:=nt
theorem Ey:nN [.l (.a x0 x1) x2,.l x0 x2] [a,c,b]:=nt
theorem akS:nN [.t x0 (.a x1 u1),.i (.e x0 x1) .z,.t x0 x1] [a,((b+c)/2),b,c]:=nf (DN (.a x2 x3) 2 x1) (uL (b+c) 2)
theorem akT:nN [.o (.t x0 x1) (.k (.e x0 x1) (.l x2 x2)),.l x0 x1] [a,b,c]:=nt
theorem ad9:nN [.o (.t x0 x1) (.l x2 x0),.k (.l x1 x0) (.t x0 x2),.z] [a,b,c]:=nt
theorem akU:nN [.t x0 x1,.l x2 x0,.e (.a x2 u0) x1,.z] [a,b,c]:=nt
theorem Ez:nN [.t x0 x1,.t x0 (.a x1 x2)] [a,b,c]:=nt
theorem A3:nN [.t x0 x1,.i (.e x0 (.a x1 x2)) .z] [a,b,c]:=nt
theorem akV:nN [.t x0 x1,.i (.e x0 (.a (.a x1 x2) u1)) .z] [a,b,c]:=nt
theorem akW:nN [.t x0 x1,.e x2 x1,.t x0 x2] [a,c,b]:=nt
theorem aea:nN [.t x0 x1,.t x1 x2,.t x0 x2] [a,c,b]:=nt
theorem akX:nN [.t x0 x1,.e x1 x2,.t x0 x2] [a,c,b]:=nt
theorem aeb:nN [.t x0 x1,.e x0 x2,.z] [a,min b c,b,c]:=nf (MN x2 x3 x1) (IE b c)
theorem aec:nN [.e x0 (.a (.a x1 u1) x2),.e x0 (.a x1 (.a x2 u1))] [a,b,c]:=nt
theorem aed:nN [.e x0 (.a x1 u1),.k (.l x2 x0) (.t x0 x1),.z] [a,b,c]:=nt
theorem akY:nN [.e x0 (.a x1 (.a x2 u1)),.e x0 (.a (.a x1 u1) x2)] [a,b,c]:=nt
theorem aee:nN [.e x0 x1,.k (.l x2 x0) (.t x0 x1),.z] [a,b,c]:=nt
theorem akZ:nN [.e x0 (.a x1 x2),.E (.s (.c x0) (.c x2)) (.c x1)] [a,c,b]:=nt
theorem ak0:nN [.e x0 x1,.e x2 x1,.e x0 x2] [a,c,b]:=nt
theorem ak1:nN [.e x0 x1,.l x1 x2,.l x0 x2] [a,c,b]:=nt
theorem ak2:nN [.e x0 x1,.i (.t x2 x1) .z,.l x0 x2] [a,c,b]:=nt
theorem UQ:nN [.l x0 (.a (.a x1 u1) x2),.l x0 (.a x1 (.a x2 u1))] [a,b,c]:=nt
theorem ak5:nN [.l x0 (.a x1 x2),.l x0 (.a x1 (.a x2 u1))] [a,b,c]:=nt
theorem aef:nN [.l x0 x1,.t u0 x2,.l (.a x0 u1) (.a x1 x2)] [a,b,c]:=nt
theorem ak6:nN [.l x0 x1,.l x0 (.a x1 x2)] [a,b,c]:=nt
theorem ak7:nN [.l x0 x1,.l x2 x1,.l x3 x1] [a,c,b,max a b]:=nf (MX x0 x2 x3) (mxn a b)
theorem ak8:nN [.l x0 x1,.t x1 x2,.l x0 x2] [a,c,b]:=nt
theorem UR:nN [.l x0 x1,.l x1 x2,.l x0 x2] [a,c,b]:=nt
theorem ak9:nN [.t x0 x1,.l (.a (.a x2 x3) u1) (.a x4 x3)] [b,a,(a-(b+1)),c,a-b]:=ng (SB x1 (.a x0 u1) x2) (SB x1 x0 x4) (jQ a (b+1)) (jQ a b)
theorem ala:nN [.t x0 (.a x1 u1),.t x2 x0,.k (.t x2 x0) (.l x0 x1)] [b,c,a]:=nt
theorem alb:nN [.t x0 x1,.l x2 x1,.l (.a x2 x3) x1] [b,c,a,((b+1)-a)]:=nf (SB (.a x0 u1) x2 x3) (jQ (b+1) a)
theorem alc:nN [.t x0 x1,.l x1 x2,.i (.e x2 x0) .z] [b,c,a]:=nt
theorem ald:nN [.e x0 (.a (.a x1 u1) x2),.t x1 x0] [b,a,c]:=nt
theorem ale:nN [.e x0 (.a (.a x1 u1) x2),.l x1 x0] [b,a,c]:=nt
theorem alf:nN [.e x0 (.a (.a x1 x2) u1),.l x1 x0] [b,a,c]:=nt
theorem H7:nN [.e x0 x1,.t x2 x1,.t x2 x0] [b,c,a]:=nt
theorem alg:nN [.e x0 x1,.t x2 x1,.t x2 (.a x0 u1)] [b,c,a]:=nt
theorem alh:nN [.e x0 x1,.e x2 x1,.e x2 x0] [b,c,a]:=nt
theorem aeg:nN [.e x0 x1,.l x2 x1,.l x2 x0] [b,c,a]:=nt
theorem ali:nN [.l x0 (.n 1000),.t x1 x0,.l x2 x3,.t x2 (.n 1000)] [b,c,a,min c b]:=nf (MN x1 x0 x3) (IE c b)
theorem alj:nN [.l x0 (.n 9),.t x1 x0,.l x2 x1,.t x2 (.n 1000)] [b,c,a]:=nt
theorem alk:nN [.l x0 (.a x1 x2),.l x1 (.a x0 x2),.l x3 x2] [b,a,c,(dK (((a:ah):aE)-((b:ah):aE)))]:=nf (AB (.s (.c x1) (.c x0)) x3) (uJ (((a:ah):aE)-((b:ah):aE)))
theorem alm:nN [.l x0 (.a x1 x2),.l x1 (.a x0 x2),.l x3 x2] [b,a,c,(dK ((-((a:ah):aE))-(-((b:ah):aE))))]:=nf (AB (.s (.g (.c x1)) (.g (.c x0))) x3) (uJ ((-((a:ah):aE))-(-((b:ah):aE))))
theorem aln:nN [.l x0 x1,.i (.l x0 x2) .z,.t x3 x1] [b,c,a,((a+b)/2)]:=nf (DN (.a x2 x0) 2 x3) (uL (a+b) 2)
theorem US:nN [.t x0 x1,.t x1 (.a x2 u1),.t x3 x2] [c,a,b,a-1]:=nf (SB x1 u1 x3) (jQ a 1)
theorem alo:nN [.t x0 x1,.t x2 x0,.i (.e x1 x2) .z] [c,a,b]:=nt
theorem alp:nN [.t x0 x1,.e x0 x2,.i (.e x1 x2) .z] [c,a,b]:=nt
theorem H8:nN [.t x0 x1,.t x2 x0,.t x2 x1] [c,b,a]:=nt
theorem alq:nN [.t x0 x1,.e x2 x0,.t x2 x1] [c,b,a]:=nt
theorem alr:nN [.t x0 x1,.l x2 x0,.t x2 x1] [c,b,a]:=nt
theorem als:nN [.t x0 x1,.e x0 x2,.l x2 x3] [c,b,a,b-1]:=nf (SB x1 u1 x3) (jQ b 1)
theorem alu:nN [.e x0 x1,.i (.t x2 x0) .z,.l x1 x2] [c,a,b]:=nt
theorem alv:nN [.e x0 x1,.t x2 x3,.t x2 x4] [c,b,a,c-1,b-1]:=ng (SB x0 u1 x3) (SB x1 u1 x4) (jQ c 1) (jQ b 1)
theorem LB:nN [.e x0 x1,.t x2 x0,.t x2 x1] [c,b,a]:=nt
theorem alw:nN [.l x0 (.n 9),.l (.a x1 x2) x0,.l (.a x1 x2) (.n 999)] [c,a,b]:=nt
theorem alx:nN [.l x0 (.n 9),.l x1 (.m 2 x0),.l x2 x0,.t (.a x2 x1) (.n 1000)] [c,b,a]:=nt
theorem aly:nN [.l x0 (.n 9),.l x1 (.n 9),.l x2 x0,.l (.a x2 x1) (.n 999)] [c,b,a]:=nt
theorem aeh:nN [.k (.l x0 x1) (.l x1 x2),.l x1 x2] [c,a,b]:=nt
theorem UT:nN [.l x0 x1,.t x2 x0,.i (.e x1 x2) .z] [c,a,b]:=nt
theorem O7:nN [.l x0 x1,.t x2 x0,.t x2 x1] [c,b,a]:=nt
theorem aei:nN [.l x0 x1,.t x2 x0,.i (.e x2 x1) .z] [c,b,a]:=nt
theorem aej:nN [.l x0 x1,.t x2 x0,.i (.e x2 (.a x1 u1)) .z] [c,b,a]:=nt
theorem alz:nN [.l x0 x1,.e x2 x0,.l x2 x1] [c,b,a]:=nt
theorem alA:nN [.l x0 x1,.l x2 (.a x0 x3),.l x2 x1] [c,b,a,b-c]:=nf (SB x1 x0 x3) (jQ b c)
theorem alB:nN [.l x0 x1,.l x2 x0,.l x2 x1] [c,b,a]:=nt
theorem alC:nN [.l x0 x1,.i (.e x2 x0) .z,.i (.t x0 x2) .z,.t x2 x1] [c,b,a]:=nt
theorem alD:nN [.l x0 x1,.l x1 x2,.l x0 x2] [a,c,b]:=nt
theorem aek:nN [.i (.t x0 x1) .z,.i (.k (.t x0 x1) (.l x1 x2)) .z] [a,b,c]:=nt
theorem alE:nN [.l x0 (.a (.a x0 x1) x2)] [a,b,c]:=nt
theorem alF:nN [.l (.a x0 u1) x1,.l (.a x0 u1) (.a x2 x1)] [a,d,b-c,b,c]:=nf (SB x3 x4 x2) (jQ b c)
theorem ael:nN [.l (.a x0 (.a (.a x1 x2) u1)) x3,.l x0 x3] [a,c,d,b]:=nt
theorem alG:nN [.e (.a x0 x1) x2,.e (.a x0 (.a x1 x3)) (.a x2 x3)] [a,b,d,c]:=nt
theorem alH:nN [.l (.a x0 x1) x2,.t x2 x3,.t x0 x3] [a,c,d,b]:=nt
theorem alI:nN [.t x0 x1,.t x0 (.a x1 (.a (.a x2 x3) u1))] [a,b,c,d]:=nt
theorem alK:nN [.t x0 x1,.l (.a x1 x2) x3,.t x0 x3] [a,c,d,b]:=nt
theorem alL:nN [.l x0 (.m 2 x1),.l x2 u2,.l x3 x2,.l (.a x0 x3) (.m 2 (.a x1 u1))] [a,c,d,b]:=nt
theorem alM:nN [.l x0 (.a x1 x2),.l x1 (.a x3 u1),.l x0 (.a x3 (.a x2 u1))] [a,d,c,b]:=nt
theorem alN:nN [.l x0 x1,.t x1 x2,.e x3 x1,.k (.l x0 x3) (.t x3 x2)] [a,d,c,b]:=nt
theorem alO:nN [.l (.a x0 u1) x1,.t (.a x2 x1) x3,.t (.a (.a x2 u1) x0) x3] [b,d,a,c]:=nt
theorem alP:nN [.l (.a x0 u4) x1,.t x1 x2,.e x3 (.a x2 u2),.i (.e (.a x3 u1) (.a x0 u3)) .z] [b,c,d,a]:=nt
theorem alQ:nN [.t x0 x1,.t x1 (.a x2 u1),.t x3 x0,.k (.t x3 x0) (.l x0 x2)] [b,d,c,a]:=nt
theorem alR:nN [.e x0 (.a (.a x1 x2) x3),.l x1 x0] [b,a,c,d]:=nt
theorem H9:nN [.e x0 x1,.e x2 x1,.t x3 x2,.t x3 x0] [b,c,d,a]:=nt
theorem alS:nN [.l x0 (.n 9),.e x1 x2,.l x2 x3,.l x3 x0,.t x1 (.n 10)] [b,a,c,d]:=nt
theorem alT:nN [.l x0 (.n 9),.e x1 x2,.l x2 x3,.l x3 x0,.t x1 (.n 1000)] [b,a,c,d]:=nt
theorem alU:nN [.k (.l x0 x1) (.l x1 (.a x0 x2)),.e x3 x1,.l x4 x2] [b,d,c,a,a-b]:=nf (SB x3 x0 x4) (jQ a b)
theorem alV:nN [.l (.a x0 x1) x2,.t x3 (.a x0 x1),.i (.e x2 x3) .z] [c,d,a,b]:=nt
theorem UU:nN [.l (.a x0 x1) x2,.t x3 x0,.t x3 x2] [c,d,b,a]:=nt
theorem alW:nN [.l (.a x0 x1) x2,.t x3 x0,.i (.e x3 x2) .z] [c,d,b,a]:=nt
theorem alX:nN [.t x0 x1,.l (.a x2 x3) x0,.t x2 x1] [c,b,a,d]:=nt
theorem alY:nN [.k (.i (.e x0 u0) .z) (.e x1 x2),.t x3 x2,.l x3 x1] [c,b,d,a]:=nt
theorem alZ:nN [.l x0 (.n 9),.t x1 x0,.l x2 u2,.l x3 (.m 2 x1),.t (.a x3 x2) (.n 1000)] [c,d,b,a]:=nt
theorem al0:nN [.l x0 x1,.l (.a x2 x3) x0,.l x2 x1] [c,b,a,d]:=nt
theorem al1:nN [.l x0 x1,.l (.a x2 x3) x0,.l x3 x1] [c,b,d,a]:=nt
theorem UW:nN [.l x0 x1,.e x2 x0,.e x2 x3,.l x3 x1] [c,b,d,a]:=nt
theorem al2:nN [.t x0 x1,.t x1 (.a x2 u1),.t x3 x0,.k (.t x3 x1) (.l x1 x2)] [d,b,c,a]:=nt
theorem al3:nN [.t x0 x1,.t x1 (.a x2 u1),.e x0 x3,.k (.t x3 x1) (.l x1 x2)] [d,b,c,a]:=nt
theorem al4:nN [.l x0 x1,.l (.a x2 x3) x0,.l (.a x2 x3) x1] [d,c,a,b]:=nt
theorem al5:nN [.l (.a x0 x1) x2,.t x2 x3,.e x4 (.a x3 x1),.t x0 x4] [a,c,d,e,b]:=nt
theorem al6:nN [.e x0 (.a (.a x1 x2) x3),.t x4 x1,.e x4 x0,.z] [a,b,c,d,e]:=nt
theorem al7:nN [.l x0 (.n 9),.l (.a x1 x2) x0,.e x3 x4,.l x4 x1,.t x3 (.n 1000)] [b,c,d,a,e]:=nt
theorem al8:nN [.e (.a x0 x1) x2,.t x2 x0,.e x3 x4] [c,d,e,a,b]:=nt
theorem al9:nN [.t x0 x1,.l (.a x2 u2) x0,.e x3 x1,.l x3 x4,.t (.a x2 u1) x4] [c,d,a,e,b]:=nt
theorem aem:nN [.t x0 x1,.l (.a x2 x3) x0,.e x4 x1,.t x2 x4] [c,d,a,e,b]:=nt
theorem ama:nN [.e x0 (.a x1 x2),.t x0 x1,.e x3 x4] [c,d,e,a,b]:=nt
theorem amb:nN [.l x0 x1,.t x2 x0,.l (.a x1 x3) x4,.t x2 x4] [c,d,a,e,b]:=nt
theorem amc:nN [.l x0 x1,.l (.a x1 x2) x3,.t x4 x0,.t x4 x3] [c,d,e,b,a]:=nt
theorem amd:nN [.e x0 (.a x1 x2),.t u0 x2,.l (.a x3 x0) x4,.l (.a (.a x3 u1) x1) x4] [d,b,e,a,c]:=nt
theorem aen:nN [.l (.a x0 x1) x2,.t x2 x3,.e x4 (.a x3 x5),.l (.a x0 x1) (.a x4 u1)] [a,b,d,e,c,f]:=nt
theorem aeo:nN [.l (.a x0 x1) x2,.t x2 x3,.e x4 (.a x3 x1),.l x4 x5,.l (.a x0 x1) x5] [a,b,d,e,f,c]:=nt
theorem ame:nN [.l (.a x0 x1) x2,.t x2 x3,.e x4 (.a x3 x5),.i (.e (.a x4 u1) x0) .z] [b,c,d,e,a,f]:=nt
theorem amf:nN [.l (.a x0 x1) x2,.t x2 x3,.e x4 (.a x3 x5),.i (.e (.a x4 u1) (.a x0 x5)) .z] [b,d,e,f,a,c]:=nt
theorem O8:nN [.l (.a x0 x1) x2,.t x2 x3,.e x4 (.a x3 x1),.t x5 x0,.t x5 x4] [c,d,e,f,b,a]:=nt
theorem amg:nN [.t x0 x1,.l (.a x2 x3) x0,.e x4 x1,.l x4 x5,.t x2 x5] [c,d,a,e,f,b]:=nt
theorem aep:nN [.t x0 x1,.l (.a x2 x3) x0,.e x4 x1,.l x4 x5,.l (.a x2 x3) x5] [d,e,a,b,f,c]:=nt
theorem aeq:nN [.t x0 x1,.l (.a x2 x3) x0,.e x4 x1,.k (.l x5 x6) (.t x6 x2),.t x6 x4] [c,d,e,f,b,g,a]:=nt
theorem UX:nN [.l x0 x1,.t x2 x3,.l (.a x1 x4) x2,.e x5 x3,.t x6 x0,.t x6 x5] [c,d,e,f,g,b,a]:=nt
theorem amh:nN [.l x0 x1,.t x2 x3,.l (.a x1 x4) x2,.e x5 x3,.l x5 x6,.t x7 x0,.t x7 x6] [c,d,e,f,g,h,b,a]:=nt
theorem YV:nN [.L m0 (.a (.n (-1)) (.a (.c x0) m1))] [a]:=nt
theorem YX:nN [.l x0 x1,.i (.l x0 x2) .z,.l x3 x1] [b,c,a,((a+b)/2)]:=nf (DN (.a x2 x0) 2 x3) (uL (a+b) 2)
theorem abN:nN [.k (.L m0 (.c x0)) (.L (.c x0) (.n 16)),.l x0 (.n 16)] [a]:=nt
theorem abO:nN [.l u2 x0,.l (.a (.a u1 u1) x1) x0] [a,(a-(1+1))]:=nf (SB x0 (.a u1 u1) x1) (jQ a (1+1))
theorem abP:nN [.l (.n 5) x0,.e x0 (.a x1 u2)] [a,a-2]:=nf (SB x0 u2 x1) (jQ a 2)
theorem abQ:nN [.T (.c x0) (.n 5),.l x0 u4] [a]:=nt
theorem abR:nN [.e x0 u3,.i (.e x0 u1) .z] [a%6,a,a/6]:=ng (DN x1 6 x2) (RN x1 6 x2 x0) (uL a 6) (Dg a 6)
theorem abS:nN [.e x0 (.n 5),.i (.e x0 u4) .z] [a%6,a,a/6]:=ng (DN x1 6 x2) (RN x1 6 x2 x0) (uL a 6) (Dg a 6)
theorem abT:nN [.e x0 x1] [(eZ ((-1)+(((a:ah):aE)+1))),a]:=nf (TN (.a (.n (-1)) (.a (.c x1) m1)) x0) (yH ((-1)+(((a:ah):aE)+1)))
theorem abU:nN [.L (.s (.c x0) (.c x0)) m0] [a]:=nt
theorem abV:nN [.o (.e x0 u0) (.o (.e x0 u1) (.o (.e x0 u2) (.o (.e x0 u3) (.o (.e x0 u4) (.e x0 (.n 5))))))] [a%6,a,a/6]:=ng (DN x1 6 x2) (RN x1 6 x2 x0) (uL a 6) (Dg a 6)
theorem abW:nN [.e (.a x0 u3) (.a (.a x0 u1) u2)] [a]:=nt
theorem abX:nN [.e x0 (.a u0 x0)] [a]:=nt
theorem abY:nN [.l x0 (.n 998)] [min 7 a,a]:=nf (MN (.n 7) x1 x0) (IE 7 a)
theorem ab8:nN [.l u2 x0,.l x1 (.a (.a u1 u1) x2),.l x1 x0] [b,a,(b-(1+1))]:=nf (SB x0 (.a u1 u1) x2) (jQ b (1+1))
theorem ab9:nN [.l u2 x0,.l x1 (.a u1 x2),.t x3 x0] [b,a,b-1,a-1]:=ng (SB x0 u1 x2) (SB x1 u1 x3) (jQ b 1) (jQ a 1)
theorem aca:nN [.L (.c x0) (.g (.c x1)),.k (.e x1 u0) (.e x0 u0)] [b,a]:=nt
theorem acb:nN [.e (.a x0 u0) x1,.e x0 x1] [a,b]:=nt
theorem acf:nN [.e x0 u0,.e x0 u0] [a-b,a,b]:=nf (SB x1 x2 x0) (jQ a b)
theorem acg:nN [.t x0 (.a x1 u2),.t x1 (.a x0 u2),.o (.e x0 x1) (.o (.e x0 (.a x1 u1)) (.e x1 (.a x0 u1)))] [a,b]:=nt
theorem ach:nN [.t x0 x1,.t x0 x1] [a,b]:=nt
theorem aci:nN [.l x0 x1,.i (.e x0 x1) .z,.l (.a x0 u1) x1] [a,b]:=nt
theorem acj:nN [.l x0 x1,.L (.c x0) (.c x1)] [a,b]:=nt
theorem ack:nN [.l x0 x1,.l x0 x1] [a,b]:=nt
theorem acn:nN [.t x0 u0,.i (.e u0 x1) .z] [b,a]:=nt
theorem aco:nN [.t x0 (.n 64),.l x1 (.n 1000)] [b,min a b,a]:=nf (MN x2 x0 x1) (IE a b)
theorem acp:nN [.E (.s (.a (.c x0) (.c x1)) (.c x0)) (.c x1)] [a,b]:=nt
theorem acq:nN [.E (.s (.s (.c x0) (.c x1)) m1) (.s (.c x0) (.c (.a x1 u1)))] [a,b]:=nt
theorem acr:nN [.E (.s (.g (.a (.c x0) (.c x1))) (.g (.c x0))) (.g (.c x1))] [a,b]:=nt
theorem acs:nN [.e x0 (.a x2 u1)] [(((a+1)+b)-a),a,b]:=nf (SB (.a (.a x1 u1) x2) x1 x0) (jQ ((a+1)+b) a)
theorem acx:nN [.t u0 x0,.t (.a x1 x0) x2,.t (.a (.a x1 u1) x3) x2] [b,a,c,b-1]:=nf (SB x0 u1 x3) (jQ b 1)
theorem acy:nN [.l (.n 9) x0,.t (.a x1 (.m 8 x0)) x2,.t (.a x1 (.n 64)) x2] [c,a,b]:=nt
theorem acz:nN [.l (.a x0 x1) (.n 999),.t (.a x0 x2) (.n 1000)] [a,c,min b c,b]:=nf (MN x3 x1 x2) (IE b c)
theorem acA:nN [.l x0 (.a x3 u1),.l x4 x3] [a-b,a,b,c,(a-(((b+a)/2)+1)),((b+a)/2)]:=nh (SB x1 x2 x0) (DN (.a x2 x1) 2 x5) (SB x1 (.a x5 u1) x4) (jQ a b) (uL (b+a) 2) (jQ a (((b+a)/2)+1))
theorem acB:nN [.l x0 u0,.l x2 x3,.l x1 x3] [a-c,a,c,b]:=nf (SB x1 x2 x0) (jQ a c)
theorem acC:nN [.t x0 x1,.t x2 x0,.t x3 x4] [a,b,c,a-1,b-1]:=ng (SB x0 u1 x3) (SB x1 u1 x4) (jQ a 1) (jQ b 1)
theorem acF:nN [.e x0 (.a x1 x2),.e x0 (.a x1 x2)] [a,b,c]:=nt
theorem acG:nN [.l x0 x1,.k (.l x2 (.m 2 x1)) (.k (.L (.g (.m 2 (.c x1))) m0) (.L m0 (.a (.c x3) (.m 2 (.c x1)))))] [a,b,(dK (0-((a:ah):aE))),c]:=nf (AB (.s m0 (.c x0)) x2) (uJ (0-((a:ah):aE)))
theorem acH:nN [.l x0 x1,.k (.l x2 (.m 2 x1)) (.k (.L (.g (.m 2 (.c x1))) m0) (.L m0 (.a (.c x3) (.m 2 (.c x1)))))] [a,b,(dK (0-(-((a:ah):aE)))),c]:=nf (AB (.s m0 (.g (.c x0))) x2) (uJ (0-(-((a:ah):aE))))
theorem acI:nN [.l x0 (.a x3 u1),.l x4 x3] [b-a,b,a,c,(((a+b)/2)-a),((a+b)/2)]:=nh (SB x1 x2 x0) (DN (.a x2 x1) 2 x5) (SB x5 x2 x4) (jQ b a) (uL (a+b) 2) (jQ ((a+b)/2) a)
theorem acJ:nN [.t x0 x1,.t x2 x1] [c,a,((a-1)-b),a-1,b]:=ng (SB x1 u1 x3) (SB x3 x4 x2) (jQ a 1) (jQ (a-1) b)
theorem acK:nN [.t x0 x1,.t x1 x2,.t x3 x5] [c,b,a,((a-1)-b),a-1,((a-1)-c)]:=nh (SB x2 u1 x4) (SB x4 x1 x3) (SB x4 x0 x5) (jQ a 1) (jQ (a-1) b) (jQ (a-1) c)
theorem acL:nN [.e x0 x1,.e x2 u0,.e x4 u0] [c,b,a-c,a,a-b]:=ng (SB x3 x0 x2) (SB x3 x1 x4) (jQ a c) (jQ a b)
theorem acM:nN [.l x0 x1,.i (.l x0 x2) .z,.i (.e x1 x3) .z] [c,a,b,((b+c)/2)]:=nf (DN (.a x2 x0) 2 x3) (uL (b+c) 2)
theorem acN:nN [.i (.e x0 x1) .z,.i (.t x1 x0) .z,.t x1 x2,.t x0 x3] [a,c,b,b-1]:=nf (SB x2 u1 x3) (jQ b 1)
theorem acO:nN [.E (.s (.g (.a (.c x0) (.c x1))) (.s (.g (.c x0)) (.c x2))) (.s (.c x2) (.c x1))] [a,b,c]:=nt
theorem acP:nN [.l x0 x5] [(min (a-b) (c-b)),a-b,a,b,c-b,c]:=nh (SB x2 x3 x1) (SB x5 x3 x4) (MN x1 x4 x0) (jQ a b) (jQ c b) (IE (a-b) (c-b))
theorem acQ:nN [.l x0 (.a x1 x2),.l x1 (.a x0 x2),.t x1 x3,.k (.l x4 (.m 2 x2)) (.k (.L (.g (.m 2 (.c x2))) (.c x0)) (.L (.c x0) (.a (.c x3) (.m 2 (.c x2)))))] [a,b,c,d,(dK (((a:ah):aE)-((b:ah):aE)))]:=nf (AB (.s (.c x0) (.c x1)) x4) (uJ (((a:ah):aE)-((b:ah):aE)))
theorem acR:nN [.l x0 (.a x1 x2),.t (.a x1 x4) (.n 1000),.t x0 (.n 1000)] [a,b,min c d,c,d]:=nf (MN x3 x4 x2) (IE c d)
theorem acS:nN [.l x0 (.a x1 x2),.t x1 x3,.l x2 x3,.t x4 (.m 32 x3)] [a,c,d,b,(dK ((-((a:ah):aE))+((b:ah):aE)))]:=nf (AB (.a (.g (.c x0)) (.c x3)) x4) (uJ ((-((a:ah):aE))+((b:ah):aE)))
theorem Q7:nN [.k (.l x0 x1) (.l x1 (.a x0 x2)),.e x3 x1,.e x4 x0] [a,c,d,b,min a b]:=nf (MN x0 x3 x4) (IE a b)
theorem acT:nN [.l (.a x0 u1) x1,.t (.a x2 (.m 8 x1)) x3,.t (.a (.a x2 u3) (.m 8 x0)) x3] [b,d,a,c]:=nt
theorem acU:nN [.t (.a x0 x1) (.n 1000),.l x2 (.a x0 x3),.t x2 (.n 1000)] [b,c,a,min d c,d]:=nf (MN x4 x1 x3) (IE d c)
theorem acV:nN [.t x0 x1,.l x2 x1] [c,d,(min (a-b) (c-b)),a-b,a,b,c-b]:=nh (SB x4 x5 x3) (SB x0 x5 x6) (MN x3 x6 x2) (jQ a b) (jQ c b) (IE (a-b) (c-b))
theorem Q8:nN [.t x0 x1,.l x2 x0,.i (.l x2 x3) .z,.t x4 x1] [d,c,b,a,((a+b)/2)]:=nf (DN (.a x3 x2) 2 x4) (uL (a+b) 2)
theorem acX:nN [.t (.a (.w x0 101) x3) (.a x4 u1),.l (.a x5 u1) x3,.t (.a (.w x0 101) x5) x4] [a-b,a,b,e,d,c]:=nf (SB x1 x2 x0) (jQ a b)
theorem acY:nN [.t x0 (.a x3 u1),.e x4 (.a x2 x5),.t u0 x5,.l x4 x1,.t x6 x3] [a-d,a,d,c,b,e,a-b]:=ng (SB x1 x2 x0) (SB x1 x4 x6) (jQ a d) (jQ a b)
theorem acZ:nN [.t x0 u0,.o (.e x1 x2) (.o (.e x1 x3) (.l x4 x1))] [e,a,b,c,d]:=nt
theorem ac0:nN [.l x0 (.n 1000),.t x1 x0,.o (.t x2 x3) (.k (.e x2 x3) (.l x1 x4)),.i (.e x1 x4) .z,.T (.a (.w (.c x2) 1000) (.c x1)) (.a (.w (.c x3) 1000) (.c x4))] [e,b,a,c,d]:=nt
theorem ac1:nN [.t (.a (.w x0 101) x3) (.a x4 u1),.l (.a x2 u1) x1,.l x5 (.n 100),.l (.a x6 u1) (.a x7 x3),.t (.a (.w (.v 8) 101) x6) x4] [a-b,a,b,e,d,f,c,f-0,(a-(b+1))]:=nh (SB x1 x2 x0) (SB x5 u0 x7) (SB x1 (.a x2 u1) (.v 8)) (jQ a b) (jQ f 0) (jQ a (b+1))
theorem Lu:nN [.L m0 (.a (.c x0) m1)] [a]:=nt
theorem ace:nN [.t (.a x0 u1) x1,.L (.a (.a (.c x0) m1) m1) (.c x1)] [a,b]:=nt
theorem acm:nN [.t (.a x0 u1) x1,.L (.a m0 m1) (.c x1)] [b,a]:=nt
theorem acD:nN [.e x0 (.a x1 x2),.e (.a x0 u1) (.a (.a x1 u1) x2)] [a,b,c]:=nt
theorem acE:nN [.e x0 (.a x1 x2),.e (.a x0 u1) (.a x1 (.a x2 u1))] [a,b,c]:=nt
end
section
variable{a b c d e f g h:aE}
theorem q21:nl [.T m0 y0,.E y0 (.c x0)] [eZ a] [a]:=nf (TN y0 x0) (yH a)
theorem q22:nl [.T m0 y0,.i (.E y0 m0) .z] [] [a]:=nt
theorem q24:nl [.k (.L m0 y0) (.T y0 (.n 5)),.k (.L m0 (.a m1 y0)) (.L (.a m1 y0) (.n 1000))] [] [a]:=nt
theorem q26:nl [.k (.L m0 y0) (.L y0 (.n 16)),.t x0 (.n 17)] [eZ a] [a]:=nf (TN y0 x0) (yH a)
theorem q30:nl [.L m0 y0,.T y0 (.n 4),.k (.L m0 y0) (.L y0 (.n 3))] [] [a]:=nt
theorem q33:nl [.E (.s y0 m1) m0,.E y0 m1] [] [a]:=nt
theorem q37:nl [.i (.L m0 y0) .z,.T y0 m0] [] [a]:=nt
theorem q39:nl [.E (.s (.a y0 y0) y0) y0] [] [a]:=nt
theorem q40:nl [.L (.n (-1074)) y0,.E y1 y2,.L (.n (-1074)) y2] [] [b,(min b (-52)),a]:=nf (NI y0 (.n (-52)) y1) (rq b (-52))
theorem q41:nl [.k (.L m0 y0) (.T y0 y1),.t u0 x0] [(eZ (1+a))] [a,b]:=nf (TN (.a m1 y0) x0) (yH (1+a))
theorem q42:nl [.k (.L m0 y0) (.T y0 y1),.E (.c x0) y0] [eZ a] [a,b]:=nf (TN y0 x0) (yH a)
theorem q44:nl [.k (.L m0 y0) (.L y0 y1),.E (.c x0) y0] [eZ a] [a,b]:=nf (TN y0 x0) (yH a)
theorem q45:nl [.k (.L m0 y0) (.L y0 y1),.E y0 (.c x0)] [eZ a] [a,b]:=nf (TN y0 x0) (yH a)
theorem q46:nl [.L m0 y0,.L m0 y1,.L m0 (.a y0 y1)] [] [a,b]:=nt
theorem q47:nl [.T (.n 15) (.a y0 y1),.L (.a y0 y1) (.n 16),.E (.a y0 y1) (.n 16)] [] [a,b]:=nt
theorem q48:nl [.T (.n 15) (.a y0 y1),.L (.n 16) (.a y0 y1)] [] [a,b]:=nt
theorem q49:nl [.T (.a y0 y1) (.n 17),.L (.n 16) (.a y0 y1),.E (.a y0 y1) (.n 16)] [] [a,b]:=nt
theorem q50:nl [.T (.a y0 y1) (.n 17),.L (.a y0 y1) (.n 16)] [] [a,b]:=nt
theorem q51:nl [.T y0 y1,.L (.a y0 m1) y1] [] [a,b]:=nt
theorem q53:nl [.T y0 y1,.E y2 y1] [] [a,b,(max a b)]:=nf (XI y0 y1 y2) (pQ a b)
theorem q54:nl [.T y0 y1,.i (.E y0 y1) .z] [] [a,b]:=nt
theorem q56:nl [.T y0 y1,.E y2 y0] [] [b,a,(min a b)]:=nf (NI y1 y0 y2) (rq a b)
theorem q57:nl [.L y0 y1,.E y1 y2] [] [b,a,(max b a)]:=nf (XI y0 y1 y2) (pQ b a)
theorem q58:nl [.E y0 y3,.L (.n 1600) y2,.E y3 (.n 1600)] [] [(min (max b 0) 1600),(max b 0),b,a]:=ng (XI y2 m0 y1) (NI y1 (.n 1600) y0) (pQ b 0) (rq (max b 0) 1600)
theorem q59:nl [.E y0 y3,.L y2 m0,.E y3 m0] [] [(min (max b 0) 1600),(max b 0),b,a]:=ng (XI y2 m0 y1) (NI y1 (.n 1600) y0) (pQ b 0) (rq (max b 0) 1600)
theorem q67:nl [.o (.L y0 y1) (.L y1 y0)] [] [a,b]:=nt
theorem q69:nl [.k (.L m0 y0) (.L y0 y1),.k (.L m0 y2) (.L y2 y1),.k (.L m0 y3) (.L y3 y1)] [] [a,c,b,(min a b)]:=nf (NI y0 y2 y3) (rq a b)
theorem q72:nl [.L y0 y1,.L y2 y1,.L y3 y1] [] [a,c,b,(max a b)]:=nf (XI y0 y2 y3) (pQ a b)
theorem q73:nl [.L y0 y1,.L y1 y2,.L y0 y2] [] [a,c,b]:=nt
theorem q76:nl [.E y0 y4,.i (.L y2 m0) .z,.i (.L y3 y2) .z,.E y4 y2] [] [(min (max b 0) c),(max b 0),b,c,a]:=ng (XI y2 m0 y1) (NI y1 y3 y0) (pQ b 0) (rq (max b 0) c)
theorem q87:nl [.E y0 y1,.L y3 y0] [] [b,(max (max a c) d),(max a c),a,c,d]:=ng (XI y3 y4 y2) (XI y2 y5 y1) (pQ a c) (pQ (max a c) d)
theorem q88:nl [.E y0 y1,.L y4 y0] [] [b,(max (max c a) d),(max c a),c,a,d]:=ng (XI y3 y4 y2) (XI y2 y5 y1) (pQ c a) (pQ (max c a) d)
theorem Vc:nl [.k (.L m0 y0) (.L y0 y1),.k (.L m0 y2) (.L y2 y1),.k (.L m0 y3) (.L y3 y1),.E y4 y5,.k (.L m0 y4) (.L y4 y1)] [] [c,b,d,e,a,(max (max c d) e),(max c d)]:=ng (XI y0 y2 y6) (XI y6 y3 y5) (pQ c d) (pQ (max c d) e)
theorem q93:nl [.k (.L m0 y0) (.L y0 y1),.k (.L m0 y2) (.L y2 y1),.k (.L m0 y3) (.L y3 y1),.E y4 y5,.L y4 y1] [] [c,b,d,e,a,(max (max c d) e),(max c d)]:=ng (XI y0 y2 y6) (XI y6 y3 y5) (pQ c d) (pQ (max c d) e)
theorem q94:nl [.k (.L m0 y0) (.L y0 y1),.k (.L m0 y2) (.L y2 y1),.k (.L m0 y3) (.L y3 y1),.E y4 y5,.k (.L m0 y4) (.L y4 y1)] [] [c,b,d,e,a,(min (min c d) e),(min c d)]:=ng (NI y0 y2 y6) (NI y6 y3 y5) (rq c d) (rq (min c d) e)
theorem q95:nl [.k (.L m0 y0) (.L y0 y1),.k (.L m0 y2) (.L y2 y1),.k (.L m0 y3) (.L y3 y1),.E y4 y6,.k (.L m0 y6) (.L y6 y1)] [] [c,b,d,e,(max (max c d) e),(max c d),a]:=ng (XI y0 y2 y5) (XI y5 y3 y4) (pQ c d) (pQ (max c d) e)
theorem q96:nl [.k (.L m0 y0) (.L y0 y1),.k (.L m0 y2) (.L y2 y1),.k (.L m0 y3) (.L y3 y1),.E y4 y6,.k (.L m0 y6) (.L y6 y1)] [] [c,b,d,e,(min (min c d) e),(min c d),a]:=ng (NI y0 y2 y5) (NI y5 y3 y4) (rq c d) (rq (min c d) e)
theorem q98:nl [.E y0 y1,.E y6 y7,.k (.L y6 y3) (.L y3 y0)] [] [c,(max (max b d) e),(max b d),b,d,e,a,(min (min b d) e),(min b d)]:=nj (XI y3 y4 y2) (XI y2 y5 y1) (NI y3 y4 (.v 8)) (NI (.v 8) y5 y7) (pQ b d) (pQ (max b d) e) (rq b d) (rq (min b d) e)
theorem aim:nl [.E y0 y1,.E y6 y7,.k (.L y6 y5) (.L y5 y0)] [] [c,(max (max d e) b),(max d e),d,e,b,a,(min (min d e) b),(min d e)]:=nj (XI y3 y4 y2) (XI y2 y5 y1) (NI y3 y4 (.v 8)) (NI (.v 8) y5 y7) (pQ d e) (pQ (max d e) b) (rq d e) (rq (min d e) b)
theorem YS:nl [.E y0 y5,.E y6 (.v 8),.i (.T (.v 8) y5) .z,.k (.E y2 y5) (.k (.E y3 y5) (.k (.E y4 y5) (.E (.v 8) y5)))] [] [(max (max a c) d),(max a c),a,c,d,b,(min (min a c) d),(min a c),e]:=nj (XI y2 y3 y1) (XI y1 y4 y0) (NI y2 y3 y7) (NI y7 y4 y6) (pQ a c) (pQ (max a c) d) (rq a c) (rq (min a c) d)
theorem YT:nl [.i (.T y0 y1) .z,.E y2 y0] [] [a,b,(max a b)]:=nf (XI y0 y1 y2) (pQ a b)
theorem aa6:nl [.L (.n (-1074)) y0,.i (.L m0 y0) .z,.e (.n 1074) (.a x0 x1)] [(eZ (-a)),(eZ (a+1074))] [a]:=ng (TN (.g y0) x0) (TN (.a y0 (.n 1074)) x1) (yH (-a)) (yH (a+1074))
theorem aa7:nl [.T (.n (-2)) y0,.T y0 m1,.o (.E y0 (.n (-1))) (.E y0 m0)] [] [a]:=nt
theorem aa8:nl [.T m0 y0,.L y0 (.n 100),.t x0 (.n 1073741824)] [dK a] [a]:=nf (AB y0 x0) (uJ a)
theorem aba:nl [.k (.L m0 y0) (.T y0 (.n 1000000)),.t x0 (.n 1000000000)] [dK a] [a]:=nf (AB y0 x0) (uJ a)
theorem abb:nl [.k (.L m0 y0) (.T y0 (.n 5)),.t x0 (.n 5)] [eZ a] [a]:=nf (TN y0 x0) (yH a)
theorem abc:nl [.k (.L m0 y0) (.L y0 (.n 1600)),.E y1 (.c x0)] [(eZ (((a*10)+505)/1000))] [a,(((a*10)+505)/1000)]:=ng (DV (.a (.w y0 10) (.n 505)) 1000 y1) (TN y1 x0) (WW ((a*10)+505) 1000 (by decide)) (yH (((a*10)+505)/1000))
theorem abd:nl [.k (.L m0 y0) (.L y0 (.n 3)),.o (.E y0 m0) (.o (.E y0 m1) (.o (.E y0 (.n 2)) (.E y0 (.n 3))))] [] [a]:=nt
theorem abe:nl [.L m0 y0,.e x0 (.a x1 (.n 1074))] [(eZ (a+1074)),eZ a] [a]:=ng (TN (.a y0 (.n 1074)) x0) (TN y0 x1) (yH (a+1074)) (yH a)
theorem abf:nl [.L m1 y0,.L m1 y0] [] [a]:=nt
theorem abg:nl [.o (.E y0 (.n 6)) (.E y0 m0),.k (.L m0 y0) (.T y0 (.n 1000000))] [] [a]:=nt
theorem abh:nl [.t x0 (.n 1000000000),.t x0 (.n 18446744073709551616)] [dK a] [a]:=nf (AB y0 x0) (uJ a)
theorem abj:nl [.E (.a (.s (.n (-52)) y0) (.a y0 (.n 1074))) (.n 1022)] [] [a]:=nt
theorem abk:nl [.t x0 (.n 18446744073709551616)] [(dK (min (max a 0) 1600))] [(min (max a 0) 1600),(max a 0),a]:=nh (XI y2 m0 y1) (NI y1 (.n 1600) y0) (AB y0 x0) (pQ a 0) (rq (max a 0) 1600) (uJ (min (max a 0) 1600))
theorem Gq:nl [.k (.L m0 y0) (.L y0 y1),.k (.L m0 y0) (.L y0 y1)] [] [a,b]:=nt
theorem Q4:nl [.L (.g y0) y1,.L m0 (.a y1 y0)] [] [b,a]:=nt
theorem abl:nl [.E y0 y3,.k (.L m0 y3) (.L y3 (.n 1600))] [] [(min (max b 0) 1600),(max b 0),b,a]:=ng (XI y2 m0 y1) (NI y1 (.n 1600) y0) (pQ b 0) (rq (max b 0) 1600)
theorem abm:nl [.i (.T y0 y1) .z,.E y2 y1] [] [b,a,(min a b)]:=nf (NI y1 y0 y2) (rq a b)
theorem abn:nl [.k (.L m0 y0) (.L y0 y1),.k (.L m0 y2) (.L y2 y1),.k (.L m0 y3) (.L y3 y1)] [] [a,c,b,(max a b)]:=nf (XI y0 y2 y3) (pQ a b)
theorem abo:nl [.L y0 y1,.E y1 y2,.E y1 y3] [] [c,a,b,(max b c)]:=nf (XI y2 y0 y3) (pQ b c)
theorem abp:nl [.E y0 y4,.k (.L m0 y4) (.L y4 (.n 1600))] [] [(min (max ((2*b)-(100*c)) 0) 1600),(max ((2*b)-(100*c)) 0),b,c,a]:=ng (XI (.s (.m 2 y2) (.m 100 y3)) m0 y1) (NI y1 (.n 1600) y0) (pQ ((2*b)-(100*c)) 0) (rq (max ((2*b)-(100*c)) 0) 1600)
theorem abq:nl [.E (.a (.s y0 y1) (.a y1 y2)) (.a y0 y2)] [] [a,b,c]:=nt
theorem abr:nl [.L m0 y0,.L y1 y2,.k (.L y0 y3) (.L y3 y1),.k (.L m0 (.s (.a y3 y2) (.a y0 y1))) (.L (.s (.a y3 y2) (.a y0 y1)) y2)] [] [c,d,b,a]:=nt
theorem abt:nl [.E y0 y1,.L y0 y3] [] [a,(min (min b c) d),(min b c),b,c,d]:=ng (NI y3 y4 y2) (NI y2 y5 y1) (rq b c) (rq (min b c) d)
theorem abu:nl [.E y0 y1,.L y0 y4] [] [a,(min (min c b) d),(min c b),c,b,d]:=ng (NI y3 y4 y2) (NI y2 y5 y1) (rq c b) (rq (min c b) d)
theorem abv:nl [.E y0 y1,.L y0 y5] [] [a,(min (min c d) b),(min c d),c,d,b]:=ng (NI y3 y4 y2) (NI y2 y5 y1) (rq c d) (rq (min c d) b)
theorem abw:nl [.E y0 y1,.L y5 y0] [] [b,(max (max c d) a),(max c d),c,d,a]:=ng (XI y3 y4 y2) (XI y2 y5 y1) (pQ c d) (pQ (max c d) a)
theorem abx:nl [.E y0 y1,.o (.E y3 y0) (.o (.E y4 y0) (.E y5 y0))] [] [b,(min (min a c) d),(min a c),a,c,d]:=ng (NI y3 y4 y2) (NI y2 y5 y1) (rq a c) (rq (min a c) d)
theorem aby:nl [.k (.L m0 y0) (.L y0 y1),.k (.L m0 y2) (.L y2 y1),.k (.L m0 y3) (.L y3 y1),.E y4 y5,.L m0 y4] [] [b,c,d,e,a,(min (min b d) e),(min b d)]:=ng (NI y0 y2 y6) (NI y6 y3 y5) (rq b d) (rq (min b d) e)
theorem abz:nl [.k (.k (.L y0 y1) (.L y1 y2)) (.k (.k (.L y0 y3) (.L y3 y2)) (.k (.L y0 y4) (.L y4 y2))),.k (.k (.L y0 (.s (.a y0 y2) y3)) (.L (.s (.a y0 y2) y3) y2)) (.k (.k (.L y0 (.s (.a y0 y2) y4)) (.L (.s (.a y0 y2) y4) y2)) (.k (.L y0 (.s (.a y0 y2) y1)) (.L (.s (.a y0 y2) y1) y2)))] [] [a,e,b,c,d]:=nt
theorem abA:nl [.E y0 y1,.E y6 y7,.k (.L y6 y4) (.L y4 y0)] [] [c,(max (max d b) e),(max d b),d,b,e,a,(min (min d b) e),(min d b)]:=nj (XI y3 y4 y2) (XI y2 y5 y1) (NI y3 y4 (.v 8)) (NI (.v 8) y5 y7) (pQ d b) (pQ (max d b) e) (rq d b) (rq (min d b) e)
theorem abB:nl [.k (.L m0 y0) (.L y0 y1),.k (.L m0 y2) (.L y2 y1),.k (.L m0 y3) (.L y3 y1),.E y4 y5,.E y7 (.v 8),.k (.L y7 (.v 10)) (.L (.v 10) y4),.k (.L m0 (.v 10)) (.L (.v 10) y1)] [] [c,b,d,e,f,(max (max c d) e),(max c d),g,(min (min c d) e),(min c d),a]:=nj (XI y0 y2 y6) (XI y6 y3 y5) (NI y0 y2 (.v 9)) (NI (.v 9) y3 (.v 8)) (pQ c d) (pQ (max c d) e) (rq c d) (rq (min c d) e)
theorem aa9:nl [.T m0 y0,.E (.s y0 m0) (.c x0)] [eZ a] [a]:=nf (TN y0 x0) (yH a)
theorem abi:nl [.i (.T m0 y0) .z,.E m0 (.c x0)] [eZ a] [a]:=nf (TN y0 x0) (yH a)
theorem Q5:nl [.T y0 y1,.E y1 y2] [] [b,a,(max b a)]:=nf (XI y0 y1 y2) (pQ b a)
theorem Q6:nl [.i (.T y0 y1) .z,.E y0 y2] [] [a,b,(max a b)]:=nf (XI y0 y1 y2) (pQ a b)
end
section
variable{a b c d e f g h:aV}
theorem UY:rn [.l 1 r0 (.o j0 16),.l 1 (.n (-1)) (.o j0 16)] [a]:=rt
theorem LC:rn [.l 1 r0 j0,.l 1 (.n (-1)) j0] [a]:=rt
theorem amo:rn [.l 1 r0 j0,.l 1600 r0 (.o j0 1600)] [a]:=rt
theorem UZ:rn [.l 1 r0 j0,.l 16 (.s r1 (.o j0 16)) r1] [a]:=rt
theorem Ia:rn [.l 1 r0 j0,.l 1 (.s r1 j0) r1] [a]:=rt
theorem amq:rn [.l 1 r0 j0,.l 1 (.s r1 j0) (.n 16)] [a]:=rt
theorem amr:rn [.l 1 r0 j0,.l 1 (.a r2 (.s r1 j0)) (.n 16)] [a]:=rt
theorem ams:rn [.l 1 r0 j0,.l 1 (.a (.n 4) (.s r1 j0)) (.n 16)] [a]:=rt
theorem O9:rn [.l 3 r0 j0,.l 1 (.g (.m 3 j0)) (.n (1-1))] [a]:=rt
theorem Gr:rn [.l 3 r0 j0,.l 1 (.n (1-1)) (.m 3 j0)] [a]:=rt
theorem amt:rn [.l 1 (.n (1/100000000000000)) j0,.l 1 r0 (.s j0 (.n (1/100000000000000)))] [a]:=rt
theorem A8:rn [.l 1 (.n (1/32)) j0,.l 1 (.n (-1)) j0] [a]:=rt
theorem amu:rn [.l 1 (.n (1/32)) j0,.l 1 (.n (-16)) (.a r1 j0)] [a]:=rt
theorem amv:rn [.l 1 (.n (1/32)) j0,.l 1 (.n (-2)) (.a r1 j0)] [a]:=rt
theorem amw:rn [.l 1 (.n (1/32)) j0,.l 1 (.s r1 j0) r1] [a]:=rt
theorem amx:rn [.l 1 (.n (1/32)) j0,.l 1 (.s r1 j0) (.n 16)] [a]:=rt
theorem amy:rn [.l 1 (.n 1600) j0,.l 1600 r1 (.o j0 1600)] [a]:=rt
theorem amz:rn [.l 1 j0 r0,.l 1600 (.o j0 1600) r0] [a]:=rt
theorem Pa:rn [.l 1 j0 r1,.l 1 (.n (-1)) (.s r1 j0)] [a]:=rt
theorem aer:rn [.l 1 j0 r1,.l 1 (.n (-16)) (.s r1 j0)] [a]:=rt
theorem amA:rn [.l 1 j0 r1,.l 1 (.n (-16)) (.a r2 (.s r1 j0))] [a]:=rt
theorem amB:rn [.l 1 j0 r1,.l 1 (.n (-16)) (.a (.n 4) (.s r1 j0))] [a]:=rt
theorem U0:rn [.l 1 j0 r1,.l 1 r0 (.s r1 j0)] [a]:=rt
theorem amC:rn [.l 1 j0 r1,.l 1 (.a r1 j0) (.n 16)] [a]:=rt
theorem amD:rn [.l 1 j0 r1,.l 1 (.a r1 j0) r2] [a]:=rt
theorem amE:rn [.l 1 j0 (.n 16),.l 16 (.n (-16)) (.s r2 (.o j0 16))] [a]:=rt
theorem U1:rn [.l 1 j0 (.n 16),.l 16 r0 (.s r1 (.o j0 16))] [a]:=rt
theorem amF:rn [.l 1 j0 (.n 16),.l 16 (.o j0 16) r1] [a]:=rt
theorem amG:rn [.l 1 j0 (.n 16),.l 1 j0 (.n 32)] [a]:=rt
theorem amH:rn [.l 1 j0 (.n 1600),.l 1600 (.o j0 1600) r1] [a]:=rt
theorem Pb:rn [.l 1 (.n (-0)) (.s j0 j0)] [a]:=rt
theorem Pc:rn [.l 1 (.s j0 j0) r0] [a]:=rt
theorem amI:rn [.l 1 j0 (.s r1 (.s r1 j0))] [a]:=rt
theorem aes:rn [.l 1 (.s r1 (.s r1 j0)) j0] [a]:=rt
theorem amT:rn [.l 1 (.n (-0)) (.s j0 (.n (1/2))),.l 1 j0 j1,.l 1 (.n (1/2)) j1] [b,a]:=rt
theorem aet:rn [.l 1 (.n (-0)) (.s j0 (.n (1/2))),.l 1 j0 j1,.l 1 (.s (.n (2/3)) j1) r1] [b,a]:=rt
theorem amU:rn [.l 1 (.n (-0)) (.s j0 (.n (1/2))),.l 1 j0 j1,.l 1 (.s (.n (2/3)) j1) (.n 16)] [b,a]:=rt
theorem amV:rn [.l 433 (.n (-2)) j0,.l 410 (.n (-2)) j1,.l 433 (.n (-16)) (.a j0 (.m (4100/4330) j1))] [a,b]:=rt
theorem amW:rn [.l 433 (.n (-2)) j0,.l 480 j1 r2,.l 433 (.n (-16)) (.s j0 (.m (4800/4330) j1))] [a,b]:=rt
theorem amX:rn [.l 25547 (.n (-2)) j0,.l 7020 j1 r2,.l 25547 (.n (-16)) (.s j0 (.m (70200/255470) j1))] [a,b]:=rt
theorem U3:rn [.t 1 r0 j0,.l 1 j0 j1,.t 1 r0 j1] [b,a]:=rt
theorem amY:rn [.l 1 r0 (.s j0 j1),.l 1 (.n (-16)) (.s j0 j1)] [a,b]:=rt
theorem amZ:rn [.l 30 r0 j0,.l 59 r0 j1,.l 100 (.n (-16)) (.a (.m (30/100) j0) (.m (59/100) j1))] [a,b]:=rt
theorem Pd:rn [.l 1 r0 j0,.l 1 j1 r1,.l 1 (.n (-16)) (.s j0 j1)] [a,b]:=rt
theorem am0:rn [.l 1 r0 j0,.l 1 j1 r1,.l 1 (.s (.a r2 (.s r1 j0)) (.s r1 j1)) (.n 16)] [a,b]:=rt
theorem am1:rn [.l 1 r0 j0,.l 1 r0 j1,.l 32 (.n (-1)) (.o (.a j1 j0) 32)] [b,a]:=rt
theorem am2:rn [.l 1 r0 j0,.l 1 r0 j1,.l 16 (.n (-16)) (.a (.o j1 16) (.o j0 16))] [b,a]:=rt
theorem am3:rn [.l 1 r0 j0,.l 1 r0 j1,.l 32 (.s r1 (.o (.a j1 j0) 32)) (.n 16)] [b,a]:=rt
theorem am4:rn [.l 1 r0 j0,.l 1 j1 r1,.l 1 (.n (-16)) (.s (.s r1 j1) (.s r1 j0))] [b,a]:=rt
theorem am5:rn [.l 1 r0 j0,.l 1 j1 r1,.l 1 (.n (-16)) (.s (.a (.n 4) (.s r1 j1)) (.s r1 j0))] [b,a]:=rt
theorem LD:rn [.l 1 r0 j0,.l 1 j1 r1,.l 1 (.s j1 j0) r1] [b,a]:=rt
theorem aeu:rn [.l 1 r0 j0,.l 1 j1 r1,.l 1 (.s j1 j0) (.n 16)] [b,a]:=rt
theorem U4:rn [.l 1 r0 j0,.l 1 j1 (.n 16),.l 1 (.s j1 j0) (.n 16)] [b,a]:=rt
theorem am6:rn [.l 1 r0 j0,.l 1 j1 (.n 16),.l 16 (.s (.o j1 16) (.o j0 16)) (.n 16)] [b,a]:=rt
theorem am7:rn [.l 1 r0 j0,.l 1 (.s j1 j0) j1] [b,a]:=rt
theorem am8:rn [.l 2 r0 j0,.l 1 (.s j1 j0) (.a j1 j0)] [b,a]:=rt
theorem am9:rn [.l 1 r1 (.s j0 j1),.l 1 r0 j1,.l 16 r0 (.o j0 16)] [a,b]:=rt
theorem ana:rn [.l 1 r1 (.s j0 j1),.l 1 r0 j1,.l 16 (.n (1/17)) (.s (.o j0 16) r0)] [a,b]:=rt
theorem Pe:rn [.l 1 r1 (.s j0 j1),.l 2 r0 j1,.l 32 (.s r1 (.o (.a j0 j1) 32)) r1] [a,b]:=rt
theorem anb:rn [.l 1 r1 (.s j0 j1),.l 1 r0 j1,.l 16 (.s (.m 2 (.s r1 (.o (.a j0 j1) 32))) (.s r1 (.o j1 16))) (.n 16)] [a,b]:=rt
theorem anc:rn [.l 1 r1 (.s j0 j1),.l 2 r0 j1,.l 16 (.s (.s r2 (.o j0 16)) (.o j1 16)) (.n 16)] [a,b]:=rt
theorem ane:rn [.l 1 r1 (.s j0 j1),.l 1 r0 j1,.l 16 (.s r2 (.o j0 16)) (.n 16)] [a,b]:=rt
theorem anf:rn [.l 1 r1 (.s j0 j1),.l 2 r0 j1,.l 1 (.s (.s (.n 32) j0) j1) (.n 32)] [a,b]:=rt
theorem ang:rn [.l 1 r1 (.s j0 j1),.l 2 j0 (.n 16),.l 16 (.n (-16)) (.s (.s r2 (.o j0 16)) (.o j1 16))] [a,b]:=rt
theorem anh:rn [.l 1 r1 (.s j0 j1),.l 2 j0 (.n 16),.l 1 (.a j0 j1) (.n 32)] [a,b]:=rt
theorem ani:rn [.l 1 r1 (.s j0 j1),.l 16 (.n (-16)) (.s (.o j0 16) (.o j1 16))] [a,b]:=rt
theorem aev:rn [.l 1 r1 (.s j0 j1),.t 1 r0 (.s j0 j1)] [a,b]:=rt
theorem U5:rn [.l 1 r1 (.s j0 j1),.l 1 r0 (.s j0 j1)] [a,b]:=rt
theorem U6:rn [.l 1 r1 (.s j0 j1),.l 16 (.s r1 (.o j0 16)) (.s r1 (.o j1 16))] [a,b]:=rt
theorem ank:rn [.l 32 r1 j0,.l 1 j1 (.n 32),.l 32 (.m (1/32) j1) j0] [b,a]:=rt
theorem aew:rn [.l 1 r1 j0,.l 1 j0 j1,.t 1 r0 j1] [b,a]:=rt
theorem anm:rn [.l 1 j0 (.n (1*1)),.l 1 (.n (-16)) (.s r1 j0)] [(a*(1-b))]:=rt
theorem ano:rn [.l 1 j0 (.n (1*1)),.l 1 (.n (-2)) (.s r1 j0)] [(a*(1-b))]:=rt
theorem anp:rn [.l 1 (.n (-(1*1))) j0,.l 1 (.s r1 j0) (.n 16)] [(a*(1-b))]:=rt
theorem anq:rn [.l 1 (.n (-(1*1))) j0,.l 1 (.s r1 j0) r2] [(a*(1-b))]:=rt
theorem anr:rn [.l 1 j0 (.n (1*1)),.l 1 (.n (-16)) (.s r1 j0)] [(a*b)]:=rt
theorem ans:rn [.l 1 j0 (.n (1*1)),.l 1 (.n (-2)) (.s r1 j0)] [(a*b)]:=rt
theorem ant:rn [.l 1 (.n (-(1*1))) j0,.l 1 (.s r1 j0) (.n 16)] [(a*b)]:=rt
theorem anu:rn [.l 1 (.g (.m 2 j0)) j1,.l 2 j0 (.n (1/100000000000000)),.l 1 (.n (-(1/100000000))) j1] [b,a]:=rt
theorem anv:rn [.e 1 (.w j0 16) j1,.l 16 j0 (.o j1 16)] [a,b]:=rt
theorem aex:rn [.e (-1) (.w j0 16) j1,.l 16 (.o j1 16) j0] [a,b]:=rt
theorem aey:rn [.e (-2) (.a j0 j1) (.n 16),.l 1 (.s (.s (.n 32) j0) j1) (.a j0 j1)] [a,b]:=rt
theorem Q9:rn [.e 2 (.a j0 j1) (.n 16),.l 1 (.a j0 j1) (.s (.s (.n 32) j0) j1)] [a,b]:=rt
theorem anw:rn [.l 1 j0 (.a r1 (.m 2 j1)),.l 2 j1 (.n (1/100000000000000)),.l 1 j0 (.n (1+(1/100000000)))] [a,b]:=rt
theorem anx:rn [.l 1 j0 r1,.l 1 r0 j1,.l 1 (.n (-16)) (.s (.a r2 (.s r1 j0)) (.s r1 j1))] [a,b]:=rt
theorem Pf:rn [.l 1 j0 r1,.l 1 r0 j1,.l 1 (.s j0 j1) r1] [a,b]:=rt
theorem anz:rn [.l 30 j0 r1,.l 59 j1 r1,.l 100 (.a (.m (30/100) j0) (.m (59/100) j1)) (.n 16)] [a,b]:=rt
theorem anA:rn [.l 1 j0 (.n 16),.l 16 (.n (-16)) (.s (.m 2 (.s r1 (.o (.a j0 j1) 32))) (.s r1 (.o j1 16)))] [a,b]:=rt
theorem anB:rn [.l 2 j0 (.n 16),.l 1 (.s j0 j1) (.s (.s (.n 32) j0) j1)] [a,b]:=rt
theorem anC:rn [.l 433 j0 r2,.l 480 (.n (-2)) j1,.l 433 (.s j0 (.m (4800/4330) j1)) (.n 16)] [a,b]:=rt
theorem anD:rn [.l 25547 j0 r2,.l 7020 (.n (-2)) j1,.l 25547 (.s j0 (.m (70200/255470) j1)) (.n 16)] [a,b]:=rt
theorem anE:rn [.l 433 j0 r2,.l 410 j1 r2,.l 433 (.a j0 (.m (4100/4330) j1)) (.n 16)] [a,b]:=rt
theorem aez:rn [.l 2 j0 (.n (1/100000000000000)),.l 1 (.g (.m 2 j0)) j1,.l 1 (.n (-(11/10))) j1] [b,a]:=rt
theorem aeA:rn [.l 2 j0 (.n (1/100000000000000)),.l 1 j1 (.a r1 (.m 2 j0)),.l 1 (.n (-1)) (.s (.n (2/3)) j1)] [b,a]:=rt
theorem anF:rn [.l 2 j0 (.n (1/100000000000000)),.l 1 j1 (.a r1 (.m 2 j0)),.l 1 (.n (-16)) (.s (.n (2/3)) j1)] [b,a]:=rt
theorem aeB:rn [.l 2 j0 (.n (1/100000000000000)),.l 1 j1 (.a r1 (.m 2 j0)),.l 1 j1 (.n (11/10))] [b,a]:=rt
theorem anG:rn [.l 1 j0 r1,.l 1 r0 j1,.l 1 (.s (.s r1 j1) (.s r1 j0)) (.n 16)] [b,a]:=rt
theorem anH:rn [.l 1 j0 r1,.l 1 r0 j1,.l 1 (.s (.a (.n 4) (.s r1 j1)) (.s r1 j0)) (.n 16)] [b,a]:=rt
theorem anI:rn [.l 1 j0 (.n 16),.l 1 j1 (.n 16),.l 32 (.n (-16)) (.s r1 (.o (.a j1 j0) 32))] [b,a]:=rt
theorem anJ:rn [.l 1 j0 (.n 16),.l 1 j1 (.n 16),.l 32 (.o (.a j1 j0) 32) r1] [b,a]:=rt
theorem anK:rn [.l 1 j0 (.n 16),.l 1 j1 (.n 16),.l 16 (.a (.o j1 16) (.o j0 16)) (.n 16)] [b,a]:=rt
theorem aeC:rn [.l 1 j0 j1,.l 1 (.n (-16)) (.s j1 j0)] [b,a]:=rt
theorem anL:rn [.l 1 j0 j1,.l 16 (.n (-16)) (.s (.o j1 16) (.o j0 16))] [b,a]:=rt
theorem Pg:rn [.l 1 j0 j1,.l 1 r0 (.s j1 j0)] [b,a]:=rt
theorem anM:rn [.l 1 (.s j1 j1) (.m 0 (.s j0 j1))] [b,a]:=rt
theorem aeD:rn [.l 1 (.m 0 (.s j0 j1)) (.s j1 j1)] [b,a]:=rt
theorem anP:rn [.l 433 (.n (-2)) j0,.l 410 (.n (-2)) j1,.l 270 (.n (-2)) j2,.l 433 (.n (-16)) (.a (.a j0 (.m (4100/4330) j1)) (.m (2700/4330) j2))] [a,b,c]:=rt
theorem anQ:rn [.l 25547 (.n (-2)) j0,.l 7020 j1 r2,.l 16240 j2 r2,.l 25547 (.n (-16)) (.s (.s j0 (.m (70200/255470) j1)) (.m (162400/255470) j2))] [a,b,c]:=rt
theorem U7:rn [.l 30 r0 (.o j0 16),.l 59 r0 (.o j1 16),.l 11 r0 (.o j2 16),.l 100 (.n (-2)) LU] [a,b,c]:=rt
theorem aeE:rn [.l 30 r0 (.o j0 16),.l 59 r0 (.o j1 16),.l 11 r0 (.o j2 16),.l 100 r0 LU] [a,b,c]:=rt
theorem U8:rn [.l 2130 r0 (.o j0 16),.l 5251 (.o j1 16) r1,.l 3121 r0 (.o j2 16),.l 10000 (.g (.a (.m (48/100) (.s (.o j0 16) LU)) (.m (41/100) (.s (.o j2 16) LU)))) r2] [a,b,c]:=rt
theorem U9:rn [.l 5990 r0 (.o j0 16),.l 2773 (.o j1 16) r1,.l 3217 (.o j2 16) r1,.l 10000 (.g (.s (.m (74/100) (.s (.o j0 16) LU)) (.m (27/100) (.s (.o j2 16) LU)))) r2] [a,b,c]:=rt
theorem anR:rn [.l 48 r0 j0,.l 41 r0 j1,.l 89 j2 r1,.l 100 (.n (-16)) (.a (.m (48/100) (.s j0 j2)) (.m (41/100) (.s j1 j2)))] [a,c,b]:=rt
theorem anS:rn [.l 1 r0 j0,.l 6 (.n (-(1*1))) j1,.l 1 (.n (-16)) (.a j0 (.w j1 6))] [a,((b-a)*((2/3)-c))]:=rt
theorem anT:rn [.l 1 r0 j0,.l 6 (.n (-(1*(11/10)))) j1,.l 1 (.n (-16)) (.a j0 (.w j1 6))] [a,((b-a)*c)]:=rt
theorem anU:rn [.l 74 r0 j0,.l 27 j1 r1,.l 47 j2 r1,.l 100 (.n (-16)) (.s (.m (74/100) (.s j0 j2)) (.m (27/100) (.s j1 j2)))] [a,c,b]:=rt
theorem anW:rn [.l 1 r0 j0,.l 1 j1 (.n 16),.l 1 j0 j2,.l 16 (.s (.o j1 16) (.o j2 16)) (.n 16)] [c,a,b]:=rt
theorem anY:rn [.l 32 (.n (1/32)) j0,.l 1 r1 (.s j1 j2),.l 2 j1 (.n 16),.l 32 (.n (-16)) (.a (.s r1 (.o (.a j1 j2) 32)) j0)] [c,a,b]:=rt
theorem an0:rn [.l 1 r1 (.s j0 j1),.l 1 r0 j1,.l 16 (.n (-0)) (.s j2 (.o j0 16)),.t 16 r0 j2] [b,c,a]:=rt
theorem an1:rn [.l 1 (.n (-(1*1))) j0,.l 1 (.n (-1)) j0] [((a-b)*((2/3)-c))]:=rt
theorem an2:rn [.l 1 j0 (.n (1*(11/10))),.l 1 j0 (.n (11/10))] [((a-b)*c)]:=rt
theorem an4:rn [.l 1 (.g j0) (.s j1 j2),.l 1 (.s j2 j1) j0] [c,b,a]:=rt
theorem Va:rn [.l 5990 (.o j0 16) r1,.l 2773 r0 (.o j1 16),.l 3217 r0 (.o j2 16),.l 10000 (.n (-2)) (.g (.s (.m (74/100) (.s (.o j0 16) LU)) (.m (27/100) (.s (.o j2 16) LU))))] [a,b,c]:=rt
theorem aeF:rn [.l 30 (.o j0 16) r1,.l 59 (.o j1 16) r1,.l 11 (.o j2 16) r1,.l 100 LU r1] [a,b,c]:=rt
theorem Vb:rn [.l 30 (.o j0 16) r1,.l 59 (.o j1 16) r1,.l 11 (.o j2 16) r1,.l 100 LU r2] [a,b,c]:=rt
theorem an9:rn [.l 74 j0 r1,.l 27 r0 j1,.l 47 r0 j2,.l 100 (.s (.m (74/100) (.s j0 j2)) (.m (27/100) (.s j1 j2))) (.n 16)] [a,c,b]:=rt
theorem aoa:rn [.l 30 j0 r1,.l 59 j1 r1,.l 11 j2 r1,.l 100 (.a (.a (.m (30/100) j0) (.m (59/100) j1)) (.m (11/100) j2)) (.n 16)] [a,b,c]:=rt
theorem aob:rn [.l 48 j0 r1,.l 41 j1 r1,.l 89 r0 j2,.l 100 (.a (.m (48/100) (.s j0 j2)) (.m (41/100) (.s j1 j2))) (.n 16)] [a,c,b]:=rt
theorem aoc:rn [.l 25547 j0 r2,.l 7020 (.n (-2)) j1,.l 16240 (.n (-2)) j2,.l 25547 (.s (.s j0 (.m (70200/255470) j1)) (.m (162400/255470) j2)) (.n 16)] [a,b,c]:=rt
theorem aod:rn [.l 433 j0 r2,.l 480 (.n (-2)) j1,.l 740 j2 r2,.l 433 (.a (.s j0 (.m (4800/4330) j1)) (.m (7400/4330) j2)) (.n 16)] [a,b,c]:=rt
theorem aoe:rn [.l 1 j0 j1,.l 1 j1 r1,.l 6 j2 (.n (1*1)),.l 1 (.a j0 (.w j2 6)) (.n 16)] [a,b,((b-a)*((2/3)-c))]:=rt
theorem aof:rn [.l 1 j0 j1,.l 1 j1 r1,.l 6 j2 (.n (1*(11/10))),.l 1 (.a j0 (.w j2 6)) (.n 16)] [a,b,((b-a)*c)]:=rt
theorem aog:rn [.l 1 j0 j1,.l 1 (.s j0 j2) (.m 1 (.s j1 j2))] [a,c,b]:=rt
theorem aoi:rn [.l 1 (.s j0 j1) j2,.l 1 (.g j2) (.s j1 j0)] [c,b,a]:=rt
theorem aoj:rn [.l 32 j0 r1,.l 1 r1 (.s j1 j2),.l 2 r0 j2,.l 32 (.a (.s r1 (.o (.a j1 j2) 32)) j0) (.n 16)] [c,a,b]:=rt
theorem aom:rn [.l 1 (.g j0) j1,.l 2 j2 r1,.l 2 (.s (.a (.a j3 r1) j1) (.a j3 j2)) j0,.l 1 (.g (.m 3 j0)) (.s (.s r1 j1) r1)] [a,b,c,d]:=rt
theorem aeN:rn [.l 2 (.g j0) j1,.l 1 j2 r1,.l 1 (.s (.a (.a j3 r1) j1) (.a j3 j2)) j0,.l 1 (.s (.s r1 j1) r1) (.m 3 j0)] [a,b,c,d]:=rt
theorem aon:rn [.l 2 (.g j0) j1,.l 1 j2 r1,.l 1 (.s (.a (.a j3 r1) j1) (.a j3 j2)) j0,.l 1 (.g (.m 3 j0)) (.s j1 r0)] [a,b,c,d]:=rt
theorem aeO:rn [.l 1 (.g j0) j1,.l 2 j2 r1,.l 2 (.s (.a (.a j3 r1) j1) (.a j3 j2)) j0,.l 1 (.s j1 r0) (.m 3 j0)] [a,b,c,d]:=rt
theorem aoo:rn [.l 3 (.g j0) j1,.l 1 j2 r1,.l 3 (.s (.a (.a j3 r1) j1) (.a j3 j2)) j0,.l 2 (.g (.m 3 j0)) (.s r0 (.s r1 j2))] [a,c,b,d]:=rt
theorem aeP:rn [.l 3 (.g j0) j1,.l 5 j2 r1,.l 3 (.s (.a (.a j3 r1) j1) (.a j3 j2)) j0,.l 2 (.s r0 (.s r1 j2)) (.m 3 j0)] [a,c,b,d]:=rt
theorem aop:rn [.l 3 (.g j0) j1,.l 5 j2 r1,.l 3 (.s (.a (.a j3 r1) j1) (.a j3 j2)) j0,.l 2 (.g (.m 3 j0)) (.s r1 j2)] [a,c,b,d]:=rt
theorem aeQ:rn [.l 3 (.g j0) j1,.l 1 j2 r1,.l 3 (.s (.a (.a j3 r1) j1) (.a j3 j2)) j0,.l 2 (.s r1 j2) (.m 3 j0)] [a,c,b,d]:=rt
theorem aoq:rn [.l 1 (.g j0) j1,.l 1 (.g j2) (.s j3 j1),.l 1 (.g (.a j0 j2)) j3] [a,d,b,c]:=rt
theorem aot:rn [.l 1 j0 (.s j1 j2),.l 1 (.g j2) (.s j3 j1),.l 1 j0 j3] [a,c,d,b]:=rt
theorem aou:rn [.l 1 j0 (.a r1 j1),.l 2 r0 j2,.l 2 (.g j1) (.s (.a j3 j0) (.a (.a j3 r1) j2)),.l 1 (.g (.m 3 j1)) (.s j0 r1)] [b,a,c,d]:=rt
theorem aeR:rn [.l 2 j0 (.a r1 j1),.l 1 r0 j2,.l 1 (.g j1) (.s (.a j3 j0) (.a (.a j3 r1) j2)),.l 1 (.s j0 r1) (.m 3 j1)] [b,a,c,d]:=rt
theorem aov:rn [.l 3 j0 (.a r1 j1),.l 1 r0 j2,.l 3 (.g j1) (.s (.a j3 j0) (.a (.a j3 r1) j2)),.l 2 (.g (.m 3 j1)) (.s r0 j2)] [c,a,b,d]:=rt
theorem aeS:rn [.l 3 j0 (.a r1 j1),.l 5 r0 j2,.l 3 (.g j1) (.s (.a j3 j0) (.a (.a j3 r1) j2)),.l 2 (.s r0 j2) (.m 3 j1)] [c,a,b,d]:=rt
theorem aow:rn [.l 3 j0 (.a r1 j1),.l 5 r0 j2,.l 3 (.g j1) (.s (.a j3 j0) (.a (.a j3 r1) j2)),.l 2 (.g (.m 3 j1)) (.s r1 (.s r1 j2))] [c,a,b,d]:=rt
theorem aeT:rn [.l 3 j0 (.a r1 j1),.l 1 r0 j2,.l 3 (.g j1) (.s (.a j3 j0) (.a (.a j3 r1) j2)),.l 2 (.s r1 (.s r1 j2)) (.m 3 j1)] [c,a,b,d]:=rt
theorem aox:rn [.l 1 j0 j1,.l 1 (.s j2 j0) j3,.l 1 j2 (.a j1 j3)] [d,b,a,c]:=rt
theorem aoC:rn [.t 23 r0 j0,.l 23 j0 (.s j1 j2),.l 23 (.g j2) (.s j3 j1),.l 1 (.g (.m 9 j3)) j4,.t 1 (.g (.m 32 j3)) j4] [c,d,e,a,b]:=rt
theorem aoD:rn [.t 23 r0 j0,.l 23 j0 (.s j1 j2),.l 23 (.g j2) (.s j3 j1),.l 1 j4 (.m 9 j3),.t 1 j4 (.m 32 j3)] [c,d,e,b,a]:=rt
theorem aoE:rn [.l 1 j0 r1,.l 1 r0 j1,.l 1 (.a (.s j2 j3) j1) j0,.l 1 j4 (.n 16),.l 1 j3 j4,.t 1 j2 (.n 32)] [b,c,a,d,e]:=rt
theorem aoF:rn [.l 2 j0 r1,.l 1 (.g j0) (.a (.s j1 j2) j3),.l 1 (.g j0) (.s (.s j1 j2) j3),.l 2 j4 (.n 16),.l 2 (.g j4) j2,.t 2 (.n (-32)) j1] [b,a,c,d,e]:=rt
theorem aoI:rn [.l 1 (.a (.a j0 j1) (.n (1/100000000000000))) j2,.l 1 j2 r1,.l 1 (.n (-16)) (.s j3 j4),.l 1 (.g j0) (.s j5 j3),.l 1 (.s j6 j4) j1,.t 1 (.n (-32)) (.s j5 j6)] [c,d,e,f,g,a,b]:=rt
theorem aoJ:rn [.l 1 (.a (.a j0 j1) (.n (1/100000000000000))) j2,.l 1 j2 r1,.l 1 (.a j3 j4) (.n 16),.l 1 (.s j5 j3) j0,.l 1 (.s j6 j4) j1,.t 1 (.a j5 j6) (.n 32)] [c,d,e,f,g,a,b]:=rt
theorem aoK:rn [.l 1 (.a (.a j0 j1) (.n (1/100000000000000))) j2,.l 1 j2 r1,.l 1 (.s j3 j4) (.n 16),.l 1 (.s j5 j3) j0,.l 1 (.g j1) (.s j6 j4),.t 1 (.s j5 j6) (.n 32)] [c,d,e,f,g,a,b]:=rt
theorem Gj:rn [.l 3 r0 j0,.l 1 (.g (.m 3 j0)) (.n (0-0))] [a]:=rt
theorem AZ:rn [.l 3 r0 j0,.l 1 (.n (0-0)) (.m 3 j0)] [a]:=rt
theorem Y4:rn [.l 6 (.n (1/2)) j0,.l 1 (.n (3-(1/10000000))) (.m 6 j0)] [a]:=rt
theorem Y5:rn [.l 6 (.n ((1/6)-(1/100000000))) j0,.l 1 (.n (1-(1/10000000))) (.m 6 j0)] [a]:=rt
theorem Q0:rn [.l 1 r1 j0,.t 1 r0 j0] [a]:=rt
theorem Y6:rn [.l 6 (.n ((2/3)-(1/100000000))) j0,.l 1 (.n (4-(1/10000000))) (.m 6 j0)] [a]:=rt
theorem Y7:rn [.l 1 (.m 6 j0) r2,.l 1 (.m 6 j0) (.n ((1+1)+(1/10000000)))] [a]:=rt
theorem Y8:rn [.l 1 (.m 6 j0) (.n 5),.l 1 (.m 6 j0) (.n ((4+1)+(1/10000000)))] [a]:=rt
theorem Y9:rn [.l 1 (.n (-(1/100000000))) j0,.l 1 (.n (-16)) (.a j0 (.n (1/3)))] [a]:=rt
theorem Za:rn [.l 1 (.n (-(1/100000000))) j0,.l 1 (.n (-16)) (.s j0 (.n (1/3)))] [a]:=rt
theorem Zb:rn [.l 6 (.n (-(1/100000000))) j0,.l 1 (.n (0-(1/10000000))) (.m 6 j0)] [a]:=rt
theorem Lp:rn [.l 1 (.o j0 16) r1,.l 1 (.o j0 16) r1] [a]:=rt
theorem Zc:rn [.l 6 j0 (.n (1/2)),.l 1 (.m 6 j0) (.n ((2+1)+(1/10000000)))] [a]:=rt
theorem Zd:rn [.l 6 j0 (.n ((1/6)+(1/100000000))),.l 1 (.m 6 j0) (.n ((0+1)+(1/10000000)))] [a]:=rt
theorem Ze:rn [.l 6 j0 (.n (1+(1/100000000))),.l 1 (.m 6 j0) (.n ((5+1)+(1/10000000)))] [a]:=rt
theorem Zf:rn [.l 1 j0 (.n (1+(1/100000000))),.l 1 (.a j0 (.n (1/3))) (.n 16)] [a]:=rt
theorem Zg:rn [.l 1 j0 (.n (1+(1/100000000))),.l 1 (.s j0 (.n (1/3))) (.n 16)] [a]:=rt
theorem Zh:rn [.l 6 j0 (.n ((2/3)+(1/100000000))),.l 1 (.m 6 j0) (.n ((3+1)+(1/10000000)))] [a]:=rt
theorem Zi:rn [.t 1 r2 (.m 6 j0),.l 1 (.n (2-(1/10000000))) (.m 6 j0)] [a]:=rt
theorem Zj:rn [.t 1 (.n 5) (.m 6 j0),.l 1 (.n (5-(1/10000000))) (.m 6 j0)] [a]:=rt
theorem Zk:rn [.l 1 (.s (.s r1 (.o j0 16)) (.s r1 (.o j0 16))) (.n ((1/100000000)-(5*(1/10000000000))))] [a]:=rt
theorem Zl:rn [.l 1 (.s (.s r1 (.o j0 16)) (.s r1 (.o j0 16))) (.n ((5*(1/10000000000))-(3*(1/10000000000))))] [a]:=rt
theorem Zm:rn [.l 1 (.n (-((1/100000000)-0))) (.s j0 j0)] [a]:=rt
theorem Zn:rn [.l 1 (.n (-((1/100000000)-(5*(1/10000000000))))) (.s (.s r1 (.o j0 16)) (.s r1 (.o j0 16)))] [a]:=rt
theorem Zo:rn [.l 1 (.n (-((5*(1/10000000000))-(3*(1/10000000000))))) (.s (.s r1 (.o j0 16)) (.s r1 (.o j0 16)))] [a]:=rt
theorem Zp:rn [.l 1 (.s j0 j0) (.n ((1/100000000)-0))] [a]:=rt
theorem CP:rn [.t 1 r0 j0,.l 1 j0 j1,.l 1 r0 j1] [b,a]:=rt
theorem Gk:rn [.l 1 r0 j0,.l 1 j1 r1,.l 1 (.n (-1)) (.s j0 j1)] [a,b]:=rt
theorem ZK:rn [.l 1 r0 j0,.l 1 (.s (.s (.s r1 j0) (.s r1 j1)) (.s (.a (.n 6) j1) (.n 6))) (.n ((1/1000000000)-(3*(1/10000000000))))] [a,b]:=rt
theorem ZL:rn [.l 1 r0 j0,.l 1 (.s (.s (.a r2 (.s r1 j0)) (.s r1 j1)) (.s (.a (.n 8) j1) (.n 6))) (.n ((1/1000000000)-(4*(1/10000000000))))] [a,b]:=rt
theorem ZM:rn [.l 1 r0 j0,.l 1 (.s (.s (.a (.n 4) (.s r1 j0)) (.s r1 j1)) (.s (.a (.n 10) j1) (.n 6))) (.n ((1/1000000000)-(4*(1/10000000000))))] [a,b]:=rt
theorem ZN:rn [.l 1 r0 j0,.l 1 (.n (-((1/1000000000)-(3*(1/10000000000))))) (.s (.s (.s r1 j1) (.s r1 j0)) (.s (.a (.n 5) (.s r1 j1)) (.n 6)))] [b,a]:=rt
theorem ZO:rn [.l 1 r0 j0,.l 1 (.n (-((1/1000000000)-(4*(1/10000000000))))) (.s (.s (.a r2 (.s r1 j1)) (.s r1 j0)) (.s (.a (.n 7) (.s r1 j1)) (.n 6)))] [b,a]:=rt
theorem ZP:rn [.l 1 r0 j0,.l 1 (.n (-((1/1000000000)-(4*(1/10000000000))))) (.s (.s (.a (.n 4) (.s r1 j1)) (.s r1 j0)) (.s (.a (.n 9) (.s r1 j1)) (.n 6)))] [b,a]:=rt
theorem Q1:rn [.l 1 (.n (1/32)) j0,.l 1 (.n (-(1/10000000000))) (.s j1 j0),.t 1 r0 j1] [b,a]:=rt
theorem ZQ:rn [.l 1 r1 (.s j0 j1),.l 2 r0 j1,.l 16 (.n (1/17)) (.s (.a (.o j0 16) (.o j1 16)) (.n (1/1000000000000)))] [a,b]:=rt
theorem Gm:rn [.l 1 r1 (.s j0 j1),.l 2 j0 (.n 16),.l 32 (.n (-1)) (.s r1 (.o (.a j0 j1) 32))] [a,b]:=rt
theorem ZR:rn [.l 1 r1 (.s j0 j1),.l 2 j0 (.n 16),.l 16 (.n (1/17)) (.s (.s (.s r2 (.o j0 16)) (.o j1 16)) (.n (2*(1/1000000000000))))] [a,b]:=rt
theorem ZS:rn [.l 1 r1 (.s j0 j1),.l 16 (.n (1/17)) (.s (.s (.o j0 16) (.o j1 16)) (.n (1/1000000000000)))] [a,b]:=rt
theorem ZT:rn [.l 1 (.n (-(1*1))) j0,.l 1 (.s r1 j0) r2] [(a*b)]:=rt
theorem ZU:rn [.l 1 (.g (.m 2 j0)) j1,.l 2 j0 (.n (1/100000000000000)),.l 1 (.n (-(1/100000000))) j1] [b,a]:=rt
theorem ZV:rn [.l 1 (.n (-(1/1000000000000))) (.s j0 (.n (1/6))),.l 1 j0 j1,.l 1 (.n ((1/6)-(1/100000000))) j1] [b,a]:=rt
theorem ZW:rn [.l 1 (.n (-(1/1000000000000))) (.s j0 (.n (2/3))),.l 1 j0 j1,.l 1 (.n ((2/3)-(1/100000000))) j1] [b,a]:=rt
theorem Gn:rn [.l 1 (.g j0) j1,.l 1 r0 (.a j0 j1)] [a,b]:=rt
theorem ZX:rn [.e 1 j0 r0,.l 1 (.n (-((1/1000000000)-(3*(1/10000000000))))) (.s (.s (.s r1 j0) (.s r1 j1)) (.s (.a (.n 6) j1) (.n 6)))] [a,b]:=rt
theorem ZY:rn [.e 1 j0 r0,.l 1 (.n (-((1/1000000000)-(4*(1/10000000000))))) (.s (.s (.a r2 (.s r1 j0)) (.s r1 j1)) (.s (.a (.n 8) j1) (.n 6)))] [a,b]:=rt
theorem ZZ:rn [.e 1 j0 r0,.l 1 (.n (-((1/1000000000)-(4*(1/10000000000))))) (.s (.s (.a (.n 4) (.s r1 j0)) (.s r1 j1)) (.s (.a (.n 10) j1) (.n 6)))] [a,b]:=rt
theorem Z0:rn [.l 1 j0 (.a r1 (.m 2 j1)),.l 2 j1 (.n (1/100000000000000)),.l 1 j0 (.n (1+(1/100000000)))] [a,b]:=rt
theorem Gp:rn [.l 1 j0 r1,.l 1 r0 j1,.l 1 (.s j0 j1) (.n 16)] [a,b]:=rt
theorem Z1:rn [.l 1 j0 j1,.l 1 j0 j1] [a,b]:=rt
theorem Uw:rn [.l 1 j1 j0,.l 1 j1 j0] [a,b]:=rt
theorem Z2:rn [.l 1 (.s j0 (.n (1/2))) r0,.t 1 j1 j0,.l 1 j1 (.n (1/2))] [b,a]:=rt
theorem Z3:rn [.l 1 (.s j0 (.n (1/6))) (.n (1/1000000000000)),.t 1 j1 j0,.l 1 j1 (.n ((1/6)+(1/100000000)))] [b,a]:=rt
theorem Z4:rn [.l 1 (.s j0 (.n (2/3))) (.n (1/1000000000000)),.t 1 j1 j0,.l 1 j1 (.n ((2/3)+(1/100000000)))] [b,a]:=rt
theorem Z5:rn [.e 1 j0 r0,.l 1 (.s (.s (.s r1 j1) (.s r1 j0)) (.s (.a (.n 5) (.s r1 j1)) (.n 6))) (.n ((1/1000000000)-(3*(1/10000000000))))] [b,a]:=rt
theorem Z7:rn [.e 1 j0 r0,.l 1 (.s (.s (.a r2 (.s r1 j1)) (.s r1 j0)) (.s (.a (.n 7) (.s r1 j1)) (.n 6))) (.n ((1/1000000000)-(4*(1/10000000000))))] [b,a]:=rt
theorem Z8:rn [.e 1 j0 r0,.l 1 (.s (.s (.a (.n 4) (.s r1 j1)) (.s r1 j0)) (.s (.a (.n 9) (.s r1 j1)) (.n 6))) (.n ((1/1000000000)-(4*(1/10000000000))))] [b,a]:=rt
theorem CQ:rn [.l 1 j0 j1,.l 1 (.n (-1)) (.s j1 j0)] [b,a]:=rt
theorem Z9:rn [.l 1 (.s (.s (.m 2 (.s r1 (.o (.a j0 j1) 32))) (.s r1 (.o j1 16))) (.s r1 (.o j0 16))) (.n ((1/100000000)-(7*(1/10000000000))))] [a,b]:=rt
theorem aaa:rn [.l 1 (.w (.o (.a j0 j1) 32) 2) (.a (.o j0 16) (.o j1 16))] [a,b]:=rt
theorem Ux:rn [.l 1 (.a (.o j0 16) (.o j1 16)) (.w (.o (.a j0 j1) 32) 2)] [a,b]:=rt
theorem aab:rn [.l 1 (.n (-((1/100000000)-(3*(1/10000000000))))) (.s j0 j0)] [((a/16)*(1-b))]:=rt
theorem aac:rn [.l 1 (.n (-((1/100000000)-(7*(1/10000000000))))) (.s (.s (.m 2 (.s r1 (.o (.a j0 j1) 32))) (.s r1 (.o j1 16))) (.s r1 (.o j0 16)))] [a,b]:=rt
theorem aad:rn [.l 1 (.s j0 j0) (.n ((1/100000000)-(3*(1/10000000000))))] [((a/16)*(1-b))]:=rt
theorem aai:rn [.l 433 (.n (-2)) j0,.l 480 j1 r2,.l 740 (.n (-2)) j2,.l 433 (.n (-16)) (.a (.s j0 (.m (4800/4330) j1)) (.m (7400/4330) j2))] [a,b,c]:=rt
theorem aaj:rn [.l 30 r0 j0,.l 59 r0 j1,.l 11 r0 j2,.l 100 (.n (-16)) (.a (.a (.m (30/100) j0) (.m (59/100) j1)) (.m (11/100) j2))] [a,b,c]:=rt
theorem aak:rn [.l 1 r1 (.s j0 j1),.l 2 r0 j1,.l 16 (.n (-(1/1000000000000))) (.s j2 (.a (.o j0 16) (.o j1 16))),.t 16 r0 j2] [b,c,a]:=rt
theorem Q2:rn [.l 1 r1 (.s j0 j1),.l 16 (.n (-(1/1000000000000))) (.s j2 (.s (.o j0 16) (.o j1 16))),.t 16 r0 j2] [b,c,a]:=rt
theorem aal:rn [.l 1 (.s (.w (.s j0 j1) 1) j2) (.n (3*(1/10000000))),.l 1 (.s j0 (.a j1 j2)) (.n ((1/100000)-(1/100000000)))] [a,b,((a-b)*c)]:=rt
theorem aam:rn [.l 1 (.s (.w (.s j0 j1) 0) j2) (.n (3*(1/10000000))),.l 1 (.s j1 (.a j1 j2)) (.n ((1/100000)-(1/100000000)))] [b,a,((b-a)*c)]:=rt
theorem aan:rn [.l 1 j0 (.n (1*1)),.l 1 j0 r1] [((a-b)*((2/3)-c))]:=rt
theorem aao:rn [.l 1 (.n (-(1*(11/10)))) j0,.l 1 (.n (-(11/10))) j0] [((a-b)*c)]:=rt
theorem aap:rn [.l 1 (.n (-(3*(1/10000000)))) (.s (.w (.s j0 j1) 1) j2),.l 1 (.n (-((1/100000)-(1/100000000)))) (.s j0 (.a j1 j2))] [a,b,((a-b)*c)]:=rt
theorem aaq:rn [.l 1 (.n (-(3*(1/10000000)))) (.s (.w (.s j0 j1) 0) j2),.l 1 (.n (-((1/100000)-(1/100000000)))) (.s j1 (.a j1 j2))] [b,a,((b-a)*c)]:=rt
theorem Lq:rn [.l 2130 (.o j0 16) r1,.l 5251 r0 (.o j1 16),.l 3121 (.o j2 16) r1,.l 10000 (.n (-2)) (.g (.a (.m (48/100) (.s (.o j0 16) LU)) (.m (41/100) (.s (.o j2 16) LU))))] [a,b,c]:=rt
theorem aar:rn [.l 433 j0 r2,.l 410 j1 r2,.l 270 j2 r2,.l 433 (.a (.a j0 (.m (4100/4330) j1)) (.m (2700/4330) j2)) (.n 16)] [a,b,c]:=rt
theorem aas:rn [.l 1 j0 j1,.l 1 (.m 0 (.s j2 j0)) (.s j1 j0)] [b,c,a]:=rt
theorem aau:rn [.l 1 (.s (.a (.a LU (.m (4100/4330) (.g (.s (.m (74/100) (.s (.o j0 16) LU)) (.m (27/100) (.s (.o j2 16) LU)))))) (.m (2700/4330) (.g (.a (.m (48/100) (.s (.o j0 16) LU)) (.m (41/100) (.s (.o j2 16) LU)))))) (.o (.s (.m 2 (.a (.a (.m 30 j0) (.m 59 j1)) (.m 11 j2))) (.m 100 j0)) 1600)) (.n ((1/10000)-(1/100000000)))] [a,b,c]:=rt
theorem aav:rn [.l 1 (.s LU LU) (.n ((1/1000000000)-(1/10000000000)))] [a,b,c]:=rt
theorem aaw:rn [.l 1 (.s (.a (.s LU (.m (4800/4330) (.g (.s (.m (74/100) (.s (.o j0 16) LU)) (.m (27/100) (.s (.o j2 16) LU)))))) (.m (7400/4330) (.g (.a (.m (48/100) (.s (.o j0 16) LU)) (.m (41/100) (.s (.o j2 16) LU)))))) (.o (.s (.m 2 (.a (.a (.m 30 j0) (.m 59 j1)) (.m 11 j2))) (.m 100 j2)) 1600)) (.n ((1/10000)-(1/100000000)))] [a,b,c]:=rt
theorem aax:rn [.l 1 (.s (.s (.s LU (.m (70200/255470) (.g (.s (.m (74/100) (.s (.o j0 16) LU)) (.m (27/100) (.s (.o j2 16) LU)))))) (.m (162400/255470) (.g (.a (.m (48/100) (.s (.o j0 16) LU)) (.m (41/100) (.s (.o j2 16) LU)))))) (.o (.s (.m 2 (.a (.a (.m 30 j0) (.m 59 j1)) (.m 11 j2))) (.m 100 j1)) 1600)) (.n ((1/10000)-(1/100000000)))] [a,b,c]:=rt
theorem aaz:rn [.l 1 (.n (-((1/10000)-(1/100000000)))) (.s (.a (.a LU (.m (4100/4330) (.g (.s (.m (74/100) (.s (.o j0 16) LU)) (.m (27/100) (.s (.o j2 16) LU)))))) (.m (2700/4330) (.g (.a (.m (48/100) (.s (.o j0 16) LU)) (.m (41/100) (.s (.o j2 16) LU)))))) (.o (.s (.m 2 (.a (.a (.m 30 j0) (.m 59 j1)) (.m 11 j2))) (.m 100 j0)) 1600))] [a,b,c]:=rt
theorem aaA:rn [.l 1 (.n (-((1/10000)-(1/100000000)))) (.s (.a (.s LU (.m (4800/4330) (.g (.s (.m (74/100) (.s (.o j0 16) LU)) (.m (27/100) (.s (.o j2 16) LU)))))) (.m (7400/4330) (.g (.a (.m (48/100) (.s (.o j0 16) LU)) (.m (41/100) (.s (.o j2 16) LU)))))) (.o (.s (.m 2 (.a (.a (.m 30 j0) (.m 59 j1)) (.m 11 j2))) (.m 100 j2)) 1600))] [a,b,c]:=rt
theorem aaB:rn [.l 1 (.n (-((1/10000)-(1/100000000)))) (.s (.s (.s LU (.m (70200/255470) (.g (.s (.m (74/100) (.s (.o j0 16) LU)) (.m (27/100) (.s (.o j2 16) LU)))))) (.m (162400/255470) (.g (.a (.m (48/100) (.s (.o j0 16) LU)) (.m (41/100) (.s (.o j2 16) LU)))))) (.o (.s (.m 2 (.a (.a (.m 30 j0) (.m 59 j1)) (.m 11 j2))) (.m 100 j1)) 1600))] [a,b,c]:=rt
theorem aaC:rn [.l 1 (.n (-((1/100000000)-(5*(1/10000000000))))) (.s j0 j0)] [((a/16)*(1-(b*(1-c))))]:=rt
theorem aaD:rn [.l 1 (.n (-((1/100000000)-(5*(1/10000000000))))) (.s j0 j0)] [((a/16)*(1-(b*c)))]:=rt
theorem aaE:rn [.l 1 (.n (-((1/1000000000)-(1/10000000000)))) (.s LU LU)] [a,b,c]:=rt
theorem aaF:rn [.l 1 (.s j0 j0) (.n ((1/100000000)-(5*(1/10000000000))))] [((a/16)*(1-(b*(1-c))))]:=rt
theorem aaG:rn [.l 1 (.s j0 j0) (.n ((1/100000000)-(5*(1/10000000000))))] [((a/16)*(1-(b*c)))]:=rt
theorem aaI:rn [.l 32 (.n (-0)) (.s j0 (.n (1/2))),.t 32 j0 j1,.l 32 (.s j1 (.s r1 (.o (.a j2 j3) 32))) (.n (3*(1/1000000000000))),.t 1 (.a j2 j3) (.n 17)] [c,d,a,b]:=rt
theorem aaJ:rn [.l 32 (.n (-0)) (.s j0 (.n (1/2))),.t 32 j0 j1,.l 32 (.s j1 (.o (.a j2 j3) 32)) (.n (2*(1/1000000000000))),.t 1 (.n 15) (.a j2 j3)] [c,d,a,b]:=rt
theorem aaN:rn [.l 2 j0 (.a r1 j1),.l 1 r0 j2,.l 1 (.g j1) (.s (.a j3 j0) (.a (.a j3 r1) j2)),.l 1 (.g (.m 3 j1)) (.s (.s r1 j0) r0)] [b,a,c,d]:=rt
theorem Uy:rn [.l 1 j0 (.a r1 j1),.l 2 r0 j2,.l 2 (.g j1) (.s (.a j3 j0) (.a (.a j3 r1) j2)),.l 1 (.s (.s r1 j0) r0) (.m 3 j1)] [b,a,c,d]:=rt
theorem aaO:rn [.l 32 (.s j0 (.n (1/2))) r0,.l 32 j1 j0,.l 32 (.n (-(2*(1/1000000000000)))) (.s j1 (.o (.a j2 j3) 32)),.t 1 (.a j2 j3) (.n 17)] [c,d,a,b]:=rt
theorem aaP:rn [.l 32 (.s j0 (.n (1/2))) r0,.l 32 j1 j0,.l 32 (.n (-(3*(1/1000000000000)))) (.s j1 (.s r1 (.o (.a j2 j3) 32))),.t 1 (.n 15) (.a j2 j3)] [c,d,a,b]:=rt
theorem aaQ:rn [.l 16 (.n (-(1/100000000))) (.s j0 j1),.l 1 (.n (-(16*(3*(1/10000000))))) j2,.e (-1) (.m 16 j1) (.a j3 j4),.e (-1) (.s j4 (.s j5 j3)) j2,.l 1 (.s j5 (.n (2/5))) (.m 16 j0)] [b,c,d,e,f,a]:=rt
theorem aaR:rn [.l 16 (.s j0 j1) (.n (1/100000000)),.l 1 j2 (.n (16*(3*(1/10000000)))),.e 1 (.m 16 j1) (.a j3 j4),.e 1 (.s j4 (.s j5 j3)) j2,.l 1 (.m 16 j0) (.a j5 (.n (2/5)))] [a,c,d,e,f,b]:=rt
theorem zK:rn [.l 1 (.n (-2)) j0,.l 1 (.n (-2)) j0] [a]:=rt
theorem Lv:rn [.l 1 r0 j0,.l 1 r0 j0] [a]:=rt
theorem zL:rn [.l 1 j0 r2,.l 1 j0 r2] [a]:=rt
theorem adh:rn [.l 1 j0 j1,.l 1 j0 (.m 1 j1)] [a,b]:=rt
theorem adM:rn [.l 1 (.a (.a j0 j1) (.n (1/100000000000000))) j2,.l 1 j2 r1,.l 1 (.n (-16)) (.a j3 j4),.l 1 (.g j0) (.s j5 j3),.l 1 (.g j1) (.s j6 j4),.t 1 (.n (-32)) (.a j5 j6)] [c,d,e,f,g,a,b]:=rt
theorem ac2:rn [.l 1 r0 j0,.l 16 r0 (.o j0 16)] [a]:=rt
theorem ac3:rn [.l 16 (.n (-(1/10000))) (.s j0 r1),.l 1 (.n ((1600/100)-(2/1000))) (.m 16 j0)] [a]:=rt
theorem ac4:rn [.l 16 (.n (-(1/10000))) j0,.l 1 (.n ((0/100)-(2/1000))) (.m 16 j0)] [a]:=rt
theorem ac5:rn [.l 16 (.s j0 r1) (.n (1/10000)),.l 1 (.m 16 j0) (.n ((1600/100)+(2/1000)))] [a]:=rt
theorem ac6:rn [.l 16 j0 (.n (1/10000)),.l 1 (.m 16 j0) (.n ((0/100)+(2/1000)))] [a]:=rt
theorem ac7:rn [.l 1 j0 (.n 16),.l 16 (.o j0 16) r1] [a]:=rt
theorem ac8:rn [.l 1 (.n (-0)) (.s (.o j0 16) (.o j0 16))] [a]:=rt
theorem ac9:rn [.l 1 (.s (.o j0 16) (.o j0 16)) r0] [a]:=rt
theorem ada:rn [.l 1 (.n (-(3*(1/10000000)))) (.s (.s r1 (.s (.m 6 j0) (.n 3))) j1),.l 1 (.n (-(3*(1/10000000)))) (.s (.s (.n 4) (.m 6 j0)) j1)] [a,b]:=rt
theorem adb:rn [.l 1 (.s (.s (.m 6 j0) r0) j1) (.n (3*(1/10000000))),.l 1 (.s (.m 6 j0) j1) (.n (3*(1/10000000)))] [a,b]:=rt
theorem ade:rn [.l 1 (.n (-(3*(1/10000000)))) (.s (.s (.m 6 j0) r0) j1),.l 1 (.n (-(3*(1/10000000)))) (.s (.m 6 j0) j1)] [a,b]:=rt
theorem adf:rn [.l 16 (.n (-(1/10000))) (.s j0 (.o j1 1600)),.l 1 (.s (.o j1 100) (.n (2/1000))) (.m 16 j0)] [b,a]:=rt
theorem adg:rn [.l 16 (.s j0 (.o j1 1600)) (.n (1/10000)),.l 1 (.m 16 j0) (.a (.o j1 100) (.n (2/1000)))] [a,b]:=rt
theorem adi:rn [.l 1 (.g j0) (.s j1 j2),.l 1 (.s (.g j1) (.g j2)) j0] [c,a,b]:=rt
theorem adj:rn [.l 1 (.s j0 j1) j2,.l 1 (.g j2) (.s (.g j0) (.g j1))] [b,c,a]:=rt
theorem adm:rn [.l 1 (.g j0) (.s j1 j2),.l 1 (.s j1 j2) j0,.e (-2) j3 r1,.l 2 (.g j0) (.s j3 r1)] [a,c,d,b]:=rt
theorem adn:rn [.l 1 (.g j0) (.s j1 j2),.l 1 (.s j1 j2) j0,.e 2 j3 r1,.l 2 (.s j3 r1) j0] [b,c,d,a]:=rt
theorem ado:rn [.l 1 (.g (.s j0 j1)) (.s j2 j3),.l 1 (.g j1) (.s j4 j2),.l 1 (.g j0) (.s j4 j3)] [a,d,e,c,b]:=rt
theorem adp:rn [.l 1 (.g j0) (.s j1 j2),.l 1 r1 j2,.t 1 j1 r0,.e (-1) j3 r0,.e (-1) j4 j3,.l 1 (.g j0) (.s j4 r1)] [a,c,d,e,b]:=rt
theorem adq:rn [.l 1 (.g j0) (.s j1 j2),.l 1 r1 j2,.e (-1) j3 j1,.e (-1) j4 j3,.l 1 (.g j0) (.s j4 r1)] [a,c,d,e,b]:=rt
theorem ads:rn [.l 1 (.g j0) (.s j1 j2),.l 1 (.s j1 j2) j0,.e (-2) j3 r0,.e (-2) j4 j3,.l 2 (.g j0) j4] [a,c,d,e,b]:=rt
theorem adt:rn [.l 1 (.g j0) (.s j1 j2),.t 1 j1 r0,.e (-1) j3 r0,.e (-1) j4 j3,.l 1 (.g j0) (.s j4 j2)] [a,d,c,e,b]:=rt
theorem adu:rn [.l 1 (.g j0) (.s j1 j2),.e (-1) j3 j1,.e (-1) j4 j3,.l 1 (.g j0) (.s j4 j2)] [a,d,c,e,b]:=rt
theorem adv:rn [.l 1 (.g j0) (.s j1 j2),.l 1 r1 j2,.t 1 j1 r0,.e 1 j3 r0,.e 1 j4 j3,.l 1 (.s j4 r1) j0] [b,c,d,e,a]:=rt
theorem adw:rn [.l 1 (.g j0) (.s j1 j2),.l 1 (.s j1 j2) j0,.e 2 j3 r0,.e 2 j4 j3,.l 2 j4 j0] [b,c,d,e,a]:=rt
theorem adx:rn [.l 1 (.g j0) (.s j1 j2),.l 1 (.s j1 j2) j0,.l 2 j3 r1,.e 2 j4 j3,.l 2 (.s j4 r1) j0] [b,c,d,e,a]:=rt
theorem ady:rn [.l 1 (.a (.s j1 j2) j3) j0,.l 1 (.s j4 j1) j3,.l 1 (.s j4 j2) j0] [c,d,b,e,a]:=rt
theorem adz:rn [.l 1 (.g j0) (.s j1 j2),.l 2 r0 j2,.t 1 j1 r0,.e 1 j3 r0,.e 1 j4 j3,.l 1 (.s j4 j2) j0] [c,d,b,e,a]:=rt
theorem adA:rn [.l 1 (.s j0 j1) j2,.l 1 j1 r0,.l 2 r0 j0,.e (-1) j3 j0,.e (-1) j4 j3,.l 1 (.g j2) j4] [c,d,a,e,b]:=rt
theorem adB:rn [.l 1 (.s j0 j1) j2,.l 1 j1 r0,.e 1 j3 j0,.t 1 r1 j3,.e (-1) j4 r1,.l 1 (.g j2) j4] [c,d,a,e,b]:=rt
theorem adC:rn [.l 1 (.s j0 j1) j2,.l 1 j1 r0,.e 1 j3 j0,.t 1 r1 j3,.e 1 j4 r1,.l 1 j4 j2] [c,d,b,e,a]:=rt
theorem adD:rn [.l 1 (.s j0 j1) j2,.l 1 j1 r0,.e 1 j3 j0,.e 1 j4 j3,.l 1 j4 j2] [c,d,b,e,a]:=rt
theorem adF:rn [.l 1 (.s j0 j1) (.s j2 j3),.l 1 (.s j4 j0) j3,.l 1 (.s j4 j1) j2] [d,b,c,e,a]:=rt
theorem adG:rn [.l 1 (.s j0 j1) j2,.e 1 j3 j0,.t 1 r1 j3,.e 1 j4 r1,.l 1 (.s j4 j1) j2] [d,b,c,e,a]:=rt
theorem adH:rn [.l 1 (.s j0 j1) j2,.e 1 j3 j0,.e 1 j4 j3,.l 1 (.s j4 j1) j2] [d,b,c,e,a]:=rt
theorem adI:rn [.l 1 (.s j0 j1) j2,.l 2 j1 r1,.e 1 j3 j0,.t 1 r1 j3,.e (-1) j4 r1,.l 1 (.g j2) (.s j4 j1)] [d,c,a,e,b]:=rt
theorem adJ:rn [.l 1 r0 j0,.l 1 (.g j1) j2,.l 1 (.g j3) j4,.l 1 (.a (.a j1 j3) (.n (1/100000000000000))) j5,.l 1 (.g j5) (.a (.a j2 j4) j0)] [d,e,b,f,c,a]:=rt
theorem adK:rn [.l 1 j0 (.n (1/100000000000000)),.l 1 j2 j1,.l 1 j4 j3,.l 1 (.a (.a j1 j3) (.n (1/100000000000000))) j5,.l 1 (.a (.a j2 j4) j0) j5] [c,e,a,f,b,d]:=rt
theorem adL:rn [.l 1 j0 (.n (1/100000000000000)),.l 1 (.g j1) j2,.l 1 (.g j3) j4,.l 1 (.a (.a j1 j3) (.n (1/100000000000000))) j5,.l 1 (.g j5) (.s (.a j2 j4) j0)] [d,e,b,f,c,a]:=rt
end
end fG
local macro_rules | `(tactic| cases $h:ident) => `(tactic| first | (replace $h:ident := Eq.symm $h; subst $h:ident) | (with_reducible exact fG.lR $h) | (with_reducible refine fG.Rg $h fun h1 h2 => ?_; cases h1; cases h2) | (injection $h:ident; done) | (injection $h:ident with h1 h2; cases h1; cases h2) | (injection $h:ident with h1; cases h1) | cases ($h))
namespace fG
open PySem PySem.W PySem.Calls PyProof.Rows
inductive MV where
 |none|bool (b:cj)|int (i:aE)|bO (x:aW)|ref (i:ah)|old
 deriving Bv,Inhabited
inductive av where
 |list (xs:af MV)
 |tup (xs:af MV)
 |dict (es:af (aE×MV)) (ep:ah)
 |set (xs:af aE)
 |inst (d:ah)
 |attrs (vs:af MV)
 |node (d:ah) (vs:af (ag MV))
 |iter (l i:ah)
 |bound (it:ah)
 |cell (v:ag MV)
 |dead
 deriving Inhabited
noncomputable def av.tag:av->ah
 |.list _=>0|.tup _=>1|.dict _ _=>2|.set _=>3|.inst _=>4|.attrs _=>5|.node _ _=>6|.iter _ _=>7|.bound _=>8|.cell _=>9|.dead=>7
set_option genInjectivity false in structure St where
 H:af av
 l:ah->ag MV
inductive MF where
 |next|brk|cont|ret (v:MV)
noncomputable def MV.rf(v:MV):ag ah:=@MV.rec (λ_=>ag ah) .none (λ_=> .none) (λ_=> .none) (λ_=> .none) .some .none v
noncomputable def MV.it(v:MV):ag aE:=@MV.rec (λ_=>ag aE) .none (λ_=> .none) .some (λ_=> .none) (λ_=> .none) .none v
noncomputable def MV.fl(v:MV):ag aW:=@MV.rec (λ_=>ag aW) .none (λ_=> .none) (λ_=> .none) .some (λ_=> .none) .none v
noncomputable def MV.bl(v:MV):ag cj:=@MV.rec (λ_=>ag cj) .none .some (λ_=> .none) (λ_=> .none) (λ_=> .none) .none v
theorem aeW{v:MV}{i:ah}(h:v.rf=aa i):v=.ref i:=by cases v<;>first|exact lR h|exact bI MV.ref (aR h)
theorem TP{v:MV}{i:aE}(h:v.it=aa i):v=.int i:=by cases v<;>first|exact lR h|exact bI MV.int (aR h)
theorem Sy{v:MV}{i:aW}(h:v.fl=aa i):v=.bO i:=by cases v<;>first|exact lR h|exact bI MV.bO (aR h)
theorem agA{v:MV}{i:cj}(h:v.bl=aa i):v=.bool i:=by cases v<;>first|exact lR h|exact bI MV.bool (aR h)
noncomputable def av.pr{α:Type}(fl ft:af MV->ag α)(fd:af (aE×MV)->ah->ag α)(fs:af aE->ag α)(fi:ah->ag α)(fa:af MV->ag α)(fn:ah->af (ag MV)->ag α)(fr:ah->ah->ag α)(fb:ah->ag α)(fc:ag MV->ag α)(o:av):ag α:=@av.rec (λ_=>ag α) fl ft fd fs fi fa fn fr fb fc none o
section
variable{α:Type}
noncomputable abbrev n1{β:Type}(_:β):ag α:=none
noncomputable abbrev n2{β δ:Type}(_:β)(_:δ):ag α:=none
end
noncomputable def av.ls:av->ag (af MV):=av.pr aa n1 n2 n1 n1 n1 n2 n2 n1 n1
noncomputable def av.tp:av->ag (af MV):=av.pr n1 aa n2 n1 n1 n1 n2 n2 n1 n1
noncomputable def av.sq:av->ag (af MV):=av.pr aa aa n2 n1 n1 n1 n2 n2 n1 n1
noncomputable def av.dc:av->ag (af (aE×MV)×ah):=av.pr n1 n1 (λa b=>aa (a,b)) n1 n1 n1 n2 n2 n1 n1
noncomputable def av.st:av->ag (af aE):=av.pr n1 n1 n2 aa n1 n1 n2 n2 n1 n1
noncomputable def av.is:av->ag ah:=av.pr n1 n1 n2 n1 aa n1 n2 n2 n1 n1
noncomputable def av.as:av->ag (af MV):=av.pr n1 n1 n2 n1 n1 aa n2 n2 n1 n1
noncomputable def av.nd:av->ag (ah×af (ag MV)):=av.pr n1 n1 n2 n1 n1 n1 (λa b=>aa (a,b)) n2 n1 n1
noncomputable def av.ir:av->ag (ah×ah):=av.pr n1 n1 n2 n1 n1 n1 n2 (λa b=>aa (a,b)) n1 n1
noncomputable def av.bo:av->ag ah:=av.pr n1 n1 n2 n1 n1 n1 n2 n2 aa n1
noncomputable def av.ce:av->ag (ag MV):=av.pr n1 n1 n2 n1 n1 n1 n2 n2 n1 aa
section
variable{o:av}
theorem ahl{x}(h:o.ls=aa x):o=.list x:=by cases o<;>first|exact lR h|exact bI av.list (aR h)
theorem aoU{x}(h:o.tp=aa x):o=.tup x:=by cases o<;>first|exact lR h|exact bI av.tup (aR h)
theorem Vt{x}(h:o.sq=aa x):o=.list x\/o=.tup x:=by cases o<;>first|exact lR h|exact .inl (bI av.list (aR h))|exact .inr (bI av.tup (aR h))
theorem agM{x}(h:o.dc=aa x):o=.dict x.1 x.2:=by cases o<;>first|exact lR h|exact bI (λx=>av.dict x.1 x.2) (aR h)
theorem aoT{x}(h:o.st=aa x):o=.set x:=by cases o<;>first|exact lR h|exact bI av.set (aR h)
theorem ahe{x}(h:o.is=aa x):o=.inst x:=by cases o<;>first|exact lR h|exact bI av.inst (aR h)
theorem agx{x}(h:o.as=aa x):o=.attrs x:=by cases o<;>first|exact lR h|exact bI av.attrs (aR h)
theorem ahs{x}(h:o.nd=aa x):o=.node x.1 x.2:=by cases o<;>first|exact lR h|exact bI (λx=>av.node x.1 x.2) (aR h)
theorem ahd{x}(h:o.ir=aa x):o=.iter x.1 x.2:=by cases o<;>first|exact lR h|exact bI (λx=>av.iter x.1 x.2) (aR h)
theorem agB{x}(h:o.bo=aa x):o=.bound x:=by cases o<;>first|exact lR h|exact bI av.bound (aR h)
theorem agL{x}(h:o.ce=aa x):o=.cell x:=by cases o<;>first|exact lR h|exact bI av.cell (aR h)
end
noncomputable def og{α γ:Type}(p:av->ag α)(o:ag av)(F:α->ag γ):ag γ:=ot o λx=>ot (p x) F
noncomputable def oh{α β γ:Type}(p:av->ag (α×β))(o:ag av)(F:α->β->ag γ):ag γ:=ot o λx=>ob (p x) F
section
variable{γ:Type}{o:ag av}{r:γ}{P:Prop}
theorem Ek{α:Type}{p:av->ag α}{c:α->av}(hp:∀{o x},p o=aa x->o=c x){F:α->ag γ}(e:og p o F=aa r)(k:∀a,o=aa (c a)->F a=aa r->P):P:=eh e λx hx q=>eh q λa ha q=>k a (hx.trans (bI aa (hp ha))) q
theorem Uq{α β:Type}{p:av->ag (α×β)}{c:α->β->av}(hp:∀{o x},p o=aa x->o=c x.1 x.2){F:α->β->ag γ}(e:oh p o F=aa r)(k:∀a b,o=aa (c a b)->F a b=aa r->P):P:=eh e λx hx q=>ea q λa b ha q=>k a b (hx.trans (bI aa (hp ha))) q
theorem nP{F}(e:og av.ls o F=aa r)(k:∀a,o=aa (.list a)->F a=aa r->P):P:=Ek ahl e k
theorem QV{F}(e:og av.tp o F=aa r)(k:∀a,o=aa (.tup a)->F a=aa r->P):P:=Ek aoU e k
theorem YL{F}(e:og av.st o F=aa r)(k:∀a,o=aa (.set a)->F a=aa r->P):P:=Ek aoT e k
theorem CH{F}(e:og av.is o F=aa r)(k:∀a,o=aa (.inst a)->F a=aa r->P):P:=Ek ahe e k
theorem CG{F}(e:og av.as o F=aa r)(k:∀a,o=aa (.attrs a)->F a=aa r->P):P:=Ek agx e k
theorem YK{F}(e:og av.bo o F=aa r)(k:∀a,o=aa (.bound a)->F a=aa r->P):P:=Ek agB e k
theorem QU{F}(e:og av.ce o F=aa r)(k:∀a,o=aa (.cell a)->F a=aa r->P):P:=Ek agL e k
theorem uV{F}(e:oh av.dc o F=aa r)(k:∀a b,o=aa (.dict a b)->F a b=aa r->P):P:=Uq agM e k
theorem QX{F}(e:oh av.nd o F=aa r)(k:∀a b,o=aa (.node a b)->F a b=aa r->P):P:=Uq ahs e k
theorem QW{F}(e:oh av.ir o F=aa r)(k:∀a b,o=aa (.iter a b)->F a b=aa r->P):P:=Uq ahd e k
theorem jd{α:Type}{p:av->ag α}{F:α->ag γ}{x:av}{a:α}{R:ag γ}(h:o=aa x)(hp:p x=aa a)(k:F a=R):og p o F=R:=eJ h (eJ hp k)
theorem vp{α β:Type}{p:av->ag (α×β)}{F:α->β->ag γ}{x:av}{a:α}{b:β}{R:ag γ}(h:o=aa x)(hp:p x=aa (a,b))(k:F a b=R):oh p o F=R:=eJ h (cV hp k)
end
noncomputable def HO{β γ:Type}(o:ag (MV×β))(F:ah->β->ag γ):ag γ:=ob o λa s=>ot a.rf λi=>F i s
theorem p8{β γ:Type}{o:ag (MV×β)}{F:ah->β->ag γ}{r:γ}{P:Prop}(e:HO o F=aa r)(k:∀i s,o=aa (.ref i,s)->F i s=aa r->P):P:=ea e λa s h q=>eh q λi hi q=>k i s (aeW hi▸h) q
theorem nM{β γ:Type}{o:ag (MV×β)}{F:ah->β->ag γ}{r:ag γ}{i:ah}{s:β}(h:o=aa (.ref i,s))(k:F i s=r):HO o F=r:=cV h k
noncomputable def vX{γ:Type}(v:MV)(F:ah->ag γ):ag γ:=ot v.rf F
theorem jL{γ:Type}{v:MV}{F:ah->ag γ}{r:γ}{P:Prop}(e:vX v F=aa r)(k:∀i,v=.ref i->F i=aa r->P):P:=eh e λi h q=>k i (aeW h) q
noncomputable def AW{γ:Type}(v:MV)(F:aE->ag γ):ag γ:=ot v.it F
theorem mr{γ:Type}{v:MV}{F:aE->ag γ}{r:γ}{P:Prop}(e:AW v F=aa r)(k:∀i,v=.int i->F i=aa r->P):P:=eh e λi h q=>k i (TP h) q
noncomputable def l1(vs:af MV):ag MV:=@dC MV (λ_=>ag MV) none (λa t _=>@dC MV (λ_=>ag MV) (aa a) (λ_ _ _=>none) t) vs
noncomputable def l2(vs:af MV):ag (MV×MV):=@dC MV (λ_=>ag (MV×MV)) none (λa t _=>ot (l1 t) λb=>aa (a,b)) vs
theorem Om{vs:af MV}{a:MV}(h:l1 vs=aa a):vs=[a]:=by
 cases vs with
 |nil=>exact lR h
 |cons b t=>cases t with
  |nil=>exact bI (λx=>[x]) (aR h)
  |cons _ _=>exact lR h
theorem Yo{vs:af MV}{a b:MV}(h:l2 vs=aa (a,b)):vs=[a,b]:=by
 cases vs with
 |nil=>exact lR h
 |cons c t=>exact eh h λd hd q=>by rw[Om hd];exact Rg q λe f=>by rw[e,f]
noncomputable def a1{γ:Type}(vs:af MV)(F:ah->ag γ):ag γ:=ot (l1 vs) λa=>vX a F
noncomputable def a2{γ:Type}(vs:af MV)(F:ah->MV->ag γ):ag γ:=ob (l2 vs) λa b=>vX a λi=>F i b
theorem BO{γ:Type}{vs:af MV}{F:ah->ag γ}{r:γ}{P:Prop}(e:a1 vs F=aa r)(k:∀i,vs=[.ref i]->F i=aa r->P):P:=eh e λa h q=>jL q λi hi q=>k i (hi▸Om h) q
theorem WL{γ:Type}{vs:af MV}{F:ah->MV->ag γ}{r:γ}{P:Prop}(e:a2 vs F=aa r)(k:∀i x,vs=[.ref i,x]->F i x=aa r->P):P:=ea e λa b h q=>jL q λi hi q=>k i b (hi▸Yo h) q
noncomputable def WM{γ:Type}(vs:af MV)(F:ah->aE->ag γ):ag γ:=a2 vs λi x=>AW x λk=>F i k
theorem I5{γ:Type}{vs:af MV}{F:ah->aE->ag γ}{r:γ}{P:Prop}(e:WM vs F=aa r)(k:∀i x,vs=[.ref i,.int x]->F i x=aa r->P):P:=WL e λi x h q=>mr q λn hn q=>k i n (hn▸h) q
noncomputable def MF.nx{γ:Type}(m:MF)(x y:γ):γ:=@MF.rec (λ_=>γ) x y y (λ_=>y) m
noncomputable def MF.rv(m:MF):MV:=@MF.rec (λ_=>MV) .none .none .none (λv=>v) m
set_option genInjectivity false in structure Gl where
 prog:kp
 w:wc
 K:Frag
 p:kp
 loose:af dv
 KQ:ExcName->ag aB
 mg:dv->ag aB
 mb:dv->ag aB
 sa:aX
 svs:af aB
 sns:af aE
set_option genInjectivity false in structure Cx(g:Gl) where
 A₀:eD
 A:eD
 base:jf
 h₀:jf
 outer:af ux
 gL:ux
 env:ux
 L:aX
 room:ah
 names:af dv
 comp:ag (aX×(dv->ag aB))
 gens:fm GenState
 os:OsState
 XB:g.K.In base
 TB:Top g.p g.loose g.KQ g.mg g.mb base
 SB:base.IsList g.sa g.svs.toArray
 SI:IntsAre g.svs g.sns
 hA:A.frames=aa (gL::outer)
 hf:gL.frame=aa L
 MC:gL.scope.kind=.function
 ek:env.scope.kind=.function
 eg:env.globals=aK
 eb:env.builtins=VL
 hd:A.depth+room<E5
 hu:A.units+8*room<cLine
 nd:names.Nodup
noncomputable abbrev Gl.M(g:Gl):PQ:=model g.prog g.w
noncomputable def VR(g:Gl)(ρ:af aX):MV->aB->Prop
 |.none,v=>v=.none
 |.bool b,v=>v=.bool b
 |.int i,v=>∃t,v=.int i t
 |.bO x,v=>∃t,v=.float x t
 |.ref i,v=>∃a,ρ[i]?=aa a/\v=.ref a
 |.old,v=>v=.ref g.sa
noncomputable def iD(g:Gl)(ρ:af aX)(xs:af MV)(vs:af aB):Prop:=xs.length=vs.length/\∀(i:ah) x,xs[i]?=aa x->∃v,vs[i]?=aa v/\VR g ρ x v
noncomputable def dF:af dv:=["_node2info","_ready_nodes","_npassedout","_nfinished"]
noncomputable def ER(g:Gl)(ρ:af aX)(x:aE×MV)(e:j9):Prop:=∃t,e.key=.int x.1 t/\e.hash=hashInt x.1/\VR g ρ x.2 e.val
noncomputable def AR(g:Gl)(ρ:af aX)(n:dv)(x:MV)(e:j9):Prop:=∃t,e.key=.str n t/\e.hash=lB g.w.params n/\VR g ρ x e.val
noncomputable def RH(g:Gl)(ρ:af aX):ag MV->ag aB->Prop
 |.none,v=>v=.none
 |some x,v=>∃y,v=aa y/\VR g ρ x y
noncomputable def OR(g:Gl)(ρ:af aX):av->d9->Prop
 |.list xs,o=>∃vs n,o={cls:=.type "list",data:=.seq (n8 vs) n}/\xs.length<=1000/\iD g ρ xs vs
 |.tup xs,o=>∃vs n,o={cls:=.type "tuple",data:=.seq (n8 vs) n}/\xs.length<=1000/\iD g ρ xs vs
 |.dict es ep,o=>∃ds,o={cls:=.type "dict",data:=.dict (n8 ds) ep}/\ds.length=es.length/\es.length<=1000/\(es.map (·.1)).Nodup/\
   ∀(i:ah) x,es[i]?=aa x->∃e,ds[i]?=aa e/\ER g ρ x e
 |.set xs,o=>o.IntSetOf (λk=>xs.contains k) xs.length/\xs.length<=1000/\xs.Nodup
 |.inst d,o=>∃a,ρ[d]?=aa a/\o=instObj 137 a
 |.attrs vs,o=>∃ds n,o=dictOf ds n/\ds.length=vs.length/\vs.length<=4/\
   ∀(i:ah) x nm,vs[i]?=aa x->dF[i]?=aa nm->∃e,ds[i]?=aa e/\AR g ρ nm x e
 |.node d vs,o=>∃(sl:af (ag aB))(a:aX),ρ[d]?=aa a/\o={cls:=.ref 40,dict:=aa a,data:=.plain,slots:=n8 sl}/\sl.length=vs.length/\vs.length<=3/\
   ∀(i:ah) x,vs[i]?=aa x->∃y,sl[i]?=aa y/\RH g ρ x y
 |.iter l i,o=>∃a,ρ[l]?=aa a/\o={cls:=.type "list_iterator",data:=.fields #[.ref a,.int i 0]}
 |.bound it,o=>∃a,ρ[it]?=aa a/\o={cls:=.type "method-wrapper",data:=.fields #[.builtin "list_iterator.__next__",.ref a]}
 |.cell v,o=>∃w,o.data=.cell w/\RH g ρ v w
 |.dead,_=>True
noncomputable abbrev Cx.fs{g:Gl}(c:Cx g):af aX:=c.outer.filterMap (·.frame)
set_option genInjectivity false in structure MA{g:Gl}(c:Cx g)(h:jf):Prop where
 B:Below c.A₀ c.base c.outer h
 D:KtsDicts c.fs h
 turn:KtsTurn c.fs c.h₀ h
theorem MA.X{g:Gl}{c:Cx g}{h:jf}(G:MA c h):g.K.In h:=c.XB.keeps G.B.stays
theorem MA.T{g:Gl}{c:Cx g}{h:jf}(G:MA c h):Top g.p g.loose g.KQ g.mg g.mb h:=c.TB.keeps G.B.stays
theorem MA.S{g:Gl}{c:Cx g}{h:jf}(G:MA c h):h.IsList g.sa g.svs.toArray:=c.SB.at λo e=>G.B.stays _ _ e
set_option genInjectivity false in structure HR{g:Gl}(c:Cx g)(h₀:jf)(m:dv->ag aB)(ext:af (aX×d9))(ρ:af aX)(obs:af d9)(H:af av)(s:aD):Prop where
 G:MA c h₀
 F:Fr h₀ c.L s.heap m
 N:EX h₀ c.L s.heap (ext++ρ.zip obs)
 nd:ρ.Nodup
 off:∀p∈ext,p.1∉ρ
 en:(ext.map (·.1)).Nodup
 low:∀a∈ρ,3<a
 lr:ρ.length=H.length
 lo:obs.length=H.length
 ob:∀(i:ah) o,H[i]?=aa o->∃b,obs[i]?=aa b/\OR g ρ o b
 nk:∀(i d:ah) vs,H[i]?=aa (.node d vs)->∃ws,H[d]?=aa (.attrs ws)
 gens:s.gens=c.gens
 os:s.os=c.os
noncomputable def o6{g:Gl}(c:Cx g)(ext:af (aX×d9))(m nm:dv->ag aB):Prop:=
 match c.comp with
 |none=>c.env.locals=c.L/\nm=m
 |some (C,m₀)=>c.env.locals=C/\m=m₀/\∃oC,(C,oC)∈ext/\lA oC nm
noncomputable def WC{g:Gl}(c:Cx g)(nm:dv->ag aB)(ρ:af aX)(x:dv)(mv:MV):Prop:=
 (c.env.kindOf x=aa .local/\∃v',nm x=aa v'/\VR g ρ mv v')\/
 ((c.env.kindOf x=aa .cell\/c.env.kindOf x=aa .free)/\∃k a,mv=.ref k/\ρ[k]?=aa a/\c.env.cells.lookup x=aa a)
noncomputable def yo{g:Gl}(c:Cx g)(nm:dv->ag aB)(ρ:af aX)(l:ah->ag MV):Prop:=∀i mv,l i=aa mv->∃x,c.names[i]?=aa x/\WC c nm ρ x mv
inductive Rel{g:Gl}(c:Cx g)(ext:af (aX×d9))(ρ:af aX)(st:St)(s:aD):Prop where
 |mk (h₀:jf) (m nm:dv->ag aB) (obs:af d9) (h:HR c h₀ m ext ρ obs st.H s) (a:o6 c ext m nm) (b:yo c nm ρ st.l)
theorem Rel.el{g:Gl}{c:Cx g}{ext:af (aX×d9)}{ρ:af aX}{st:St}{s:aD}{G:Prop}(R:Rel c ext ρ st s)(k:∀h₀ m nm obs,HR c h₀ m ext ρ obs st.H s->o6 c ext m nm->yo c nm ρ st.l->G):G:=let⟨_,_,_,_,h,a,b⟩:=R;k _ _ _ _ h a b
noncomputable def FR(g:Gl)(ρ:af aX):MF->Flow->Prop
 |.next,f=>f=.next
 |.brk,f=>f=.brk
 |.cont,f=>f=.cont
 |.ret v,f=>∃v',f=.ret v'/\VR g ρ v v'
noncomputable def dI{g:Gl}(c:Cx g)(e:PySem.Expr)(f:St->ag (MV×St)):Prop:=
 ∀st v bZ,f st=aa (v,bZ)->∀ext ρ s,Rel c ext ρ st s->∀(Q:aB->aD->Prop)(E:aB->aD->Prop),
  (∀d7 v' s',ρ<+:d7->Rel c ext d7 bZ s'->VR g d7 v v'->Q v' s')->bg g.M c.A (eval e c.env) Q E s
noncomputable def ja{g:Gl}(c:Cx g)(b:af oF)(f:St->ag (MF×St)):Prop:=
 ∀st r bZ,f st=aa (r,bZ)->∀ext ρ s,Rel c ext ρ st s->∀(Q:Flow->aD->Prop)(E:aB->aD->Prop),
  (∀d7 r' s',ρ<+:d7->Rel c ext d7 bZ s'->FR g d7 r r'->Q r' s')->bg g.M c.A (execs b c.env) Q E s
noncomputable def oo{g:Gl}(c:Cx g)(b:oF)(f:St->ag (MF×St)):Prop:=
 ∀st r bZ,f st=aa (r,bZ)->∀ext ρ s,Rel c ext ρ st s->∀(Q:Flow->aD->Prop)(E:aB->aD->Prop),
  (∀d7 r' s',ρ<+:d7->Rel c ext d7 bZ s'->FR g d7 r r'->Q r' s')->bg g.M c.A (exec b c.env) Q E s
theorem bj{α:Type}{l l':af α}(h:l<+:l'){i:ah}{x:α}(e:l[i]?=aa x):l'[i]?=aa x:=by refine dA h λt cP=>?_;clear h;subst cP;refine dA (bR.mp e) λhl he=>?_;rw[aA hl];exact e
theorem VR.mono{g:Gl}{ρ d7:af aX}(h:ρ<+:d7):∀{x:MV}{v:aB},VR g ρ x v->VR g d7 x v
 |.none,_,e=>e
 |.bool _,_,e=>e
 |.int _,_,e=>e
 |.bO _,_,e=>e
 |.ref _,_,⟨a,e,q⟩=>⟨a,bj h e,q⟩
 |.old,_,e=>e
theorem iD.mono{g:Gl}{ρ d7:af aX}(h:ρ<+:d7){xs:af MV}{vs:af aB}(e:iD g ρ xs vs):iD g d7 xs vs:=⟨e.1,λi x hx=>let⟨v,a,b⟩:=e.2 i x hx;⟨v,a,b.mono h⟩⟩
theorem RH.mono{g:Gl}{ρ d7:af aX}(h:ρ<+:d7):∀{x:ag MV}{v:ag aB},RH g ρ x v->RH g d7 x v
 |.none,_,e=>e
 |some _,_,⟨y,a,b⟩=>⟨y,a,b.mono h⟩
theorem OR.mono{g:Gl}{ρ d7:af aX}(h:ρ<+:d7):∀{o:av}{b:d9},OR g ρ o b->OR g d7 o b
 |.list _,_,⟨vs,n,e,q,r⟩=>⟨vs,n,e,q,r.mono h⟩
 |.tup _,_,⟨vs,n,e,q,r⟩=>⟨vs,n,e,q,r.mono h⟩
 |.dict _ _,_,⟨ds,e,hl,hz,nd,r⟩=>⟨ds,e,hl,hz,nd,λi x hx=>let⟨e,a,t,b,c,d⟩:=r i x hx;⟨e,a,t,b,c,d.mono h⟩⟩
 |.set _,_,r=>r
 |.inst _,_,⟨a,e,q⟩=>⟨a,bj h e,q⟩
 |.attrs _,_,⟨ds,n,e,hl,h4,r⟩=>⟨ds,n,e,hl,h4,λi x nm hx hn=>let⟨e,a,t,b,c,d⟩:=r i x nm hx hn;⟨e,a,t,b,c,d.mono h⟩⟩
 |.node _ _,_,⟨sl,a,q,e,hl,h4,r⟩=>⟨sl,a,bj h q,e,hl,h4,λi x hx=>let⟨y,a,b⟩:=r i x hx;⟨y,a,b.mono h⟩⟩
 |.iter _ _,_,⟨a,e,q⟩=>⟨a,bj h e,q⟩
 |.bound _,_,⟨a,e,q⟩=>⟨a,bj h e,q⟩
 |.cell _,_,⟨w,e,r⟩=>⟨w,e,r.mono h⟩
 |.dead,_,_=>trivial
theorem WC.mono{g:Gl}{c:Cx g}{nm:dv->ag aB}{ρ d7:af aX}(h:ρ<+:d7){x:dv}{mv:MV}(e:WC c nm ρ x mv):WC c nm d7 x mv:=by
 rcases e with⟨k,v,a,b⟩|⟨k,j,a,e,q,r⟩
 ·exact .inl ⟨k,v,a,b.mono h⟩
 ·exact .inr ⟨k,j,a,e,bj h q,r⟩
theorem yo.mono{g:Gl}{c:Cx g}{nm:dv->ag aB}{ρ d7:af aX}(h:ρ<+:d7){l:ah->ag MV}(e:yo c nm ρ l):yo c nm d7 l:=λi mv q=>let⟨x,a,b⟩:=e i mv q;⟨x,a,b.mono h⟩
section
variable{g:Gl}{c:Cx g}{h₀:jf}{m:dv->ag aB}{ext:af (aX×d9)}{ρ:af aX}{obs:af d9}{H:af av}{s:aD}
theorem HR.keep(R:HR c h₀ m ext ρ obs H s){m':dv->ag aB}{h':jf}{tk:ah}(F:Fr h₀ c.L h' m')(N:EX h₀ c.L h' (ext++ρ.zip obs)):
  HR c h₀ m' ext ρ obs H {s with heap:=h',toks:=tk}:=
 ⟨R.G,F,N,R.nd,R.off,R.en,R.low,R.lr,R.lo,R.ob,R.nk,R.gens,R.os⟩
theorem HR.toks(R:HR c h₀ m ext ρ obs H s)(tk:ah):HR c h₀ m ext ρ obs H {s with toks:=tk}:=⟨R.G,R.F,R.N,R.nd,R.off,R.en,R.low,R.lr,R.lo,R.ob,R.nk,R.gens,R.os⟩
theorem HR.at(R:HR c h₀ m ext ρ obs H s){i:ah}{o:av}(e:H[i]?=aa o):∃a b,ρ[i]?=aa a/\obs[i]?=aa b/\OR g ρ o b/\(a,b)∈ext++ρ.zip obs:=by
 refine cv (R.ob i o e) λb hb r=>?_;have hi:i<ρ.length:=by rw[R.lr];exact(gM e)
 refine⟨ρ[i],b,ao hi,hb,r,bw _ ?_⟩;refine aM (i:=i) ?_;rw[eo];exact⟨ao hi,hb⟩
theorem HR.xI(R:HR c h₀ m ext ρ obs H s):3<s.heap.objs.size:=by have h1:=R.F.ns.lt;have h2:=R.F.above;have h3:=R.G.T.g.lt;exact vE (fE h3 h2) h1
theorem HR.alloc(R:HR c h₀ m ext ρ obs H s){m':dv->ag aB}{h':jf}{tk:ah}{a:aX}{b:d9}{o:av}{more:af (aX×d9)}(F:Fr h₀ c.L h' m')(N:EX h₀ c.L h' ((a,b)::more))(hm:∀p∈ext++ρ.zip obs,p∈more)
  (hn:∀p∈ext++ρ.zip obs,p.1≠a) (h3:3<a) (hk:∀d vs,o=.node d vs->∃ws,H[d]?=aa (.attrs ws)) (r:OR g (ρ++[a]) o b):
  HR c h₀ m' ext (ρ++[a]) (obs++[b]) (H++[o]) {s with heap:=h',toks:=tk}:=by
 have hz:(ρ++[a]).zip (obs++[b])=ρ.zip obs++[(a,b)]:=by rw[PO (by rw[R.lr,R.lo])];rfl
 have ha:a∉ρ:=λq=>by
  obtain⟨i,hi,e⟩:=dm q;have hj:i<obs.length:=by rw[R.lo,<-R.lr];exact hi
  refine hn (a,obs[i]) (bw _ (aM (i:=i) ?_)) rfl;rw[eo];exact⟨by rw[ao hi,e],ao hj⟩
 refine⟨R.G,F,?_,?_,?_,R.en,?_,by simp[R.lr],by simp[R.lo],?_,?_,R.gens,R.os⟩
 ·rw[hz]
  intro p hp;rw[<-bq] at hp;rcases bK.mp hp with q|q
  ·exact N p (.tail _ (hm p q))
  ·rw[bT.mp q];exact N _ (.head _)
 ·rw[gN]
  exact⟨R.nd,by simp,λx hx y hy=>by rw[bT.mp hy];exactλe=>ha (e▸hx)⟩
 ·intro p hp q
  rcases bK.mp q with q|q
  ·exact R.off p hp q
  ·exact hn p (aI _ hp) (bT.mp q)
 ·intro b hb
  rcases bK.mp hb with q|q
  ·exact R.low b q
  ·rw[bT.mp q];exact h3
 ·intro i o' e
  by_cases hi:i<H.length
  ·rw[aA hi] at e
   refine cv (R.ob i o' e) λb' hb r'=>?_;exact⟨b',by rw[aA (by rw[R.lo];exact hi)];exact hb,r'.mono ⟨_,rfl⟩⟩
  ·have he:i=H.length:=by
    have:=(gM e);simp at this;exact Lz hi this
   subst he;simp at e;subst e;exact⟨b,by rw[<-R.lo];simp,r⟩
 ·intro i d vs e
  have app:∀ws,H[d]?=aa (.attrs ws)->∃ws,(H++[o])[d]?=aa (.attrs ws):=λws q=>⟨ws,by rw[aA (gM q)];exact q⟩
  by_cases hi:i<H.length
  ·rw[aA hi] at e
   refine dA (R.nk i d vs e) λws q=>?_;exact app ws q
  ·have he:i=H.length:=by
    have:=(gM e);simp at this;exact Lz hi this
   subst he;simp at e;refine dA (hk d vs e) λws q=>?_;exact app ws q
theorem PF(l:af aX)(k:af d9)(i:ah)(b:d9):∀(hn:l.Nodup)(a:aX)(sm:d9),l[i]?=aa a->k[i]?=aa sm->Upd a sm b (l.zip k) (l.zip (k.set i b)):=by
 induction l generalizing k i with
 |nil=>intro _ a sm h;cases h
 |cons x l ih=>
  intro hn a sm h1 h2;cases k with
  |nil=>cases h2
  |cons y k=>
   rw[cQ] at hn;cases i with
   |zero=>
    cases h1;cases h2
    refine Upd.head ?_;intro p hp e;have:=gQ (a:=p.1) (b:=p.2) hp;exact hn.1 (e▸this.1)
   |succ i=>refine Upd.tail ?_ (ih k i hn.2 a sm h1 h2);intro e;have e':x=a:=e;exact hn.1 (e'▸aM h1)
theorem xO{a:aX}{o o':d9}:∀{pre l l':af (aX×d9)},(∀p∈pre,p.1≠a)->Upd a o o' l l'->Upd a o o' (pre++l) (pre++l')
 |[],_,_,_,u=>u
 |p::pre,_,_,h,u=>Upd.tail (h p (.head _)) (xO (λq hq=>h q (.tail _ hq)) u)
theorem HR.upd(R:HR c h₀ m ext ρ obs H s){i:ah}{a:aX}{b:d9}(ha:ρ[i]?=aa a)(hb:obs[i]?=aa b)(b':d9):
  Upd a b b' (ext++ρ.zip obs) (ext++ρ.zip (obs.set i b')):=
 xO (λp hp e=>R.off p hp (e▸aM ha)) (PF ρ obs i b' R.nd a b ha hb)
theorem Vr{H:af av}(nk:∀(i d:ah) vs,H[i]?=aa (.node d vs)->∃ws,H[d]?=aa (.attrs ws)){i:ah}{o':av}(ht:∀o,H[i]?=aa o->o.tag=o'.tag)(hd:∀d vs d' eN,H[i]?=aa (.node d vs)->o'=.node d' eN->d=d'):
  ∀(j d:ah) vs,(H.set i o')[j]?=aa (.node d vs)->∃ws,(H.set i o')[d]?=aa (.attrs ws):=by
 intro j d vs e;have key:∀ws,H[d]?=aa (.attrs ws)->∃ws,(H.set i o')[d]?=aa (.attrs ws):=by
  intro ws q;by_cases hid:i=d
  ·subst hid
   have h5:=ht _ q;have hl:=(gM q);cases o'<;>first|(cases h5;done)|skip
   exact⟨_,bh hl⟩
  ·exact⟨ws,by rw[aC hid];exact q⟩
 by_cases hj:i=j
 ·subst hj
  have hl:i<H.length:=by have:=(gM e);simpa using this
  rw[bh hl] at e;cases e
  have h6:=ht _ (ao hl);obtain⟨d0,vs0,e0⟩:∃d0 vs0,H[i]=.node d0 vs0:=by cases q:H[i]<;>first|(rw[q] at h6;cases h6;done)|exact⟨_,_,rfl⟩
  have e1:H[i]?=aa (.node d0 vs0):=by rw[ao hl,e0]
  have e2:=hd d0 vs0 d vs e1 rfl;subst e2;refine dA (nk i _ _ e1) λws q=>?_;exact key ws q
 ·rw[aC hj] at e
  refine dA (nk j d vs e) λws q=>?_;exact key ws q
theorem HR.set(R:HR c h₀ m ext ρ obs H s){m':dv->ag aB}{h':jf}{tk:ah}{i:ah}{b':d9}{o':av}(F:Fr h₀ c.L h' m')(N:EX h₀ c.L h' (ext++ρ.zip (obs.set i b')))(ht:∀o,H[i]?=aa o->o.tag=o'.tag)(hd:∀d vs d' eN,H[i]?=aa (.node d vs)->o'=.node d' eN->d=d')(r:OR g ρ o' b'):
  HR c h₀ m' ext ρ (obs.set i b') (H.set i o') {s with heap:=h',toks:=tk}:=by
 refine⟨R.G,F,N,R.nd,R.off,R.en,R.low,by simp[R.lr],by simp[R.lo],?_,?_,R.gens,R.os⟩
 rotate_left
 ·exact Vr R.nk ht hd
 intro j o e;by_cases hj:i=j
 ·subst hj
  have hl:i<H.length:=by have:=(gM e);simpa using this
  rw[bh hl] at e;cases e
  exact⟨b',bh (by rw[R.lo];exact hl),r⟩
 ·rw[aC hj] at e
  refine cv (R.ob j o e) λb hb r'=>?_;exact⟨b,by rw[aC hj];exact hb,r'⟩
end
theorem Gd{g:Gl}{c:Cx g}{h₀:jf}{ext:af (aX×d9)}{m nm:dv->ag aB}{ρ:af aX}{obs:af d9}{H:af av}{s:aD}(R:HR c h₀ m ext ρ obs H s)(h:o6 c ext m nm):s.heap.Ns c.env.locals nm:=by
 unfold o6 at h;split at h
 ·rw[h.1,h.2];exact R.F.ns
 ·refine fD h λe _ eX=>?_;clear h;refine cv eX λoC hm ho=>?_;clear eX
  rw[e];exact ho.ns (R.N _ (aI _ hm)).1
theorem Rel.lF{g:Gl}{c:Cx g}{ext:af (aX×d9)}{ρ:af aX}{st:St}{s:aD}(tk:ah)(R:Rel c ext ρ st s):Rel c ext ρ st {s with toks:=tk}:=by refine Rel.el R λh₀ m nm obs h a b=>?_;clear R;exact⟨h₀,m,nm,obs,h.toks tk,a,b⟩
section
variable{g:Gl}{c:Cx g}{h₀:jf}{m:dv->ag aB}{ext:af (aX×d9)}{ρ:af aX}{obs:af d9}{H:af av}{s:aD}
theorem HR.grow(R:HR c h₀ m ext ρ obs H s){h':jf}(tk:ah)(k:∀b o,s.heap.get? b=aa o->h'.get? b=aa o):HR c h₀ m ext ρ obs H {s with heap:=h',toks:=tk}:=R.keep (R.F.keeps k) (R.N.grown k)
theorem HR.push(R:HR c h₀ m ext ρ obs H s)(tk:ah)(o:d9)(hf:o.isFreed=false:=by rfl):HR c h₀ m ((s.heap.objs.size,o)::ext) ρ obs H {s with heap:=s.heap.push o,toks:=tk}:=by
 have lt:∀p∈ext++ρ.zip obs,p.1<s.heap.objs.size:=λp hp=>cW (R.N p hp).1;refine⟨R.G,R.F.push o,R.N.push R.F o hf,R.nd,?_,?_,R.low,R.lr,R.lo,R.ob,R.nk,R.gens,R.os⟩
 ·intro p hp q
  rcases bE.mp hp with rfl|hp
  ·obtain⟨i,hi,e⟩:=dm q
   have hj:i<obs.length:=by rw[R.lo,<-R.lr];exact hi
   have:=lt (s.heap.objs.size,obs[i]) (bw _ (aM (i:=i) (by
    rw[eo];exact⟨by rw[ao hi,e],ao hj⟩)))
   exact fU _ this
  ·exact R.off p hp q
 ·rw[bX,cQ]
  refine⟨λq=>?_,R.en⟩;refine cv (aU.mp q) λp hp e=>?_;have:=lt p (aI _ hp);rw[e] at this;exact fU _ this
theorem HR.change{I:aX}{o:d9}(R:HR c h₀ m ((I,o)::ext) ρ obs H s){h':jf}{o':d9}(tk:ah)(k:∀b o,b≠I->s.heap.get? b=aa o->h'.get? b=aa o)(hI:h'.get? I=aa o'):
  HR c h₀ m ((I,o')::ext) ρ obs H {s with heap:=h',toks:=tk}:=by
 have z:=R.N (I,o) (.head _);have en:=R.en;rw[bX,cQ] at en;refine⟨R.G,⟨R.F.ns.at' λo e=>k _ _ (λq=>z.2.1 q.symm) e,λb o e=>k b o (λq=>?_) (R.F.keep b o e),R.F.above⟩,?_,R.nd,?_,R.en,R.low,R.lr,R.lo,R.ob,R.nk,R.gens,R.os⟩
 ·rw[q,z.2.2] at e;cases e
 ·intro p hp
  rcases bE.mp hp with rfl|hp
  ·exact⟨hI,z.2⟩
  ·have y:=R.N p (.tail _ hp)
   refine⟨k _ _ (λq=>?_) y.1,y.2⟩;rcases bK.mp hp with hp|hp
   ·exact en.1 (aU.mpr ⟨p,hp,q⟩)
   ·exact R.off (I,o) (.head _) (q▸(gQ (a:=p.1) (b:=p.2) hp).1)
 ·intro p hp
  rcases bE.mp hp with rfl|hp
  ·exact R.off (I,o) (.head _)
  ·exact R.off p (.tail _ hp)
theorem HR.drop{p:aX×d9}(R:HR c h₀ m (p::ext) ρ obs H s):HR c h₀ m ext ρ obs H s:=by have en:=R.en;rw[bX,cQ] at en;exact⟨R.G,R.F,λq hq=>R.N q (.tail _ hq),R.nd,λq hq=>R.off q (.tail _ hq),en.2,R.low,R.lr,R.lo,R.ob,R.nk,R.gens,R.os⟩
end
theorem o6.cons{g:Gl}{c:Cx g}{ext:af (aX×d9)}{m nm:dv->ag aB}(h:o6 c ext m nm)(p:aX×d9):o6 c (p::ext) m nm:=by
 unfold o6 at h⊢;split at h
 ·exact h
 ·refine fD h λe q eX=>?_;clear h;refine cv eX λoC hm ho=>?_;clear eX
  exact⟨e,q,oC,.tail _ hm,ho⟩
theorem o6.app{g:Gl}{c:Cx g}{m nm:dv->ag aB}{ext:af (aX×d9)}(h:o6 c ext m nm)(own:af (aX×d9)):o6 c (own++ext) m nm:=by
 induction own with
 |nil=>exact h
 |cons p _ ih=>exact ih.cons p
theorem o6.ofFn{g:Gl}{c:Cx g}{ext ext':af (aX×d9)}{m nm:dv->ag aB}(h:o6 c ext m nm)(hc:c.comp=none):o6 c ext' m nm:=by unfold o6 at h⊢;rw[hc] at h⊢;exact h
noncomputable def au(i:ah):St->ag (MV×St):=λst=>ot (st.l i) λv=>aa (v,st)
noncomputable def eK(v:MV):St->ag (MV×St):=λst=>aa (v,st)
theorem ku{g:Gl}{c:Cx g}{x:dv}{pos:iP}(i:ah)(hx:c.names[i]?=aa x)(hk:c.env.kindOf x=aa .local)(hd:(x==("__debug__":dv))=false):dI c (.Name x pos) (au i):=by
 intro st v bZ e ext ρ s R Q E k;refine eh e ?_;clear e;intro v' hv e;cases e
 refine Rel.el R λh₀ m nm obs h a b=>?_;refine cv (b i v hv) λy hy l=>?_;rw[hx] at hy;cases hy
 rcases l with⟨_,v',hm,r⟩|⟨q,_⟩
 ·exact wpAny_Name (wpAny_loadName_local c.ek hk (Gd h a) hm (k ρ v' s a9 R r)) hd
 ·rw[hk] at q;rcases q with q|q<;>cases q
theorem cC{g:Gl}{c:Cx g}{i:aE}{n:ah}{pos:iP}:dI c (.Constant (.int i) n pos) (eK (.int i)):=by
 intro st v bZ e ext ρ s R Q E k;cases e
 exact wpAny_Constant_int (k ρ _ _ a9 (R.lF _) ⟨_,rfl⟩)
theorem nz{g:Gl}{c:Cx g}{n:ah}{pos:iP}:dI c (.Constant .none n pos) (eK .none):=by
 intro st v bZ e ext ρ s R Q E k;cases e
 exact wpAny_Constant_none (k ρ _ _ a9 R rfl)
theorem zT{g:Gl}{c:Cx g}{b:cj}{n:ah}{pos:iP}:dI c (.Constant (.bool b) n pos) (eK (.bool b)):=by
 intro st v bZ e ext ρ s R Q E k;cases e
 exact wpAny_Constant_bool (k ρ _ _ a9 R rfl)
theorem dW{g:Gl}{c:Cx g}{x:aW}{n:ah}{pos:iP}:dI c (.Constant (.float x) n pos) (eK (.bO x)):=by
 intro st v bZ e ext ρ s R Q E k;cases e
 exact PySem.wpAny_Constant_float (k ρ _ _ a9 (R.lF _) ⟨_,rfl⟩)
end fG
namespace fG
open PySem PySem.W PySem.Calls PyProof.Rows
variable{g:Gl}{c:Cx g}
noncomputable def mQ(a b:aE):aW:=Mh (decide (a<0) !=decide (b<0)) a.natAbs b.natAbs
noncomputable def R6(op:jY)(a b:aE):ag MV:=@pF (λ_=>ag MV) (aa (.int (a+b))) (aa (.int (a-b))) (if a.natAbs<18446744073709551616 then aa (.int (a*b)) else none) none (if b≠0/\dD (mQ a b)=false then aa (.bO (mQ a b)) else none) (if b≠0 then aa (.int (a.fmod b)) else none) none none none none none none (if b≠0/\b.natAbs<1073741824 then aa (.int (a.fdiv b)) else none) op
noncomputable def R5(op:jY)(a b:aW):ag MV:=@pF (λ_=>ag MV) (aa (.bO (bP a b))) (aa (.bO (aL a b))) (aa (.bO (bJ a b))) none (if cG b=false then aa (.bO (bk a b)) else none) (if cG b=false then aa (.bO (jN a b).snd) else none) none none none none none none none op
noncomputable def Jd(op:jY)(a:aW)(b:aE):ag MV:=if dD (cu b)=false then @pF (λ_=>ag MV) none (aa (.bO (aL a (cu b)))) (aa (.bO (bJ a (cu b)))) none none none none none none none none none none op else none
noncomputable def Jf(op:jY)(b:aE)(a:aW):ag MV:=if dD (cu b)=false then @pF (λ_=>ag MV) none (aa (.bO (aL (cu b) a))) none none none none none none none none none none none op else none
noncomputable def G6(op:jY)(a b:MV):ag MV:=@MV.rec (λ_=>ag MV) none (λ_=>none) (λy=>@MV.rec (λ_=>ag MV) none (λ_=>none) (λx=>R6 op x y) (λx=>Jd op x y) (λ_=>none) none a) (λy=>@MV.rec (λ_=>ag MV) none (λ_=>none) (λx=>Jf op x y) (λx=>R5 op x y) (λ_=>none) none a) (λ_=>none) none b
theorem xl{Q:aB->aD->Prop}{s:aD}{x:aW}(h:Q (.float x s.toks) {s with toks:=s.toks+1}):(af9 x).post Q s:=h
theorem I6{a:aE}{n:ah}(h:a.natAbs<n):-(n:aE)<a/\a<(n:aE):=by exact ab3 h
section
variable{op:jY}{r:MV}{ρ:af aX}{tk tl:Tok}{Q:aB->aD->Prop}{E:aB->aD->Prop}{s:aD}{A:eD}
noncomputable abbrev yn(g:Gl)(ρ:af aX)(Q:aB->aD->Prop)(s:aD)(r:MV):Prop:=∀tk v,VR g ρ r v->Q v {s with toks:=tk}
theorem yn.i{x:aE}{tk t:ah}(k:yn g ρ Q s r)(e:aa (.int x)=aa r):Q (.int x t) {s with toks:=tk}:=k tk _ (aR e▸⟨_,rfl⟩)
theorem yn.f{x:aW}(k:yn g ρ Q s r)(e:aa (.bO x)=aa r):(af9 x).post Q s:=xl (k _ _ (aR e▸⟨_,rfl⟩))
theorem M6{a b:aE}(e:R6 op a b=aa r)(k:yn g ρ Q s r):bg g.M A (yS op (.int a tk) (.int b tl)) Q E s:=by
 cases op with
 |Add=>exact agb (k.i e)
 |Sub=>exact agl (k.i e)
 |Mult=>exact fP e λh e=>PySem.P.mul_int (k.i e) (IntMulOk.of_left (intBits_le_64 (I6 h).1 (I6 h).2))
 |FloorDiv=>exact fP e λh e=>floordiv_int h.1 (k.i e) (.inl (PyProof.noPylong_small h.2))
 |Mod=>exact fP e λh e=>mod_int' h (k.i e)
 |Div=>refine fP e ?_;clear e;intro h e;have q:=yn.f k e;have h1:dD (Mh (decide (a<0) !=decide (b<0)) a.natAbs b.natAbs)=false:=h.2;clear e;exact PySem.AutoIntOps.truediv_2 (by simpa using h.1) (by simp[h1]) q
 |_=>exact lR e
theorem M5{a b:aW}(e:R5 op a b=aa r)(k:yn g ρ Q s r):bg g.M A (yS op (.float a tk) (.float b tl)) Q E s:=by
 cases op with
 |Add=>exact afQ (k.f e)
 |Sub=>exact afZ (k.f e)
 |Mult=>exact afW (k.f e)
 |Div=>exact fP e λh e=>af2 (by rw[h];decide) (k.f e)
 |Mod=>exact fP e λh e=>afV (by rw[h];decide) (k.f e)
 |_=>exact lR e
theorem Je{a:aW}{b:aE}(e:Jd op a b=aa r)(k:yn g ρ Q s r):bg g.M A (yS op (.float a tk) (.int b tl)) Q E s:=by
 refine fP e ?_;clear e;intro h e;cases op with
 |Sub=>exact af0 (by rw[h];decide) (k.f e)
 |Mult=>exact afX (by rw[h];decide) (k.f e)
 |_=>exact lR e
theorem Jg{a:aW}{b:aE}(e:Jf op b a=aa r)(k:yn g ρ Q s r):bg g.M A (yS op (.int b tl) (.float a tk)) Q E s:=by
 refine fP e ?_;clear e;intro h e;cases op with
 |Sub=>exact af1 (by rw[h];decide) (k.f e)
 |_=>exact lR e
theorem R7{a b:MV}(e:G6 op a b=aa r){a' b':aB}(ha:VR g ρ a a')(hb:VR g ρ b b')
  (k:yn g ρ Q s r):bg g.M A (yS op a' b') Q E s:=by
 cases b with
 |int y=>cases a with
  |int x=>exact dA ha λt ha=>dA hb λu hb=>by rw[ha,hb];exact M6 (show R6 op x y=_ from e) k
  |bO x=>exact dA ha λt ha=>dA hb λu hb=>by rw[ha,hb];exact Je (show Jd op x y=_ from e) k
  |_=>exact lR e
 |bO y=>cases a with
  |int x=>exact dA ha λt ha=>dA hb λu hb=>by rw[ha,hb];exact Jg (show Jf op x y=_ from e) k
  |bO x=>exact dA ha λt ha=>dA hb λu hb=>by rw[ha,hb];exact M5 (show R5 op x y=_ from e) k
  |_=>exact lR e
 |_=>exact lR e
end
noncomputable def Sh(op:kL)(a b:aE):ag cj:=@Mf (λ_=>ag cj) (aa (a==b)) (aa (a !=b)) (aa (decide (a<b))) (aa (decide (a<=b))) (aa (decide (b<a))) (aa (decide (b<=a))) none none none none op
noncomputable def Sg(op:kL)(a b:aW):ag cj:=@Mf (λ_=>ag cj) (aa (bQ a b==aa cZ)) none (aa (bQ a b==aa e9)) (aa (bQ a b==aa e9||Float64.cmp a b==aa cZ)) (aa (bQ a b==aa oE)) none none none none none op
noncomputable def WT(op:kL)(a:cj):ag cj:=@Mf (λ_=>ag cj) none none none none none none (aa a) (aa (!a)) none none op
noncomputable def MV.isNone(v:MV):cj:=@MV.rec (λ_=>cj) true (λ_=>false) (λ_=>false) (λ_=>false) (λ_=>false) false v
noncomputable def ua(op:kL)(a b:MV):ag cj:=@MV.rec (λ_=>ag cj) (WT op a.isNone) (λy=>ot a.bl λx=>if op=.Eq then aa (x==y) else none) (λy=>AW a λx=>Sh op x y) (λy=>ot a.fl λx=>Sg op x y) (λ_=>none) none b
theorem VR.OJ{ρ:af aX}{a:MV}{v:aB}(h:VR g ρ a v)(ha:a.isNone=false):v≠ .none:=by
 cases a with
 |none=>cases ha
 |bool b=>rintro rfl;cases h
 |int b=>rintro rfl;obtain⟨_,h⟩:=h;cases h
 |bO b=>rintro rfl;obtain⟨_,h⟩:=h;cases h
 |ref b=>rintro rfl;obtain⟨_,_,h⟩:=h;cases h
 |old=>rintro rfl;cases h
section
variable{op:kL}{r:cj}{ρ:af aX}{tk tl:Tok}{Q:aB->aD->Prop}{E:aB->aD->Prop}{s:aD}{A:eD}
theorem Na{a b:aE}(e:Sh op a b=aa r)(k:Q (.bool r) s):bg g.M A (Bo op (.int a tk) (.int b tl)) Q E s:=by
 have k':∀{x},aa x=aa r->Q (.bool x) s:=λh=>aR h▸k;cases op with
 |Eq=>exact agc (k' e)
 |NotEq=>exact agk (k' e)
 |Lt=>exact agj (k' e)
 |LtE=>exact agi (k' e)
 |Gt=>exact agf (k' e)
 |GtE=>exact agd (k' e)
 |_=>exact lR e
theorem M9{a b:aW}(e:Sg op a b=aa r)(k:Q (.bool r) s):bg g.M A (Bo op (.float a tk) (.float b tl)) Q E s:=by
 have k':∀{x},aa x=aa r->Q (.bool x) s:=λh=>aR h▸k;cases op with
 |Eq=>exact afR (k' e)
 |Lt=>exact afU (k' e)
 |Gt=>exact afS (k' e)
 |LtE=>exact afT (k' e)
 |_=>exact lR e
theorem Nb{a:MV}{a':aB}(ha:VR g ρ a a')(e:WT op a.isNone=aa r)(k:Q (.bool r) s):bg g.M A (Bo op a' .none) Q E s:=by
 have k':∀{x},aa x=aa r->Q (.bool x) s:=λh=>aR h▸k;cases q:a.isNone with
 |true=>
  have ha:a'=.none:=by cases a<;>first|exact ha|exact nomatch q
  rw[q] at e;subst ha;cases op with
  |Is=>exact wpAny_is_self rfl (k' e)
  |IsNot=>exact wpAny_isNot_self rfl (k' e)
  |_=>exact lR e
 |false=>
  have hn:=ha.OJ q;rw[q] at e;cases op with
  |Is=>exact is_none_ne hn (k' e)
  |IsNot=>exact isnot_none_ne hn (k' e)
  |_=>exact lR e
theorem Jn{a b:MV}(e:ua op a b=aa r){a' b':aB}(ha:VR g ρ a a')(hb:VR g ρ b b')(k:Q (.bool r) s):bg g.M A (Bo op a' b') Q E s:=by
 cases b with
 |none=>cases hb;exact Nb ha e k
 |bool y=>exact eh e λx hx e=>fP e λh e=>by rw[show b'=.bool y from hb,show a'=.bool x from(show VR g ρ (.bool x) a' from agA hx▸ha),h];exact eq_bool (aR e▸k)
 |int y=>exact mr e λx hx e=>dA (show VR g ρ (.int x) a' from hx▸ha) λt ha=>dA hb λu hb=>by rw[ha,hb];exact Na (show Sh op x y=_ from e) k
 |bO y=>exact eh e λx hx e=>dA (show VR g ρ (.bO x) a' from Sy hx▸ha) λt ha=>dA hb λu hb=>by rw[ha,hb];exact M9 (show Sg op x y=_ from e) k
 |_=>exact lR e
end
noncomputable def bU(bf:MV->MV->af av->ag (MV×af av))(f f':St->ag (MV×St)):St->ag (MV×St):=λst=>ob (f st) λa ax=>ob (f' ax) λb cH=>ob (bf a b cH.H) λr H=>aa (r,{cH with H:=H})
noncomputable def IT(c:Cx g)(op:jY)(bf:MV->MV->af av->ag (MV×af av)):Prop:=
 ∀st a b r H',bf a b st.H=aa (r,H')->∀ext ρ s a' b',Rel c ext ρ st s->VR g ρ a a'->VR g ρ b b'->∀(Q:aB->aD->Prop)(E:aB->aD->Prop),
  (∀d7 v' s',ρ<+:d7->Rel c ext d7 {st with H:=H'} s'->VR g d7 r v'->Q v' s')->bg g.M c.A (yS op a' b') Q E s
noncomputable def bS(op:jY):MV->MV->af av->ag (MV×af av):=λa b H=>ot (G6 op a b) λr=>aa (r,H)
theorem bu(op:jY):IT c op (bS op):=by
 intro st a b r H' e ext ρ s a' b' R ha hb Q E k;refine eh e ?_;clear e;intro r' h e;cases e
 exact R7 h ha hb λtk v hv=>k ρ v _ a9 (R.lF _) hv
theorem br{l r:PySem.Expr}{op:jY}{pos:iP}{f f':St->ag (MV×St)}{bf}(hb:IT c op bf)(hl:dI c l f)(hr:dI c r f'):dI c (.BinOp l op r pos) (bU bf f f'):=by
 intro st v bZ e ext ρ s R Q E k;refine ea e ?_;clear e;intro a ax h1 e;refine ea e ?_;clear e;intro b cH h2 e;refine ea e ?_;clear e;intro r' H' h3 e;cases e
 refine wpAny_BinOp (hl st a ax h1 ext ρ s R _ _ λaQ a' bC b8 bW va=>hr ax b cH h2 ext aQ bC bW _ _ λcy b' dn dG dh vb=>?_);exact hb cH a b v H' h3 ext cy dn a' b' dh (va.mono dG) vb Q E λiH v' eS iU gI vv=>k iH v' eS ((b8.trans dG).trans iU) gI vv
noncomputable def tX(c:Cx g)(e:PySem.Expr)(f:St->ag (cj×St)):Prop:=
 ∀st b bZ,f st=aa (b,bZ)->∀ext ρ s,Rel c ext ρ st s->∀(Q:cj->aD->Prop)(E:aB->aD->Prop),
  (∀d7 s',ρ<+:d7->Rel c ext d7 bZ s'->Q b s')->bg g.M c.A (x8 e c.env (eval e c.env)) Q E s
noncomputable def uG(c:Cx g)(op:kL)(cf:MV->MV->af av->ag cj):Prop:=
 ∀st a b r,cf a b st.H=aa r->∀ext ρ s a' b',Rel c ext ρ st s->VR g ρ a a'->VR g ρ b b'->∀(Q:aB->aD->Prop)(E:aB->aD->Prop),
  (∀s',Rel c ext ρ st s'->Q (.bool r) s')->bg g.M c.A (Bo op a' b') Q E s
noncomputable def cS(op:kL):MV->MV->af av->ag cj:=λa b _=>ua op a b
theorem dU(op:kL):uG c op (cS op):=by intro st a b r e ext ρ s a' b' R ha hb Q E k;exact Jn e ha hb (k _ R)
noncomputable def dp(cf:MV->MV->af av->ag cj)(f f':St->ag (MV×St)):St->ag (cj×St):=λst=>ob (f st) λa ax=>ob (f' ax) λb cH=>ot (cf a b cH.H) λr=>aa (r,cH)
noncomputable def s8(f:St->ag (cj×St)):St->ag (MV×St):=λst=>ob (f st) λb bZ=>aa (.bool b,bZ)
theorem dM{l r:PySem.Expr}{op:kL}{pos:iP}{f f':St->ag (MV×St)}{cf}(hc:uG c op cf)(hl:dI c l f)(hr:dI c r f')(hm:behindInMarks op r=false:=by kernel_rfl):
  tX c (.Compare l [op] [r] pos) (dp cf f f'):=by
 intro st v bZ e ext ρ s R Q E k;refine ea e ?_;clear e;intro a ax h1 e;refine ea e ?_;clear e;intro b cH h2 e;refine eh e ?_;clear e;intro r' h3 e;cases e
 refine wpAny_isTrue_Compare1 (hl st a ax h1 ext ρ s R _ _ λaQ a' bC b8 bW va=>hr ax b bZ h2 ext aQ bC bW _ _ λcy b' dn dG dh vb=>?_) hm;exact hc bZ a b v h3 ext cy dn a' b' dh (va.mono dG) vb _ _ λeS gI=>qo (k cy eS (b8.trans dG) gI)
theorem E6{l r:PySem.Expr}{op:kL}{pos:iP}{f f':St->ag (MV×St)}{cf}(hc:uG c op cf)(hl:dI c l f)(hr:dI c r f')(hm:behindInMarks op r=false:=by kernel_rfl):
  dI c (.Compare l [op] [r] pos) (s8 (dp cf f f')):=by
 intro st v bZ e ext ρ s R Q E k;refine ea e ?_;clear e;intro r' cH q e;refine ea q ?_;clear q;intro a ax h1 q;refine ea q ?_;clear q;intro b cH h2 q;refine eh q ?_;clear q;intro r' h3 q;cases q;cases e
 refine wpAny_Compare1 (hl st a ax h1 ext ρ s R _ _ λaQ a' bC b8 bW va=>hr ax b bZ h2 ext aQ bC bW _ _ λcy b' dn dG dh vb=>?_) hm;exact hc bZ a b _ h3 ext cy dn a' b' dh (va.mono dG) vb _ _ λeS gI=>k cy _ eS (b8.trans dG) gI rfl
noncomputable def tru(a:MV)(H:af av):ag cj:=@MV.rec (λ_=>ag cj) (aa false) aa (λ_=>none) (λ_=>none) (λi=>og av.ls H[i]? λxs=>aa (!xs.isEmpty)) none a
noncomputable def Qj(c:Cx g)(tf:MV->af av->ag cj):Prop:=
 ∀st a r,tf a st.H=aa r->∀ext ρ s a',Rel c ext ρ st s->VR g ρ a a'->∀(Q:cj->aD->Prop)(E:aB->aD->Prop),
  (∀s',Rel c ext ρ st s'->Q r s')->bg g.M c.A (truthy a') Q E s
noncomputable def Aj(f:St->ag (MV×St)):St->ag (cj×St):=λst=>ob (f st) λa ax=>ot (tru a ax.H) λb=>aa (b,ax)
noncomputable def Ai(f f':St->ag (cj×St)):St->ag (cj×St):=λst=>ob (f st) λb ax=>bc b (f' ax) (aa (false,ax))
noncomputable def VW(f f':St->ag (cj×St)):St->ag (cj×St):=λst=>ob (f st) λb ax=>bc b (aa (true,ax)) (f' ax)
theorem P1{x y:PySem.Expr}{pos:iP}{f f'}(hx:tX c x f)(hy:tX c y f'):tX c (.BoolOp .And [x,y] pos) (Ai f f'):=by
 intro st v bZ e ext ρ s R Q E k;refine ea e ?_;clear e;intro b ax h1 e;refine isTrue_and (hx st _ ax h1 ext ρ s R _ _ λaQ bC b8 bW=>?_);cases b with
 |true=>
  rw[aP rfl];refine isTrue_and (hy ax v bZ e ext aQ bC bW _ _ λcy dn dG dh=>?_);have q:=k cy dn (b8.trans dG) dh;cases v with
  |true=>rw[aP rfl];exact isTrue_and_nil q
  |false=>rw[aZ (by decide)];exact q
 |false=>
  have e:aa (false,ax)=aa (v,bZ):=e;cases e
  rw[aZ (by decide)];exact k aQ bC b8 bW
theorem ago{x y:PySem.Expr}{pos:iP}{f f'}(hx:tX c x f)(hy:tX c y f'):tX c (.BoolOp .Or [x,y] pos) (VW f f'):=by
 intro st v bZ e ext ρ s R Q E k;refine ea e ?_;clear e;intro b ax h1 e;refine isTrue_or (hx st _ ax h1 ext ρ s R _ _ λaQ bC b8 bW=>?_);cases b with
 |true=>
  have e:aa (true,ax)=aa (v,bZ):=e;cases e
  rw[aP rfl];exact k aQ bC b8 bW
 |false=>
  rw[aZ (by decide)];refine isTrue_or (hy ax v bZ e ext aQ bC bW _ _ λcy dn dG dh=>?_);have q:=k cy dn (b8.trans dG) dh;cases v with
  |true=>rw[aP rfl];exact q
  |false=>rw[aZ (by decide)];exact isTrue_or_nil q
noncomputable def Sn(t:St->ag (cj×St))(f f':St->ag (MV×St)):St->ag (MV×St):=λst=>ob (t st) λb ax=>bc b (f ax) (f' ax)
theorem Wy{t x y:PySem.Expr}{pos:iP}{ft f f'}(ht:tX c t ft)(hx:dI c x f)(hy:dI c y f'):dI c (.IfExp t x y pos) (Sn ft f f'):=by
 intro st v bZ e ext ρ s R Q E k;refine ea e ?_;clear e;intro b ax h1 e;refine wpAny_IfExp (ht st _ ax h1 ext ρ s R _ _ λaQ bC b8 bW=>?_);cases b with
 |true=>rw[aP rfl];exact hx ax v bZ e ext aQ bC bW _ _ λcy v' dn dG dh vv=>k cy v' dn (b8.trans dG) dh vv
 |false=>rw[aZ (by decide)];exact hy ax v bZ e ext aQ bC bW _ _ λcy v' dn dG dh vv=>k cy v' dn (b8.trans dG) dh vv
theorem Wx{x y:PySem.Expr}{pos:iP}{f f'}(hx:dI c x (s8 f))(hy:dI c y (s8 f')):dI c (.BoolOp .And [x,y] pos) (s8 (Ai f f')):=by
 intro st v bZ e ext ρ s R Q E k;refine ea e ?_;clear e;intro b cH q e;cases e
 refine ea q ?_;clear q;intro b' ax h1 q;refine BoolOp_and (hx st (.bool b') ax (cV h1 rfl) ext ρ s R _ _ λaQ xP bC b8 bW jT=>?_);have hv:xP=.bool b':=jT;subst hv;refine qo ?_;cases b' with
 |true=>rw[aP rfl];exact hy ax (.bool b) bZ (cV q rfl) ext aQ bC bW _ _ λcy VB dn dG dh yu=>k cy VB dn (b8.trans dG) dh yu
 |false=>
  have q:aa (false,ax)=aa (b,bZ):=q;cases q
  rw[aZ (by decide)];exact k aQ _ bC b8 bW rfl
theorem sR{x:PySem.Expr}{f}(ht:Qj c tru)(hx:dI c x f)(he:∀whole,x8 x c.env whole=(do let v<-whole;g9 x.pos;holding [v] (truthy v))):tX c x (Aj f):=by
 intro st v bZ e ext ρ s R Q E k;refine ea e ?_;clear e;intro a ax h1 e;refine eh e ?_;clear e;intro b h2 e;cases e
 exact isTrue_plain (hx st a bZ h1 ext ρ s R _ _ λaQ xP bC b8 bW jT=>ht bZ a v h2 ext aQ bC xP bW jT _ _ λdn dh=>k aQ dn b8 dh) (he _)
noncomputable def s7(f:St->ag (MV×St)):St->ag (MV×St):=λst=>ob (f st) λv ax=>@MV.rec (λ_=>ag (MV×St)) none (λ_=>none) (λx=>aa (.int (-x),ax)) (λx=>aa (.bO (i8 x),ax)) (λ_=>none) none v
theorem y8{x:PySem.Expr}{pos:iP}{f}(hx:dI c x f):dI c (.UnaryOp .USub x pos) (s7 f):=by
 intro st v bZ e ext ρ s R Q E k;show bg _ _ (do let v<-eval x c.env;g9 pos;holding [v] (unaryOp .USub v)) Q E s;refine ea e ?_;clear e;intro y ax h1 e;refine aw (hx st _ ax h1 ext ρ s R _ _ λaQ xP bC b8 bW jT=>aw (jh (cN ?_)));cases y with
 |bO y=>
  have e:aa (.bO (i8 y),ax)=aa (v,bZ):=e;cases e
  exact dA jT λt hv=>by rw[hv];exact afY (xl (k aQ _ _ b8 (bW.lF _) ⟨_,rfl⟩))
 |int y=>
  have e:aa (.int (-y),ax)=aa (v,bZ):=e;cases e
  exact dA jT λt hv=>by rw[hv];exact neg_int (k aQ _ _ b8 (bW.lF _) ⟨_,rfl⟩)
 |_=>exact lR e
noncomputable def bV(l:ah->ag MV)(i:ah)(v:MV):ah->ag MV:=λj=>if j=i then aa v else l j
theorem En(c:Cx g):(c.env.scope.kind==.class||(c.env.scope.kind==.module&&c.env.locals !=c.env.globals))=false:=by rw[c.ek];rfl
theorem Rel.store{ext:af (aX×d9)}{ρ:af aX}{st:St}{s:aD}(R:Rel c ext ρ st s)(hc:c.comp=none){i:ah}{x:dv}(hx:c.names[i]?=aa x)(hk:c.env.kindOf x=aa .local){v:MV}{v':aB}(hv:VR g ρ v v')
  {Q:xX->aD->Prop} {E:aB->aD->Prop} {A:eD} (k:∀s',Rel c ext ρ {st with l:=bV st.l i v} s'->Q ⟨⟩ s'):bg g.M A (IS c.env x v') Q E s:=by
 refine Rel.el R λh₀ m nm obs h a b=>?_;clear R;have D6:=Gd h a;have a':=a;unfold o6 at a';rw[hc] at a';refine dQ a' λhL cP=>?_;clear a';subst cP;refine MQ hk D6 (λh' hn hs=>k _ ⟨h₀,_,λy=>if y=x then aa v' else nm y,obs,h.keep (h.F.set (hL▸hn) (hL▸hs)) (h.N.set (hL▸hs)),?_,?_⟩) (En c)
 ·unfold o6;rw[hc];exact⟨hL,rfl⟩
 ·intro j mv e
  show∃y,c.names[j]?=aa y/\_;have e':(if j=i then aa v else st.l j)=aa mv:=e;by_cases hj:j=i
  ·rw[aP hj] at e';cases e'
   subst hj;exact⟨x,hx,.inl ⟨hk,v',by simp,hv⟩⟩
  ·rw[aZ hj] at e'
   refine cv (b j mv e') λy hy r=>?_;refine⟨y,hy,?_⟩;have rK:y≠x:=by
    rintro rfl
    refine dA (bR.mp hy) λh1 Df=>?_;refine dA (bR.mp hx) λh2 NH=>?_;exact hj ((i9 (h₀:=h1) (h₁:=h2) c.nd).mp (Df.trans NH.symm))
   rcases r with⟨q,w,hw,r⟩|r
   ·exact .inl ⟨q,w,by simp[rK,hw],r⟩
   ·exact .inr r
noncomputable def bF:St->ag (MF×St):=λst=>aa (.next,st)
noncomputable def aO(f f':St->ag (MF×St)):St->ag (MF×St):=λst=>ob (f st) λm ax=>m.nx (f' ax) (aa (m,ax))
theorem bz:ja c [] bF:=by
 intro st r bZ e ext ρ s R Q E k;cases e
 exact oX (k ρ _ s a9 R rfl)
theorem az{x:oF}{rest:af oF}{f f'}(hx:oo c x f)(hr:ja c rest f'):ja c (x::rest) (aO f f'):=by
 intro st r bZ e ext ρ s R Q E k;refine ea e ?_;clear e;intro m ax h1 e;refine ju (hx st m ax h1 ext ρ s R _ _ λaQ ED bC b8 bW jT=>?_);cases m with
 |next=>
  cases jT
  exact hr ax r bZ e ext aQ bC bW _ _ λcy aoO dn dG dh yu=>k cy aoO dn (b8.trans dG) dh yu
 |brk=>
  have e:aa (MF.brk,ax)=aa (r,bZ):=e;cases e
  have q:=k aQ ED bC b8 bW jT;cases jT;exact q
 |cont=>
  have e:aa (MF.cont,ax)=aa (r,bZ):=e;cases e
  have q:=k aQ ED bC b8 bW jT;cases jT;exact q
 |ret v=>
  have e:aa (MF.ret v,ax)=aa (r,bZ):=e;cases e
  have q:=k aQ ED bC b8 bW jT;refine cv jT λv' cP _=>?_;clear jT;subst cP;exact q
noncomputable def ba(i:ah)(f:St->ag (MV×St)):St->ag (MF×St):=λst=>ob (f st) λv ax=>aa (.next,{ax with l:=bV ax.l i v})
theorem BM{x:dv}{e:PySem.Expr}{p p':iP}(i:ah){f}(hc:c.comp=none)(hx:c.names[i]?=aa x)(hk:c.env.kindOf x=aa .local)(he:dI c e f)
  (hs:jt e (aa (.Name x p)) p'.line c.env=pure false):oo c (.Assign [.Name x p] e p') (ba i f):=by
 intro st r bZ q ext ρ s R Q E k;refine ea q ?_;clear q;intro v ax h1 q;cases q
 exact yX (he st v ax h1 ext ρ s R _ _ λaQ v' bC b8 bW vv=>bW.store hc hx hk vv λdn dh=>k aQ _ dn b8 dh rfl) hs
noncomputable def gA(f:St->ag (MV×St)):St->ag (MF×St):=λst=>ob (f st) λv ax=>aa (.ret v,ax)
theorem gk{e:PySem.Expr}{p:iP}{f}(he:dI c e f):oo c (.Return (aa e) p) (gA f):=by
 intro st r bZ q ext ρ s R Q E k;refine ea q ?_;clear q;intro v ax h1 q;cases q
 exact wpAny_Return_some (he st v bZ h1 ext ρ s R _ _ λaQ v' bC b8 bW vv=>k aQ _ bC b8 bW ⟨_,rfl,vv⟩)
noncomputable def kF(f:St->ag (MV×St)):St->ag (MF×St):=λst=>ob (f st) λ_ ax=>aa (.next,ax)
theorem kY{e:PySem.Expr}{p:iP}{f}(he:dI c e f)(hi:interactive c.env=false)(hs:jt e none p.line c.env=pure false):oo c (.Expr e p) (kF f):=by
 intro st r bZ q ext ρ s R Q E k;refine ea q ?_;clear q;intro v ax h1 q;cases q
 exact wpAny_Expr_any (he st v bZ h1 ext ρ s R _ _ λaQ v' bC b8 bW vv=>k aQ _ bC b8 bW rfl) hi hs
noncomputable def A9:St->ag (MF×St):=λst=>aa (.brk,st)
noncomputable def Rf:St->ag (MF×St):=λst=>aa (.cont,st)
theorem WE{p:iP}:oo c (.Break p) A9:=by
 intro st r bZ q ext ρ s R Q E k;cases q
 exact wpAny_Break (k ρ _ s a9 R rfl)
theorem RO{p:iP}:oo c (.Continue p) Rf:=by
 intro st r bZ q ext ρ s R Q E k;cases q
 exact wpAny_Continue (k ρ _ s a9 R rfl)
noncomputable def je(t:St->ag (cj×St))(f f':St->ag (MF×St)):St->ag (MF×St):=λst=>ob (t st) λb ax=>bc b (f ax) (f' ax)
theorem fZ{t:PySem.Expr}{b b':af oF}{p:iP}{ft f f'}(ht:tX c t ft)(hb:ja c b f)(oQ:ja c b' f'):oo c (.If t b b' p) (je ft f f'):=by
 intro st r bZ q ext ρ s R Q E k;refine ea q ?_;clear q;intro y ax h1 q;refine wpAny_If (ht st _ ax h1 ext ρ s R _ _ λaQ bC b8 bW=>?_);cases y with
 |true=>rw[aP rfl];exact hb ax r bZ q ext aQ bC bW _ _ λcy v' dn dG dh vv=>k cy v' dn (b8.trans dG) dh vv
 |false=>rw[aZ (by decide)];exact oQ ax r bZ q ext aQ bC bW _ _ λcy v' dn dG dh vv=>k cy v' dn (b8.trans dG) dh vv
noncomputable def pz:St->ag (MF×St):=λ_=>none
theorem nB{b:af oF}:ja c b pz:=λ_ _ _ q=>nomatch q
noncomputable def p9(X:St->ag (MF×St))(o:ag (MF×St)):ag (MF×St):=ob o λm st=>@MF.rec (λ_=>ag (MF×St)) (X st) (aa (.next,st)) (X st) (λv=>aa (.ret v,st)) m
theorem Ik{X:St->ag (MF×St)}{o:ag (MF×St)}{r:MF}{bZ:St}{P:Prop}(q:p9 X o=aa (r,bZ))(h1:∀f ax,(f=.next\/f=.cont)->o=aa (f,ax)->X ax=aa (r,bZ)->P)(h2:r=.next->o=aa (.brk,bZ)->P)(h3:∀v,r=.ret v->o=aa (.ret v,bZ)->P):P:=by
 refine ea q ?_;clear q;intro f ax h q;cases f with
 |next=>exact h1 _ _ (.inl rfl) h q
 |cont=>exact h1 _ _ (.inr rfl) h q
 |brk=>exact Rg (show aa (MF.next,ax)=aa (r,bZ) from q) λa b=>h2 a.symm (b▸h)
 |ret v=>exact Rg (show aa (MF.ret v,ax)=aa (r,bZ) from q) λa b=>h3 v a.symm (b▸h)
theorem t9{b:af oF}{f X}{st bZ:St}{r:MF}{ext ρ s}{Φ:Flow->aD->Prop}{E:aB->aD->Prop}(hb:ja c b f)(R:Rel c ext ρ st s)(q:p9 X (f st)=aa (r,bZ)){N:aD->Prop}
  (hN:∀s,N s->Φ .next s/\Φ .cont s) (h1:∀ax d7 s',X ax=aa (r,bZ)->ρ<+:d7->Rel c ext d7 ax s'->N s') (h2:∀d7 s',r=.next->ρ<+:d7->Rel c ext d7 bZ s'->Φ .brk s')
  (h3:∀v v' d7 s',r=.ret v->ρ<+:d7->Rel c ext d7 bZ s'->VR g d7 v v'->Φ (.ret v') s'):bg g.M c.A (execs b c.env) Φ E s:=by
 refine Ik q (λfl ax hf h4 q=>hb _ _ ax h4 _ ρ s R _ _ λd7 fl' s' p R' e=>?_) (λhr h4=>hb _ _ bZ h4 _ ρ s R _ _ λd7 fl' s' p R' e=>?_) (λv hr h4=>hb _ _ bZ h4 _ ρ s R _ _ λd7 fl' s' p R' e=>?_)
 ·have n:=hN _ (h1 _ _ _ q p R')
  rcases hf with rfl|rfl
  ·cases e;exact n.1
  ·cases e;exact n.2
 ·cases e;exact h2 _ _ hr p R'
 ·refine cv e λv' cP vv=>?_;clear e;subst cP
  exact h3 _ _ _ _ hr p R' vv
noncomputable def iA(t:St->ag (cj×St))(b Qq:St->ag (MF×St))(n:ah):St->ag (MF×St):=@qP (λ_=>St->ag (MF×St)) (λ_=>none) (λ_ ih st=>ob (t st) λc ax=>bc c (p9 ih (b ax)) (Qq ax)) n
theorem ly{t:St->ag (cj×St)}{b Qq:St->ag (MF×St)}{n:ah}{st:St}:iA t b Qq (n+1) st=ob (t st) λc ax=>bc c (p9 (iA t b Qq n) (b ax)) (Qq ax):=rfl
theorem Af{t:PySem.Expr}{b Qq:af oF}{p:iP}{ft f f'}(n:ah)(ht:tX c t ft)(hb:ja c b f)(he:ja c Qq f'):oo c (.While t b Qq p) (iA ft f f' n):=by
 intro st r bZ q ext ρ s R Q E k;refine wpAny_While (codeAny_whileLoop (λn s=>∃st aQ,iA ft f f' n st=aa (r,bZ)/\Rel c ext aQ st s/\ρ<+:aQ) ?_ n ⟨st,ρ,q,R,a9⟩)
 rintro n s ⟨st,aQ,q,R,b8⟩
 cases n with
 |zero=>cases q
 |succ n=>
  refine ea (ly.symm.trans q) ?_;clear q;intro y ax h1 q;refine ht st _ ax h1 ext aQ s R _ _ λcy dn dG dh=>?_;cases y with
  |true=>
   rw[aP rfl];exact t9 (X:=iA ft f f' n) hb dh q (N:=λs=>∃m,m<n+1/\∃st aQ,iA ft f f' m st=aa (r,bZ)/\Rel c ext aQ st s/\ρ<+:aQ) (λs h=>⟨h,h⟩) (λcH iH eS q iU gI=>⟨n,qj _,cH,iH,q,gI,(b8.trans dG).trans iU⟩)
    (λiH eS hr iU gI=>k iH _ eS ((b8.trans dG).trans iU) gI (by rw[hr];rfl)) (λv v' iH eS hr iU gI vv=>k iH _ eS ((b8.trans dG).trans iU) gI (by rw[hr];exact⟨v',rfl,vv⟩))
  |false=>rw[aZ (by decide)];exact he ax r bZ q ext cy dn dh _ _ λiH aoP eS iU gI Ao=>k iH aoP eS ((b8.trans dG).trans iU) gI Ao
theorem mq{x:dv}{p:iP}{v:aB}{ext ρ st s}(R:Rel c ext ρ st s)(hk:c.env.kindOf x=aa .globalImplicit)(e:eA g.K aK x=aa (aa v))(hd:(x==("__debug__":dv))=false)
  {Q:aB->aD->Prop} {E:aB->aD->Prop} {A:eD} (k:Q v s):bg g.M A (eval (.Name x p) c.env) Q E s:=by
 refine Rel.el R λh₀ m nm obs h a b=>?_;clear R;exact PR c.ek hk (loadGlobal_global (c.eg▸h.G.T.g.keeps h.F.keep) (mg_of h.G.X h.G.T.g e) k) hd
theorem lq{x:dv}{p:iP}{v:aB}{ext ρ st s}(R:Rel c ext ρ st s)(hk:c.env.kindOf x=aa .globalImplicit)(e:eA g.K aK x=aa none)(hv:yT x=aa v)(hn:x≠"__name__")
  (hd:(x==("__debug__":dv))=false) {Q:aB->aD->Prop} {E:aB->aD->Prop} {A:eD} (k:Q v s):bg g.M A (eval (.Name x p) c.env) Q E s:=by
 refine Rel.el R λh₀ m nm obs h a b=>?_;clear R;exact PR c.ek hk (loadGlobal_builtin (c.eg▸h.G.T.g.keeps h.F.keep) (mg_none_of h.G.X h.G.T.g e) (c.eb▸h.G.T.b.keeps h.F.keep) ((h.G.T.builtins x hn).trans hv) k) hd
theorem vL{x:dv}{p:iP}{i:aE}{t:Tok}(hk:c.env.kindOf x=aa .globalImplicit)(e:eA g.K aK x=aa (aa (.int i t)))(hd:(x==("__debug__":dv))=false):dI c (.Name x p) (eK (.int i)):=by
 intro st v bZ q ext ρ s R Q E k;cases q
 exact mq R hk e hd (k ρ _ s a9 R ⟨t,rfl⟩)
theorem sS{x:dv}{p:iP}{i:aW}{t:Tok}(hk:c.env.kindOf x=aa .globalImplicit)(e:eA g.K aK x=aa (aa (.float i t)))(hd:(x==("__debug__":dv))=false):dI c (.Name x p) (eK (.bO i)):=by
 intro st v bZ q ext ρ s R Q E k;cases q
 exact mq R hk e hd (k ρ _ s a9 R ⟨t,rfl⟩)
noncomputable def tW(c:Cx g)(es:af PySem.Expr)(f:St->ag (af MV×St)):Prop:=
 ∀st vs bZ,f st=aa (vs,bZ)->∀ext ρ s(pos:iP),Rel c ext ρ st s->∀(Q:af aB->aD->Prop)(E:aB->aD->Prop),
  (∀d7 eN s',ρ<+:d7->Rel c ext d7 bZ s'->iD g d7 vs eN->Q eN s')->bg g.M c.A (spliced (gE pos (dT es c.env))) Q E s
noncomputable def isStar:PySem.Expr->cj
 |.Starred .. =>true
 |_=>false
noncomputable def gH(es:af PySem.Expr):cj:=es.all λe=>!isStar e
theorem lX{e:PySem.Expr}{rest:af PySem.Expr}{env:ux}(h:isStar e=false):dT (e::rest) env=(false,eval e env)::dT rest env:=by cases e<;>first|rfl|cases h
theorem mz{pos:iP}{env:ux}:∀{es:af PySem.Expr},gH es=true->(gE pos (dT es env)).any (·.1)=false
 |[],_=>rfl
 |e::rest,h=>by have h':(!isStar e&&gH rest)=true:=h;rw[d6,u9] at h';rw[lX h'.1];show(false||(gE pos (dT rest env)).any (·.1))=false;rw[mz h'.2];rfl
noncomputable def bG:St->ag (af MV×St):=λst=>aa ([],st)
noncomputable def aJ(f:St->ag (MV×St))(fs:St->ag (af MV×St)):St->ag (af MV×St):=λst=>ob (f st) λv ax=>ob (fs ax) λvs cH=>aa (v::vs,cH)
theorem iD.nil{ρ:af aX}:iD g ρ [] []:=⟨rfl,λi x h=>by cases h⟩
theorem iD.cons{ρ:af aX}{x:MV}{v:aB}{xs:af MV}{vs:af aB}(h:VR g ρ x v)(r:iD g ρ xs vs):iD g ρ (x::xs) (v::vs):=by
 refine⟨by rw[cU,cU,r.1],λi y e=>?_⟩;cases i with
 |zero=>cases e;exact⟨v,rfl,h⟩
 |succ i=>exact r.2 i y e
theorem iD.inv{ρ:af aX}{x:MV}{xs:af MV}{vs:af aB}(h:iD g ρ (x::xs) vs):∃v ws,vs=v::ws/\VR g ρ x v/\iD g ρ xs ws:=by
 cases vs with
 |nil=>cases h.1
 |cons v ws=>
  refine cv (h.2 0 x rfl) λv' e r=>?_;cases(e)
  refine⟨v,ws,rfl,r,by have:=h.1;simpa using this,λi y e=>h.2 (i+1) y e⟩
theorem iD.mJ{ρ:af aX}{vs:af aB}(h:iD g ρ [] vs):vs=[]:=by
 cases vs with
 |nil=>rfl
 |cons=>cases h.1
theorem cm:tW c [] bG:=by
 intro st vs bZ q ext ρ s pos R Q E k;cases q
 exact PV (k ρ _ s a9 R iD.nil)
theorem aN{e:PySem.Expr}{es:af PySem.Expr}{f fs}(he:dI c e f)(hs:tW c es fs)(ql:isStar e=false:=by rfl):tW c (e::es) (aJ f fs):=by
 intro st vs bZ q ext ρ s pos R Q E k;refine ea q ?_;clear q;intro v ax h1 q;refine ea q ?_;clear q;intro ws cH h2 q;cases q
 refine args_cons (he st v ax h1 ext ρ s R _ _ λaQ v' bC b8 bW vv=>hs ax ws bZ h2 ext aQ bC pos bW _ _ λcy ws' dn dG dh vw=>k cy _ dn (b8.trans dG) dh (iD.cons (vv.mono dG) vw)) (lX ql)
theorem mW{es:af PySem.Expr}{fv:aB}{fs}(hp:gH es=true)(hA:tW c es fs){st vs bZ}(q:fs st=aa (vs,bZ)){ext ρ s}{pos:iP}(R:Rel c ext ρ st s){Q:Args->aD->Prop}{E:aB->aD->Prop}
  (k:∀d7 eN s',ρ<+:d7->Rel c ext d7 bZ s'->iD g d7 vs eN->Q ⟨eN,[]⟩ s'):bg g.M c.A (E4 fv true (gE pos (dT es c.env)) []) Q E s:=by
 have:=hA st vs bZ q ext ρ s pos R (λeN s'=>Q ⟨eN,[]⟩ s') E k;cases es with
 |nil=>unfold E4;show bg g.M c.A (spliced []>>=_) Q E s;refine aw (ie this (λvs s' h'=>?_) λ_ _ x=>x);refine cN ?_;exact aw (bA (aw (bA (bA h'))))
 |cons e rest=>
  have ql:isStar e=false:=by have h':(!isStar e&&gH rest)=true:=hp;rw[d6,u9] at h';exact h'.1
  rw[lX ql] at this⊢;exact evalArgs_plain this
noncomputable def cJ(bf:af MV->af av->ag (MV×af av))(fs:St->ag (af MV×St)):St->ag (MV×St):=λst=>ob (fs st) λvs ax=>ob (bf vs ax.H) λr H=>aa (r,{ax with H:=H})
noncomputable def gj(c:Cx g)(fv:aB)(bf:af MV->af av->ag (MV×af av)):Prop:=
 ∀st vs r H',bf vs st.H=aa (r,H')->∀ext ρ s eN,Rel c ext ρ st s->iD g ρ vs eN->∀(Q:aB->aD->Prop)(E:aB->aD->Prop),
  (∀d7 v' s',ρ<+:d7->Rel c ext d7 {st with H:=H'} s'->VR g d7 r v'->Q v' s')->bg g.M c.A (call fv eN) Q E s
theorem wK{fv:aB}{es:af PySem.Expr}{fs bf}(hp:gH es=true)(hA:tW c es fs)(hb:gj c fv bf){st v bZ}(q:cJ bf fs st=aa (v,bZ)){ext ρ s}{pos:iP}(R:Rel c ext ρ st s)
  {Q:aB->aD->Prop} {E:aB->aD->Prop} (k:∀d7 v' s',ρ<+:d7->Rel c ext d7 bZ s'->VR g d7 v v'->Q v' s')
  {P:aD->Prop} (hP:∀d7 ax s',Rel c ext d7 ax s'->P s'):
  bg g.M c.A (E4 fv true (gE pos (dT es c.env)) []) (λa bC=>P bC/\bg g.M c.A (call fv ([]++a.pos) a.kw) Q E bC) E s:=by
 refine ea q ?_;clear q;intro vs ax h1 q;refine ea q ?_;clear q;intro r H h2 q;cases q
 refine mW hp hA h1 R λaQ eN bC b8 bW vv=>⟨hP _ _ _ bW,?_⟩;exact hb ax vs v H h2 ext aQ bC eN bW vv _ _ λcy v' dn dG dh yu=>k cy v' dn (b8.trans dG) dh yu
theorem MR{x:dv}{p pos:iP}{es:af PySem.Expr}{id:Bn}{fs bf}(hk:c.env.kindOf x=aa .globalImplicit)(e:eA g.K aK x=aa none)(hv:yT x=aa (.builtin id))(hn:x≠"__name__")
  (hd:(x==("__debug__":dv))=false) (hp:gH es=true) (hb:gj c (.builtin id) bf) (hA:tW c es fs)
  (he:eval (.Call (.Name x p) es [] pos) c.env=(do fg pos (<-eval (.Name x p) c.env) [] (gE pos (dT es c.env)) (oG pos (jF [] c.env)))):
  dI c (.Call (.Name x p) es [] pos) (cJ bf fs):=by
 intro st v bZ q ext ρ s R Q E k;refine Wf (lq R hk e hv hn hd (afH (mz hp) ?_)) he;exact ie (wK hp hA hb q R k (P:=λ_=>True) λ_ _ _ _=>trivial) (λ_ _ h=>h.2) λ_ _ h=>h
theorem qT{x:dv}{p pos:iP}{es:af PySem.Expr}{T:Bn}{fs bf}(hk:c.env.kindOf x=aa .globalImplicit)(e:eA g.K aK x=aa none)(hv:yT x=aa (.type T))(hn:x≠"__name__")
  (hd:(x==("__debug__":dv))=false) (hp:gH es=true) (hb:gj c (.type T) bf) (hA:tW c es fs)
  (he:eval (.Call (.Name x p) es [] pos) c.env=(do fg pos (<-eval (.Name x p) c.env) [] (gE pos (dT es c.env)) (oG pos (jF [] c.env)))):
  dI c (.Call (.Name x p) es [] pos) (cJ bf fs):=by
 intro st v bZ q ext ρ s R Q E k;refine Wf (lq R hk e hv hn hd (mE (mz hp) ?_)) he;exact ie (wK hp hA hb q R k (P:=λ_=>True) λ_ _ _ _=>trivial) (λ_ _ h=>h.2) λ_ _ h=>h
noncomputable def wh(c:Cx g)(fv:aB)(bf:af MV->af av->ag (MV×af av)):Prop:=
 ∀st vs r H',bf vs st.H=aa (r,H')->∀ext ρ s eN,Rel c ext ρ st s->iD g ρ vs eN->∀(RR:xW->aD->Prop),
  (∀d7 v' s',ρ<+:d7->Rel c ext d7 {st with H:=H'} s'->VR g d7 r v'->RR (.ok (.ret v')) s')->oj g.M c.A (.call fv ⟨eN,[]⟩) RR s
theorem wh.call{fv:aB}{bf}(h:wh c fv bf):gj c fv bf:=λst vs r H' q ext ρ s eN R hv Q E k=>ya (h st vs r H' q ext ρ s eN R hv _ λd7 v' s' p' R' vv=>k d7 v' s' p' R' vv)
noncomputable def gy(g:Gl)(n:ah)(fa:aX)(F:af MV->af av->ag (MV×af av)):Prop:=∀c:Cx g,c.comp=none->c.A.handled=none->n<=c.room->wh c (.ref fa) F
theorem gy.at{n:ah}{fa:aX}{F}(h:gy g n fa F)(hc:c.comp=none)(hh:c.A.handled=none)(hr:n<=c.room):gj c (.ref fa) F:=(h c hc hh hr).call
noncomputable def mZ(k:ah)(fb:St->ag (MF×St)):af MV->af av->ag (MV×af av):=λvs H=>if vs.length=k then ob (fb ⟨H,λi=>vs[i]?⟩) λm st=>aa (m.rv,st.H) else none
theorem nJ:∀{ns:af dv}{vs:af aB},ns.Nodup->∀(i:ah){n:dv}{v:aB},ns[i]?=aa n->vs[i]?=aa v->(ns.zip vs).reverse.lookup n=aa v:=by
 intro ns vs nd i n v h1 h2;have key:∀(l:af (dv×aB)),(l.map (·.1)).Nodup->(n,v)∈l->l.lookup n=aa v:=by
  intro l
  induction l with
  |nil=>intro _ h;cases h
  |cons p l ih=>
   intro hn hm;rw[bX,cQ] at hn;obtain⟨a,b⟩:=p;rw[mD];rcases bE.mp hm with e|V6
   ·cases e;simp
   ·have:(n==a)=false:=by
     rw[ef]
     rintro rfl
     exact hn.1 (aU.mpr ⟨(n,v),V6,rfl⟩)
    rw[this];exact ih hn.2 V6
 refine key _ ?_ ?_
 ·have h3:((ns.zip vs).map (·.1)).Nodup:=by
   have ahi:∀(l:af dv)(k:af aB),l.Nodup->((l.zip k).map (·.1)).Nodup:=by
    intro l
    induction l with
    |nil=>intro k _;exact eB
    |cons a l ih=>
     intro k hn;cases k with
     |nil=>exact eB
     |cons b k=>rw[cQ] at hn;rw[List.zip_cons_cons,bX,cQ];refine⟨λq=>?_,ih k hn.2⟩;refine cv (aU.mp q) λp hp e=>?_;have e':p.1=a:=e;exact hn.1 (e'▸(gQ (a:=p.1) (b:=p.2) hp).1)
   exact ahi ns vs nd
  rw[List.map_reverse];exact List.pairwise_reverse.mpr (h3.imp λh=>oM h)
 ·rw[List.mem_reverse]
  refine aM (i:=i) ?_;rw[eo];exact⟨h1,h2⟩
theorem Aq{b:aX}(h:b∈(c.gL::c.outer).filterMap (·.frame)):b=c.L\/b∈c.fs:=by rw[List.filterMap_cons,c.hf] at h;exact bE.mp h
theorem qy{h₀:jf}{m:dv->ag aB}{news:af (aX×d9)}{s:aD}(G:MA c h₀)(F:Fr h₀ c.L s.heap m)(N:EX h₀ c.L s.heap news):
  Fr h₀ c.L (gP s.heap (news.map (·.1))) m/\Below c.A c.base (c.gL::c.outer) (gP s.heap (news.map (·.1)))/\KtsDicts ((c.gL::c.outer).filterMap (·.frame)) (gP s.heap (news.map (·.1)))/\
   ∀g' L' m' zF h',KtsTurn ((c.gL::c.outer).filterMap (·.frame)) (gP s.heap (news.map (·.1))) g'->Fr g' L' h' m'->EX g' L' h' zF->∃h₁,MA c h₁/\Fr h₁ c.L h' m/\EX h₁ c.L h' zF:=by
 refine oS (groundX (R:=λ_ _=>True) G.B F N c.hA c.hf c.MC) λFG BG st _=>?_;refine CJ FG.ns λoL es ep hLg hLd hLk hLf=>?_;have Yz:h₀.get? c.L=none:=kts_self F;refine⟨FG,BG,λb hb=>?_,λg' L' m' zF h' T' F' N'=>?_⟩
 ·rcases Aq hb with rfl|hb
  ·exact⟨oL,es,ep,hLg,hLd⟩
  ·refine YN (G.D b hb) λo es' n' vl Qz=>?_
   exact⟨o,es',n',st b o vl,Qz⟩
 ·refine dA (T'.up hLg) λsl hs=>?_
  refine dQ (kts_turn_at (h:=h') (fs:=c.fs) (g:=h₀)
   (λb hb=>by obtain⟨_,o,vl,_⟩:=G.B.frames.mem hb;exact⟨o,vl⟩)
   (λb o e ahu=>F'.keep b o (T'.other b o (st b o e) (λq=>by
    rcases Aq q with z|z
    ·rw[z,Yz] at e;cases e
    ·exact ahu z)))
   (λb o e hm=>by obtain⟨sl',yc⟩:=T'.up (st b o e);exact⟨sl',F'.keep _ _ yc⟩)) λGU agu=>?_
  have agp:Below c.A₀ c.base c.outer (ktsHeap h' c.fs h₀):=⟨G.B.stack,λb o e=>GU.other b o (G.B.stays b o e) (λhm=>by
   rw[(G.B.frames.mem hm).1] at e;cases e),G.B.frames.of_keeps λb o e _=>by
   refine dA (GU.up e) λsl' yc=>?_;exact⟨_,yc,rfl⟩⟩
  refine⟨ktsHeap h' c.fs h₀,⟨agp,G.D.turn GU,G.turn.trans GU⟩,⟨⟨_,es,ep,F'.keep _ _ hs,hLd,hLk,hLf⟩,agu,by rw[GU.size];exact F.above⟩,λp hp=>⟨(N' p hp).1,λq=>?_,?_⟩⟩
  ·have:=(N' p hp).2.2;rw[q,hs] at this;cases this
  ·refine GU.none_ _ ?_
   cases q:h₀.get? p.1 with
   |none=>rfl
   |some o=>refine dA (T'.up (st _ _ q)) λsl' yc=>?_;have:=(N' p hp).2.2;rw[yc] at this;cases this
noncomputable def Cx.callee(c:Cx g)(n:ah)(hn:n+1<=c.room)(hh:jf)(L':aX)(s9:ux)(names:af dv)(m9:names.Nodup)
  (hf:s9.frame=aa L') (hk:s9.scope.kind=.function) (hg:s9.globals=aK) (hb:s9.builtins=VL):Cx g where
 A₀:=c.A
 A:=c.A.deeper s9
 base:=c.base
 h₀:=hh
 outer:=c.gL::c.outer
 gL:=s9
 env:=s9
 L:=L'
 room:=n
 names:=names
 comp:=none
 gens:=c.gens
 os:=c.os
 XB:=c.XB
 TB:=c.TB
 SB:=c.SB
 SI:=c.SI
 hA:=Dh c.hA
 hf:=hf
 MC:=hk
 ek:=hk
 eg:=hg
 eb:=hb
 hd:=by have:=c.hd;show c.A.depth+1+n<E5;exact alO hn this
 hu:=by have:=c.hu;show c.A.units+3+8*n<cLine;exact acT hn this
 nd:=m9
theorem Rel.back{n:ah}{hn:n+1<=c.room}{gg:jf}{L':aX}{s9:ux}{names:af dv}{m9:names.Nodup}{hf:s9.frame=aa L'}{hk:s9.scope.kind=.function}{hg:s9.globals=aK}{hb:s9.builtins=VL}
  {m nm:dv->ag aB} {ext:af (aX×d9)} {ρ d7:af aX} {st ax:St} {s':aD}
  (ex:∀g' L'' m' zF h',KtsTurn ((c.gL::c.outer).filterMap (·.frame)) gg g'->Fr g' L'' h' m'->EX g' L'' h' zF->∃h₁,MA c h₁/\Fr h₁ c.L h' m/\EX h₁ c.L h' zF)
  (R:Rel (c.callee n hn gg L' s9 names m9 hf hk hg hb) ext d7 ax s') (a:o6 c ext m nm) (b:yo c nm ρ st.l) (p:ρ<+:d7):Rel c ext d7 {st with H:=ax.H} s':=by
 refine Rel.el R λJ8 m' pT xr h' a' b'=>?_;clear R;refine js (ex J8 L' m' _ s'.heap h'.G.turn h'.F h'.N) λh₁ agr agq ags=>?_;exact⟨h₁,m,nm,xr,⟨agr,agq,ags,h'.nd,h'.off,h'.en,h'.low,h'.lr,h'.lo,h'.ob,h'.nk,h'.gens,h'.os⟩,a,b.mono p⟩
theorem B6{fa:aX}{oc:aB}{od:ag aX}{OQ:fm (ag aB)}{name qual:dv}{params:pC}{body:af oF}{scope:kO}{dV kV doc pm nY ct:aB}{an:ag aX}
  (n k:ah) (names pn:af dv)
  (ho:g.K.lookup fa=aa ⟨oc,od,.func (lD name qual params body scope dV kV doc pm an nY ct),OQ⟩) (Cd:dN g.K nY qual=true)
  (IA:names.take k=pn) (m9:names.Nodup) (D5:pn.length=k)
  (tm:∀(c:Cx g)(s:aD)(vs:af aB),g.K.In s.heap->vs.length=k->We s (lD name qual params body scope dV kV doc pm an nY ct) ⟨vs,[]⟩ (pn.zip vs))
  (rI:(pn.all λx=>decide (scope.names.lookup x=aa .local))=true) (tq:∀x∈scope.names,x.2≠ .cell)
  (NP:scope.isCoroutine=false) (AD:scope.isGenerator=false) (hk:scope.kind=.function)
  (hh:c.A.handled=none) (mR:n+1<=c.room) {st:St} {vs:af MV} {ext:af (aX×d9)} {ρ:af aX} {s:aD} {eN:af aB} (Hs:vs.length=k) (R:Rel c ext ρ st s) (hv:iD g ρ vs eN) {RR:xW->aD->Prop}
  (kk:∀c':Cx g,c'.comp=none->c'.A.handled=none->c'.room=n->c'.names=names->c'.gL=c'.env->c'.env=jm qual scope c'.L fa nY []->c'.outer=c.gL::c.outer->
   (∀d7 ax s',ρ<+:d7->Rel c' ext d7 ax s'->Rel c ext d7 {st with H:=ax.H} s')->∀bC,Rel c' ext ρ ⟨st.H,λi=>vs[i]?⟩ bC->
    bg g.M c'.A (execs body c'.env) (λf s'=>RR (.ok (.ret (match f with |.ret v=>v|_=> .none))) s') (λe s'=>bg g.M c'.A (leaving c'.env e) (λ_ Vm=>RR (.error e) Vm) (λe' Vm=>RR (.error e') Vm) s') bC):
  oj g.M c.A (.call (.ref fa) ⟨eN,[]⟩) RR s:=by
 refine Rel.el R λh₀ m nm obs h a b=>?_;have NX:eN.length=k:=hv.1▸Hs;have X:=h.G.X.keeps h.F.keep;have JZ:∀y∈pn.zip eN,scope.names.lookup y.1=aa .local:=λy hy=>cz (dS.mp rI _ (gQ (a:=y.1) (b:=y.2) hy).1);refine afJ (fd:=fnX name qual params body scope [] dV kV doc pm an nY ct) (body:=body) (binds:=pn.zip eN) (by have:=c.hd;exact O6 this) (X _ _ ho) rfl (h.G.T.nolimit.keeps h.F.keep) (E3 X Cd) rfl (tm c s eN X NX) tq JZ (λh₁ D6 p6=>?_) NP AD hk;refine oS (qy h.G h.F h.N) λFG BG DG ex=>?_;refine kk (c.callee n mR (gP s.heap ((ext++ρ.zip obs).map (·.1))) s.heap.objs.size (jm qual scope s.heap.objs.size fa nY []) names m9 rfl hk rfl rfl) rfl hh rfl rfl rfl rfl rfl (λd7 ax s' p R'=>R'.back ex a b p) _ ?_;refine⟨_,_,_,obs,⟨⟨BG,DG,tI⟩,⟨D6,λb o e=>p6 b o (pZ _ e),vC (Mx _ _)⟩,λp hp=>⟨p6 _ _ (h.N p hp).1,dP (cW (h.N p hp).1),Mw _ (nV hp)⟩,h.nd,h.off,h.en,h.low,h.lr,h.lo,h.ob,h.nk,h.gens,h.os⟩,⟨rfl,rfl⟩,?_⟩;intro i mv e;have hi:i<k:=by rw[<-Hs];exact(gM e)
 refine cv (hv.2 i mv e) λv' e' vv=>?_;obtain⟨x,hx⟩:∃x,pn[i]?=aa x:=⟨_,ao (H7 D5 hi:)⟩;have rY:names[i]?=aa x:=by rw[<-IA,ix,aP hi] at hx;exact hx
 refine⟨x,rY,.inl ⟨?_,v',?_,vv⟩⟩
 ·exact cz (dS.mp rI _ (aM hx))
 ·exact nJ (IA▸ko (lL ..) m9) i hx e'
theorem gy.of{fa:aX}{oc:aB}{od:ag aX}{OQ:fm (ag aB)}{name qual:dv}{params:pC}{body:af oF}{scope:kO}{dV kV doc pm nY ct:aB}{an:ag aX}{fb:St->ag (MF×St)}
  (n k:ah) (names pn:af dv)
  (ho:g.K.lookup fa=aa ⟨oc,od,.func (lD name qual params body scope dV kV doc pm an nY ct),OQ⟩) (Cd:dN g.K nY qual=true)
  (IA:names.take k=pn) (m9:names.Nodup) (D5:pn.length=k)
  (tm:∀(c:Cx g)(s:aD)(vs:af aB),g.K.In s.heap->vs.length=k->We s (lD name qual params body scope dV kV doc pm an nY ct) ⟨vs,[]⟩ (pn.zip vs))
  (rI:(pn.all λx=>decide (scope.names.lookup x=aa .local))=true) (tq:∀x∈scope.names,x.2≠ .cell)
  (NP:scope.isCoroutine=false) (AD:scope.isGenerator=false) (hk:scope.kind=.function)
  (hb:∀c':Cx g,c'.comp=none->c'.A.handled=none->c'.room=n->c'.names=names->c'.gL=c'.env->c'.env=jm qual scope c'.L fa nY []->ja c' body fb):
  gy g (n+1) fa (mZ k fb):=by
 intro c hc hh mR st vs r H' q ext ρ s eN R hv RR kk;refine fP q ?_;clear q;intro Hs q;refine B6 n k names pn ho Cd IA m9 D5 tm rI tq NP AD hk hh mR Hs R hv λc' e1 e2 e3 e4 e5 e6 e7 back bC R'=>?_;refine ea q ?_;clear q;intro f ax h1 q;cases q
 refine hb c' e1 e2 e3 e4 e5 e6 _ _ ax h1 ext ρ _ R' _ _ λaQ ED bC b8 bW jT=>?_;cases f with
 |ret v=>refine cv jT λv' cP vv=>?_;clear jT;subst cP;exact kk aQ v' bC b8 (back _ _ _ b8 bW) vv
 |_=>have fin:=kk aQ .none bC b8 (back _ _ _ b8 bW) rfl;cases jT;exact fin
theorem nm{N:af dv}{i:ah}{x:dv}(h:c.names=N)(e:N[i]?=aa x:=by rfl):c.names[i]?=aa x:=h▸e
theorem kd{E:ux}{x:dv}{k:NameKind}(h:c.env=E)(e:E.kindOf x=aa k:=by kernel_rfl):c.env.kindOf x=aa k:=h▸e
theorem sw{E:ux}{e:PySem.Expr}{t:ag PySem.Expr}{n:ah}(h:c.env=E)(q:jt e t n E=pure false:=by kernel_rfl):jt e t n c.env=pure false:=h▸q
theorem ia{E:ux}(h:c.env=E)(q:interactive E=false:=by kernel_rfl):interactive c.env=false:=h▸q
theorem ce{E:ux}{f:PySem.Expr}{es:af PySem.Expr}{pos:iP}(h:c.env=E)(q:eval (.Call f es [] pos) E=(do fg pos (<-eval f E) [] (gE pos (dT es E)) (oG pos (jF [] E))):=by kernel_rfl):
  eval (.Call f es [] pos) c.env=(do fg pos (<-eval f c.env) [] (gE pos (dT es c.env)) (oG pos (jF [] c.env))):=h▸q
theorem bp{E:ux}{x:PySem.Expr}(h:c.env=E)(q:∀whole,x8 x E whole=(do let v<-whole;g9 x.pos;holding [v] (truthy v))):∀whole,x8 x c.env whole=(do let v<-whole;g9 x.pos;holding [v] (truthy v)):=h▸q
end fG
namespace fG
open PySem PySem.W PySem.Calls PyProof.Rows
variable{g:Gl}{c:Cx g}{ext:af (aX×d9)}{ρ:af aX}{st:St}{s:aD}
theorem Rel.obj(R:Rel c ext ρ st s){i:ah}{o:av}(e:st.H[i]?=aa o):∃a b,ρ[i]?=aa a/\s.heap.get? a=aa b/\OR g ρ o b:=by refine Rel.el R λh₀ m nm obs h _ _=>?_;clear R;refine xv (h.at e) λa b ha hb r hm=>?_;exact⟨a,b,ha,(h.N _ hm).1,r⟩
theorem Rel.objE{G:Prop}(R:Rel c ext ρ st s){i:ah}{o:av}(e:st.H[i]?=aa o)(k:∀a b,ρ[i]?=aa a->s.heap.get? a=aa b->OR g ρ o b->G):G:=let⟨_,_,ha,hb,r⟩:=R.obj e;k _ _ ha hb r
theorem Rel.jw{G:Prop}(R:Rel c ext ρ st s){i:ah}{o:av}{a:aX}(e:st.H[i]?=aa o)(ha:ρ[i]?=aa a)(k:∀b,s.heap.get? a=aa b->OR g ρ o b->G):G:=R.objE e λa' b JQ hb r=>by rw[ha] at JQ;cases JQ;exact k b hb r
theorem VR.dq{ρ:af aX}{i:ah}{v:aB}{a:aX}(h:VR g ρ (.ref i) v)(e:ρ[i]?=aa a):v=.ref a:=by refine cv h λb q cP=>?_;clear h;subst cP;rw[e] at q;cases q;rfl
theorem Rel.setAt(R:Rel c ext ρ st s){i:ah}{a:aX}{h':jf}{b':d9}{o':av}(tk:ah)(ha:ρ[i]?=aa a)(hs:kn a s.heap h')(hb:h'.get? a=aa b')(ht:∀o,st.H[i]?=aa o->o.tag=o'.tag)(hd:∀d vs d' eN,st.H[i]?=aa (.node d vs)->o'=.node d' eN->d=d')(r:OR g ρ o' b'):
  Rel c ext ρ {st with H:=st.H.set i o'} {s with heap:=h',toks:=tk}:=by
 refine Rel.el R λh₀ m nm obs h na l=>?_;clear R;have hi:i<obs.length:=by have:=(gM ha);rw[h.lo,<-h.lr];exact this
 have N1:obs[i]?=aa obs[i]:=ao hi;refine xv ((h.upd ha N1 b').split) λpre post e1 e2 h1 h2=>?_;have N:=h.N;have z:=N (a,obs[i]) (by rw[e1];simp);refine⟨h₀,m,nm,obs.set i b',h.set (h.F.change hs z.2.1 z.2.2) ?_ ht hd r,na,l⟩;rw[e2];rw[e1] at N;exact news_set N h1 h2 hs hb
theorem Rel.new(R:Rel c ext ρ st s){a:aX}{h':jf}{b:d9}{o:av}(tk:ah)(k:∀b o,s.heap.get? b=aa o->h'.get? b=aa o)(hn:s.heap.get? a=none)(h3:s.heap.objs.size<=a)(ha:h'.get? a=aa b)(hk:∀d vs,o=.node d vs->∃ws,st.H[d]?=aa (.attrs ws))(r:OR g (ρ++[a]) o b):
  Rel c ext (ρ++[a]) {st with H:=st.H++[o]} {s with heap:=h',toks:=tk}:=by
 refine Rel.el R λh₀ m nm obs h na l=>?_;clear R;have F':=h.F.keeps k;have rK:∀p∈ext++ρ.zip obs,p.1≠a:=λp hp e=>by have:=(h.N p hp).1;rw[e,hn] at this;cases this
 refine⟨h₀,m,nm,obs++[b],h.alloc (more:=ext++ρ.zip obs) F' (λp hp=>?_) (λ_ q=>q) rK (fE h.xI h3) hk r,na,l.mono ⟨_,rfl⟩⟩;rcases bE.mp hp with rfl|hp
 ·refine⟨ha,λe=>?_,?_⟩
  ·refine YN h.F.ns λoL _ _ hL _=>?_
   have e':a=c.L:=e;rw[<-e',hn] at hL;cases hL
  ·cases q:h₀.get? a with
   |none=>rfl
   |some o'=>have:=h.F.keep _ _ q;rw[hn] at this;cases this
 ·exact h.N.grown k p hp
theorem yw(h:jf):h.get? h.objs.size=none:=by
 cases q:h.get? h.objs.size with
 |none=>rfl
 |some o=>exact ej (cW q) (fU _)
theorem Rel.push(R:Rel c ext ρ st s){b:d9}{o:av}(tk:ah)(r:OR g (ρ++[s.heap.objs.size]) o b)(hf:b.isFreed=false:=by rfl)(hk:∀d vs,o=.node d vs->∃ws,st.H[d]?=aa (.attrs ws):=by intro _ _ q;cases q):
  Rel c ext (ρ++[s.heap.objs.size]) {st with H:=st.H++[o]} {s with heap:=s.heap.push b,toks:=tk}:=
 R.new tk (λ_ _ e=>bY _ e) (yw _) (cL _) (dR _ hf) hk r
theorem Rel.grow(R:Rel c ext ρ st s){h':jf}(tk:ah)(k:∀b o,s.heap.get? b=aa o->h'.get? b=aa o):Rel c ext ρ st {s with heap:=h',toks:=tk}:=by refine Rel.el R λh₀ m nm obs h na l=>?_;clear R;exact⟨h₀,m,nm,obs,h.grow tk k,na,l⟩
theorem jU{ρ:af aX}{a:aX}{n:ah}(h:n=ρ.length):VR g (ρ++[a]) (.ref n) (.ref a):=⟨a,by subst h;simp,rfl⟩
theorem Rel.len(R:Rel c ext ρ st s):st.H.length=ρ.length:=by refine Rel.el R λh₀ m nm obs h na l=>?_;clear R;exact h.lr.symm
noncomputable def eList(fs:St->ag (af MV×St)):St->ag (MV×St):=λst=>ob (fs st) λvs ax=>if vs.length<=100 then aa (.ref ax.H.length,{ax with H:=ax.H++[.list vs]}) else none
noncomputable def jz(fs:St->ag (af MV×St)):St->ag (MV×St):=λst=>ob (fs st) λvs ax=>if vs.length<=100 then aa (.ref ax.H.length,{ax with H:=ax.H++[.tup vs]}) else none
theorem jG{es:af PySem.Expr}{pos:iP}{fs}(h:tW c es fs):dI c (.List es pos) (eList fs):=by
 intro st v bZ q ext ρ s R Q E k;refine ea q ?_;clear q;intro vs ax h1 q;refine fP q ?_;clear q;intro hl q;cases q
 refine List_ (h st vs ax h1 ext ρ s pos R _ _ λaQ eN bC b8 bW vv=>?_);refine kr (k _ _ _ (b8.trans ⟨_,rfl⟩) (bW.push _ ⟨eN,0,rfl,by exact aaU hl,vv.mono ⟨_,rfl⟩⟩) (jU bW.len)) ?_;show eN.toArray.size<=lE;rw[bN,<-vv.1,fQ];exact aaV hl
theorem ks{es:af PySem.Expr}{n:ah}{pos:iP}{fs}(h:tW c es fs):dI c (.Tuple es n pos) (jz fs):=by
 intro st v bZ q ext ρ s R Q E k;refine ea q ?_;clear q;intro vs ax h1 q;refine fP q ?_;clear q;intro hl q;cases q
 refine Tuple_ (h st vs ax h1 ext ρ s pos R _ _ λaQ eN bC b8 bW vv=>?_);refine kr (k _ _ _ (b8.trans ⟨_,rfl⟩) (bW.push _ ⟨eN,0,rfl,by exact aaU hl,vv.mono ⟨_,rfl⟩⟩) (jU bW.len)) ?_;show eN.toArray.size<=lE;rw[bN,<-vv.1,fQ];exact aaV hl
noncomputable def sv:St->ag (MV×St):=λst=>aa (.ref st.H.length,{st with H:=st.H++[.dict [] 0]})
theorem vK{pos:iP}:dI c (.Dict [] [] pos) sv:=by
 intro st v bZ q ext ρ s R Q E k;cases q
 exact wpAny_Dict_empty (k _ _ _ ⟨_,rfl⟩ (R.push _ ⟨[],rfl,rfl,by simp,eB,λi x h=>by cases h⟩) (jU R.len))
theorem xM:Qj c tru:=by
 intro st a r e ext ρ s a' R va Q E k;cases a with
 |none=>have e:aa false=aa r:=e;cases e;cases va;exact truthy_none (k _ R)
 |bool y=>have e:aa y=aa r:=e;cases e;cases va;exact qo (k _ R)
 |ref i=>
  refine nP e ?_;clear e;intro xs h e;cases e
  refine R.objE (h) λa b ha hb et=>?_;refine eu et λvs n cP hz vv=>?_;clear et;subst cP;rw[va.dq ha];refine Ww (items:=vs.toArray) ⟨_,hb,rfl,n,rfl⟩ (by rw[bN,<-vv.1];lia) ?_;have:(!(vs.toArray).isEmpty)=!xs.isEmpty:=by have hsz:=vv.1;cases xs<;>cases vs<;>first|rfl|cases hsz
  rw[this];exact k _ (R.lF _)
 |_=>exact lR e
end fG
namespace fG
open PySem PySem.W PySem.Calls PyProof.Rows
variable{g:Gl}{c:Cx g}
theorem HR.leave{m:dv->ag aB}{ext:af (aX×d9)}{ρ:af aX}{obs:af d9}{H:af av}{s:aD}{I:aX}{o:d9}(R:HR c h₀ m ((I,o)::ext) ρ obs H s){h':jf}(tk:ah)(k:∀b o,b≠I->s.heap.get? b=aa o->h'.get? b=aa o):
  HR c h₀ m ext ρ obs H {s with heap:=h',toks:=tk}:=by
 have z:=R.N (I,o) (.head _);have en:=R.en;rw[bX,cQ] at en;refine⟨R.G,⟨R.F.ns.at' λo e=>k _ _ (λq=>z.2.1 q.symm) e,λb o e=>k b o (λq=>?_) (R.F.keep b o e),R.F.above⟩,?_,R.nd,λp hp=>R.off p (.tail _ hp),en.2,R.low,R.lr,R.lo,R.ob,R.nk,R.gens,R.os⟩
 ·rw[q,z.2.2] at e;cases e
 ·intro p hp
  have y:=R.N p (.tail _ hp);refine⟨k _ _ (λq=>?_) y.1,y.2⟩;rcases bK.mp hp with hp|hp
  ·exact en.1 (aU.mpr ⟨p,hp,q⟩)
  ·exact R.off (I,o) (.head _) (q▸(gQ (a:=p.1) (b:=p.2) hp).1)
theorem Rel.leave(hc:c.comp=none){ext:af (aX×d9)}{ρ:af aX}{st:St}{s:aD}{I:aX}{o:d9}(R:Rel c ((I,o)::ext) ρ st s){h':jf}(tk:ah)(k:∀b o,b≠I->s.heap.get? b=aa o->h'.get? b=aa o):Rel c ext ρ st {s with heap:=h',toks:=tk}:=by refine Rel.el R λh₀ m nm obs h a b=>?_;clear R;exact⟨h₀,m,nm,obs,h.leave tk k,a.ofFn hc,b⟩
theorem Rel.drop(hc:c.comp=none){ext:af (aX×d9)}{ρ:af aX}{st:St}{s:aD}{p:aX×d9}(R:Rel c (p::ext) ρ st s):Rel c ext ρ st s:=by refine Rel.el R λh₀ m nm obs h a b=>?_;clear R;exact⟨h₀,m,nm,obs,h.drop,a.ofFn hc,b⟩
theorem Rel.change(hc:c.comp=none){ext:af (aX×d9)}{ρ:af aX}{st:St}{s:aD}{I:aX}{o o':d9}(R:Rel c ((I,o)::ext) ρ st s){h':jf}(tk:ah)(k:∀b o,b≠I->s.heap.get? b=aa o->h'.get? b=aa o)(hI:h'.get? I=aa o'):
  Rel c ((I,o')::ext) ρ st {s with heap:=h',toks:=tk}:=by
 refine Rel.el R λh₀ m nm obs h a b=>?_;clear R;exact⟨h₀,m,nm,obs,h.change tk k hI,a.ofFn hc,b⟩
theorem Rel.zJ{ext:af (aX×d9)}{ρ:af aX}{st:St}{s:aD}(R:Rel c ext ρ st s)(tk:ah)(o:d9)(hf:o.isFreed=false:=by rfl):Rel c ((s.heap.objs.size,o)::ext) ρ st {s with heap:=s.heap.push o,toks:=tk}:=by refine Rel.el R λh₀ m nm obs h a b=>?_;clear R;exact⟨h₀,m,nm,obs,h.push tk o hf,a.cons _,b⟩
theorem Rel.Qr{ext:af (aX×d9)}{ρ:af aX}{st:St}{s:aD}{p:aX×d9}(R:Rel c (p::ext) ρ st s):s.heap.get? p.1=aa p.2:=by refine Rel.el R λh₀ m nm obs h a b=>?_;clear R;exact(h.N _ (.head _)).1
theorem Ll{ρ:af aX}:∀(es:af (aE×MV))(ds:af j9),ds.length=es.length->(∀(i:ah) x,es[i]?=aa x->∃e,ds[i]?=aa e/\ER g ρ x e)->
  ∃gs:af (aE×aB),Pairs (eE g.prog g.w) ds gs/\(∀e∈ds,∃k,(eE g.prog g.w).is k e.key=true/\e.hash=(eE g.prog g.w).hash k)/\gs.map (·.1)=es.map (·.1)/\gs.length=es.length/\
   ∀(i:ah) x,es[i]?=aa x->∃v,gs[i]?=aa (x.1,v)/\VR g ρ x.2 v:=by
 intro es
 induction es with
 |nil=>
  intro ds hl _;cases ds with
  |nil=>exact⟨[],.nil,(λ_ h=>nomatch h),rfl,rfl,(λi x h=>nomatch h)⟩
  |cons=>cases hl
 |cons y es ih=>
  intro ds hl h;cases ds with
  |nil=>cases hl
  |cons d ds=>
   refine OS (ih ds (by simpa using hl) λi x hx=>h (i+1) x hx) λgs h1 h2 h3 h4 h5=>?_;obtain⟨e,he,t,e1,e2,e3⟩:=h 0 y rfl;cases(he)
   have hk:(eE g.prog g.w).is y.1 d.key=true:=by rw[e1];show(y.1==y.1)=true;simp
   refine⟨(y.1,d.val)::gs,.cons hk rfl h1,?_,by rw[bX,bX,h3],by rw[cU,cU,h4],?_⟩
   ·intro e he
    rcases bE.mp he with rfl|he
    ·exact⟨y.1,hk,e2⟩
    ·exact h2 e he
   ·intro i x hx
    cases i with
    |zero=>cases hx;exact⟨d.val,rfl,e3⟩
    |succ i=>exact h5 i x hx
theorem eR{ρ:af aX}{es:af (aE×MV)}{ep:ah}{b:d9}{h:jf}{a:aX}(r:OR g ρ (.dict es ep) b)(e:h.get? a=aa b):
  ∃gs:af (aE×aB),h.DictAt (eE g.prog g.w) a gs ep/\gs.length=es.length/\gs.map (·.1)=es.map (·.1)/\∀(i:ah) x,es[i]?=aa x->∃v,gs[i]?=aa (x.1,v)/\VR g ρ x.2 v:=by
 obtain⟨ds,rfl,hl,hz,nd,r⟩:=r;obtain⟨gs,h1,h2,h3,h4,h5⟩:=Ll es ds hl r;refine⟨gs,⟨_,_,e,⟨rfl,rfl,rfl⟩,rfl,λe he=>h2 e (List.mem_toArray.mp he),h1,by rw[h3];exact nd⟩,h4,h3,h5⟩
theorem jW{c:Cx g}{ext ρ st s}(R:Rel c ext ρ st s){i:ah}{a:aX}(ha:ρ[i]?=aa a):(a==sysModules)=false:=by refine Rel.el R λh₀ m nm obs h _ _=>?_;clear R;have h3:=h.low a (aM ha);rw[ef];intro q;have q':a=1:=q;rw[q'] at h3;exact ej h3 (by decide)
set_option genInjectivity false in structure uH(g:Gl)(name:dv):Prop where
 g1:iF g.K 137 name=true
 g2:pG g.K 137=true
 g3:∃attr,gJ g.K (.ref 137) name=aa attr/\noGet g.K attr=true
 s1:gJ g.K (.ref 137) "__setattr__"=aa (aa (.builtin "object.__setattr__"))
 s2:nX g.K 137=true
 s3:sJ g.K 137 name=aa none
set_option genInjectivity false in structure wo(g:Gl)(name:dv)(p i:ah):Prop where
 g1:iF g.K 40 name=true
 g2:Ws g.K 40=true
 g3:gJ g.K (.ref 40) name=aa (aa (.ref p))
 g4:rR g.K (.ref p) "__get__"=aa (aa (.builtin "member_descriptor.__get__"))
 g5:yW g.K (.ref p)=aa true
 g6:slotIn g.K p 40=aa i
 s1:gJ g.K (.ref 40) "__setattr__"=aa (aa (.builtin "object.__setattr__"))
 s2:nX g.K 40=true
 s3:sJ g.K 40 name=aa (aa (.ref p))
 s4:typeIn g.K (.ref p)=aa (.type "member_descriptor")
theorem VR.handed{ρ:af aX}{x:MV}{v:aB}(h:VR g ρ x v):handedIn v=true:=by
 cases x with
 |none=>cases h;rfl
 |bool=>cases h;rfl
 |int=>refine dA h λ_ cP=>?_;clear h;subst cP;rfl
 |bO=>refine dA h λ_ cP=>?_;clear h;subst cP;rfl
 |ref=>refine cv h λ_ _ cP=>?_;clear h;subst cP;rfl
 |old=>cases h;rfl
theorem nD{ρ:af aX}{n n':dv}{x:MV}{e:j9}(h:AR g ρ n x e):e.key.isStr n'=decide (n=n'):=by
 refine cv h λt h1 _=>?_;clear h;rw[h1];show(n==n')=_;by_cases q:n=n'
 ·simp[q]
 ·simp[q]
theorem ve:dF.Nodup:=by decide
theorem xn{i j:ah}{a b:dv}(h1:dF[i]?=aa a)(h2:dF[j]?=aa b)(h:i≠j):a≠b:=by
 rintro rfl
 refine dA (bR.mp h1) λp p'=>?_;refine dA (bR.mp h2) λq q'=>?_;exact h ((i9 (h₀:=p) (h₁:=q) ve).mp (p'.trans q'.symm))
section
variable{ρ:af aX}{vs:af MV}{ds:af j9}
theorem sZ(hl:ds.length=vs.length)(h4:vs.length<=4)(r:∀(i:ah) x nm,vs[i]?=aa x->dF[i]?=aa nm->∃e,ds[i]?=aa e/\AR g ρ nm x e){i:ah}(hi:i<ds.length):
  ∃x nm,vs[i]?=aa x/\dF[i]?=aa nm/\AR g ρ nm x ds[i]:=by
 have hv:i<vs.length:=hl▸hi;have ha:i<dF.length:=fE hv h4;refine cv (r i vs[i] dF[i] (ao hv) (ao ha)) λe he q=>?_;have:ds[i]=e:=by rw[ao hi] at he;exact aR he
 exact⟨vs[i],dF[i],ao hv,ao ha,this▸q⟩
theorem zi(hl:ds.length=vs.length)(h4:vs.length<=4)(r:∀(i:ah) x nm,vs[i]?=aa x->dF[i]?=aa nm->∃e,ds[i]?=aa e/\AR g ρ nm x e){k:ah}{nm:dv}{x:MV}(hn:dF[k]?=aa nm)(hx:vs[k]?=aa x):
  ∃v,getL nm ds=aa (aa v)/\VR g ρ x v:=by
 refine cv (r k x nm hx hn) λe he q=>?_;have hk:k<ds.length:=(gM he);have hf:ds.find? (·.key.isStr nm)=aa e:=by rw[List.find?_eq_some_iff_getElem];refine⟨by rw[nD q];simp,k,hk,(bR.mp he).2,λj hj=>?_⟩;refine eu (sZ hl h4 r (vE hj hk)) λx' pT _ rJ q'=>?_;rw[nD q'];simp[xn rJ hn (dP hj)]
 refine js q λt h1 h2 h3=>?_;clear q;exact⟨e.val,by unfold getL;rw[hf],h3⟩
theorem GW(hl:ds.length=vs.length)(h4:vs.length<=4)(r:∀(i:ah) x nm,vs[i]?=aa x->dF[i]?=aa nm->∃e,ds[i]?=aa e/\AR g ρ nm x e){nm:dv}(hn:dF[vs.length]?=aa nm):∀e∈ds,e.key.isStr nm=false:=by intro e he;obtain⟨i,hi,rfl⟩:=dm he;refine eu (sZ hl h4 r hi) λx' pT _ rJ q'=>?_;rw[nD q'];simp[xn rJ hn (by rw[hl] at hi;exact dP hi)]
end
noncomputable def tD(vs:af MV)(k:ah)(v:MV):ag (af MV):=if k<vs.length then aa (vs.set k v) else if k=vs.length/\k<4 then aa (vs++[v]) else none
theorem putL_new{nm:dv}{h:aE}{key v:aB}:∀{ds:af j9},(∀e∈ds,e.key.isStr nm=false)->putL nm h key v ds=ds++[⟨h,key,v⟩]
 |[],_=>rfl
 |e::ds,q=>by unfold putL;rw[q e (.head _)];simp only[cR,iv];rw[putL_new λe he=>q e (.tail _ he)];rfl
theorem CO{nm:dv}{h:aE}{key v:aB}:∀{ds:af j9}{k:ah}{e:j9},ds[k]?=aa e->e.key.isStr nm=true->(∀j e',j<k->ds[j]?=aa e'->e'.key.isStr nm=false)->putL nm h key v ds=ds.set k ⟨e.hash,e.key,v⟩
 |[],k,e,h1,_,_=>by cases h1
 |d::ds,0,e,h1,h2,_=>by
  cases h1
  unfold putL;rw[h2];simp
 |d::ds,k+1,e,h1,h2,h3=>by unfold putL;rw[h3 0 d (EW _) rfl];simp only[cR,iv];have Df:ds[k]?=aa e:=h1;rw[CO (k:=k) Df h2 λj e' hj he=>h3 (j+1) e' (Nat.succ_lt_succ hj) he];rfl
theorem GX{ρ:af aX}{vs eN:af MV}{ds:af j9}{k:ah}{nm:dv}{v:MV}{v':aB}(hl:ds.length=vs.length)(h4:vs.length<=4)(r:∀(i:ah) x nm,vs[i]?=aa x->dF[i]?=aa nm->∃e,ds[i]?=aa e/\AR g ρ nm x e)
  (hn:dF[k]?=aa nm) (hs:tD vs k v=aa eN) (hv:VR g ρ v v') (tk:Tok) (n:ah):OR g ρ (.attrs eN) (dictOf (putL nm (lB g.w.params nm) (.str nm tk) v' ds) n)/\(getL nm ds).isSome=true/\(putL nm (lB g.w.params nm) (.str nm tk) v' ds).length<=1000:=by
 unfold tD at hs;split at hs
 ·rename_i hk
  cases hs
  have hx:vs[k]?=aa vs[k]:=ao hk;refine cv (r k _ nm hx hn) λe he q=>?_;have hp:=CO (nm:=nm) (h:=lB g.w.params nm) (key:=.str nm tk) (v:=v') he (by rw[nD q];simp) (λj e' hj FX=>by have ug:=(gM FX);refine eu (sZ hl h4 r ug) λx' pT _ rJ q'=>?_;have:ds[j]=e':=(bR.mp FX).2;rw[<-this,nD q'];simp[xn rJ hn (dP hj)])
  rw[hp];refine⟨⟨_,n,rfl,by simp[hl],by simpa using h4,?_⟩,?_,by simp[hl];exact ai9 h4⟩
  ·intro i x pT rY rJ
   by_cases hi:k=i
   ·subst hi
    rw[hn] at rJ;cases(rJ)
    rw[bh hk] at rY;cases rY
    refine js q λt h1 h2 h3=>?_;clear q;exact⟨_,bh (by rw[hl];exact hk),t,h1,h2,hv⟩
   ·rw[aC hi] at rY
    refine cv (r i x pT rY rJ) λe' FX q'=>?_;exact⟨e',by rw[aC hi];exact FX,q'⟩
  ·refine cv (zi hl h4 r hn hx) λw hw _=>?_
   rw[hw];rfl
 ·refine fP hs ?_;clear hs;intro h2 hs
  cases hs
  refine dQ h2 λcP h3=>?_;clear h2;subst cP;have no:=GW hl h4 r hn;rw[putL_new no];refine⟨⟨_,n,rfl,by simp[hl],by simp;exact ai2 h3,?_⟩,?_,by simp[hl];exact ai3 h3⟩
  ·intro i x pT rY rJ
   by_cases hi:i<vs.length
   ·rw[aA hi] at rY
    refine cv (r i x pT rY rJ) λe' FX q'=>?_;exact⟨e',by rw[aA (by rw[hl];exact hi)];exact FX,q'⟩
   ·have he:i=vs.length:=by
     have:=(gM rY);simp at this;exact Lz hi this
    subst he;rw[hn] at rJ;cases(rJ)
    simp at rY;subst rY;exact⟨⟨lB g.w.params nm,.str nm tk,v'⟩,by rw[<-hl];simp,tk,rfl,rfl,hv⟩
  ·unfold getL
   have:ds.find? (·.key.isStr nm)=none:=by rw[tM];intro e he;rw[no e he];decide
   rw[this];have:ds.any (·.refKey)=false:=by rw[jP];intro e he;obtain⟨i,hi,rfl⟩:=dm he;refine eu (sZ hl h4 r hi) λx' pT _ rJ eX=>?_;refine cv eX λt q' _=>?_;clear eX;unfold ES;rw[q'];simp
   rw[this];rfl
noncomputable def mH(k:ah)(a:MV)(H:af av):ag MV:=vX a λi=>og av.is H[i]? λd=>og av.as H[d]? λvs=>vs[k]?
noncomputable def xD(k:ah)(a v:MV)(H:af av):ag (af av):=vX a λi=>og av.is H[i]? λd=>og av.as H[d]? λvs=>ot (tD vs k v) λeN=>aa (H.set d (.attrs eN))
theorem NA{name:dv}{k:ah}(kf:uH g name)(hn:dF[k]?=aa name){a v:MV}{ext ρ st s}{a':aB}(e:mH k a st.H=aa v)(R:Rel c ext ρ st s)(ha:VR g ρ a a'){Q:aB->aD->Prop}{E:aB->aD->Prop}{A:eD}{expr:cj}
  (kk:∀v' s',Rel c ext ρ st s'->VR g ρ v v'->Q v' s'):bg g.M A (om a' name expr) Q E s:=by
 refine jL e ?_;clear e;intro i hv e;subst hv;refine CH e ?_;clear e;intro d h1 e;refine CG e ?_;clear e;intro vs h2 e;refine R.objE (h1) λx bx hx Hr et=>?_;refine cv et λda Bs cP=>?_;clear et;subst cP;refine R.jw (h2) (Bs) λbd JR et=>?_;refine xv et λds n cP hl h4 r=>?_;clear et;subst cP;refine cv (zi hl h4 r hn e) λw hw vw=>?_;rw[ha.dq hx];refine cv kf.g3 λattr h3 SQ=>?_;refine Rel.el R λh₀ m nm obs h _ _=>?_;exact get_own h.F h.G.X ⟨Hr,rfl,rfl,JR⟩ kf.g1 kf.g2 h3 SQ hw vw.handed (kk w _ (R.lF _) vw)
theorem Pr{name:dv}{k:ah}(kf:uH g name)(hn:dF[k]?=aa name){a v:MV}{H':af av}{ext ρ st s}{a' v':aB}(e:xD k a v st.H=aa H')(R:Rel c ext ρ st s)(ha:VR g ρ a a')(hv:VR g ρ v v'){Q:xX->aD->Prop}{E:aB->aD->Prop}{A:eD}
  (kk:∀s',Rel c ext ρ {st with H:=H'} s'->Q ⟨⟩ s'):bg g.M A (setAttr a' name v') Q E s:=by
 refine jL e ?_;clear e;intro i hv e;subst hv;refine CH e ?_;clear e;intro d h1 e;refine CG e ?_;clear e;intro vs h2 e;refine eh e ?_;clear e;intro eN h3 e;cases e
 refine Rel.el R λh₀ m nm obs h na l=>?_;obtain⟨x,bx,hx,XT,⟨da,Bs,rfl⟩,XO⟩:=h.at h1;obtain⟨dx,bd,hdx,ag3,⟨ds,n,rfl,hl,h4,r⟩,hmd⟩:=h.at h2;rw[Bs] at hdx;cases hdx
 rw[ha.dq hx];refine fD (GX hl h4 r hn h3 hv (s.toks+1) (putN name ds n)) λo1 o2 o3=>?_;refine set_dict h.F h.G.X h.N ⟨(h.N _ XO).1,rfl,rfl,(h.N _ hmd).1⟩ rfl kf.s1 kf.s2 kf.s3 kf.g2 o2 rfl (h.upd Bs ag3 _) o3 λh' F' N'=>kk _ ?_;exact⟨h₀,m,nm,_,h.set F' N' (λo q=>by rw[h2] at q;cases q;rfl) (λ_ _ _ _ _ q=>by cases q) o1,na,l⟩
end fG
namespace fG
open PySem PySem.W PySem.Calls PyProof.Rows
variable{g:Gl}{c:Cx g}
noncomputable def rA(vs:af (ag MV))(k:ah)(v:MV):af (ag MV):=(vs++eC (k+1-vs.length) none).set k (aa v)
noncomputable def sy(k:ah)(a:MV)(H:af av):ag MV:=vX a λi=>oh av.nd H[i]? λ_ vs=>ot vs[k]? λw=>w
noncomputable def yF(k:ah)(a v:MV)(H:af av):ag (af av):=vX a λi=>oh av.nd H[i]? λd vs=>if k<3 then aa (H.set i (.node d (rA vs k v))) else none
theorem NB{name:dv}{p k:ah}(kf:wo g name p k){a v:MV}{ext ρ st s}{a':aB}(e:sy k a st.H=aa v)(R:Rel c ext ρ st s)(ha:VR g ρ a a'){Q:aB->aD->Prop}{E:aB->aD->Prop}{A:eD}{expr:cj}
  (kk:∀v' s',Rel c ext ρ st s'->VR g ρ v v'->Q v' s'):bg g.M A (om a' name expr) Q E s:=by
 refine jL e ?_;clear e;intro i hv e;subst hv;refine QX e ?_;clear e;intro d vs h1 e;refine eh e ?_;clear e;intro w h2 e;cases e
 refine R.objE (h1) λx bx hx Hr et=>?_;refine HS et λsl da Bs cP hl h3 r=>?_;clear et;subst cP;refine Rel.el R λh₀ m nm obs h _ _=>?_;refine dA (h.nk i d vs h1) λws hws=>?_;refine R.jw (hws) (Bs) λbd JR _=>?_;refine cv (r k _ h2) λy hy eX=>?_;refine cv eX λw' cP vw=>?_;clear eX;subst cP;rw[ha.dq hx];refine get_slot (od:=bd) h.F h.G.X ⟨Hr,rfl,rfl,JR⟩ kf.g1 kf.g2 kf.g3 kf.g4 kf.g5 kf.g6 ?_ vw.handed (kk w' _ (R.lF _) vw);show((sl.toArray)[k]?).join=aa w';simp[hy]
theorem Ep{ρ:af aX}{vs:af (ag MV)}{sl:af (ag aB)}{k:ah}{v:MV}{v':aB}(hk:k<3)(hl:sl.length=vs.length)(h3:vs.length<=3)(r:∀(i:ah) x,vs[i]?=aa x->∃y,sl[i]?=aa y/\RH g ρ x y)(hv:VR g ρ v v'):
  ((sl.toArray++Array.replicate (k+1-sl.toArray.size) none).setIfInBounds k (aa v')=n8 ((sl++eC (k+1-sl.length) none).set k (aa v')))/\
  ((sl++eC (k+1-sl.length) none).set k (aa v')).length=(rA vs k v).length/\(rA vs k v).length<=3/\
  ∀(i:ah) x,(rA vs k v)[i]?=aa x->∃y,((sl++eC (k+1-sl.length) none).set k (aa v'))[i]?=aa y/\RH g ρ x y:=by
 unfold rA;refine⟨by apply Array.ext';simp[Array.toList_setIfInBounds],by simp[hl],by simp;exact alb hk h3,?_⟩;intro i x hx;by_cases hi:k=i
 ·subst hi
  rw[bh (by simp;exact ad2)] at hx;cases hx
  exact⟨_,bh (by simp;exact ad2),v',rfl,hv⟩
 ·rw[aC hi] at hx⊢
  by_cases Tb:i<vs.length
  ·rw[aA Tb] at hx
   rw[aA (by rw[hl];exact Tb)];exact r i x hx
  ·rw[aY (O4 Tb:)] at hx
   rw[aY (ak2 hl Tb:)];rw[Dd] at hx⊢;rw[hl];refine fP hx ?_;clear hx;intro eY hx;cases hx
   rw[aP eY];exact⟨none,rfl,rfl⟩
theorem Pt{name:dv}{p k:ah}(kf:wo g name p k){a v:MV}{H':af av}{ext ρ st s}{a' v':aB}(e:yF k a v st.H=aa H')(R:Rel c ext ρ st s)(ha:VR g ρ a a')(hv:VR g ρ v v'){Q:xX->aD->Prop}{E:aB->aD->Prop}{A:eD}
  (kk:∀s',Rel c ext ρ {st with H:=H'} s'->Q ⟨⟩ s'):bg g.M A (setAttr a' name v') Q E s:=by
 refine jL e ?_;clear e;intro i hv e;subst hv;refine QX e ?_;clear e;intro d vs h1 e;refine fP e ?_;clear e;intro hk e;cases e
 refine Rel.el R λh₀ m nm obs h na l=>?_;obtain⟨x,bx,hx,XT,⟨sl,da,Bs,rfl,hl,h3,r⟩,XO⟩:=h.at h1;refine dA (h.nk i d vs h1) λws hws=>?_;refine R.jw (hws) (Bs) λbd JR _=>?_;rw[ha.dq hx];refine oS (Ep hk hl h3 r hv) λo1 o2 o3 o4=>?_;refine set_slot (od:=bd) h.F h.G.X h.N ⟨(h.N _ XO).1,rfl,rfl,JR⟩ kf.s1 kf.s2 kf.s3 kf.s4 kf.g6 (ai0 hk:) rfl rfl (h.upd hx XT _) λh' F' N'=>kk _ ?_;refine⟨h₀,m,nm,_,h.set F' N' (λo q=>by rw[h1] at q;cases q;rfl) (λao8 ao4 ao9 ao5 q q'=>by rw[h1] at q;cases(q);cases(q');rfl) ?_,na,l⟩
 exact⟨_,da,Bs,by rw[o1],o2,o3,o4⟩
noncomputable def Fg(c:Cx g)(name:dv)(gf:MV->af av->ag MV):Prop:=
 ∀(a v:MV) ext ρ st s(a':aB),gf a st.H=aa v->Rel c ext ρ st s->VR g ρ a a'->∀(Q:aB->aD->Prop)(E:aB->aD->Prop)(A:eD)(expr:cj),
  (∀v' s',Rel c ext ρ st s'->VR g ρ v v'->Q v' s')->bg g.M A (om a' name expr) Q E s
noncomputable def Fu(c:Cx g)(name:dv)(sf:MV->MV->af av->ag (af av)):Prop:=
 ∀(a v:MV) H' ext ρ st s(a' v':aB),sf a v st.H=aa H'->Rel c ext ρ st s->VR g ρ a a'->VR g ρ v v'->∀(Q:xX->aD->Prop)(E:aB->aD->Prop)(A:eD),
  (∀s',Rel c ext ρ {st with H:=H'} s'->Q ⟨⟩ s')->bg g.M A (setAttr a' name v') Q E s
theorem kD{name:dv}(k:ah)(kf:uH g name)(hn:dF[k]?=aa name):Fg c name (mH k):=λa v ext ρ st s a' e R ha Q E A expr kk=>NA kf hn e R ha kk
theorem qw{name:dv}{p:ah}(k:ah)(kf:wo g name p k):Fg c name (sy k):=λa v ext ρ st s a' e R ha Q E A expr kk=>NB kf e R ha kk
theorem uY{name:dv}(k:ah)(kf:uH g name)(hn:dF[k]?=aa name):Fu c name (xD k):=λa v H' ext ρ st s a' v' e R ha hv Q E A kk=>Pr kf hn e R ha hv kk
theorem xE{name:dv}{p:ah}(k:ah)(kf:wo g name p k):Fu c name (yF k):=λa v H' ext ρ st s a' v' e R ha hv Q E A kk=>Pt kf e R ha hv kk
noncomputable def gX(gf:MV->af av->ag MV)(f:St->ag (MV×St)):St->ag (MV×St):=λst=>ob (f st) λa ax=>ot (gf a ax.H) λv=>aa (v,ax)
theorem fV{name:dv}{e:PySem.Expr}{pos:iP}{gf f}(hg:Fg c name gf)(hf:dI c e f)
  (he:eval (.Attribute e name pos) c.env=(do
   let o<-eval e c.env
   g9 pos.atName
   let r<-holding [o] (om o name true)
   uD e o r
   pure r)):dI c (.Attribute e name pos) (gX gf f):=by
 intro st v bZ q ext ρ s R Q E k;refine ea q ?_;clear q;intro a ax h1 q;refine eh q ?_;clear q;intro w h2 q;cases q
 exact Attribute_any_ (hf st a bZ h1 ext ρ s R _ _ λaQ a' bC b8 bW va=>hg a v ext aQ bZ bC a' h2 bW va _ _ _ _ λv' dn dh vv=>k aQ v' dn b8 dh vv) he
noncomputable def iV(sf:MV->MV->af av->ag (af av))(fo fv:St->ag (MV×St)):St->ag (MF×St):=λst=>ob (fv st) λv ax=>ob (fo ax) λa cH=>ot (sf a v cH.H) λH=>aa (.next,{cH with H:=H})
theorem iQ{name:dv}{o e:PySem.Expr}{p p':iP}{sf fo fv}(hs:Fu c name sf)(ho:dI c o fo)(hv:dI c e fv)(Tx:jt e (aa (.Attribute o name p)) p'.line c.env=pure false):
  oo c (.Assign [.Attribute o name p] e p') (iV sf fo fv):=by
 intro st r bZ q ext ρ s R Q E k;refine ea q ?_;clear q;intro v ax h1 q;refine ea q ?_;clear q;intro a cH h2 q;refine eh q ?_;clear q;intro H h3 q;cases q
 refine plainObj_wpAny_Assign_Attribute (hv st v ax h1 ext ρ s R _ _ λaQ v' bC b8 bW vv=>ho ax a cH h2 ext aQ bC bW _ _ λcy a' dn dG dh va=>?_) Tx;exact hs a v H ext cy cH dn a' v' h3 dh va (vv.mono dG) _ _ _ λeS gI=>k cy _ eS (b8.trans dG) gI rfl
noncomputable def X9(op:jY)(a b:MV):ag MV:=@pF (λ_=>ag MV) (AW a λx=>AW b λy=>aa (.int (x+y))) (AW a λx=>AW b λy=>aa (.int (x-y))) none none none none none none none none none none none op
theorem TM{op:jY}{a b r:MV}(e:X9 op a b=aa r){ρ:af aX}{a' b':aB}(ha:VR g ρ a a')(hb:VR g ρ b b'){Q:aB->aD->Prop}{E:aB->aD->Prop}{s:aD}{A:eD}
  (k:∀tk v,VR g ρ r v->Q v {s with toks:=tk}):bg g.M A (inplaceOp op a' b') Q E s:=by
 cases op with
 |Add=>refine mr e ?_;clear e;intro x hx e;subst hx;refine mr e ?_;clear e;intro y hy e;subst hy;exact dA ha λt ha=>dA hb λu hb=>by rw[ha,hb];exact agg (k _ _ (aR e▸⟨_,rfl⟩))
 |Sub=>refine mr e ?_;clear e;intro x hx e;subst hx;refine mr e ?_;clear e;intro y hy e;subst hy;exact dA ha λt ha=>dA hb λu hb=>by rw[ha,hb];exact agh (k _ _ (aR e▸⟨_,rfl⟩))
 |_=>exact lR e
noncomputable def Ig(op:jY)(gf:MV->af av->ag MV)(sf:MV->MV->af av->ag (af av))(fo fv:St->ag (MV×St)):St->ag (MF×St):=λst=>ob (fo st) λa ax=>ot (gf a ax.H) λold=>ob (fv ax) λv cH=>ot (X9 op old v) λw=>ot (sf a w cH.H) λH=>aa (.next,{cH with H:=H})
theorem Ft{name:dv}{op:jY}{o e:PySem.Expr}{p p':iP}{gf sf fo fv}(hg:Fg c name gf)(hs:Fu c name sf)(ho:dI c o fo)(hv:dI c e fv):oo c (.AugAssign (.Attribute o name p) op e p') (Ig op gf sf fo fv):=by
 intro st r bZ q ext ρ s R Q E k;refine ea q ?_;clear q;intro a ax h1 q;refine eh q ?_;clear q;intro old h2 q;refine ea q ?_;clear q;intro v cH h3 q;refine eh q ?_;clear q;intro w h4 q;refine eh q ?_;clear q;intro H h5 q;cases q
 refine wpAny_AugAssign_AttributeAny (ho st a ax h1 ext ρ s R _ _ λaQ a' bC b8 bW va=>hg a old ext aQ ax bC a' h2 bW va _ _ _ _ λapb dn dh vo=>hv ax v cH h3 ext aQ dn dh _ _ λcy v' eS dG gI vv=>?_);refine TM h4 (vo.mono dG) vv λtk w' vw=>?_;exact hs a w H ext cy cH _ a' w' h5 (gI.lF _) (va.mono dG) vw _ _ _ λow nA=>k cy _ ow (b8.trans dG) nA rfl
theorem ae{E:ux}{e:PySem.Expr}{name:dv}{pos:iP}(h:c.env=E)(q:eval (.Attribute e name pos) E=(do
   let o<-eval e E
   g9 pos.atName
   let r<-holding [o] (om o name true)
   uD e o r
   pure r):=by kernel_rfl):eval (.Attribute e name pos) c.env=(do
   let o<-eval e c.env
   g9 pos.atName
   let r<-holding [o] (om o name true)
   uD e o r
   pure r):=h▸q
noncomputable def idx(xs:af MV)(k:aE):ag MV:=if 0<=k then xs[k.toNat]? else if 0<=k+xs.length then xs[(k+xs.length).toNat]? else none
noncomputable def Xc(o:av)(k:aE):ag MV:=av.pr (λxs=>idx xs k) (λxs=>idx xs k) (λes _=>es.lookup k) n1 n1 n1 n2 n2 n1 n1 o
noncomputable def ND(o i:MV)(H:af av):ag MV:=vX o λl=>AW i λk=>ot H[l]? λx=>Xc x k
noncomputable def isSlice:PySem.Expr->cj
 |.Slice .. =>true
 |_=>false
theorem tG{sl:PySem.Expr}{o i:aB}(h:isSlice sl=false):subscripted sl false o i=operate [o,i] (getItem o i):=by cases sl<;>first|rfl|cases h
theorem Kc{ρ:af aX}{xs:af MV}{vs:af aB}{k:aE}{v:MV}(h:iD g ρ xs vs)(hl:xs.length<=1000)(e:idx xs k=aa v):
  ∃j v',seqIndex? k vs.toArray.size=aa j/\vs.toArray[j]?=aa v'/\VR g ρ v v'/\ -(2^63)<=k/\k<2^63:=by
 have hs:vs.toArray.size=xs.length:=by rw[bN,h.1]
 refine Wa e (λh0 e=>?_) λh0 e=>fP e λh1 e=>?_
 ·have eY:=(gM e)
  refine cv (h.2 _ _ e) λv' e' r=>?_;exact⟨_,v',seqIndex_of h0 (aat hs eY:),by simpa using e',r,by lia,by lia⟩
 ·have eY:=(gM e)
  refine cv (h.2 _ _ e) λv' e' r=>?_;refine⟨_,v',PySem.seqIndex_neg (q37 h0:) (UH hs h1:),?_,r,by lia,by lia⟩;rw[hs];simpa using e'
theorem ml{ρ:af aX}:∀(es:af (aE×MV))(gs:af (aE×aB))(k:aE),gs.length=es.length->(∀(i:ah) x,es[i]?=aa x->∃v,gs[i]?=aa (x.1,v)/\VR g ρ x.2 v)->
  match es.lookup k with
  |some x=>∃v,qn gs k=aa v/\VR g ρ x v
  |none=>qn gs k=none:=by
 intro es
 induction es with
 |nil=>
  intro gs k hl _;cases gs with
  |nil=>rfl
  |cons=>cases hl
 |cons y es ih=>
  intro gs k hl h;cases gs with
  |nil=>cases hl
  |cons z gs=>
   refine cv (h 0 y rfl) λv e r=>?_;cases e
   obtain⟨y1,y2⟩:=y;rw[mD];by_cases hk:k=y1
   ·subst hk
    simp only[afG];exact⟨v,by simp[qn],r⟩
   ·have:(k==y1)=false:=by simpa using hk
    rw[this];have QH:=ih gs k (by simpa using hl) λi x hx=>h (i+1) x hx;have e2:qn ((y1,v)::gs) k=qn gs k:=by unfold qn;rw[List.find?_cons_of_neg (by simpa usingλq=>hk q.symm)]
    show match es.lookup k with
     |some x=>∃v',qn ((y1,v)::gs) k=aa v'/\VR g ρ x v'
     |none=>qn ((y1,v)::gs) k=none
    rw[e2];exact QH
theorem NF{o i v:MV}{ext ρ st s}{o' i':aB}(e:ND o i st.H=aa v)(R:Rel c ext ρ st s)(ho:VR g ρ o o')(hi:VR g ρ i i'){Q:aB->aD->Prop}{E:aB->aD->Prop}{A:eD}
  (kk:∀v' s',Rel c ext ρ st s'->VR g ρ v v'->Q v' s'):∃T id,s.TypeIs o' T/\VQ (.type T) "__getitem__"=pure (aa (.builtin id))/\bg g.M A (getItem o' i') Q E s:=by
 refine jL e ?_;clear e;intro l hv e;subst hv;refine mr e ?_;clear e;intro k hv e;subst hv;refine dA hi λt cP=>?_;clear hi;subst cP;refine eh e ?_;clear e;intro x h1 e;refine R.objE h1 λa b ha hb et=>?_;rw[ho.dq ha];cases x with
 |list xs=>
  refine eu et λvs n cP hz vv=>?_;clear et;subst cP;refine HS (Kc vv hz e) λj v' e1 e2 r h3 h4=>?_;have hl:s.heap.IsList a vs.toArray:=⟨_,hb,rfl,n,rfl⟩;refine⟨"list",_,hl.typeIs,Wv.lookup,?_⟩;have hs:vs.toArray.size=xs.length:=by rw[bN,vv.1]
  refine Wa (show(if 0<=k then _ else _)=_ from e) (λh0 e=>?_) λh0 e=>fP e λh1 e=>?_
  ·refine wpAny_getItem_list hl h0 h4 (x:=v') ?_ (kk v' s R r)
   refine cv (vv.2 _ _ e) λw q _=>?_;have eY:=(gM e);rw[seqIndex_of h0 (aat hs eY:)] at e1;cases e1;exact e2
  ·rw[PySem.seqIndex_neg (q37 h0:) (UH hs h1:)] at e1
   cases e1
   exact wpAny_getItem_list_neg hl (q37 h0:) (UH hs h1:) h3 e2 (kk v' s R r)
 |tup xs=>refine eu et λvs n cP hz vv=>?_;clear et;subst cP;refine HS (Kc vv hz e) λj v' e1 e2 r h3 h4=>?_;have hl:IsTup s.heap a vs.toArray:=⟨_,hb,rfl,n,rfl⟩;exact⟨"tuple",_,hl.typeIs,slot_tuple_getitem.lookup,age hl h3 h4 e1 e2 (kk v' s R r)⟩
 |dict es ep=>refine lT (eR et hb) λgs D ma JY rX=>?_;have hf:=ml es gs k ma rX;rw[show es.lookup k=aa v from e] at hf;refine cv hf λv' e' vv=>?_;clear hf;exact⟨"dict",_,D.dictOf.typeIs,slot_dict_getitem.lookup,wpAny_getItem_of (knd:=eE g.prog g.w) (k:=k) (by show(k==k)=true;simp) D.dictOf.mapOf e' (kk v' _ (R.lF _) vv)⟩
 |_=>exact lR e
noncomputable def fw(f f':St->ag (MV×St)):St->ag (MV×St):=λst=>ob (f st) λa ax=>ob (f' ax) λb cH=>ot (ND a b cH.H) λr=>aa (r,cH)
theorem fF{x i:PySem.Expr}{pos:iP}{f f'}(hx:dI c x f)(hi:dI c i f')(hs:isSlice i=false):dI c (.Subscript x i pos) (fw f f'):=by
 intro st v bZ q ext ρ s R Q E k;refine ea q ?_;clear q;intro a ax h1 q;refine ea q ?_;clear q;intro b cH h2 q;refine eh q ?_;clear q;intro r h3 q;cases q
 refine Subscript_ (hx st a ax h1 ext ρ s R _ _ λaQ a' bC b8 bW va=>hi ax b bZ h2 ext aQ bC bW _ _ λcy b' dn dG dh vb=>?_);refine eu (NF (A:=c.A) (E:=E) (Q:=Q) h3 dh (va.mono dG) vb λv' eS gI vv=>k cy v' eS (b8.trans dG) gI vv) λT id t1 t2 t3=>?_;exact tail_any t1 t2 t3 (tG hs)
noncomputable def wO{α:Type}(l:af α)(lo hi:ag aE):af α:=(l.drop (kms_lo lo l.length)).take (kms_hi hi l.length-kms_lo lo l.length)
theorem Nd{ρ:af aX}{xs:af MV}{vs:af aB}(h:iD g ρ xs vs)(lo hi:ag aE):iD g ρ (wO xs lo hi) (kms_pick vs lo hi):=by unfold wO kms_pick;rw[h.1];refine⟨by simp[h.1],λi x e=>?_⟩;rw[ix] at e⊢;refine fP e ?_;clear e;intro eY e;rw[tO] at e;refine cv (h.2 _ _ e) λv e' r=>?_;exact⟨v,by rw[aP eY,tO];exact e',r⟩
theorem Jp{α:Type}(l:af α)(lo hi:ag aE):(wO l lo hi).length<=l.length:=by unfold wO;simp;exact acP
noncomputable def HQ(sns:af aE):af MV:=sns.map MV.int
theorem Gh{ρ:af aX}:∀{vs:af aB}{ns:af aE},IntsAre vs ns->iD g ρ (HQ ns) vs
 |_,_,.nil=>iD.nil
 |_,_,.cons n t h=>iD.cons ⟨t,rfl⟩ (Gh h)
noncomputable def sliceOf(sns:af aE)(o:MV)(H:af av):ag (af MV):=@MV.rec (λ_=>ag (af MV)) none (λ_=>none) (λ_=>none) (λ_=>none) (λl=>og av.ls H[l]? aa) (if sns.length<=1000 then aa (HQ sns) else none) o
theorem EI{o:MV}{xs:af MV}{ext ρ st s}{o':aB}(e:sliceOf g.sns o st.H=aa xs)(R:Rel c ext ρ st s)(ho:VR g ρ o o'):∃a vs,o'=.ref a/\s.heap.IsList a (n8 vs)/\iD g ρ xs vs/\xs.length<=1000:=by
 cases o with
 |ref l=>
  refine nP e ?_;clear e;intro ys h1 e;cases e
  refine R.objE (h1) λa b ha hb et=>?_;refine eu et λvs n cP hz vv=>?_;clear et;subst cP;exact⟨a,vs,ho.dq ha,⟨_,hb,rfl,n,rfl⟩,vv,hz⟩
 |old=>
  refine fP e ?_;clear e;intro hl e;cases e
  cases ho
  refine Rel.el R λh₀ m nm obs h _ _=>?_;clear R;exact⟨g.sa,g.svs,rfl,h.G.S.at λo e=>h.F.keep _ _ e,Gh c.SI,by simpa[HQ] using hl⟩
 |_=>exact lR e
noncomputable def pU(f:ag (St->ag (MV×St))):St->ag (ag aE×St):=@ji _ (λ_=>St->ag (ag aE×St)) (λst=>aa (none,st)) (λf st=>ob (f st) λv bZ=>AW v λi=>aa (aa i,bZ)) f
noncomputable def MT(c:Cx g)(e:ag PySem.Expr)(f:St->ag (ag aE×St)):Prop:=
 ∀st v bZ,f st=aa (v,bZ)->∀ext ρ s,Rel c ext ρ st s->∀(Q:aB->aD->Prop)(E:aB->aD->Prop),
  (∀d7 v' s',ρ<+:d7->Rel c ext d7 bZ s'->IsPart v' v->Q v' s')->bg g.M c.A (evalPart e c.env) Q E s
theorem Du:MT c none (pU none):=by
 intro st v bZ q ext ρ s R Q E k;cases q
 rw[evalPart_none];exact bA (k ρ _ s a9 R .none)
theorem Dv{e:PySem.Expr}{f}(h:dI c e f):MT c (aa e) (pU (aa f)):=by
 intro st v bZ q ext ρ s R Q E k;refine ea (show ob (f st) (λv bZ=>AW v λi=>aa (aa i,bZ))=_ from q) ?_;clear q;intro w ax h1 q;refine mr q ?_;clear q;intro i hw q;subst hw;cases q
 rw[evalPart_some];refine h st _ bZ h1 ext ρ s R _ _ λaQ xP bC b8 bW jT=>?_;refine dA jT λt cP=>?_;clear jT;subst cP;exact k aQ _ bC b8 bW (.int _ _)
noncomputable def pM(sns:af aE)(f:St->ag (MV×St))(fl fu:St->ag (ag aE×St)):St->ag (MV×St):=λst=>ob (f st) λa ax=>ob (fl ax) λlo cH=>ob (fu cH) λhi ed=>ot (sliceOf sns a ed.H) λxs=>aa (.ref ed.H.length,{ed with H:=ed.H++[.list (wO xs lo hi)]})
theorem zV{x:PySem.Expr}{l u:ag PySem.Expr}{p pos:iP}{f fl fu}(hx:dI c x f)(hl:MT c l fl)(hu:MT c u fu):dI c (.Subscript x (.Slice l u none p) pos) (pM g.sns f fl fu):=by
 intro st v bZ q ext ρ s R Q E k;refine ea q ?_;clear q;intro a ax h1 q;refine ea q ?_;clear q;intro lo cH h2 q;refine ea q ?_;clear q;intro hi ed h3 q;refine eh q ?_;clear q;intro xs h4 q;cases q
 refine Subscript_ (hx st a ax h1 ext ρ s R _ _ λaQ a' bC b8 bW va=>wpAny_Slice (hl ax lo cH h2 ext aQ bC bW _ _ λcy l' dn dG dh pl=>hu cH hi ed h3 ext cy dn dh _ _ λiH u' eS iU gI pu=>?_));rw[evalPart_none];refine bA ?_;have nA:=gI.grow eS.toks (h':=eS.heap.push {cls:=.type "slice",data:=.fields #[l',u',.none]}) λ_ _ e=>bY _ e;refine xv (EI h4 nA ((va.mono dG).mono iU)) λad vs cP hL vv hz=>?_;subst cP;refine tail_any hL.typeIs Wv.lookup (wpAny_getItem_list_slice hL (Wk ..) pl pu .none (by simp) ?_ ?_) (ops:=[.ref eS.heap.objs.size,.ref ad]) rfl
 ·refine k _ _ _ (((b8.trans dG).trans iU).trans ⟨_,rfl⟩) (nA.push eS.toks (o:=.list (wO xs lo hi)) ?_) (jU nA.len)
  refine⟨kms_pick vs lo hi,0,by rw[kms_pick_eq],fA (Jp ..) hz,(Nd vv lo hi).mono ⟨_,rfl⟩⟩
 ·rw[bN,<-vv.1,fQ];exact Es hz
noncomputable def ub(es:af (aE×MV))(ep:ah)(k:aE)(v:MV):av:=if es.any (λkv=>decide (kv.1=k)) then .dict (es.map λkv=>if kv.1=k then(kv.1,v) else kv) ep else .dict (es++[(k,v)]) (ep+1)
theorem pv{ρ:af aX}{h:jf}{a:aX}{gs:af (aE×aB)}{ep:ah}{es:af (aE×MV)}(D:h.DictAt (eE g.prog g.w) a gs ep)(hl:gs.length=es.length)(hz:es.length<=1000)
  (hv:∀(i:ah) x,es[i]?=aa x->∃v,gs[i]?=aa (x.1,v)/\VR g ρ x.2 v):∃b,h.get? a=aa b/\OR g ρ (.dict es ep) b:=by
 obtain⟨o,ds,ho,⟨h1,h2,h3⟩,hd,hk,hp,hn⟩:=D;obtain⟨cl,od,dt,sl⟩:=o;simp only at h1 h2 h3 hd;subst h1 h2 h3 hd;have hm:es.map (·.1)=gs.map (·.1):=by
  apply List.ext_getElem?;intro i;rw[b9,b9];cases q:es[i]? with
  |none=>
   have:gs[i]?=none:=by rw[fj] at q⊢;exact ak1 hl q
   rw[this];rfl
  |some x=>refine cv (hv i x q) λv e _=>?_;rw[e];rfl
 refine⟨_,ho,ds.toList,rfl,hp.length.trans hl,hz,by rw[hm];exact hn,?_⟩;have key:∀{ds:af j9}{gs:af (aE×aB)},Pairs (eE g.prog g.w) ds gs->(∀e∈ds,∃k,(eE g.prog g.w).is k e.key=true/\e.hash=(eE g.prog g.w).hash k)->∀(i:ah) k v,gs[i]?=aa (k,v)->∃e t,ds[i]?=aa e/\e.key=.int k t/\e.hash=hashInt k/\e.val=v:=by
  intro ds gs P
  induction P with
  |nil=>intro _ i k v e;cases e
  |@cons e kv ds gs p1 p2 _ ih=>
   intro hk i k v q;cases i with
   |zero=>
    cases q
    refine dA (oY p1) λt ht=>?_;refine cv (hk e (.head _)) λk' hk1 hk2=>?_;have:k'=k:=by refine dA (oY hk1) λt' MD=>?_;rw[ht] at MD;cases MD;rfl
    subst this;exact⟨e,t,rfl,ht,hk2,p2⟩
   |succ i=>exact ih (λe he=>hk e (.tail _ he)) i k v q
 intro i x hx;refine cv (hv i x hx) λv e r=>?_;refine xv (key hp (λe he=>hk e (EO.mp he)) i x.1 v e) λen t e1 e2 e3 e4=>?_;exact⟨en,e1,t,e2,e3,e4▸r⟩
section
variable{prog:kp}{w:wc}{K:Type}[Bv K]{knd:KeyKind prog w K}{A:eD}{E:aB->aD->Prop}{s:aD}{d:aX}{gs:af (K×aB)}{ep:ah}{k:K}{key v:aB}
theorem B4(hm:s.heap.DictAt knd d gs ep):∀{es:fm j9},Pairs knd es.toList gs->(es.findIdx? λe=>knd.is k e.key).isSome=gs.any λkv=>decide (kv.1=k):=by
 intro es hp;have NV:(es.findIdx? λe=>knd.is k e.key)=gs.findIdx? λkv=>decide (kv.1=k):=by rw[<-hp.findIdx k];obtain⟨l⟩:=es;simp
 rw[NV,GK]
theorem EH{Q:xX->aD->Prop}(rH:knd.is k key=true)(hm:s.heap.DictAt knd d gs ep)
  (hQ:∀h',h'.DictAt knd d (stored gs k v) (if gs.any (λkv=>decide (kv.1=k)) then ep else ep+1)->kn d s.heap h'->Q ⟨⟩ {s with heap:=h',toks:=s.toks+1})
  (hsz:gs.length<=lE):bg (model prog w) A (setItem (.ref d) key v) Q E s:=by
 have hT:s.TypeIs (.ref d) "dict":=hm.dictOf.typeIs;unfold setItem
 try with_reducible refine cN ?_
 refine aw (wpAny_sequenceKey hT (by decide) ?_);refine aw (rS (name:=ic "__setitem__") hT Wu
  (kW Wu hT entry_dict_setitem ?_ (args_dict_setitem _ _ _)))
 show bg _ _ (af4 "__setitem__" ⟨[.ref d,key,v],[]⟩>>=_) _ _ s;refine aw (MO hT ?_);show bg _ _ (yU d key v>>=_) _ _ s;refine aw (ie (Q:=λ_ s'=>Q ⟨⟩ s') ?_ (λ_ s' h'=>bA ⟨.none,rfl,bA h'⟩) λ_ _ x=>x);refine OT (id hm) λo es ho hc hd hk hp hn=>?_;have Xz:es.size<=lE:=by
  have e1:=hp.length;have e2:es.toList.length=es.size:=by simp
  exact UW hsz e1 e2
 unfold yU
 try with_reducible refine cN ?_
 refine aw (knd.pyHash rH ?_);unfold dictSetHashed
 try with_reducible refine cN ?_
 refine aw (yZ (s:={s with toks:=s.toks+1}) rH ho hd hk ?_);have NR:=B4 (k:=k) hm hp;cases hi:es.findIdx? λe=>knd.is k e.key with
 |some i=>
  rw[hi] at NR;have oP:(gs.any λkv=>decide (kv.1=k))=true:=NR.symm;refine aw (yb (aw (afO (s:={s with toks:=s.toks+1}) ho hd (wpAny_point (hQ _ ⟨_,_,gm _ ho (kN (qk hd _)),
   hc.mapDict _,?_,hk.modify i v,?_,?_⟩ (eO ..))))))
  ·rw[aP oP];exact qk hd _
  ·rw[stored,aP oP]
   have hl:(es.toList.findIdx? λe=>knd.is k e.key)=aa i:=by rw[<-hi];obtain⟨l⟩:=es;simp
   have:=hp.modify hn hl v;obtain⟨l⟩:=es;simpa using this
  ·rw[stored,aP oP,keys_map_store];exact hn
 |none=>
  rw[hi] at NR;have oP:¬(gs.any λkv=>decide (kv.1=k))=true:=by rw[<-NR];decide
  have Tj:k∉gs.map (·.1):=λq=>by refine cv (aU.mp q) λkv rX e=>?_;exact oP (v5.mpr ⟨kv,rX,cM e⟩)
  refine aw (yb (uF (hz:=Xz) (s:={s with toks:=s.toks+1}) ho hd (hQ _ ⟨_,_,gm _ ho (kN (iN hd _)),
   hc.mapDictKeys _,?_,hk.push rH v,?_,?_⟩ (eO ..))))
  ·rw[aZ oP];exact iN hd _
  ·rw[stored,aZ oP]
   have:=hp.append rH (knd.hash k) v;obtain⟨l⟩:=es;simpa using this
  ·rw[stored,aZ oP,d4,gN]
   refine⟨hn,by simp,?_⟩;intro a ha b hb;simp only[bX,Dk,bT] at hb;subst hb;exactλe=>Tj (e▸ha)
end
section
variable{prog:kp}{w:wc}{K:Type}[Bv K]{knd:KeyKind prog w K}{A:eD}{E:aB->aD->Prop}{s:aD}{d:aX}{gs:af (K×aB)}{ep:ah}{k:K}{key v:aB}
theorem delItem_at{Q:xX->aD->Prop}(rH:knd.is k key=true)(hm:s.heap.DictAt knd d gs ep)(D9:(qn gs k).isSome=true)
  (hQ:∀h',h'.DictAt knd d (without gs k) (ep+1)->kn d s.heap h'->Q ⟨⟩ {s with heap:=h',toks:=s.toks+1})
  (hsz:gs.length<=lE):bg (model prog w) A (delItem (.ref d) key) Q E s:=by
 have hT:s.TypeIs (.ref d) "dict":=hm.dictOf.typeIs;refine wpAny_delItem_slot hT (by decide) MI (kW MI hT F.entry_dict_delitem ?_ (F.args_dict_delitem_2 _ _));unfold nZ.«dict.__delitem__»;refine aw ?_;unfold af3;refine aw (MO hT ?_);show bg _ _ (pure (aq d,key)) _ _ s;refine bA ?_;show bg _ _ (yf d key>>=_) _ _ s;refine OT (id hm) λo es ho hc hd hk hp hn=>?_;have Xz:es.size<=lE:=by
  have e1:=hp.length;have e2:es.toList.length=es.size:=by simp
  exact UW hsz e1 e2
 refine aw ?_;unfold yf
 try with_reducible refine cN ?_
 refine aw (knd.pyHash rH ?_);refine aw (yZ (s:={s with toks:=s.toks+1}) rH ho hd hk ?_);cases hi:es.findIdx? λe=>knd.is k e.key with
 |none=>
  exfalso;rw[<-hp.find k] at D9;have:(es.toList.find? λe=>knd.is k e.key)=none:=by rw[tM];intro e he;have:=Array.findIdx?_eq_none_iff.mp hi e (EO.mp he);simpa using this
  rw[this] at D9;cases D9
 |some i=>
  have hl:(es.toList.findIdx? λe=>knd.is k e.key)=aa i:=by rw[<-hi];obtain⟨l⟩:=es;simp
  refine js (hp.at hl) λe he hek hev=>?_;refine aw (wpAny_dictEntries (s:={s with toks:=s.toks+1}) ho hd ?_);have FX:es[i]?=aa e:=by rw[<-he];obtain⟨l⟩:=es;simp
  rw[FX];refine aw (uF (hz:=Xz) (s:={s with toks:=s.toks+1}) ho hd (bA ?_));refine aw (wpAny_letGo (bA ⟨.none,rfl,hQ _ ⟨_,_,gm _ ho (kN (iN hd _)),
   hc.mapDictKeys _,iN hd _,hk.erase _,?_,nodup_without hn k⟩ (eO ..)⟩))
  have:=hp.erase hn hl;obtain⟨l⟩:=es;simpa using this
end
theorem I9{ρ:af aX}{es:af (aE×MV)}{gs:af (aE×aB)}(hm:gs.map (·.1)=es.map (·.1))(k:aE):(gs.any λkv=>decide (kv.1=k))=es.any λkv=>decide (kv.1=k):=by
 have e1:∀{α:Type}(l:af (aE×α)),(l.any λkv=>decide (kv.1=k))=(l.map (·.1)).any λx=>decide (x=k):=λl=>by rw[List.any_map];rfl
 rw[e1,e1,hm]
noncomputable def vt(o i v:MV)(H:af av):ag (af av):=vX o λl=>AW i λk=>oh av.dc H[l]? λes ep=>if es.length<1000 then aa (H.set l (ub es ep k v)) else none
theorem BX(es:af (aE×MV))(ep:ah)(k:aE)(v:MV):(ub es ep k v).tag=2:=by unfold ub;split<;>rfl
theorem Gy{o i v:MV}{H':af av}{ext ρ st s}{o' i' v':aB}(e:vt o i v st.H=aa H')(R:Rel c ext ρ st s)(ho:VR g ρ o o')(hi:VR g ρ i i')(hv:VR g ρ v v'){Q:xX->aD->Prop}{E:aB->aD->Prop}{A:eD}
  (kk:∀s',Rel c ext ρ {st with H:=H'} s'->Q ⟨⟩ s'):bg g.M A (setItem o' i' v') Q E s:=by
 refine jL e ?_;clear e;intro l hv e;subst hv;refine mr e ?_;clear e;intro k hv e;subst hv;refine dA hi λt cP=>?_;clear hi;subst cP;refine uV e ?_;clear e;intro es ep h1 e;refine fP e ?_;clear e;intro eY e;cases e
 refine R.objE (h1) λa b ha hb r=>?_;rw[ho.dq ha];refine lT (eR r hb) λgs D ma JY rX=>?_;refine EH (knd:=eE g.prog g.w) (k:=k) (by show(k==k)=true;simp) D (λh' D' hs=>?_) (by rw[ma,fQ];exact Uz eY);have oP:=I9 (ρ:=ρ) JY k;have:∃b',h'.get? a=aa b'/\OR g ρ (ub es ep k v) b':=by
  unfold stored at D';unfold ub;rw[oP] at D';split
  ·rename_i hp
   rw[aP hp,aP hp] at D';refine pv D' (by simp[ma]) (by simp;exact adT eY) λi x hx=>?_;rw[b9] at hx;cases q:es[i]? with
   |none=>rw[q] at hx;cases hx
   |some y=>
    rw[q] at hx;refine cv (rX i y q) λw e1 r1=>?_;rw[b9,e1];simp only[Mq,Bx] at hx⊢;subst hx;by_cases hy:y.1=k
    ·simp only[aP hy];exact⟨v',rfl,hv⟩
    ·simp only[aZ hy];exact⟨w,rfl,r1⟩
  ·rename_i hp
   rw[aZ hp,aZ hp] at D';refine pv D' (by simp[ma]) (by simp;exact OZ eY) λi x hx=>?_;by_cases hi:i<es.length
   ·rw[aA hi] at hx
    refine cv (rX i x hx) λw e1 r1=>?_;exact⟨w,by rw[aA (H7 ma hi:)];exact e1,r1⟩
   ·have NU:i=es.length:=by
     have:=(gM hx);simp at this;exact Lz hi this
    subst NU;simp at hx;subst hx;exact⟨v',by rw[<-ma];simp,hv⟩
 refine cv this λb' oQ r'=>?_;clear this;exact kk _ (R.setAt _ ha hs oQ (λo q=>by rw[h1] at q;cases q;rw[BX];rfl) (λ_ _ _ _ q=>by rw[h1] at q;cases q) r')
noncomputable def Nh(o i:MV)(H:af av):ag (af av):=vX o λl=>AW i λk=>oh av.dc H[l]? λes ep=>ot (es.lookup k) λ_=>aa (H.set l (.dict (es.filter λkv=>decide (kv.1≠k)) (ep+1)))
theorem Hi{ρ:af aX}(k:aE):∀(es:af (aE×MV))(gs:af (aE×aB)),gs.length=es.length->(∀(i:ah) x,es[i]?=aa x->∃v,gs[i]?=aa (x.1,v)/\VR g ρ x.2 v)->
  (gs.filter λkv=>decide (kv.1≠k)).length=(es.filter λkv=>decide (kv.1≠k)).length/\∀(i:ah) x,(es.filter λkv=>decide (kv.1≠k))[i]?=aa x->∃v,(gs.filter λkv=>decide (kv.1≠k))[i]?=aa (x.1,v)/\VR g ρ x.2 v:=by
 intro es
 induction es with
 |nil=>
  intro gs hl _;cases gs with
  |nil=>exact⟨rfl,λi x h=>nomatch h⟩
  |cons=>cases hl
 |cons y es ih=>
  intro gs hl h;cases gs with
  |nil=>cases hl
  |cons z gs=>
   refine cv (h 0 y rfl) λv e r=>?_;cases e
   refine dQ (ih gs (by simpa using hl) λi x hx=>h (i+1) x hx) λh1 h2=>?_;by_cases hk:y.1=k
   ·simp only[qe,hk,ne_eq,not_true_eq_false,decide_false,cR,iv]
    exact⟨h1,h2⟩
   ·simp only[qe,hk,ne_eq,not_false_eq_true,decide_true,kU]
    refine⟨by simpa using h1,λi x hx=>?_⟩;cases i with
    |zero=>cases hx;exact⟨v,rfl,r⟩
    |succ i=>exact h2 i x hx
theorem Ni{o i:MV}{H':af av}{ext ρ st s}{o' i':aB}(e:Nh o i st.H=aa H')(R:Rel c ext ρ st s)(ho:VR g ρ o o')(hi:VR g ρ i i'){Q:xX->aD->Prop}{E:aB->aD->Prop}{A:eD}
  (kk:∀s',Rel c ext ρ {st with H:=H'} s'->Q ⟨⟩ s'):bg g.M A (delItem o' i') Q E s:=by
 refine jL e ?_;clear e;intro l hv e;subst hv;refine mr e ?_;clear e;intro k hv e;subst hv;refine dA hi λt cP=>?_;clear hi;subst cP;refine uV e ?_;clear e;intro es ep h1 e;refine eh e ?_;clear e;intro w hw e;cases e
 refine R.objE (h1) λa b ha hb r=>?_;have hz:es.length<=1000:=by refine lT r λ_ _ _ hz _=>?_;clear r;exact hz
 rw[ho.dq ha];refine lT (eR r hb) λgs D ma JY rX=>?_;have hf:=ml es gs k ma rX;rw[hw] at hf;refine cv hf λv' e' vv=>?_;clear hf;refine delItem_at (knd:=eE g.prog g.w) (k:=k) (by show(k==k)=true;simp) D (by rw[e'];rfl) (λh' D' hs=>?_) (by rw[ma,fQ];exact Es hz);refine dQ (Hi k es gs ma rX) λf1 f2=>?_;refine cv (pv D' f1 (fA (jE ..) hz) f2) λb' oQ r'=>?_;exact kk _ (R.setAt _ ha hs oQ (λo q=>by rw[h1] at q;cases q;rfl) (λ_ _ _ _ q=>by rw[h1] at q;cases q) r')
noncomputable def zP(fo fi fv:St->ag (MV×St)):St->ag (MF×St):=λst=>ob (fv st) λv ax=>ob (fo ax) λa cH=>ob (fi cH) λi ed=>ot (vt a i v ed.H) λH=>aa (.next,{ed with H:=H})
theorem DA{o i e:PySem.Expr}{p p':iP}{fo fi fv}(ho:dI c o fo)(hi:dI c i fi)(hv:dI c e fv)(Tx:jt e (aa (.Subscript o i p)) p'.line c.env=pure false):
  oo c (.Assign [.Subscript o i p] e p') (zP fo fi fv):=by
 intro st r bZ q ext ρ s R Q E k;refine ea q ?_;clear q;intro v ax h1 q;refine ea q ?_;clear q;intro a cH h2 q;refine ea q ?_;clear q;intro b ed h3 q;refine eh q ?_;clear q;intro H h4 q;cases q
 refine wpAny_Assign_Subscript (hv st v ax h1 ext ρ s R _ _ λaQ v' bC b8 bW vv=>ho ax a cH h2 ext aQ bC bW _ _ λcy a' dn dG dh va=>hi cH b ed h3 ext cy dn dh _ _ λiH b' eS iU gI vb=>?_) Tx;exact Gy h4 gI (va.mono iU) vb ((vv.mono dG).mono iU) λow nA=>k iH _ ow ((b8.trans dG).trans iU) nA rfl
noncomputable def Vn(fo fi:St->ag (MV×St)):St->ag (MF×St):=λst=>ob (fo st) λa cH=>ob (fi cH) λi ed=>ot (Nh a i ed.H) λH=>aa (.next,{ed with H:=H})
theorem WG{o i:PySem.Expr}{p p':iP}{fo fi}(ho:dI c o fo)(hi:dI c i fi):oo c (.Delete [.Subscript o i p] p') (Vn fo fi):=by
 intro st r bZ q ext ρ s R Q E k;refine ea q ?_;clear q;intro a cH h2 q;refine ea q ?_;clear q;intro b ed h3 q;refine eh q ?_;clear q;intro H h4 q;cases q
 refine wpAny_Delete (wpAny_deleteEach_cons ?_);rw[arm_delete_Subscript];refine aw (ho st a cH h2 ext ρ s R _ _ λcy a' dn dG dh va=>aw (cN (hi cH b ed h3 ext cy dn dh _ _ λiH b' eS iU gI vb=>aw (jh (aw (cN ?_))))));exact Ni h4 gI (va.mono iU) vb λow nA=>wpAny_release (wpAny_deleteEach_nil (k iH _ ow (dG.trans iU) nA rfl))
noncomputable def L1:ah->Bn
 |0=>"list"
 |1=>"tuple"
 |2=>"dict"
 |3=>"set"
 |_=>""
theorem Bd{ρ:af aX}{o:av}{b:d9}(r:OR g ρ o b)(h:o.tag<4):b.cls=.type (L1 o.tag)/\b.dict=none:=by
 cases o with
 |list xs=>refine uq r λ_ _ cP _=>?_;clear r;subst cP;exact⟨rfl,rfl⟩
 |tup xs=>refine uq r λ_ _ cP _=>?_;clear r;subst cP;exact⟨rfl,rfl⟩
 |dict es ep=>refine cv r λ_ cP _=>?_;clear r;subst cP;exact⟨rfl,rfl⟩
 |set xs=>obtain⟨⟨h1,h2,h3⟩,_⟩:=r.1 g.prog g.w;exact⟨h1,h2⟩
 |inst=>exact ej h (by show¬4<4;exact ajB)
 |attrs=>exact ej h (by show¬5<4;exact q12)
 |node=>exact ej h (by show¬6<4;exact q13)
 |iter=>exact ej h (by show¬7<4;exact Q3)
 |bound=>exact ej h (by show¬8<4;exact q15)
 |cell=>exact ej h (by show¬9<4;exact q16)
 |dead=>exact ej h (by show¬7<4;exact Q3)
noncomputable def iT(tg:ah)(bf:af MV->af av->ag (MV×af av))(fo:St->ag (MV×St))(fs:St->ag (af MV×St)):St->ag (MV×St):=λst=>HO (fo st) λi ax=>ot ax.H[i]? λo=>if o.tag=tg then ob (fs ax) λvs cH=>ob (bf (.ref i::vs) cH.H) λr H=>aa (r,{cH with H:=H}) else none
theorem kK{o:PySem.Expr}{name:dv}{apos pos:iP}{es:af PySem.Expr}{id:Bn}{pl:Sem cj}{fo fs bf}(tg:ah)(ht:tg<4)(pa:PlainAttrs (L1 tg))(slot:Slot (L1 tg) name id)(hty:Bq (.builtin id)=pure (.type "method_descriptor"))
  (ho:dI c o fo) (hp:gH es=true) (hA:tW c es fs) (hb:gj c (.builtin id) bf)
  (he:eval (.Call (.Attribute o name apos) es [] pos) c.env=(do
   let ov<-eval o c.env
   g9 apos.atName
   let(f,first)<-holding [ov] (mi ov name pl)
   fg pos f first (gE pos (dT es c.env)) [])):
  dI c (.Call (.Attribute o name apos) es [] pos) (iT tg bf fo fs):=by
 intro st v bZ q ext ρ s R Q E k;refine p8 q ?_;clear q;intro i ax h1 q;refine eh q ?_;clear q;intro ob h2 q;refine fP q ?_;clear q;intro h3 q;refine ea q ?_;clear q;intro vs cH h4 q;refine ea q ?_;clear q;intro r H h5 q;cases q
 refine uz (pl:=pl) (ho st _ ax h1 ext ρ s R _ _ λaQ a' bC b8 bW va=>?_) he;refine bW.objE (h2) λa b ha hbb r=>?_;rw[va.dq ha];refine dQ (Bd r (h3▸ht)) λt1 t2=>?_;rw[h3] at t1;refine yV ⟨b,hbb,t1⟩ pa slot hty (λa'' e=>by cases e;exact⟨b,hbb,t2⟩) ?_;refine afH (mz hp) ?_;refine mW hp hA h4 bW λcy eN dn dG dh vv=>?_;exact hb cH _ v H h5 ext cy dn _ dh (iD.cons ⟨a,bj dG ha,rfl⟩ vv) _ _ λiH v' eS iU gI Ao=>k iH v' eS ((b8.trans dG).trans iU) gI Ao
theorem me{E:ux}{o:PySem.Expr}{name:dv}{apos pos:iP}{es:af PySem.Expr}{pl:Sem cj}(h:c.env=E)(q:eval (.Call (.Attribute o name apos) es [] pos) E=(do
   let ov<-eval o E
   g9 apos.atName
   let(f,first)<-holding [ov] (mi ov name pl)
   fg pos f first (gE pos (dT es E)) [])):eval (.Call (.Attribute o name apos) es [] pos) c.env=(do
   let ov<-eval o c.env
   g9 apos.atName
   let(f,first)<-holding [ov] (mi ov name pl)
   fg pos f first (gE pos (dT es c.env)) []):=h▸q
noncomputable def fx:af MV->af av->ag (MV×af av):=λvs H=>a2 vs λi x=>og av.ls H[i]? λxs=>if xs.length<1000 then aa (.none,H.set i (.list (xs++[x]))) else none
theorem iD.append{ρ:af aX}{xs ys:af MV}{vs ws:af aB}(h:iD g ρ xs vs)(h':iD g ρ ys ws):iD g ρ (xs++ys) (vs++ws):=by
 refine⟨by simp[h.1,h'.1],λi x e=>?_⟩;by_cases hi:i<xs.length
 ·rw[aA hi] at e
  rw[aA (h.1▸hi)];exact h.2 i x e
 ·rw[aY (O4 hi:)] at e
  rw[aY (by rw[<-h.1];exact O4 hi),<-h.1];exact h'.2 _ x e
theorem jV:gj c (.builtin "list.append") fx:=by
 intro st vs r H' q ext ρ s eN R hv Q E k;refine WL q ?_;clear q;intro i x hv q;subst hv;refine nP q ?_;clear q;intro xs h1 q;refine fP q ?_;clear q;intro hl q;cases q
 obtain⟨v0,ws,rfl,r0,hv⟩:=hv.inv;obtain⟨v1,ws,rfl,r1,hv⟩:=hv.inv;cases hv.mJ
 refine R.objE (h1) λa b ha hb et=>?_;refine eu et λys n cP hz vv=>?_;clear et;subst cP;rw[r0.dq ha];refine append_at hb (λh' hs vl=>k ρ _ _ a9 (R.setAt s.toks ha hs vl (λo q=>by rw[h1] at q;cases q;rfl) (λ_ _ _ _ q=>by rw[h1] at q;cases q) ?_) rfl) (by rw[bN,<-vv.1,fQ];exact Uz hl)
 exact⟨ys++[v1],n+1,by simp,by simp;exact OZ hl,vv.append (iD.cons r1 iD.nil)⟩
noncomputable def OB:af MV->af av->ag (MV×af av):=λvs H=>a1 vs λi=>og av.ls H[i]? λxs=>ot xs.getLast? λx=>aa (x,H.set i (.list xs.dropLast))
theorem Lg:gj c (.builtin "list.pop") OB:=by
 intro st vs r H' q ext ρ s eN R hv Q E k;refine BO q ?_;clear q;intro i hv q;subst hv;refine nP q ?_;clear q;intro xs h1 q;refine eh q ?_;clear q;intro x hx q;cases q
 obtain⟨v0,ws,rfl,r0,hv⟩:=hv.inv;cases hv.mJ
 refine R.objE (h1) λa b ha hb et=>?_;refine eu et λys n cP hz vv=>?_;clear et;subst cP;rw[r0.dq ha];rw[Bk] at hx;refine cv (vv.2 _ _ hx) λy hy ry=>?_;have hlen:=vv.1;have xd:0<xs.length:=by have:=(gM hx);exact aiV this
 have hsz:ys.toArray.size<=lE:=by rw[bN,<-hlen,fQ];exact Es hz
 have hy':ys.toArray[ys.toArray.size-1]?=aa y:=by rw[bN,<-hlen];simpa using hy
 have IB:=PySem.IsL.update (n:=n) hb λxs=>xs.eraseIdxIfInBounds (ys.toArray.size-1);refine VM PySem.F.slot_list_pop ⟨_,hb,rfl⟩ PySem.F.entry_list_pop (PySem.F.args_list_pop_1 _) (PySem.MeetsSeq.list_pop_last a _ n y hy' hsz) ⟨hb,?_⟩;refine k ρ _ _ a9 (R.setAt s.toks ha (eO ..) IB (λo q=>by rw[h1] at q;cases q;rfl) (λ_ _ _ _ q=>by rw[h1] at q;cases q) ?_) ry
 have XM:ys=ys.dropLast++[y]:=by
  have:ys.getLast?=aa y:=by rw[Bk,<-hlen];exact hy
  refine dA (List.getLast?_eq_some_iff.mp this) λrK hg=>?_;rw[hg];simp
 refine⟨ys.dropLast,(if((ys.toArray.eraseIdxIfInBounds (ys.toArray.size-1)).size==ys.toArray.size)=true then n else n+1),?_,by simp;exact ai6 hz,by simp[hlen],λj z hj=>?_⟩
 ·have e1:ys.toArray.eraseIdxIfInBounds (ys.toArray.size-1)=ys.dropLast.toArray:=by
   rw[bN];rw[XM];rw[show(ys.dropLast++[y]).length-1=ys.dropLast.length by simp,kl_erase,kR];simp
  rw[e1]
 ·rw[List.getElem?_dropLast] at hj⊢
  refine fP hj ?_;clear hj;intro eY hj;refine cv (vv.2 j z hj) λw hw rw'=>?_;exact⟨w,by rw[aP (alv hlen eY:)];exact hw,rw'⟩
noncomputable def Ee:af MV->af av->ag (MV×af av):=λvs H=>a1 vs λi=>og av.ls H[i]? λ_=>aa (.none,H.set i (.list []))
theorem Lb:gj c (.builtin "list.clear") Ee:=by
 intro st vs r H' q ext ρ s eN R hv Q E k;refine BO q ?_;clear q;intro i hv q;subst hv;refine nP q ?_;clear q;intro xs h1 q;cases q
 obtain⟨v0,ws,rfl,r0,hv⟩:=hv.inv;cases hv.mJ
 refine R.objE (h1) λa b ha hb et=>?_;refine eu et λys n cP hz vv=>?_;clear et;subst cP;rw[r0.dq ha];have hsz:ys.toArray.size<=lE:=by rw[bN,<-vv.1,fQ];exact Es hz
 have IB:=PySem.IsL.update (n:=n) hb λ_=> #[];refine VM PySem.F.slot_list_clear ⟨_,hb,rfl⟩ PySem.F.entry_list_clear (PySem.F.args_list_clear_1 _) (PySem.AutoSeq1.list_clear_list_0 a _ n hsz) ⟨hb,?_⟩;refine k ρ _ _ a9 (R.setAt s.toks ha (eO ..) IB (λo q=>by rw[h1] at q;cases q;rfl) (λ_ _ _ _ q=>by rw[h1] at q;cases q) ?_) rfl
 exact⟨[],_,rfl,by simp,iD.nil⟩
noncomputable def KL:af MV->af av->ag (MV×af av):=λvs H=>WM vs λi k=>oh av.dc H[i]? λes _=>aa ((es.lookup k).getD .none,H)
theorem Lc:gj c (.builtin "dict.get") KL:=by
 intro st vs r H' q ext ρ s eN R hv Q E k;refine I5 q ?_;clear q;intro i ky hv q;subst hv;refine uV q ?_;clear q;intro es ep h1 q;cases q
 refine eu hv.inv λv0 ws cP r0 sL=>?_;subst cP;obtain⟨v1,ws,rfl,⟨t,rfl⟩,ID⟩:=sL.inv;cases ID.mJ
 refine R.objE (h1) λa b ha hb r=>?_;rw[r0.dq ha];refine lT (eR r hb) λgs D ma JY rX=>?_;have hf:=ml es gs ky ma rX;refine Mt Bi D.dictOf.typeIs F.entry_dict_get (F.args_dict_get_2 _ _) (meets_dict_get (eE g.prog g.w) a (k:=ky) (by show(ky==ky)=true;simp) (jW R ha)) ⟨_,D.dictOf.mapOf,?_⟩;refine k ρ _ _ a9 (R.lF _) ?_;split at hf
 ·rename_i x hx
  refine cv hf λv e r=>?_;clear hf;rw[hx,e];exact r
 ·rename_i hx
  rw[hx,hf];rfl
noncomputable def KI:af MV->af av->ag (MV×af av):=λvs H=>WM vs λi k=>og av.st H[i]? λxs=>if xs.length<1000 then aa (.none,H.set i (.set (if xs.contains k then xs else k::xs))) else none
theorem Ur:gj c (.builtin "set.add") KI:=by
 intro st vs r H' q ext ρ s eN R hv Q E k;refine I5 q ?_;clear q;intro i ky hv q;subst hv;refine YL q ?_;clear q;intro xs h1 q;refine fP q ?_;clear q;intro eY q;cases q
 refine eu hv.inv λv0 ws cP r0 sL=>?_;subst cP;obtain⟨v1,ws,rfl,⟨t,rfl⟩,ID⟩:=sL.inv;cases ID.mJ
 refine R.objE (h1) λa b ha hb et=>?_;refine fD et λhS hz m9=>?_;clear et;rw[r0.dq ha];refine call_set_add (knd:=eE g.prog g.w) (k:=ky) (by show(ky==ky)=true;simp) rfl ((hS g.prog g.w).setOf hb (by unfold IQ;exact aiY eY)) (by unfold IQ;exact aiX eY) λh' hs Qx=>?_;refine cv Qx.objOf λso hso hO=>?_;refine k ρ _ _ a9 (R.setAt _ ha hs hso (λo q=>by rw[h1] at q;cases q;rfl) (λ_ _ _ _ q=>by rw[h1] at q;cases q) ?_) rfl
 have VZ:=hO.intSetOf;by_cases hc:xs.contains ky=true
 ·rw[aP hc]
  rw[aP hc] at VZ;refine⟨?_,hz,m9⟩;have:(λk'=>xs.contains k'||decide (k'=ky))=λk'=>xs.contains k':=by
   funext k';by_cases e:k'=ky
   ·subst e;rw[hc];rfl
   ·rw[dO e,Bool.or_false]
  rw[this] at VZ;exact VZ
 ·rw[aZ hc]
  rw[aZ hc] at VZ;refine⟨?_,by simp;exact OZ eY,by rw[cQ];exact⟨λq=>hc (gp.mpr q),m9⟩⟩;have:(λk'=>xs.contains k'||decide (k'=ky))=λk'=>(ky::xs).contains k':=by funext k';rw[List.contains_cons,Bool.or_comm];rfl
  rw[this] at VZ;exact VZ
noncomputable def QN:af MV->af av->ag (MV×af av):=λvs H=>@dC MV (λ_=>ag (MV×af av)) (aa (.ref H.length,H++[.set []])) (λ_ _ _=>none) vs
theorem OM:gj c (.type "set") QN:=by
 intro st vs r H' q ext ρ s eN R hv Q E k;cases vs with
 |nil=>
  have q:aa (MV.ref st.H.length,st.H++[av.set []])=aa (r,H'):=q;cases q
  cases hv.mJ
  refine call_set_0 λled=>k _ _ _ ⟨_,rfl⟩ (R.push s.toks ?_) (jU R.len);exact⟨intSetOf_fresh led,by simp,eB⟩
 |cons=>exact lR q
theorem yJ(l:aX)(items:fm aB)(n:ah)(x:aB)(e:aB->cj)(j:ah)(hj:items.toList.findIdx? e=aa j):
  Meets (nZ.«tuple.index» ⟨[.ref l,x],[]⟩)
   (λA R s=>s.heap.get? l=aa {cls:=.type "tuple",dict:=none,data:=.seq items n,slots:= #[]}/\(∀y,y∈items->PySem.SeqAt.EqAt A.in1 s y x (e y))/\R (.ok (.ret (.int j s.toks))) {s with toks:=s.toks+1}):=
 .of_wp λprog w A R s h=>by
  obtain⟨hp,g,d,tk,os⟩:=s;obtain⟨hl,he,h⟩:=h;obtain⟨QA,hje,V4⟩:=List.findIdx?_eq_some_iff_getElem.mp hj;have XG:j<items.size:=by simpa using QA
  unfold nZ.«tuple.index»;simp only[Rn]
  wp_walk using AutoSeq1.wpAny_loadPart' hl,wpAny_forIn_list _ (λrest b s'=>b.1=none/\s'=⟨hp,g,d,tk,os⟩/\∃i k,rest=List.range' i k/\i+k=items.size/\i<=j) _
  case turn=>
   rintro i' rest b s' ⟨hb,rfl,i,k,e1,e2,e3⟩
   cases k with
   |zero=>cases e1
   |succ k=>
    rw[MH] at e1;cases(e1)
    have hi:i'<items.size:=by exact alr XG e3
    rw[Array.getElem?_eq_getElem hi];refine aw (he _ (Array.getElem_mem hi) prog w _ _ ?_);by_cases tr:i'=j
    ·subst tr
     have:e items[i']=true:=by simpa using hje
     rw[this]
     wp_walk
     exact⟨_,rfl,h⟩
    ·have:e items[i']=false:=by
      have:=V4 i' (aj6 e3 tr:);simpa using this
     rw[this]
     wp_walk
     exact⟨rfl,rfl,i'+1,k,rfl,by exact ad7 e2,by exact aci e3 tr⟩
  case fin=>
   rintro b s' ⟨hb,rfl,i,k,e1,e2,e3⟩
   exfalso;cases k with
   |zero=>exact akU XG e3 e2
   |succ k=>rw[MH] at e1;cases e1
  case h=>refine⟨rfl,rfl,0,items.size,?_,by exact ajh,by exact ajk⟩;simp[RD]
noncomputable def allI(xs:af MV):cj:=xs.all λx=>x.it.isSome
noncomputable def AU:af MV->af av->ag (MV×af av):=λvs H=>WM vs λi k=>og av.tp H[i]? λxs=>if allI xs=true then ot (xs.findIdx? (λx=>decide (x=.int k))) λj=>aa (.int j,H) else none
noncomputable def DR(k:aE):aB->cj
 |.int i _=>i==k
 |_=>false
theorem I8{x:MV}{xs:af MV}(h:allI (x::xs)=true){P:Prop}(k:∀i,x=.int i->allI xs=true->P):P:=by
 have h:=(d6 _ _).mp (show(x.it.isSome&&allI xs)=true from h);cases q:x.it with
 |none=>have:=h.1;rw[q] at this;exact nomatch this
 |some i=>exact k i (TP q) h.2
theorem uN{ρ:af aX}(k:aE){xs:af MV}:∀{vs:af aB},iD g ρ xs vs->allI xs=true->vs.findIdx? (DR k)=xs.findIdx? (λx=>decide (x=.int k)):=by
 induction xs with
 |nil=>intro vs h _;cases h.mJ;rfl
 |cons x xs ih=>
  intro vs h ha;refine eu h.inv λv ws cP r h'=>?_;subst cP;refine I8 ha λi hx ha=>?_;subst hx;refine dA r λt cP=>?_;clear r;subst cP;rw[tN,tN,ih h' ha];have:DR k (.int i t)=decide (MV.int i=MV.int k):=by
   show(i==k)=_;by_cases e:i=k
   ·subst e;simp
   ·simp[e]
  rw[this]
theorem xg{ρ:af aX}(k:aE)(t:Tok){xs:af MV}:∀{vs:af aB},iD g ρ xs vs->allI xs=true->∀y∈vs,PySem.MeetsSeq.EqGives y (.int k t) (DR k y):=by
 induction xs with
 |nil=>intro vs h _;cases h.mJ;intro y hy;cases hy
 |cons x xs ih=>
  intro vs h ha;refine eu h.inv λv ws cP r h'=>?_;subst cP;refine I8 ha λi hx ha=>?_;subst hx;intro y hy;rcases bE.mp hy with rfl|hy
  ·refine dA r λu cP=>?_;clear r;subst cP;exact PySem.MeetsSeq.EqGives.int i k u t
  ·exact ih h' ha y hy
theorem Ld:gj c (.builtin "tuple.index") AU:=by
 intro st vs r H' q ext ρ s eN R hv Q E k;refine I5 q ?_;clear q;intro i ky hv q;subst hv;refine QV q ?_;clear q;intro xs h1 q;refine fP q ?_;clear q;intro lO q;refine eh q ?_;clear q;intro j hj q;cases q
 refine eu hv.inv λv0 ws cP r0 sL=>?_;subst cP;obtain⟨v1,ws,rfl,⟨t,rfl⟩,ID⟩:=sL.inv;cases ID.mJ
 refine R.objE (h1) λa b ha hb et=>?_;refine eu et λys n cP hz vv=>?_;clear et;subst cP;rw[r0.dq ha];refine VM PH ⟨_,hb,rfl⟩ F.entry_tuple_index (F.args_tuple_index_2 _ _) (yJ a ys.toArray n (.int ky t) (DR ky) j ?_) ⟨hb,λy hy=>(xg ky t vv lO y (by simpa using hy)).at _ _,?_⟩
 ·rw[<-hj];exact uN ky vv lO
 ·exact k ρ _ _ a9 (R.lF _) ⟨_,rfl⟩
inductive lM where
 |val (v:MV)
 |pair (a b:MV)
noncomputable def lM.get(y:lM)(H:af av):MV:=@lM.rec (λ_=>MV) (λv=>v) (λ_ _=> .ref H.length) y
noncomputable def lM.heap(y:lM)(H:af av):af av:=@lM.rec (λ_=>af av) (λ_=>H) (λa b=>H++[.tup [a,b]]) y
section
variable{m:dv->ag aB}{ext own nQ:af (aX×d9)}{ρ:af aX}{obs:af d9}{H:af av}{s:aD}
theorem HR.obj(R:HR c h₀ m ext ρ obs H s){i:ah}{o:av}(e:H[i]?=aa o):∃a b,ρ[i]?=aa a/\s.heap.get? a=aa b/\OR g ρ o b:=by refine xv (R.at e) λa b ha hb r hm=>?_;exact⟨a,b,ha,(R.N _ hm).1,r⟩
theorem HR.objE{G:Prop}(R:HR c h₀ m ext ρ obs H s){i:ah}{o:av}(e:H[i]?=aa o)(k:∀a b,ρ[i]?=aa a->s.heap.get? a=aa b->OR g ρ o b->G):G:=let⟨_,_,ha,hb,r⟩:=R.obj e;k _ _ ha hb r
theorem HR.jw{G:Prop}(R:HR c h₀ m ext ρ obs H s){i:ah}{o:av}{a:aX}(e:H[i]?=aa o)(ha:ρ[i]?=aa a)(k:∀b,s.heap.get? a=aa b->OR g ρ o b->G):G:=R.objE e λa' b JQ hb r=>by rw[ha] at JQ;cases JQ;exact k b hb r
theorem HR.perm{ext':af (aX×d9)}(R:HR c h₀ m ext ρ obs H s)(p:ext.Perm ext'):HR c h₀ m ext' ρ obs H s:=by
 refine⟨R.G,R.F,λq hq=>R.N q ?_,R.nd,λq hq=>R.off q (p.mem_iff.mpr hq),(p.map (·.1)).nodup_iff.mp R.en,R.low,R.lr,R.lo,R.ob,R.nk,R.gens,R.os⟩;rcases bK.mp hq with h|h
 ·exact aI _ (p.mem_iff.mpr h)
 ·exact bw _ h
theorem HR.Rb(R:HR c h₀ m (own++ext) ρ obs H s){h':jf}(tk:ah)(k:∀b o,b∉own.map (·.1)->s.heap.get? b=aa o->h'.get? b=aa o)(he:nQ.map (·.1)=own.map (·.1))(ho:∀p∈nQ,h'.get? p.1=aa p.2):
  HR c h₀ m (nQ++ext) ρ obs H {s with heap:=h',toks:=tk}:=by
 have en:=R.en;rw[d4,gN] at en;have hL:c.L∉own.map (·.1):=λq=>by refine cv (aU.mp q) λp hp e=>?_;exact(R.N p (aI _ (aI _ hp))).2.1 e
 have h0:∀b o,h₀.get? b=aa o->b∉own.map (·.1):=λb o e q=>by refine cv (aU.mp q) λp hp e'=>?_;have:=(R.N p (aI _ (aI _ hp))).2.2;rw[e',e] at this;cases this
 refine⟨R.G,⟨R.F.ns.at' λo e=>k _ _ hL e,λb o e=>k b o (h0 b o e) (R.F.keep b o e),R.F.above⟩,?_,R.nd,?_,by rw[d4,he,<-d4];exact R.en,R.low,R.lr,R.lo,R.ob,R.nk,R.gens,R.os⟩
 ·intro p hp
  rcases bK.mp hp with hp|hp
  ·rcases bK.mp hp with hp|hp
   ·refine⟨ho p hp,?_⟩
    have:p.1∈own.map (·.1):=he▸aU.mpr ⟨p,hp,rfl⟩;refine cv (aU.mp this) λq hq e=>?_;have:=(R.N q (aI _ (aI _ hq))).2;rw[e] at this;exact this
   ·have y:=R.N p (aI _ (bw _ hp))
    exact⟨k _ _ (λq=>en.2.2 _ q _ (aU.mpr ⟨p,hp,rfl⟩) rfl) y.1,y.2⟩
  ·have y:=R.N p (bw _ hp)
   refine⟨k _ _ (λq=>?_) y.1,y.2⟩;refine cv (aU.mp q) λr hr e=>?_;exact R.off r (aI _ hr) (e▸(gQ (a:=p.1) (b:=p.2) hp).1)
 ·intro p hp
  rcases bK.mp hp with hp|hp
  ·have:p.1∈own.map (·.1):=he▸aU.mpr ⟨p,hp,rfl⟩
   refine cv (aU.mp this) λq hq e=>?_;rw[<-e];exact R.off q (aI _ hq)
  ·exact R.off p (bw _ hp)
theorem HR.QK(R:HR c h₀ m (own++ext) ρ obs H s)(he:nQ.map (·.1)=own.map (·.1)){p:aX×d9}(hp:p∈(nQ++ext)++ρ.zip obs):p.1<s.heap.objs.size:=by
 rcases bK.mp hp with hp|hp
 ·rcases bK.mp hp with hp|hp
  ·refine cv (aU.mp (he▸nV hp:p.1∈own.map (·.1))) λp' V7 e=>?_
   exact e▸cW (R.N p' (aI _ (aI _ V7))).1
  ·exact cW (R.N p (aI _ (bw _ hp))).1
 ·exact cW (R.N p (bw _ hp)).1
theorem HR.Rl(R:HR c h₀ m (own++ext) ρ obs H s){h':jf}(tk:ah)(k:∀b o,b∉own.map (·.1)->s.heap.get? b=aa o->h'.get? b=aa o):HR c h₀ m ext ρ obs H {s with heap:=h',toks:=tk}:=by
 have en:=R.en;rw[d4,gN] at en;have hL:c.L∉own.map (·.1):=λq=>by refine cv (aU.mp q) λp hp e=>?_;exact(R.N p (aI _ (aI _ hp))).2.1 e
 have h0:∀b o,h₀.get? b=aa o->b∉own.map (·.1):=λb o e q=>by refine cv (aU.mp q) λp hp e'=>?_;have:=(R.N p (aI _ (aI _ hp))).2.2;rw[e',e] at this;cases this
 refine⟨R.G,⟨R.F.ns.at' λo e=>k _ _ hL e,λb o e=>k b o (h0 b o e) (R.F.keep b o e),R.F.above⟩,?_,R.nd,λp hp=>R.off p (bw _ hp),en.2.1,R.low,R.lr,R.lo,R.ob,R.nk,R.gens,R.os⟩;intro p hp;rcases bK.mp hp with hp|hp
 ·have y:=R.N p (aI _ (bw _ hp))
  exact⟨k _ _ (λq=>en.2.2 _ q _ (aU.mpr ⟨p,hp,rfl⟩) rfl) y.1,y.2⟩
 ·have y:=R.N p (bw _ hp)
  refine⟨k _ _ (λq=>?_) y.1,y.2⟩;refine cv (aU.mp q) λr hr e=>?_;exact R.off r (aI _ hr) (e▸(gQ (a:=p.1) (b:=p.2) hp).1)
theorem HR.Nl(R:HR c h₀ m (own++ext) ρ obs H s):HR c h₀ m ext ρ obs H s:=R.Rl s.toks λ_ _ _ e=>e
theorem HR.mL{I:aX}{o:d9}(R:HR c h₀ m ((I,o)::ext) ρ obs H s):s.heap.get? I=aa o:=(R.N _ (aI _ (.head _))).1
end
set_option genInjectivity false in structure MS(c:Cx g)(I:aX)(It:ah->af (aX×d9)->af aX->Prop)(t:cj)(ys:af lM)(chk:af av->cj)(ρ:af aX):Prop where
 mono:∀j own aQ cy,It j own aQ->aQ<+:cy->It j own cy
 item:∀(j:ah) y own h₀ m ext obs H aQ s(Q:ag aB->aD->Prop)(E:aB->aD->Prop),ys[j]?=aa y->It j own aQ->chk H=true->ρ<+:aQ->HR c h₀ m (own++ext) aQ obs H s->
  (∀v' nQ cy nO s',VR g cy (y.get H) v'->It (j+1) nQ cy->aQ<+:cy->HR c h₀ m (nQ++ext) cy nO (y.heap H) s'->Q (aa v') s')->bg g.M c.A (x9 (.ref I)) Q E s
 done:∀own h₀ m ext obs H aQ s(Q:ag aB->aD->Prop)(E:aB->aD->Prop),It ys.length own aQ->chk H=true->ρ<+:aQ->HR c h₀ m (own++ext) aQ obs H s->
  (∀s',HR c h₀ m ext aQ obs H s'->Q none s')->bg g.M c.A (x9 (.ref I)) Q E s
 self:∀(j:ah) own h₀ m ext obs H aQ s(Q:aB->aD->Prop)(E:aB->aD->Prop),It j own aQ->HR c h₀ m (own++ext) aQ obs H s->Q (.ref I) s->bg g.M c.A (Bp (.ref I)) Q E s
 go:t=true->∀(j:ah) own h₀ m ext obs H aQ s(Q:xX->aD->Prop)(E:aB->aD->Prop)(pB:PySem.Expr)(v:aB),It j own aQ->HR c h₀ m (own++ext) aQ obs H s->Q ⟨⟩ s->bg g.M c.A (gx pB (.ref I) v) Q E s
theorem qx{M:PQ}{A:eD}{s:aD}{I:aX}{o:d9}{T:Bn}{fs:fm aB}(ho:s.heap.get? I=aa o)(hc:o.cls=.type T)(hd:o.data=.fields fs)(hT:(["enumerate","zip","dict_itemiterator","dict_reverseitemiterator","odict_iterator","itertools.zip_longest","itertools.pairwise"].contains T)=false)
  {Q:xX->aD->Prop} {E:aB->aD->Prop} {pB:PySem.Expr} {v:aB} (h:Q ⟨⟩ s):bg M A (gx pB (.ref I) v) Q E s:=by
 have key:∀es n p,bg M A (gx (.Tuple es n p) (.ref I) v) Q E s:=λes n p=>by
  cases v with
  |ref a=>refine aw (wpAny_load ho ?_);obtain⟨cl,od,dt,sl⟩:=o;simp only at hc hd;subst hc hd;simp only[hT,Bool.false_and];exact bA h
  |_=>exact bA h
 cases pB with
 |Tuple es n p=>exact key es n p
 |List es p=>exact key es 0 p
 |_=>exact bA h
theorem Kf(hh:c.A.handled=none){l:ah}{xs:af MV}{ρ:af aX}{a I:aX}(ha:ρ[l]?=aa a):
  MS c I (λj own _=>∃o,own=[(I,o)]/\o.cls=.type "list_iterator"/\o.data=.fields #[.ref a,.int (j:ah) 0]) true (xs.map .val) (λH=>cq (H[l]?=aa (.list xs))) ρ where
 mono:=λj own aQ cy h _=>h
 item:=by
  rintro j y own h₀ m ext obs H aQ s Q E hy ⟨o,rfl,h1,h2⟩ f9 b8 R kk
  rw[b9] at hy;cases hx:xs[j]? with
  |none=>rw[hx] at hy;cases hy
  |some x=>
   rw[hx] at hy;cases hy
   have hl:H[l]?=aa (.list xs):=yt f9;refine R.jw (hl) (bj b8 ha) λb' oQ et=>?_;refine eu et λvs n cP hz rr=>?_;clear et;subst cP;refine cv (rr.2 j x hx) λv' IC vv=>?_;refine Mz (items:=vs.toArray) ⟨_,R.mL,h1,h2⟩ ⟨_,oQ,rfl,n,rfl⟩ (by simpa using IC) λh' hit hs=>?_;refine js hit λoI To S6 NQ=>?_;clear hit;exact kk v' [(I,oI)] aQ obs _ vv ⟨oI,rfl,S6,NQ⟩ a9 (R.change s.toks (λb o hb e=>(hs.2 b hb).trans e) To)
 done:=by
  rintro own h₀ m ext obs H aQ s Q E ⟨o,rfl,h1,h2⟩ f9 b8 R kk
  have hl:H[l]?=aa (.list xs):=yt f9;refine R.jw (hl) (bj b8 ha) λb' oQ et=>?_;refine eu et λvs n cP hz rr=>?_;clear et;subst cP;exact MP (items:=vs.toArray) hh ⟨_,R.mL,h1,h2⟩ ⟨_,oQ,rfl,n,rfl⟩ (by simp[<-rr.1]) λh' he=>kk _ (R.leave s.toks he)
 self:=by
  rintro j own h₀ m ext obs H aQ s Q E ⟨o,rfl,h1,h2⟩ R k
  exact wpAny_pyIter_listiter ⟨_,R.mL,h1,h2⟩ k
 go:=by
  rintro -j own h₀ m ext obs H aQ s Q E pB v ⟨o,rfl,h1,h2⟩ R k
  exact qx R.mL h1 h2 (by decide) k
theorem N8(hh:c.A.handled=none){l:ah}{xs:af MV}{ρ:af aX}{a I:aX}(ha:ρ[l]?=aa a):
  MS c I (λj own _=>∃o,own=[(I,o)]/\o.cls=.type "tuple_iterator"/\o.data=.fields #[.ref a,.int (j:ah) 0]) true (xs.map .val) (λH=>cq (H[l]?=aa (.tup xs))) ρ where
 mono:=λj own aQ cy h _=>h
 item:=by
  rintro j y own h₀ m ext obs H aQ s Q E hy ⟨o,rfl,h1,h2⟩ f9 b8 R kk
  rw[b9] at hy;cases hx:xs[j]? with
  |none=>rw[hx] at hy;cases hy
  |some x=>
   rw[hx] at hy;cases hy
   have hl:H[l]?=aa (.tup xs):=yt f9;refine R.jw (hl) (bj b8 ha) λb' oQ et=>?_;refine eu et λvs n cP hz rr=>?_;clear et;subst cP;refine cv (rr.2 j x hx) λv' IC vv=>?_;refine wpAny_pyNext_tuple_item (items:=vs.toArray) ⟨_,R.mL,h1,h2⟩ ⟨_,oQ,rfl,n,rfl⟩ (by simpa using IC) λh' hit hs=>?_;refine js hit λoI To S6 NQ=>?_;clear hit;exact kk v' [(I,oI)] aQ obs _ vv ⟨oI,rfl,S6,NQ⟩ a9 (R.change s.toks (λb o hb e=>(hs.2 b hb).trans e) To)
 done:=by
  rintro own h₀ m ext obs H aQ s Q E ⟨o,rfl,h1,h2⟩ f9 b8 R kk
  have hl:H[l]?=aa (.tup xs):=yt f9;refine R.jw (hl) (bj b8 ha) λb' oQ et=>?_;refine eu et λvs n cP hz rr=>?_;clear et;subst cP;exact wpAny_pyNext_tuple_end (items:=vs.toArray) hh ⟨_,R.mL,h1,h2⟩ ⟨_,oQ,rfl,n,rfl⟩ (by simp[<-rr.1]) λh' he=>kk _ (R.leave s.toks he)
 self:=by
  rintro j own h₀ m ext obs H aQ s Q E ⟨o,rfl,h1,h2⟩ R k
  exact wpAny_pyIter_tupleiter ⟨_,R.mL,h1,h2⟩ k
 go:=by
  rintro -j own h₀ m ext obs H aQ s Q E pB v ⟨o,rfl,h1,h2⟩ R k
  exact qx R.mL h1 h2 (by decide) k
theorem pe{l:ah}{es:af (aE×MV)}{ep:ah}{H:af av}(h:cq (H[l]?=aa (.dict es ep))=true):H[l]?=aa (.dict es ep):=yt h
theorem Ke(hh:c.A.handled=none){l:ah}{es:af (aE×MV)}{ep:ah}{ρ:af aX}{a I:aX}(ha:ρ[l]?=aa a):
  MS c I (λj own _=>∃o,own=[(I,o)]/\o.cls=.type "dict_keyiterator"/\o.data=.fields #[.ref a,.int (j:ah) 0,.int (es.length:ah) 0,.int (ep:ah) 0]) true (es.map λx=> .val (.int x.1)) (λH=>cq (H[l]?=aa (.dict es ep))) ρ where
 mono:=λj own aQ cy h _=>h
 item:=by
  rintro j y own h₀ m ext obs H aQ s Q E hy ⟨o,rfl,h1,h2⟩ f9 b8 R kk
  rw[b9] at hy;cases hx:es[j]? with
  |none=>rw[hx] at hy;cases hy
  |some x=>
   rw[hx] at hy;cases hy
   refine R.jw ((pe f9)) (bj b8 ha) λb' oQ rr=>?_;refine lT (eR rr oQ) λgs D ma _ rX=>?_;refine cv (rX j x hx) λw hw _=>?_;refine wpAny_pyNext_dict_item (knd:=eE g.prog g.w) ⟨_,R.mL,h1,by rw[ma];exact h2⟩ D hw λkey h' rH hit hs=>?_;refine js hit λoI To S6 NQ=>?_;clear hit;refine kk key [(I,oI)] aQ obs _ ?_ ⟨oI,rfl,S6,by rw[ma] at NQ;exact NQ⟩ a9 (R.change s.toks (λb o hb e=>(hs.2 b hb).trans e) To);refine dA (oY rH) λt cP=>?_;subst cP;exact⟨t,rfl⟩
 done:=by
  rintro own h₀ m ext obs H aQ s Q E ⟨o,rfl,h1,h2⟩ f9 b8 R kk
  refine R.jw ((pe f9)) (bj b8 ha) λb' oQ rr=>?_;refine lT (eR rr oQ) λgs D ma _ rX=>?_;rw[a8] at h2;exact wpAny_pyNext_dict_end (knd:=eE g.prog g.w) hh ⟨_,R.mL,h1,by rw[ma];exact h2⟩ D (by rw[fj,ma];exact cL _) λh' he=>kk _ (R.leave s.toks he)
 self:=by
  rintro j own h₀ m ext obs H aQ s Q E ⟨o,rfl,h1,h2⟩ R k
  exact wpAny_pyIter_keyiter ⟨_,R.mL,h1,h2⟩ k
 go:=by
  rintro -j own h₀ m ext obs H aQ s Q E pB v ⟨o,rfl,h1,h2⟩ R k
  exact qx R.mL h1 h2 (by decide) k
theorem Kg(hh:c.A.handled=none){l:ah}{es:af (aE×MV)}{ep:ah}{ρ:af aX}{a I:aX}(ha:ρ[l]?=aa a):
  MS c I (λj own _=>∃o,own=[(I,o)]/\o.cls=.type "dict_valueiterator"/\o.data=.fields #[.ref a,.int (j:ah) 0,.int (es.length:ah) 0,.int (ep:ah) 0]) true (es.map λx=> .val x.2) (λH=>cq (H[l]?=aa (.dict es ep))) ρ where
 mono:=λj own aQ cy h _=>h
 item:=by
  rintro j y own h₀ m ext obs H aQ s Q E hy ⟨o,rfl,h1,h2⟩ f9 b8 R kk
  rw[b9] at hy;cases hx:es[j]? with
  |none=>rw[hx] at hy;cases hy
  |some x=>
   rw[hx] at hy;cases hy
   refine R.jw ((pe f9)) (bj b8 ha) λb' oQ rr=>?_;refine lT (eR rr oQ) λgs D ma _ rX=>?_;refine cv (rX j x hx) λw hw vw=>?_;refine wpAny_pyNext_values_item (knd:=eE g.prog g.w) ⟨_,R.mL,h1,by rw[ma];exact h2⟩ D hw λh' hit hs=>?_;refine js hit λoI To S6 NQ=>?_;clear hit;exact kk w [(I,oI)] aQ obs _ vw ⟨oI,rfl,S6,by rw[ma] at NQ;exact NQ⟩ a9 (R.change s.toks (λb o hb e=>(hs.2 b hb).trans e) To)
 done:=by
  rintro own h₀ m ext obs H aQ s Q E ⟨o,rfl,h1,h2⟩ f9 b8 R kk
  refine R.jw ((pe f9)) (bj b8 ha) λb' oQ rr=>?_;refine lT (eR rr oQ) λgs D ma _ rX=>?_;rw[a8] at h2;exact wpAny_pyNext_values_end (knd:=eE g.prog g.w) hh ⟨_,R.mL,h1,by rw[ma];exact h2⟩ D (by rw[fj,ma];exact cL _) λh' he=>kk _ (R.leave s.toks he)
 self:=by
  rintro j own h₀ m ext obs H aQ s Q E ⟨o,rfl,h1,h2⟩ R k
  exact wpAny_pyIter_valiter ⟨_,R.mL,h1,h2⟩ k
 go:=by
  rintro -j own h₀ m ext obs H aQ s Q E pB v ⟨o,rfl,h1,h2⟩ R k
  exact qx R.mL h1 h2 (by decide) k
noncomputable def hY(n:ah):af lM:=(cO n).map λi=> .val (.int (i:ah))
theorem Hv(hh:c.A.handled=none){n:ah}{ρ:af aX}{I:aX}:
  MS c I (λj own _=>own=[(I,{cls:=.type "range_iterator",data:=.fields #[mO (j:ah),mO ((n:aE)-(j:ah)),mO 1]})]) true (hY n) (λ_=>true) ρ where
 mono:=λj own aQ cy h _=>h
 item:=by
  rintro j y own h₀ m ext obs H aQ s Q E hy rfl f9 b8 R kk
  unfold hY at hy;rw[b9] at hy;have eY:j<n:=by
   cases hx:(cO n)[j]? with
   |none=>rw[hx] at hy;cases hy
   |some x=>have:=(gM hx);simpa using this
  rw[g7 eY] at hy;cases hy
  refine wpAny_pyNext_range_item (x:=(j:ah)) (left:=(n:aE)-(j:ah)) (step:=1) R.mL (akd eY:) λh' hit hs=>?_;refine kk _ [(I,_)] aQ obs _ ⟨_,rfl⟩ rfl a9 (R.change _ (λb o hb e=>(hs.2 b hb).trans e) ?_);have Tc:h'.get? I=aa _:=hit;rw[Tc];congr 4
  ·rw[show((j:ah):aE)+1=((j+1:ah):aE) by exact ajl,show(n:aE)-(j:ah)-1=(n:aE)-((j+1:ah):aE) by exact acq]
 done:=by
  rintro own h₀ m ext obs H aQ s Q E rfl f9 b8 R kk
  have hn:(hY n).length=n:=by simp[hY]
  rw[hn] at R;exact wpAny_pyNext_range_end (x:=(n:ah)) (left:=(n:aE)-(n:ah)) (step:=1) hh R.mL (abU:) λh' he=>kk _ (R.leave s.toks he)
 self:=by
  rintro j own h₀ m ext obs H aQ s Q E rfl R k
  exact wpAny_pyIter_rangeiter (x:=(j:ah)) (left:=(n:aE)-(j:ah)) (step:=1) R.mL k
 go:=by
  rintro -j own h₀ m ext obs H aQ s Q E pB v rfl R k
  exact qx R.mL rfl rfl (by decide) k
end fG
namespace fG
open PySem PySem.W PySem.Calls PyProof.Rows
variable{g:Gl}{c:Cx g}
noncomputable def Ah(c:Cx g)(e:PySem.Expr)(t:cj)(f:St->ag ((af lM×(af av->cj))×St)):Prop:=
 ∀st ys chk bZ,f st=aa ((ys,chk),bZ)->∀ext ρ s,Rel c ext ρ st s->∀(Q:aB->aD->Prop)(E:aB->aD->Prop),
  (∀d7 I It own s',ρ<+:d7->MS c I It t ys chk d7->It 0 own d7->chk bZ.H=true->(∀p∈own,3<p.1)->Rel c (own++ext) d7 bZ s'->Q (.ref I) s')->
  bg g.M c.A (eval e c.env) (λv bC=>bg g.M c.A (Bp v) Q E bC) E s
noncomputable def hU(l:ah)(o:av)(H:af av):cj:=cq (H[l]?=aa o)
noncomputable def GF(o:av):ag (af lM):=av.pr (λxs=>aa (xs.map .val)) (λxs=>aa (xs.map .val)) (λes _=>aa (es.map λx=> .val (.int x.1))) n1 n1 n1 n2 n2 n1 n1 o
noncomputable def rL(f:St->ag (MV×St)):St->ag ((af lM×(af av->cj))×St):=λst=>HO (f st) λl ax=>ot ax.H[l]? λo=>ot (GF o) λys=>aa ((ys,hU l o),ax)
theorem lW{ext ρ st s}(R:Rel c ext ρ st s):3<s.heap.objs.size:=by refine Rel.el R λh₀ m nm obs h _ _=>?_;clear R;exact h.xI
theorem sk{e:PySem.Expr}{f}(hh:c.A.handled=none)(he:dI c e f):Ah c e true (rL f):=by
 intro st ys chk bZ q ext ρ s R Q E k;refine p8 q ?_;clear q;intro l ax h1 q;refine eh q ?_;clear q;intro o ho q;refine eh q ?_;clear q;intro ys' hy q;cases q
 refine he st _ bZ h1 ext ρ s R _ _ λaQ xP bC b8 bW vv=>?_;refine bW.objE (ho) λa b ha hb r=>?_;rw[vv.dq ha];have hgt:∀p∈[(bC.heap.objs.size,(default:d9))],3<p.1:=λp hp=>by rw[bT.mp hp];exact lW bW
 cases o with
 |list xs=>
  have hy:aa (xs.map .val)=aa ys:=hy;cases hy
  refine eu r λvs n cP hz rr=>?_;clear r;subst cP;refine mP (items:=vs.toArray) ⟨_,hb,rfl,n,rfl⟩ ?_;exact k aQ bC.heap.objs.size _ [(bC.heap.objs.size,_)] _ b8 (Kf hh ha) ⟨_,rfl,rfl,rfl⟩ (vf ho) (λp hp=>by rw[bT.mp hp];exact lW bW) (bW.zJ bC.toks _)
 |tup xs=>
  have hy:aa (xs.map .val)=aa ys:=hy;cases hy
  refine eu r λvs n cP hz rr=>?_;clear r;subst cP;refine VS (items:=vs.toArray) ⟨_,hb,rfl,n,rfl⟩ ?_;exact k aQ bC.heap.objs.size _ [(bC.heap.objs.size,_)] _ b8 (N8 hh ha) ⟨_,rfl,rfl,rfl⟩ (vf ho) (λp hp=>by rw[bT.mp hp];exact lW bW) (bW.zJ bC.toks _)
 |dict es ep=>
  have hy:aa (es.map λx=> .val (.int x.1))=aa ys:=hy;cases hy
  refine lT (eR r hb) λgs D ma _ rX=>?_;refine wpAny_pyIter_dict (knd:=eE g.prog g.w) (jW bW ha) D ?_;exact k aQ bC.heap.objs.size _ [(bC.heap.objs.size,_)] _ b8 (Ke hh ha) ⟨_,rfl,rfl,by rw[ma];rfl⟩ (vf ho) (λp hp=>by rw[bT.mp hp];exact lW bW) (bW.zJ bC.toks _)
 |_=>exact lR hy
noncomputable def mI(f:St->ag (MV×St)):St->ag ((af lM×(af av->cj))×St):=λst=>ob (f st) λv ax=>AW v λn=>if 0<=n/\n<=1000 then aa ((hY n.toNat,λ_=>true),ax) else none
theorem qV{e:PySem.Expr}{p pos:iP}{f}(hh:c.A.handled=none)(hk:c.env.kindOf "range"=aa .globalImplicit)(hg:eA g.K aK "range"=aa none)(ql:isStar e=false)(he:dI c e f)
  (hc:eval (.Call (.Name "range" p) [e] [] pos) c.env=(do fg pos (<-eval (.Name "range" p) c.env) [] (gE pos (dT [e] c.env)) (oG pos (jF [] c.env)))):
  Ah c (.Call (.Name "range" p) [e] [] pos) true (mI f):=by
 intro st ys chk bZ q ext ρ s R Q E k;refine ea q ?_;clear q;intro v ax h1 q;refine mr q ?_;clear q;intro n hv q;subst hv;refine fP q ?_;clear q;intro hn q;cases q
 have hp:gH [e]=true:=by show(!isStar e&&true)=true;rw[ql];rfl
 refine Wf (lq R hk hg (v:=.type "range") ∅ (by decide) rfl (mE (mz hp) ?_)) hc;refine mW hp (aN he cm ql) (vs:=[.int n]) (bZ:=bZ) (cV h1 rfl) R λaQ eN bC b8 bW vv=>?_;obtain⟨v0,ws,rfl,⟨t,rfl⟩,vv1⟩:=vv.inv;cases vv1.mJ
 refine call_range_1 ?_;have dh:=bW.grow (bC.toks+1+1) (h':=bC.heap.push {cls:=.type "range",data:=.fields #[.int 0 bC.toks,.int n t,.int 1 (bC.toks+1)]}) λ_ _ e=>bY _ e;refine wpAny_pyIter_range (IsRange.new _ _ _ _ _ _ _) (small_one (by lia) (by lia) (by lia) (by omega)) ?_;have hsz:afw 0 n 1=((n.toNat:ah):aE):=by rw[rangeSize_one];split<;>(first|exact aa9 (by assumption)|exact abi (by assumption))
 refine k aQ _ _ [((bC.heap.push {cls:=.type "range",data:=.fields #[.int 0 bC.toks,.int n t,.int 1 (bC.toks+1)]}).objs.size,_)] _ b8 (Hv hh (n:=n.toNat)) ?_ rfl (λp hp=>by rw[bT.mp hp];exact lW dh) (dh.zJ _ _);rw[hsz];show [(_,_)]=[(_,_)];congr 3
noncomputable def Cf(f:St->ag (MV×St)):St->ag ((af lM×(af av->cj))×St):=λst=>HO (f st) λl ax=>oh av.dc ax.H[l]? λes ep=>aa ((es.map λx=> .val x.2,hU l (.dict es ep)),ax)
theorem IY{o:PySem.Expr}{apos pos:iP}{pl:Sem cj}{f}(hh:c.A.handled=none)(ho:dI c o f)
  (he:eval (.Call (.Attribute o "values" apos) [] [] pos) c.env=(do
   let ov<-eval o c.env
   g9 apos.atName
   let(f,first)<-holding [ov] (mi ov "values" pl)
   fg pos f first (gE pos (dT [] c.env)) [])):Ah c (.Call (.Attribute o "values" apos) [] [] pos) true (Cf f):=by
 intro st ys chk bZ q ext ρ s R Q E k;refine p8 q ?_;clear q;intro l ax h1 q;refine uV q ?_;clear q;intro es ep h2 q;cases q
 refine uz (pl:=pl) (ho st _ bZ h1 ext ρ s R _ _ λaQ a' bC b8 bW va=>?_) he;refine bW.objE (h2) λa b ha hb r=>?_;rw[va.dq ha];refine lT (eR r hb) λgs D ma _ rX=>?_;refine dQ (Bd r (by show 2<4;exact q8)) λt1 t2=>?_;refine yV ⟨b,hb,t1⟩ qa PG F.type_dict_values (λa'' e=>by cases e;exact⟨b,hb,t2⟩) ?_;refine afI ?_;refine Mt PG D.dictOf.typeIs F.entry_dict_values (F.args_dict_values_1 _) (meets_dict_values (eE g.prog g.w) a (jW bW ha)) ⟨⟨_,D.dictOf⟩,?_⟩;have dh:=bW.grow bC.toks (h':=bC.heap.push {cls:=.type "dict_values",data:=.fields #[.ref a]}) λ_ _ e=>bY _ e;refine wpAny_pyIter_values (knd:=eE g.prog g.w) ⟨_,dR _ rfl,rfl,rfl⟩ (D.push _) ?_;exact k aQ _ _ [((bC.heap.push {cls:=.type "dict_values",data:=.fields #[.ref a]}).objs.size,_)] _ b8 (Kg hh ha) ⟨_,rfl,rfl,by rw[ma];rfl⟩ (vf h2) (λp hp=>by rw[bT.mp hp];exact lW dh) (dh.zJ _ _)
noncomputable def ph(chk:af av->cj)(i:ah)(body:St->ag (MF×St))(ys:af lM):St->ag (MF×St):=@dC lM (λ_=>St->ag (MF×St)) (λst=>if chk st.H=true then aa (.next,st) else none) (λy _ ih st=>if chk st.H=true then p9 ih (body ⟨y.heap st.H,bV st.l i (y.get st.H)⟩) else none) ys
noncomputable def mT(i:ah)(f:St->ag ((af lM×(af av->cj))×St))(fb:St->ag (MF×St)):St->ag (MF×St):=λst=>YI (f st) λys chk ax=>ph chk i fb ys ax
theorem Rel.AX(hc:c.comp=none){own ext ρ st s}(R:Rel c (own++ext) ρ st s):Rel c ext ρ st s:=by refine Rel.el R λh₀ m nm obs h a b=>?_;clear R;exact⟨h₀,m,nm,obs,h.Nl,a.ofFn hc,b⟩
theorem Hl{chk:af av->cj}{i:ah}{fb:St->ag (MF×St)}{ys:af lM}{j:ah}{st bZ:St}{r:MF}{P:Prop}(hj:j<=ys.length)(q:ph chk i fb (ys.drop j) st=aa (r,bZ))
  (h1:∀eY:j<ys.length,chk st.H=true->p9 (ph chk i fb (ys.drop (j+1))) (fb ⟨ys[j].heap st.H,bV st.l i (ys[j].get st.H)⟩)=aa (r,bZ)->P) (h2:j=ys.length->chk st.H=true->r=.next->st=bZ->P):P:=by
 by_cases eY:j<ys.length
 ·rw[iE eY] at q
  exact fP (c:=chk st.H=true) q λf9 q=>h1 eY f9 q
 ·have ug:j=ys.length:=Lx hj eY
  rw[ug,qc] at q;exact fP (c:=chk st.H=true) q λf9 q=>Rg q λa b=>h2 ug f9 a.symm b
theorem mF{x:dv}{px pos:iP}{iter:PySem.Expr}{body:af oF}{t:cj}{f fb}(i:ah)(hc:c.comp=none)(hx:c.names[i]?=aa x)(hk:c.env.kindOf x=aa .local)(hi:Ah c iter t f)(hb:ja c body fb)
  (hs:∀x,i5 iter c.env x=pure x):oo c (.For (.Name x px) iter body [] pos) (mT i f fb):=by
 intro st r bZ q ext ρ s R Q E k;refine K9 q ?_;clear q;intro ys chk ax h1 q;refine wpAny_For (hi st ys chk ax h1 ext ρ s R _ _ λaQ I It own bC b8 T xa f9 _ bW=>?_) hs;refine codeAny_forLoop (λn s=>∃j cH cy own,n=ys.length-j/\j<=ys.length/\ph chk i fb (ys.drop j) cH=aa (r,bZ)/\It j own cy/\aQ<+:cy/\Rel c (own++ext) cy cH s) ?_ (ys.length-0) ⟨0,ax,aQ,own,rfl,jn _,q,xa,a9,bW⟩;refineλn s h=>ex4 h λj cH cy own h=>an6 h λhn hj q xa dG R=>?_;refine Hl hj q (λeY f9 q=>?_) (λug f9 hr ql=>?_)
 ·refine Rel.el R λh₀ m nm obs h a b=>?_;clear R
  refine T.item j ys[j] own _ m ext obs cH.H cy s _ _ (ao eY) xa f9 dG h λv' nQ iH xt eS vv Ho iU h'=>?_;have gI:Rel c (nQ++ext) iH ⟨ys[j].heap cH.H,cH.l⟩ eS:=⟨h₀,m,nm,xt,h',a.ofFn hc,b.mono iU⟩;show bg _ _ (do g9 px;bindName c.env x v') _ _ eS;refine aw (jh (wpAny_bindName (gI.store hc hx hk vv λow nA=>?_)));exact t9 (X:=ph chk i fb (ys.drop (j+1))) hb nA q (λs h=>⟨h,h⟩) (λmA mB kQ q rN mU=>⟨_,hn▸O3 eY,j+1,mA,mB,nQ,rfl,eY,q,T.mono _ _ _ _ Ho rN,(dG.trans iU).trans rN,mU⟩)
   (λmB kQ hr rN mU=>k mB _ kQ (((b8.trans dG).trans iU).trans rN) (mU.AX hc) (by rw[hr];rfl)) (λv v' mB kQ hr rN mU vv=>k mB _ kQ (((b8.trans dG).trans iU).trans rN) (mU.AX hc) (by rw[hr];exact⟨v',rfl,vv⟩))
 ·refine Rel.el R λh₀ m nm obs h a b=>?_;clear R
  rw[ug] at xa;refine T.done own _ m ext obs _ cy s _ _ xa f9 dG h λeS h'=>?_;exact oX (k cy _ eS (b8.trans dG) ⟨h₀,m,nm,obs,ql▸h',a.ofFn hc,ql▸b⟩ (by rw[hr];rfl))
section
variable{prog:kp}{w:wc}{A:eD}{E:aB->aD->Prop}{s:aD}
theorem zu{it t:aX}{items:fm aB}(rK:t≠it):∀(n i:ah)(s:aD)(Q:af aB->aD->Prop),s.heap.IsListIter it t i->s.heap.IsList t items->i+n<=items.size->
  (∀h',h'.IsListIter it t (i+n)->kn it s.heap h'->Q ((items.toList.drop i).take n) {s with heap:=h'})->bg (model prog w) A (draw (.ref it) n) Q E s
 |0,i,s,Q,hit,_,_,hQ=>by show bg _ _ (pure []) Q E s;exact bA (by simpa using hQ s.heap hit (Bj ..))
 |n+1,i,s,Q,hit,ht,hle,hQ=>by
  have eY:i<items.size:=by exact H6 hle
  show bg _ _ (x9 (.ref it)>>=_) Q E s;refine aw (Mz hit ht (x:=items[i]) (by simp[eY]) λh₁ D4 mS=>?_);refine aw (cN (zu rK n (i+1) _ _ D4 (ht.extBut mS.extBut rK) (UP hle:) λpk Te tu=>bA ?_));have hd:items.toList.drop i=items[i]::items.toList.drop (i+1):=by simp[iE,eY]
  have:=hQ pk (by rw[show i+(n+1)=i+1+n by exact vr];exact Te) (mS.trans tu);rw[hd,List.take_succ_cons] at this;exact this
theorem uw{t:aX}{items:fm aB}{Q:af aB->aD->Prop}(hh:A.handled=none)(ht:s.heap.IsList t items)
  (hQ:∀h',GI s.heap.objs.size s.heap h'->Q items.toList {s with heap:=h'}):bg (model prog w) A (unpackItems (.ref t) items.size none) Q E s:=by
 have eY:t≠s.heap.objs.size:=by refine cv ht λo ho _=>?_;clear ht;exact dP (cW ho)
 unfold unpackItems;refine aw ?_
 ·unfold notIterableAtAll
  refine aw (wpAny_specialOf ht.typeIs F.slot_list_iter.lookup ?_);refine bA ?_;simp only[cR,iv];refine aw (cN (mP ht ?_));refine aw (cN (zu eY items.size 0 _ _ ⟨_,dR _ rfl,rfl,rfl⟩ (ht.push _) (aji:) λh₁ D4 mS=>?_));have lO:List.take items.size (List.drop 0 items.toList)=items.toList:=by rw[List.drop_zero];exact List.take_of_length_le (by simp)
  rw[lO];rw[aZ (by simp)];have X3:h₁.IsList t items:=(ht.push _).extBut mS.extBut eY;refine aw (cN (MP hh D4 X3 (by simp) λpk XC=>?_));simp only[Option.isSome_none,cR,iv];refine bA (hQ pk λb o hb e=>XC b o hb (mS.extBut b o hb (bY _ e)))
theorem C0{t:aX}{items:fm aB}{targets:af (cj×(aB->Sem xX))}{Q:xX->aD->Prop}(hh:A.handled=none)(ht:s.heap.IsList t items)
  (hn:targets.length=items.size) (X1:targets.findIdx? (·.1)=none)
  (h:∀h',GI s.heap.objs.size s.heap h'->bg (model prog w) A (Iw (targets.map (·.2)) items.toList) Q E {s with heap:=h'}):
  bg (model prog w) A (unpack (.ref t) targets) Q E s:=by
 unfold unpack;rw[hn,X1];exact aw (cN (uw hh ht h))
end
noncomputable def Stores(M:PQ)(A:eD)(E:aB->aD->Prop)(env:ux):af (dv×aB)->(aD->Prop)->aD->Prop
 |[],Q,s=>Q s
 |p::r,Q,s=>bg M A (IS env p.1 p.2) (λ_ s'=>Stores M A E env r Q s') E s
noncomputable def pR(uU:af (dv×iP)):af PySem.Expr:=uU.map λp=> .Name p.1 p.2
theorem jS(env:ux):∀uU:af (dv×iP),kP (pR uU) env=uU.map λp=>(false,assign (.Name p.1 p.2) env)
 |[]=>rfl
 |p::r=>by show kP (.Name p.1 p.2::pR r) env=_;have:kP (.Name p.1 p.2::pR r) env=(false,assign (.Name p.1 p.2) env)::kP (pR r) env:=rfl;rw[this,jS env r];rfl
theorem nH{M:PQ}{A:eD}{E:aB->aD->Prop}{env:ux}{Q:xX->aD->Prop}:∀(uU:af (dv×iP))(vs:af aB)(s:aD),uU.length=vs.length->Stores M A E env ((uU.map (·.1)).zip vs) (Q ⟨⟩) s->
  bg M A (Iw (uU.map λp=>assign (.Name p.1 p.2) env) vs) Q E s:=by
 intro uU
 induction uU with
 |nil=>
  intro vs s hl h;cases vs with
  |nil=>exact bA h
  |cons=>cases hl
 |cons p r ih=>
  intro vs s hl h;cases vs with
  |nil=>cases hl
  |cons v vs=>
   have NX:r.length=vs.length:=by simpa using hl
   have h':bg M A (IS env p.1 v) (λ_ s'=>Stores M A E env ((r.map (·.1)).zip vs) (Q ⟨⟩) s') E s:=h;rw[bX];show bg M A (holding vs (assign (.Name p.1 p.2) env v)>>=λ_=>Iw (r.map λp=>assign (.Name p.1 p.2) env) vs) Q E s;exact aw (cN (kq (ie h' (λ_ s' Iz=>ih vs s' NX Iz) λ_ _ e=>e)))
noncomputable def GS(g:Gl)(pB:PySem.Expr)(xs:af dv)(tf:MV->af av->ag (af MV)):Prop:=
 ∀(c:Cx g)(env:ux)(v:MV)(v':aB) vs h₀ m ext ρ obs H s(Q:xX->aD->Prop)(E:aB->aD->Prop),c.A.handled=none->tf v H=aa vs->HR c h₀ m ext ρ obs H s->VR g ρ v v'->
  (∀eN h',iD g ρ vs eN->(∀b o,s.heap.get? b=aa o->h'.get? b=aa o)->Stores g.M c.A E env (xs.zip eN) (Q ⟨⟩) {s with heap:=h'})->bg g.M c.A (assign pB env v') Q E s
noncomputable def iw:MV->af av->ag (af MV):=λv _=>aa [v]
theorem kZ{x:dv}{p:iP}:GS g (.Name x p) [x] iw:=by
 intro c env v v' vs h₀ m ext ρ obs H s Q E hh q R hv k;cases q
 exact kq (k [v'] s.heap (iD.cons hv iD.nil) λ_ _ e=>e)
noncomputable def mh(n:ah)(v:MV)(H:af av):ag (af MV):=vX v λi=>og av.sq H[i]? λxs=>if xs.length=n then aa xs else none
theorem BN{elts:af PySem.Expr}{k:ah}{pos:iP}(uU:af (dv×iP))(he:elts=pR uU):GS g (.Tuple elts k pos) (uU.map (·.1)) (mh uU.length):=by
 subst he;intro c env v v' vs h₀ m ext ρ obs H s Q E hh q R hv k;have JA:∀{h':jf},GI s.heap.objs.size s.heap h'->∀b o,s.heap.get? b=aa o->h'.get? b=aa o:=λhe b o e=>he b o (dP (cW e)) e;rw[arm_assign_Tuple];refine aw (jh ?_);have h1:(kP (pR uU) env).map (·.2)=uU.map λp=>assign (.Name p.1 p.2) env:=by rw[jS];simp
 have h2:(kP (pR uU) env).findIdx? (·.1)=none:=by rw[jS];rw[List.findIdx?_eq_none_iff];intro x hx;refine cv (aU.mp hx) λp _ cP=>?_;subst cP;rfl
 have h3:(kP (pR uU) env).length=uU.length:=by rw[jS];simp
 refine jL q ?_;clear q;intro i hi q;subst hi;refine eh q ?_;clear q;intro o e q;refine eh q ?_;clear q;intro xs hx q;refine fP q ?_;clear q;intro hl q;cases q
 refine R.objE e λa b ha hb et=>?_;rw[hv.dq ha];rcases Vt hx with hx|hx
 ·subst hx
  refine eu et λys n cP hz rr=>?_;clear et;subst cP;refine C0 (items:=ys.toArray) hh ⟨_,hb,rfl,n,rfl⟩ (by rw[h3,bN,<-rr.1,hl]) h2 λh' hx=>?_;rw[h1];exact nH uU _ _ (by rw[<-hl,rr.1]) (k ys h' rr (JA hx))
 ·subst hx
  refine eu et λys n cP hz rr=>?_;clear et;subst cP;refine wpAny_unpack_tuple (items:=ys.toArray) hh ⟨_,hb,rfl,n,rfl⟩ (by rw[h3,bN,<-rr.1,hl]) h2 λh' hx=>?_;rw[h1];exact nH uU _ _ (by rw[<-hl,rr.1]) (k ys h' rr (JA hx))
noncomputable def qJ(l:ah->ag MV)(is:af ah)(vs:af MV):ah->ag MV:=@dC ah (λ_=>(ah->ag MV)->af MV->ah->ag MV) (λl _=>l) (λi _ ih l vs=>@dC MV (λ_=>ah->ag MV) l (λv vs _=>ih (bV l i v) vs) vs) is l vs
noncomputable def cY(c:Cx g)(is:af ah)(xs:af dv):Prop:=is.length=xs.length/\∀(j:ah) i x,is[j]?=aa i->xs[j]?=aa x->c.names[i]?=aa x/\c.env.kindOf x=aa .local
theorem cY.nil:cY c [] []:=⟨rfl,λ_ _ _ h=>by cases h⟩
theorem cY.cons{i:ah}{x:dv}{is:af ah}{xs:af dv}(h1:c.names[i]?=aa x)(h2:c.env.kindOf x=aa .local)(h:cY c is xs):cY c (i::is) (x::xs):=by
 refine⟨by simp[h.1],λj i' x' e1 e2=>?_⟩;cases j with
 |zero=>cases e1;cases e2;exact⟨h1,h2⟩
 |succ j=>exact h.2 j i' x' e1 e2
theorem cY.inv{i:ah}{x:dv}{is:af ah}{xs:af dv}(h:cY c (i::is) (x::xs)):c.names[i]?=aa x/\c.env.kindOf x=aa .local/\cY c is xs:=⟨(h.2 0 i x rfl rfl).1,(h.2 0 i x rfl rfl).2,by have:=h.1;simpa using this,λj i' x' e1 e2=>h.2 (j+1) i' x' e1 e2⟩
theorem Rel.stores(hc:c.comp=none){ext:af (aX×d9)}{ρ:af aX}{A:eD}{E:aB->aD->Prop}{Q:aD->Prop}{is:af ah}:∀{xs:af dv}{vs:af MV}{eN:af aB}{st:St}{s:aD},cY c is xs->iD g ρ vs eN->vs.length=xs.length->
  Rel c ext ρ st s->(∀s',Rel c ext ρ {st with l:=qJ st.l is vs} s'->Q s')->Stores g.M A E c.env (xs.zip eN) Q s:=by
 induction is with
 |nil=>
  intro xs vs eN st s L hv hl R k;cases xs with
  |nil=>exact k s R
  |cons=>exact nomatch L.1
 |cons i is ih=>
  intro xs vs eN st s L hv hl R k;cases xs with
  |nil=>exact nomatch L.1
  |cons x xs=>
   cases vs with
   |nil=>exact nomatch hl
   |cons v vs=>refine eu hv.inv λv' ws cP r IC=>?_;subst cP;refine fD L.inv λh1 h2 L'=>?_;exact R.store hc h1 h2 r λs' R'=>ih L' IC (pE hl) R' k
noncomputable def iO(is:af ah)(f:St->ag (MV×St)):St->ag (MF×St):=λst=>ob (f st) λv ax=>ot (mh is.length v ax.H) λvs=>aa (.next,{ax with l:=qJ ax.l is vs})
theorem uZ{n:ah}{v:MV}{H:af av}{vs:af MV}(h:mh n v H=aa vs):vs.length=n:=jL h λi _ h=>eh h λo _ h=>eh h λxs _ h=>fP h λhl h=>aR h▸hl
theorem nC{elts:af PySem.Expr}{k:ah}{L5 pos:iP}{e:PySem.Expr}{f}(is:af ah)(uU:af (dv×iP))(hc:c.comp=none)(hh:c.A.handled=none)(hL:cY c is (uU.map (·.1)))(hel:elts=pR uU)(he:dI c e f)
  (hs:Iy [.Tuple elts k L5] e pos.line c.env=pure false) (hw:we [.Tuple elts k L5] e c.env=pure none):oo c (.Assign [.Tuple elts k L5] e pos) (iO is f):=by
 intro st r bZ q ext ρ s R Q E kk;refine ea q ?_;clear q;intro v ax h1 q;refine eh q ?_;clear q;intro vs h2 q;cases q
 refine Assign_Tuple (he st v ax h1 ext ρ s R _ _ λaQ v' bC b8 bW vv=>?_) hs hw;refine Rel.el bW λh₀ m nm obs h a b=>?_;have Tb:is.length=uU.length:=by have:=hL.1;simpa using this
 refine BN uU hel c c.env v v' vs _ m ext aQ obs ax.H bC _ _ hh (Tb▸h2) h vv λeN h' hv hx=>?_;exact Rel.stores hc hL hv (by rw[uZ h2,Tb];simp) (bW.grow bC.toks hx) λdn dh=>kk aQ _ dn b8 dh rfl
theorem ss{E:ux}{ts:af PySem.Expr}{e:PySem.Expr}{n:ah}(h:c.env=E)(q:Iy ts e n E=pure false:=by kernel_rfl):Iy ts e n c.env=pure false:=h▸q
theorem Rh{E:ux}{ts:af PySem.Expr}{e:PySem.Expr}{r:ag (af dv)}(h:c.env=E)(q:we ts e E=pure r:=by kernel_rfl):we ts e c.env=pure r:=h▸q
noncomputable def jK(i:ah):St->ag (MV×St):=λst=>ot (st.l i) λa=>vX a λk=>og av.ce st.H[k]? λw=>ot w λv=>aa (v,st)
theorem tQ{x:dv}{pos:iP}(i:ah)(hx:c.names[i]?=aa x)(hk:c.env.kindOf x=aa .cell)(hd:(x==("__debug__":dv))=false):dI c (.Name x pos) (jK i):=by
 intro st v bZ e ext ρ s R Q E k;refine eh e ?_;clear e;intro a hv e;refine jL e ?_;clear e;intro kk ha e;subst ha;refine QU e ?_;clear e;intro w0 hw e;refine eh e ?_;clear e;intro w hw0 e;subst hw0
 ··cases e
   refine Rel.el R λh₀ m nm obs h a b=>?_;refine cv (b i _ hv) λy hy l=>?_;rw[hx] at hy;cases hy
   rcases l with⟨q,_⟩|⟨_,k',ad,e1,e2,e3⟩
   ·rw[hk] at q;cases q
   ·cases e1
    refine R.jw (hw) (e2) λb' oQ et=>?_;refine cv et λw' TF eX=>?_;clear et;refine cv eX λy' cP vv=>?_;clear eX;subst cP;exact wpAny_Name (wpAny_loadName_cell c.ek hk e3 ⟨b',oQ,TF⟩ (k ρ y' s a9 R vv)) hd
noncomputable def mw(i:ah)(f:St->ag (MV×St)):St->ag (MF×St):=λst=>ob (f st) λv ax=>ot (ax.l i) λa=>vX a λk=>og av.ce ax.H[k]? λ_=>aa (.next,{ax with H:=ax.H.set k (.cell (aa v))})
theorem o8{x:dv}{e:PySem.Expr}{p p':iP}(i:ah){f}(hx:c.names[i]?=aa x)(hk:c.env.kindOf x=aa .cell)(he:dI c e f)
  (hs:jt e (aa (.Name x p)) p'.line c.env=pure false):oo c (.Assign [.Name x p] e p') (mw i f):=by
 intro st r bZ q ext ρ s R Q E k;refine ea q ?_;clear q;intro v ax h1 q;refine eh q ?_;clear q;intro a h2 q;refine jL q ?_;clear q;intro kk ha q;subst ha;refine QU q ?_;clear q;intro w h3 q
 ···cases q
    refine yX (he st v ax h1 ext ρ s R _ _ λaQ v' bC b8 bW vv=>?_) hs;refine Rel.el bW λh₀ m nm obs h a b=>?_;refine cv (b i _ h2) λy hy l=>?_;rw[hx] at hy;cases hy
    rcases l with⟨q,_⟩|⟨_,k',ad,e1,e2,e3⟩
    ·rw[hk] at q;cases q
    ·cases e1
     refine bW.jw (h3) (e2) λb' oQ et=>?_;refine cv et λw' TF _=>?_;clear et;refine wpAny_storeName_cell c.ek hk e3 ⟨b',oQ,TF⟩ λh' hv yc=>?_;obtain⟨o',vl,Qz⟩:=hv;exact k aQ _ _ b8 (bW.setAt bC.toks e2 yc vl (λo q=>by rw[h3] at q;cases q;rfl) (λ_ _ _ _ q=>by rw[h3] at q;cases q) ⟨_,Qz,v',rfl,vv⟩) rfl
section
variable{prog:kp}{w:wc}{A:eD}{E:aB->aD->Prop}{R:xW->aD->Prop}{s:aD}
theorem Am{elt target iter:PySem.Expr}{ifs:af PySem.Expr}{scope:kO}{pos:iP}{it acc:aB}{env:ux}(I:ah->aD->Prop)
  (turn:∀n s,I n s->bg (model prog w) A (x9 it) (λr bC=>match r with
   |none=>R (.ok .next) bC
   |some v=>bg (model prog w) A (gx target it v) (λ_ Rj=>bg (model prog w) A (assign target env v) (λ_ dn=>
     bg (model prog w) A (forIn ifs true λc r=>if r=true then do let ok<-x8 c env (eval c env);pure (fN ok) else pure (fN r)) (λok eS=>
      if ok=true then bg (model prog w) A (eval elt env) (λx ow=>bg (model prog w) A (call (.builtin "list.append") [acc,x]) (λ_ kQ=>∃m,m<n/\I m kQ) (jo (model prog w) A env λe s'=>R (.error e) s') ow) (jo (model prog w) A env λe s'=>R (.error e) s') eS
      else∃m,m<n/\I m eS) (jo (model prog w) A env λe s'=>R (.error e) s') dn) (jo (model prog w) A env λe s'=>R (.error e) s') Rj) (jo (model prog w) A env λe s'=>R (.error e) s') bC) (jo (model prog w) A env λe s'=>R (.error e) s') s)
  (n:ah) (h:I n s):
  oj (model prog w) A (.compLoop (.ListComp elt [⟨target,iter,ifs,0⟩] scope pos) 0 it acc env) R s:=by
 refine codeAny_loop rfl I (λn s hI=>?_) n h;show bg _ A ((compTurn (.ListComp elt [⟨target,iter,ifs,0⟩] scope pos) 0 it acc env).onRaise (λx=>do IP x env;theTreesLotGoes x)) _ _ s;refine wpAny_noted ?_;rw[compTurn_list];refine aw (jh (aw (ie (turn n s hI) (λr bC h₁=>?_) λ_ _ h'=>h')));cases r with
 |none=>exact bA h₁
 |some v=>
  refine aw (ie h₁ (λ_ Rj X8=>?_) λ_ _ h'=>h');refine aw (ie X8 (λ_ dn pk=>aw (ie pk (λok eS oq=>?_) λ_ _ h'=>h')) λ_ _ h'=>h');cases ok with
  |false=>exact bA ⟨rfl,oq⟩
  |true=>exact aw (aw (ie oq (λx ow J9=>aw (ie J9 (λ_ kQ Ka=>bA (bA ⟨rfl,Ka⟩)) λ_ _ h'=>h')) λ_ _ h'=>h'))
theorem yr{kx vx target iter:PySem.Expr}{ifs:af PySem.Expr}{scope:kO}{pos:iP}{it:aB}{D:aX}{env:ux}(I:ah->aD->Prop)
  (turn:∀n s,I n s->bg (model prog w) A (x9 it) (λr bC=>match r with
   |none=>R (.ok .next) bC
   |some v=>bg (model prog w) A (assign target env v) (λ_ dn=>
     bg (model prog w) A (forIn ifs true λc r=>if r=true then do let ok<-x8 c env (eval c env);pure (fN ok) else pure (fN r)) (λok eS=>
      if ok=true then bg (model prog w) A (eval kx env) (λkv ow=>bg (model prog w) A (eval vx env) (λvv kQ=>bg (model prog w) A (yU D kv vv) (λ_ Vx=>∃m,m<n/\I m Vx) (jo (model prog w) A env λe s'=>R (.error e) s') kQ) (jo (model prog w) A env λe s'=>R (.error e) s') ow) (jo (model prog w) A env λe s'=>R (.error e) s') eS
      else∃m,m<n/\I m eS) (jo (model prog w) A env λe s'=>R (.error e) s') dn) (jo (model prog w) A env λe s'=>R (.error e) s') bC) (jo (model prog w) A env λe s'=>R (.error e) s') s)
  (n:ah) (h:I n s) (ht:∀v,gx target it v=pure ⟨⟩):
  oj (model prog w) A (.compLoop (.DictComp kx vx [⟨target,iter,ifs,0⟩] scope pos) 0 it (.ref D) env) R s:=codeAny_compLoop_testsD I turn n h ht
end
noncomputable def Cx.inComp(c:Cx g)(C:aX)(m:dv->ag aB)(scope:kO)(cl:af (dv×aX))(names:af dv)(m9:names.Nodup)(uT:scope.kind=.function):Cx g where
 A₀:=c.A₀
 A:=c.A
 base:=c.base
 h₀:=c.h₀
 outer:=c.outer
 gL:=c.gL
 env:=dB scope cl C c.env
 L:=c.L
 room:=c.room
 names:=names
 comp:=aa (C,m)
 gens:=c.gens
 os:=c.os
 XB:=c.XB
 TB:=c.TB
 SB:=c.SB
 SI:=c.SI
 hA:=c.hA
 hf:=c.hf
 MC:=c.MC
 ek:=uT
 eg:=c.eg
 eb:=c.eb
 hd:=c.hd
 hu:=c.hu
 nd:=m9
section
variable{C:aX}{m₀:dv->ag aB}{scope:kO}{cl:af (dv×aX)}{names:af dv}{m9:names.Nodup}{uT:scope.kind=.function}
 {m:dv->ag aB} {ext:af (aX×d9)} {ρ:af aX} {obs:af d9} {H:af av} {s:aD}
theorem HR.into(R:HR c h₀ m ext ρ obs H s):HR (c.inComp C m₀ scope cl names m9 uT) h₀ m ext ρ obs H s:=⟨⟨R.G.B,R.G.D,R.G.turn⟩,R.F,R.N,R.nd,R.off,R.en,R.low,R.lr,R.lo,R.ob,R.nk,R.gens,R.os⟩
theorem HR.YR(R:HR (c.inComp C m₀ scope cl names m9 uT) h₀ m ext ρ obs H s):HR c h₀ m ext ρ obs H s:=⟨⟨R.G.B,R.G.D,R.G.turn⟩,R.F,R.N,R.nd,R.off,R.en,R.low,R.lr,R.lo,R.ob,R.nk,R.gens,R.os⟩
end
noncomputable def dH(vs:af MV)(cap:ag ah)(l:ah->ag MV):ah->ag MV:=λi=>if i<vs.length then vs[i]? else if i=vs.length then ot cap λj=>ot (l j) λa=>vX a λk=>aa (.ref k) else none
noncomputable def GQ(c:Cx g)(ifs:af PySem.Expr)(f:St->ag (cj×St)):Prop:=
 ∀st b bZ,f st=aa (b,bZ)->∀ext ρ s,Rel c ext ρ st s->∀(Q:cj->aD->Prop)(E:aB->aD->Prop),
  (∀d7 s',ρ<+:d7->Rel c ext d7 bZ s'->Q b s')->bg g.M c.A (forIn ifs true λe r=>if r=true then do let ok<-x8 e c.env (eval e c.env);pure (fN ok) else pure (fN r)) Q E s
noncomputable def kH:St->ag (cj×St):=λst=>aa (true,st)
theorem uI:GQ c [] kH:=by
 intro st b bZ q ext ρ s R Q E k;cases q
 exact agn (k ρ s a9 R)
theorem Fw{e:PySem.Expr}{f}(h:tX c e f):GQ c [e] f:=by intro st b bZ q ext ρ s R Q E k;exact wpAny_tests_one (h st b bZ q ext ρ s R _ _ k)
set_option genInjectivity false in structure wg(c:Cx g)(scope:kO)(cl:af (dv×aX))(tn cn:af dv)(cap:ag ah):Prop where
 pre:cn.take tn.length=tn
 nd:cn.Nodup
 kind:scope.kind=.function
 cell:∀y∈scope.names,y.2≠ .cell
 loc:∀x∈tn,scope.names.lookup x=aa .local
 cap:∀j,cap=aa j->∃x,c.names[j]?=aa x/\cn[tn.length]?=aa x/\((dB scope cl 0 c.env).kindOf x=aa .cell\/(dB scope cl 0 c.env).kindOf x=aa .free)/\(c.env.kindOf x=aa .local->IG)/\cl.lookup x=c.env.cells.lookup x
theorem CU{C:aX}{scope:kO}{cl:af (dv×aX)}{m:dv->ag aB}{ext:af (aX×d9)}{ρ:af aX}{obs:af d9}{H:af av}{A:eD}{E:aB->aD->Prop}{Q:aD->Prop}(uT:scope.kind=.function):
  ∀(xs:af dv)(eN:af aB)(oC:d9)(nm:dv->ag aB)(s:aD),(∀x∈xs,scope.names.lookup x=aa .local)->xs.length=eN.length->HR c h₀ m ((C,oC)::ext) ρ obs H s->lA oC nm->
   (∀vW pT s',HR c h₀ m ((C,vW)::ext) ρ obs H s'->lA vW pT->(∀(i:ah) x v,xs.Nodup->xs[i]?=aa x->eN[i]?=aa v->pT x=aa v)->(∀x,x∉xs->pT x=nm x)->Q s')->
   Stores g.M A E (dB scope cl C c.env) (xs.zip eN) Q s:=by
 intro xs
 induction xs with
 |nil=>
  intro eN oC nm s _ hl R hn k;cases eN with
  |nil=>exact k oC nm s R hn (λi x v _ e=>by cases e) (λx _=>rfl)
  |cons=>cases hl
 |cons x xs ih=>
  intro eN oC nm s hx hl R hn k;cases eN with
  |nil=>cases hl
  |cons v eN=>
   show bg _ _ (IS (dB scope cl C c.env) x v) _ _ s;refine MQ (PZ (hx x (.head _))) (hn.ns R.mL) (λh' D6 hs=>?_) (by simp[dB,relabel,uT]);refine cv (LCg.ns_obj D6) λvW heC hoC=>?_;refine ih eN vW _ _ (λy hy=>hx y (.tail _ hy)) (by simpa using hl) (R.change _ (λb o hb e=>(hs.2 b hb).trans e) heC) hoC λah8 aht Vm VV ag0 h1 h2=>?_;refine k ah8 aht Vm VV ag0 (λi y w m9 e1 e2=>?_) (λy hy=>?_)
   ·rw[cQ] at m9
    cases i with
    |zero=>
     cases(e1);cases(e2)
     rw[h2 x m9.1];simp
    |succ i=>exact h1 i y w m9.2 e1 e2
   ·rw[bE,not_or] at hy
    rw[h2 y hy.2];simp[hy.1]
theorem zE{C:aX}{m₀:dv->ag aB}{scope:kO}{cl:af (dv×aX)}{tn cn:af dv}{cap:ag ah}(K:wg c scope cl tn cn cap){nm pT:dv->ag aB}{ρ d7:af aX}{l:ah->ag MV}{vs:af MV}{eN:af aB}
  (hl:yo c nm ρ l) (p:ρ<+:d7) (hv:iD g d7 vs eN) (hlen:vs.length=tn.length) (hnm:∀(i:ah) x v,tn[i]?=aa x->eN[i]?=aa v->pT x=aa v):
  yo (c.inComp C m₀ scope cl cn K.nd K.kind) pT d7 (dH vs cap l):=by
 intro i mv e;refine Wa (show(if i<vs.length then _ else _)=_ from e) (λeY e=>?_) λhni e=>fP e λhi e=>eh e λj hj e=>eh e λa hk e=>jL e λk hak e=>?_
 ·refine cv (hv.2 i mv e) λv' e' r=>?_
  obtain⟨x,hx⟩:∃x,tn[i]?=aa x:=⟨_,ao (LB hlen eY:)⟩;refine⟨x,?_,.inl ⟨?_,v',hnm i x v' hx e',r⟩⟩
  ·show cn[i]?=aa x
   rw[<-K.pre,ix] at hx;exact fP hx λ_ hx=>hx
  ·exact PZ (K.loc x (aM hx))
 ·subst hak
  cases e
  refine OS (K.cap j hj) λx h1 h2 h3 h4 h5=>?_;refine cv (hl j _ hk) λy hy r=>?_;rw[h1] at hy;cases(hy)
  rcases r with⟨q,_⟩|⟨_,k',a,e1,e2,e3⟩
  ·exact(h4 q).elim
  ·cases(e1)
   refine⟨x,by show cn[i]?=aa x;rw[hi,hlen];exact h2,.inr ⟨h3,k,a,rfl,bj p e2,?_⟩⟩;show cl.lookup x=aa a;rw[h5];exact e3
noncomputable def iR(chk:af av->cj)(tf:MV->af av->ag (af MV))(cap:ag ah)(l:ah->ag MV)(ft:St->ag (cj×St))(fe:St->ag (MV×St))(n:ah)(ys:af lM):af av->ag (af av):=@dC lM (λ_=>af av->ag (af av)) (λH=>if chk H=true then aa H else none)
 (λy _ ih H=>if chk H=true then ot (tf (y.get H) (y.heap H)) λvs=>ob (ft ⟨y.heap H,dH vs cap l⟩) λb cH=>bc b (ob (fe cH) λv ed=>ob (fx [.ref n,v] ed.H) λ_ H'=>ih H') (ih cH.H) else none) ys
inductive CompI(c:Cx g)(C:aX)(m:dv->ag aB)(ext:af (aX×d9))(F:af lM->af av->ag (af av))(ys:af lM)(H':af av)(ρ:af aX)(It:ah->af (aX×d9)->af aX->Prop)(k:ah)(s:aD):Prop where
 |mk (j:ah) (own:af (aX×d9)) (oC:d9) (nm:dv->ag aB) (aQ:af aX) (obs:af d9) (H:af av) (h₀:jf) (hk:k=ys.length-j) (hj:j<=ys.length) (q:F (ys.drop j) H=aa H') (hi:It j own aQ) (p:ρ<+:aQ) (R:HR c h₀ m (own++(C,oC)::ext) aQ obs H s) (hn:lA oC nm)
theorem DO{chk:af av->cj}{tf:MV->af av->ag (af MV)}{cap:ag ah}{l:ah->ag MV}{ft:St->ag (cj×St)}{fe:St->ag (MV×St)}{n:ah}{ys:af lM}{j:ah}{H H':af av}{P:Prop}(hj:j<=ys.length)(q:iR chk tf cap l ft fe n (ys.drop j) H=aa H')
  (h1:∀eY:j<ys.length,chk H=true->∀vs,tf (ys[j].get H) (ys[j].heap H)=aa vs->∀b ed,ft ⟨ys[j].heap H,dH vs cap l⟩=aa (b,ed)->(b=false->iR chk tf cap l ft fe n (ys.drop (j+1)) ed.H=aa H')->
   (b=true->∃v mA u sU,fe ed=aa (v,mA)/\fx [.ref n,v] mA.H=aa (u,sU)/\iR chk tf cap l ft fe n (ys.drop (j+1)) sU=aa H')->P) (h2:j=ys.length->chk H=true->H=H'->P):P:=by
 by_cases eY:j<ys.length
 ·rw[iE eY] at q
  refine fP (c:=chk H=true) q ?_;clear q;intro f9 q;refine eh q ?_;clear q;intro vs Ht q;refine ea q ?_;clear q;intro b ed h3 q;refine h1 eY f9 vs Ht b ed h3 (λhb=>?_) (λhb=>?_)
  ·subst hb;exact q
  ·subst hb;exact ea (WQ q) λv mA h4 q=>ea q λu sU h5 q=>⟨v,mA,u,sU,h4,h5,q⟩
 ·have ug:j=ys.length:=Lx hj eY
  rw[ug,qc] at q;exact fP (c:=chk H=true) q λf9 q=>h2 ug f9 (aR q)
theorem qA{C:aX}{m:dv->ag aB}{scope:kO}{cl:af (dv×aX)}{cn:af dv}{m9:cn.Nodup}{hk:scope.kind=.function}{ext ρ st s}{G:Prop}(R:Rel (c.inComp C m scope cl cn m9 hk) ext ρ st s)(k:∀h₁ obs,HR c h₁ m ext ρ obs st.H s->G):G:=
 R.el λh₀ ahq nm obs h a _=>by refine fD a λ_ Ao _=>?_;clear a;have W6:ahq=m:=Ao;subst W6;exact k h₀ obs h.YR
theorem Hc{elt pB iter:PySem.Expr}{ifs:af PySem.Expr}{scope:kO}{pos:iP}{cl:af (dv×aX)}{tn cn:af dv}{tf}{cap:ag ah}{ft fe}{t:cj}{I C D:aX}{n:ah}{ys:af lM}{chk:af av->cj}
  {ρ₀ ρ:af aX} {It} {m nm₀:dv->ag aB} {l:ah->ag MV} {ext:af (aX×d9)} {H':af av}
  (hh:c.A.handled=none) (K:wg c scope cl tn cn cap) (hT:GS g pB tn tf) (Tz:∀v H vs,tf v H=aa vs->vs.length=tn.length) (JT:t=true\/∀it v,gx pB it v=pure ⟨⟩)
  (he:∀c':Cx g,c'.A=c.A->c'.names=cn->(∃C,c'.env=dB scope cl C c.env)->dI c' elt fe)
  (ht:∀c':Cx g,c'.A=c.A->c'.names=cn->(∃C,c'.env=dB scope cl C c.env)->GQ c' ifs ft)
  (T:MS c I It t ys chk ρ₀) (hl:yo c nm₀ ρ₀ l) (hD:∀d7,ρ<+:d7->d7[n]?=aa D) (Er:ρ₀<+:ρ)
  {H:af av} (q:iR chk tf cap l ft fe n ys H=aa H') {own:af (aX×d9)} {oC:d9} {nm:dv->ag aB} {obs:af d9} {s:aD} (xa:It 0 own ρ) (R:HR c h₀ m (own++(C,oC)::ext) ρ obs H s) (hn:lA oC nm)
  {RR:xW->aD->Prop} (k:∀h₁ d7 xr vW pT s',ρ<+:d7->HR c h₁ m ((C,vW)::ext) d7 xr H' s'->lA vW pT->RR (.ok .next) s'):
  oj g.M c.A (.compLoop (.ListComp elt [⟨pB,iter,ifs,0⟩] scope pos) 0 (.ref I) (.ref D) (dB scope cl C c.env)) RR s:=by
 refine Am (CompI c C m ext (iR chk tf cap l ft fe n) ys H' ρ It) ?_ (ys.length-0) ⟨0,own,oC,nm,ρ,obs,H,_,rfl,jn _,q,xa,a9,R,hn⟩;refineλn₁ s h=>h.casesOn λj own oC nm aQ obs H h₀ J1 hj q xa b8 R hn=>?_;refine DO hj q (λeY f9 vs Ht b ed h3 hf htr=>?_) (λug f9 hH=>?_)
 ·refine T.item j ys[j] own _ m ((C,oC)::ext) obs H aQ s _ _ (ao eY) xa f9 (Er.trans b8) R λv' nQ cy nO dn vv Ho dG dh=>?_
  show bg _ _ (gx pB (.ref I) v') _ _ dn;have Fx:bg g.M c.A (assign pB (dB scope cl C c.env) v') (λ_ aff=>
   bg g.M c.A (forIn ifs true λe r=>if r=true then do let ok<-x8 e (dB scope cl C c.env) (eval e (dB scope cl C c.env));pure (fN ok) else pure (fN r)) (λok eS=>
    if ok=true then bg g.M c.A (eval elt (dB scope cl C c.env)) (λx ow=>bg g.M c.A (call (.builtin "list.append") [.ref D,x]) (λ_ kQ=>∃m',m'<n₁/\CompI c C m ext (iR chk tf cap l ft fe n) ys H' ρ It m' kQ) (jo g.M c.A (dB scope cl C c.env) λe s'=>RR (.error e) s') ow) (jo g.M c.A (dB scope cl C c.env) λe s'=>RR (.error e) s') eS
    else∃m',m'<n₁/\CompI c C m ext (iR chk tf cap l ft fe n) ys H' ρ It m' eS) (jo g.M c.A (dB scope cl C c.env) λe s'=>RR (.error e) s') aff) (jo g.M c.A (dB scope cl C c.env) λe s'=>RR (.error e) s') dn:=by
   have gI:HR c h₀ m ((C,oC)::(nQ++ext)) cy nO (ys[j].heap H) dn:=dh.perm ik;generalize(jo g.M c.A (dB scope cl C c.env) λe s'=>RR (.error e) s')=EE;refine hT c (dB scope cl C c.env) _ v' vs _ m _ cy nO (ys[j].heap H) dn _ _ hh Ht gI vv λeN h' hv hx=>?_;have hlen:=Tz _ _ _ Ht;refine CU K.kind tn eN oC nm _ K.loc (by rw[<-hlen,hv.1]) (gI.grow dn.toks hx) hn λvW pT eS nA rJ h1 h2=>?_;have mU:HR c h₀ m (nQ++(C,vW)::ext) cy nO (ys[j].heap H) eS:=nA.perm ik.symm;have tnd:tn.Nodup:=K.pre▸ko (lL ..) K.nd;have rI:=zE (C:=C) (m₀:=m) K hl ((Er.trans b8).trans dG) hv hlen λi x v a b=>h1 i x v tnd a b;have Dy:Rel (c.inComp C m scope cl cn K.nd K.kind) (nQ++(C,vW)::ext) cy ⟨ys[j].heap H,dH vs cap l⟩ eS:=⟨h₀,m,pT,nO,mU.into,⟨rfl,rfl,vW,bw _ (.head _),rJ⟩,rI⟩;have fin:∀{sU mB Un Ka kQ},iR chk tf cap l ft fe n (ys.drop (j+1)) sU=aa H'->cy<+:mB->HR c Ka m (nQ++(C,vW)::ext) mB Un sU kQ->∃m',m'<n₁/\CompI c C m ext (iR chk tf cap l ft fe n) ys H' ρ It m' kQ:=λq p h=>⟨_,J1▸O3 eY,j+1,nQ,vW,pT,_,_,_,_,rfl,eY,q,T.mono _ _ _ _ Ho p,(b8.trans dG).trans p,h,rJ⟩
   refine ht (c.inComp C m scope cl cn K.nd K.kind) rfl rfl ⟨C,rfl⟩ _ _ ed h3 _ cy eS Dy _ _ λiH ow iU BL=>?_;cases b with
   |false=>rw[aZ (by decide)];exact qA BL λ_ xt oq=>fin (hf rfl) iU oq
   |true=>rw[aP rfl];refine ex4 (htr rfl) λv mA u sU h=>an3 h λh4 h5 q=>?_;refine he (c.inComp C m scope cl cn K.nd K.kind) rfl rfl ⟨C,rfl⟩ _ _ mA h4 _ iH ow BL _ _ λC7 w kQ HU RL vw=>?_;have pp:=(b8.trans dG).trans (iU.trans HU);refine jV (c:=c.inComp C m scope cl cn K.nd K.kind) mA _ _ _ h5 _ C7 kQ [.ref D,w] RL (iD.cons ⟨D,hD C7 pp,rfl⟩ (iD.cons vw iD.nil)) _ _ λmB _ Vx rN RM _=>?_;exact qA RM λ_ xt oq=>fin q ((iU.trans HU).trans rN) oq
  rcases JT with JT|JT
  ·exact T.go JT (j+1) nQ _ m _ nO _ cy dn _ _ pB v' Ho dh Fx
  ·exact By (JT _ _) Fx
 ·rw[ug] at xa
  exact T.done own _ m _ obs _ aQ s _ _ xa f9 (Er.trans b8) R λdn dh=>k h₀ aQ obs oC nm dn b8 (hH▸dh) hn
end fG
namespace fG
open PySem PySem.W PySem.Calls PyProof.Rows
variable{g:Gl}{c:Cx g}
theorem xq{scope:kO}{cl:af (dv×aX)}{m:dv->ag aB}{ext:af (aX×d9)}{ρ:af aX}{obs:af d9}{H:af av}{s:aD}{Q:ux->aD->Prop}{E:aB->aD->Prop}{A:eD}
  (tq:∀y∈scope.names,y.2≠ .cell) (uT:scope.kind=.function) (R:HR c h₀ m ext ρ obs H s)
  (k:∀C oC nm s'(BU:ux),BU.locals=C->{BU with scope:=relabel scope c.env}=dB scope cl C c.env->HR c h₀ m ((C,oC)::ext) ρ obs H s'->lA oC nm->Q BU s'):
  bg g.M A (newFunctionEnv scope c.env.globals cl [] c.env.qual none .none (aa c.env)) Q E s:=by
 refine P0 tq (by intro y hy;simp at hy) (λh₁ D6 XW=>?_) uT;refine cv (LCg.ns_obj D6) λoC heC hoC=>?_;have bW:=R.push s.toks {cls:=.type (if(aa c.env).isSome then "dict" else "frame"),data:=.dict #[]};exact k s.heap.objs.size oC _ _ _ rfl rfl (bW.change _ (λb o hb e=>(XW.2 b hb).trans e) heC) hoC
noncomputable def iS(tf:MV->af av->ag (af MV))(cap:ag ah)(fi:St->ag ((af lM×(af av->cj))×St))(ft:St->ag (cj×St))(fe:St->ag (MV×St)):St->ag (MV×St):=λst=>YI (fi st) λys chk ax=>ot (iR chk tf cap ax.l ft fe ax.H.length ys (ax.H++[.list []])) λH'=>aa (.ref ax.H.length,{ax with H:=H'})
theorem zt{elt pB iter:PySem.Expr}{ifs:af PySem.Expr}{scope:kO}{pos:iP}{cl:af (dv×aX)}{tn cn:af dv}{tf}{cap:ag ah}{ft fe fi}{t:cj}
  (hc:c.comp=none) (hh:c.A.handled=none) (K:wg c scope cl tn cn cap) (hT:GS g pB tn tf) (Tz:∀v H vs,tf v H=aa vs->vs.length=tn.length) (JT:t=true\/∀it v,gx pB it v=pure ⟨⟩)
  (hi:Ah c iter t fi)
  (he:∀c':Cx g,c'.A=c.A->c'.names=cn->(∃C,c'.env=dB scope cl C c.env)->dI c' elt fe)
  (ht:∀c':Cx g,c'.A=c.A->c'.names=cn->(∃C,c'.env=dB scope cl C c.env)->GQ c' ifs ft)
  {st bZ:St} {v:MV} (q:iS tf cap fi ft fe st=aa (v,bZ)) {ext ρ s} (R:Rel c ext ρ st s) {RR:aB->aX->xW->aD->Prop} {E:aB->aD->Prop}
  (k:∀d7 v' C oC nm s',ρ<+:d7->Rel c ((C,oC)::ext) d7 bZ s'->lA oC nm->VR g d7 v v'->RR v' C (.ok .next) s'):
  bg g.M c.A (eval iter c.env) (λx bC=>bg g.M c.A (Bp x) (λit dn=>bg g.M c.A (newList []) (λacc eS=>
   bg g.M c.A (newFunctionEnv scope c.env.globals cl [] c.env.qual none .none (aa c.env)) (λBU ow=>oj g.M c.A (.compStart (.ListComp elt [⟨pB,iter,ifs,0⟩] scope pos) 0 it acc {BU with scope:=relabel scope c.env}) (RR acc BU.locals) ow) E eS) E dn) E bC) E s:=by
 refine K9 q ?_;clear q;intro ys chk ax h1 q;refine eh q ?_;clear q;intro H' h2 q;cases q
 refine hi st ys chk ax h1 ext ρ s R _ _ λaQ I It own bC b8 T xa f9 _ bW=>?_;have dh:Rel c (own++ext) (aQ++[bC.heap.objs.size]) {ax with H:=ax.H++[.list []]} {bC with heap:=bC.heap.push {cls:=.type "list",data:=.seq ([]:af aB).toArray},toks:=bC.toks}:=bW.push _ ⟨[],0,rfl,by simp,iD.nil⟩;refine kr ?_;refine Rel.el dh λh₀ m nm obs h a b=>?_;have hlen:ax.H.length=aQ.length:=bW.len;refine xq K.cell K.kind h λC oC QT eS BU hC S7 oq J2=>?_;rw[S7,hC];have loop:oj g.M c.A (.compLoop (.ListComp elt [⟨pB,iter,ifs,0⟩] scope pos) 0 (.ref I) (.ref bC.heap.objs.size) (dB scope cl C c.env)) (RR (.ref bC.heap.objs.size) C) eS:=by
  refine Hc (ρ₀:=aQ) (ρ:=aQ++[bC.heap.objs.size]) (nm₀:=nm) hh K hT Tz JT he ht T ?_ (λd7 p'=>bj p' (by rw[hlen];simp)) ⟨_,rfl⟩ h2 (T.mono _ _ _ _ xa ⟨_,rfl⟩) (oq.perm ik.symm) J2 λh₁ d7 xr vW pT s' p' h' rJ=>?_
  ·refine Rel.el bW λN6 m₀ nm₀ Um h₀ DD sm=>?_;clear bW
   have:nm=nm₀:=by
    unfold o6 at a DD;rw[hc] at a DD;rw[a.2,DD.2];have e1:=h.F.ns;have e2:=h₀.F.ns;refine CJ e1 λo es ep ho hd hk hf=>?_;clear e1;refine CJ e2 λo' es' ep' vl Qz MB hf'=>?_;clear e2;have ag2:=bY {cls:=.type "list",data:=.seq ([]:af aB).toArray} vl;have ho2:(bC.heap.push {cls:=.type "list",data:=.seq ([]:af aB).toArray}).get? c.L=aa o:=ho;rw[ag2] at ho2;cases ho2
    rw[Qz] at hd;cases hd
    funext z;rw[<-hf z,<-hf' z]
   rw[this];exact sm
  ·refine k d7 _ C vW pT s' (b8.trans (lJ ⟨_,rfl⟩ p')) ⟨h₁,m,nm,xr,h',?_,?_⟩ rJ ⟨_,bj p' (by rw[hlen];simp),rfl⟩
   ·exact a.ofFn hc
   ·exact b.mono p'
 exact codeAny_compStart_list loop (T.self 0 own _ m ((C,oC)::ext) obs _ _ eS _ _ (T.mono _ _ _ _ xa ⟨_,rfl⟩) (oq.perm ik.symm) loop)
theorem oN{elt pB iter:PySem.Expr}{ifs:af PySem.Expr}{scope:kO}{pos:iP}{cl:af (dv×aX)}{tn cn:af dv}{tf}{cap:ag ah}{ft fe fi}{t:cj}
  (hc:c.comp=none) (hh:c.A.handled=none) (K:wg c scope cl tn cn cap) (hT:GS g pB tn tf) (Tz:∀v H vs,tf v H=aa vs->vs.length=tn.length) (JT:t=true\/∀it v,gx pB it v=pure ⟨⟩)
  (Ce:xZ scope c.env=pure cl) (xc:∀x∈scope.names,x.2=.local->scope.names.lookup x.1=aa .local) (hs:∀x,i5 iter c.env x=pure x)
  (hi:Ah c iter t fi)
  (he:∀c':Cx g,c'.A=c.A->c'.names=cn->(∃C,c'.env=dB scope cl C c.env)->dI c' elt fe)
  (ht:∀c':Cx g,c'.A=c.A->c'.names=cn->(∃C,c'.env=dB scope cl C c.env)->GQ c' ifs ft):
  dI c (.ListComp elt [⟨pB,iter,ifs,0⟩] scope pos) (iS tf cap fi ft fe):=by
 intro st v bZ q ext ρ s R Q E k;rw[eval_ListComp];refine qS (use:=none) rfl hs Ce K.kind xc ?_;refine zt (RR:=λacc C=>compPost g.M c.A E none Q acc C) hc hh K hT Tz JT hi he ht q R λd7 v' C oC nm s' p' R' hn vv=>?_;refine Rel.el R' λh₀ m pT obs h a b=>?_;clear R';refine⟨nm,hn.ns h.mL,λh' yc=>k d7 v' _ p' ⟨h₀,m,pT,obs,h.leave s'.toks (λb o hb e=>(yc.2 b hb).trans e),a.ofFn hc,b⟩ vv⟩
theorem sW{x:dv}{px afe:iP}{elt pB iter:PySem.Expr}{ifs:af PySem.Expr}{scope:kO}{pos:iP}{cl:af (dv×aX)}{tn cn:af dv}{tf}{cap:ag ah}{ft fe fi}{t:cj}(i:ah)
  (hc:c.comp=none) (hh:c.A.handled=none) (hx:c.names[i]?=aa x) (hk:c.env.kindOf x=aa .local) (K:wg c scope cl tn cn cap) (hT:GS g pB tn tf) (Tz:∀v H vs,tf v H=aa vs->vs.length=tn.length) (JT:t=true\/∀it v,gx pB it v=pure ⟨⟩)
  (Ce:xZ scope c.env=pure cl) (xc:∀x∈scope.names,x.2=.local->scope.names.lookup x.1=aa .local) (hs:∀x,i5 iter c.env x=pure x)
  (Tx:jt (.ListComp elt [⟨pB,iter,ifs,0⟩] scope pos) (aa (.Name x px)) afe.line c.env=pure true)
  (hi:Ah c iter t fi)
  (he:∀c':Cx g,c'.A=c.A->c'.names=cn->(∃C,c'.env=dB scope cl C c.env)->dI c' elt fe)
  (ht:∀c':Cx g,c'.A=c.A->c'.names=cn->(∃C,c'.env=dB scope cl C c.env)->GQ c' ifs ft):
  oo c (.Assign [.Name x px] (.ListComp elt [⟨pB,iter,ifs,0⟩] scope pos) afe) (ba i (iS tf cap fi ft fe)):=by
 intro st r bZ q ext ρ s R Q E k;refine ea q ?_;clear q;intro v ax h1 q;cases q
 rw[exec_Assign_Name_used _ _ _ _ Tx];refine aw (jh (aw ?_));show bg _ c.A (do let _<-comprehension (.ListComp elt [⟨pB,iter,ifs,0⟩] scope pos) scope c.env _ (newList []) false (eval iter c.env) (aa (assign (.Name x px) c.env))) _ _ s;refine aw (ie (qS (use:=aa (assign (.Name x px) c.env)) (Q:=λ_ s'=>Q .next s') rfl hs Ce K.kind xc ?_) (λ_ s' hq=>bA (bA hq)) λ_ _ e=>e);refine zt (RR:=λacc C=>compPost g.M c.A E (aa (assign (.Name x px) c.env)) (λ_ s'=>Q .next s') acc C) hc hh K hT Tz JT hi he ht h1 R λd7 v' C oC nm s' p' R' hn vv=>?_;show bg g.M c.A (assign (.Name x px) c.env v') _ _ s';refine kq (R'.store hc hx hk vv λVm VV=>?_);refine Rel.el VV λh₀ m pT obs h a b=>?_;clear VV;exact⟨nm,hn.ns h.mL,λh' yc=>k d7 _ _ p' ⟨h₀,m,pT,obs,h.leave Vm.toks (λb o hb e=>(yc.2 b hb).trans e),a.ofFn hc,b⟩ rfl⟩
section
variable{prog:kp}{w:wc}{K:Type}[Bv K]{knd:KeyKind prog w K}{A:eD}{E:aB->aD->Prop}{s:aD}{d:aX}{gs:af (K×aB)}{ep:ah}{k:K}{key v:aB}
theorem DP{Q:xX->aD->Prop}(rH:knd.is k key=true)(hm:s.heap.DictAt knd d gs ep)
  (hQ:∀h',h'.DictAt knd d (stored gs k v) (if gs.any (λkv=>decide (kv.1=k)) then ep else ep+1)->kn d s.heap h'->Q ⟨⟩ {s with heap:=h',toks:=s.toks+1})
  (hsz:gs.length<=lE):bg (model prog w) A (yU d key v) Q E s:=by
 refine OT (id hm) λo es ho hc hd hk hp hn=>?_;have Xz:es.size<=lE:=by
  have e1:=hp.length;have e2:es.toList.length=es.size:=by simp
  exact UW hsz e1 e2
 unfold yU
 try with_reducible refine cN ?_
 refine aw (knd.pyHash rH ?_);unfold dictSetHashed
 try with_reducible refine cN ?_
 refine aw (yZ (s:={s with toks:=s.toks+1}) rH ho hd hk ?_);have NR:=B4 (k:=k) hm hp;cases hi:es.findIdx? λe=>knd.is k e.key with
 |some i=>
  rw[hi] at NR;have oP:(gs.any λkv=>decide (kv.1=k))=true:=NR.symm;refine aw (yb (aw (afO (s:={s with toks:=s.toks+1}) ho hd (wpAny_point (hQ _ ⟨_,_,gm _ ho (kN (qk hd _)),
   hc.mapDict _,?_,hk.modify i v,?_,?_⟩ (eO ..))))))
  ·rw[aP oP];exact qk hd _
  ·rw[stored,aP oP]
   have hl:(es.toList.findIdx? λe=>knd.is k e.key)=aa i:=by rw[<-hi];obtain⟨l⟩:=es;simp
   have:=hp.modify hn hl v;obtain⟨l⟩:=es;simpa using this
  ·rw[stored,aP oP,keys_map_store];exact hn
 |none=>
  rw[hi] at NR;have oP:¬(gs.any λkv=>decide (kv.1=k))=true:=by rw[<-NR];decide
  have Tj:k∉gs.map (·.1):=λq=>by refine cv (aU.mp q) λkv rX e=>?_;exact oP (v5.mpr ⟨kv,rX,cM e⟩)
  refine aw (yb (uF (hz:=Xz) (s:={s with toks:=s.toks+1}) ho hd (hQ _ ⟨_,_,gm _ ho (kN (iN hd _)),
   hc.mapDictKeys _,?_,hk.push rH v,?_,?_⟩ (eO ..))))
  ·rw[aZ oP];exact iN hd _
  ·rw[stored,aZ oP]
   have:=hp.append rH (knd.hash k) v;obtain⟨l⟩:=es;simpa using this
  ·rw[stored,aZ oP,d4,gN]
   refine⟨hn,by simp,?_⟩;intro a ha b hb;simp only[bX,Dk,bT] at hb;subst hb;exactλe=>Tj (e▸ha)
end
theorem Nm{ρ:af aX}{es:af (aE×MV)}{gs:af (aE×aB)}{ep:ah}{k:aE}{v:MV}{v':aB}{h':jf}{a:aX}(eY:es.length<1000)(ma:gs.length=es.length)(JY:gs.map (·.1)=es.map (·.1))
  (rX:∀(i:ah) x,es[i]?=aa x->∃v,gs[i]?=aa (x.1,v)/\VR g ρ x.2 v) (hv:VR g ρ v v') (D':h'.DictAt (eE g.prog g.w) a (stored gs k v') (if gs.any (λkv=>decide (kv.1=k)) then ep else ep+1)):
  ∃b',h'.get? a=aa b'/\OR g ρ (ub es ep k v) b':=by
 have oP:=I9 (ρ:=ρ) JY k;unfold stored at D';unfold ub;rw[oP] at D';split
 ·rename_i hp
  rw[aP hp,aP hp] at D';refine pv D' (by simp[ma]) (by simp;exact adT eY) λi x hx=>?_;rw[b9] at hx;cases q:es[i]? with
  |none=>rw[q] at hx;cases hx
  |some y=>
   rw[q] at hx;refine cv (rX i y q) λw e1 r1=>?_;rw[b9,e1];simp only[Mq,Bx] at hx⊢;subst hx;by_cases hy:y.1=k
   ·simp only[aP hy];exact⟨v',rfl,hv⟩
   ·simp only[aZ hy];exact⟨w,rfl,r1⟩
 ·rename_i hp
  rw[aZ hp,aZ hp] at D';refine pv D' (by simp[ma]) (by simp;exact OZ eY) λi x hx=>?_;by_cases hi:i<es.length
  ·rw[aA hi] at hx
   refine cv (rX i x hx) λw e1 r1=>?_;exact⟨w,by rw[aA (H7 ma hi:)];exact e1,r1⟩
  ·have NU:i=es.length:=by
    have:=(gM hx);simp at this;exact Lz hi this
   subst NU;simp at hx;subst hx;exact⟨v',by rw[<-ma];simp,hv⟩
theorem BV{l:ah}{i v:MV}{H':af av}{ext ρ st s}{a:aX}{i' v':aB}(e:vt (.ref l) i v st.H=aa H')(R:Rel c ext ρ st s)(ha:ρ[l]?=aa a)(hi:VR g ρ i i')(hv:VR g ρ v v'){Q:xX->aD->Prop}{E:aB->aD->Prop}{A:eD}
  (kk:∀s',Rel c ext ρ {st with H:=H'} s'->Q ⟨⟩ s'):bg g.M A (yU a i' v') Q E s:=by
 refine jL e ?_;clear e;intro l' ho e;cases ho
 refine mr e ?_;clear e;intro k hk e;subst hk;refine uV e ?_;clear e;intro es ep h1 e;refine fP e ?_;clear e;intro eY e;cases e
 refine dA hi λt cP=>?_;clear hi;subst cP;refine R.jw (h1) (ha) λb hb r=>?_;refine lT (eR r hb) λgs D ma JY rX=>?_;refine DP (knd:=eE g.prog g.w) (k:=k) (by show(k==k)=true;simp) D (λh' D' hs=>?_) (by rw[ma,fQ];exact Uz eY);refine cv (Nm eY ma JY rX hv D') λb' oQ r'=>?_;exact kk _ (R.setAt _ ha hs oQ (λo q=>by rw[h1] at q;cases q;rw[BX];rfl) (λ_ _ _ _ q=>by rw[h1] at q;cases q) r')
noncomputable def s6(chk:af av->cj)(cap:ag ah)(l:ah->ag MV)(fk fv:St->ag (MV×St))(n:ah)(ys:af lM):af av->ag (af av):=@dC lM (λ_=>af av->ag (af av)) (λH=>if chk H=true then aa H else none)
 (λy _ ih H=>if chk H=true then ob (fk ⟨y.heap H,dH [y.get H] cap l⟩) λkv cH=>ob (fv cH) λvv ed=>ot (vt (.ref n) kv vv ed.H) ih else none) ys
theorem DL{chk:af av->cj}{cap:ag ah}{l:ah->ag MV}{fk fv:St->ag (MV×St)}{n:ah}{ys:af lM}{j:ah}{H H':af av}{P:Prop}(hj:j<=ys.length)(q:s6 chk cap l fk fv n (ys.drop j) H=aa H')
  (h1:∀eY:j<ys.length,chk H=true->∀kv ed vv mA sU,fk ⟨ys[j].heap H,dH [ys[j].get H] cap l⟩=aa (kv,ed)->fv ed=aa (vv,mA)->vt (.ref n) kv vv mA.H=aa sU->s6 chk cap l fk fv n (ys.drop (j+1)) sU=aa H'->P) (h2:j=ys.length->chk H=true->H=H'->P):P:=by
 by_cases eY:j<ys.length
 ·rw[iE eY] at q
  refine fP (c:=chk H=true) q ?_;clear q;intro f9 q;refine ea q ?_;clear q;intro kv ed h3 q;refine ea q ?_;clear q;intro vv mA h4 q;refine eh q ?_;clear q;intro sU h5 q;exact h1 eY f9 _ _ _ _ _ h3 h4 h5 q
 ·have ug:j=ys.length:=Lx hj eY
  rw[ug,qc] at q;exact fP (c:=chk H=true) q λf9 q=>h2 ug f9 (aR q)
theorem DM{kx vx iter:PySem.Expr}{x:dv}{px:iP}{scope:kO}{pos:iP}{cl:af (dv×aX)}{cn:af dv}{cap:ag ah}{fk fv}{t:cj}{I C D:aX}{n:ah}{ys:af lM}{chk:af av->cj}
  {ρ₀ ρ:af aX} {It} {m nm₀:dv->ag aB} {l:ah->ag MV} {ext:af (aX×d9)} {H':af av}
  (hh:c.A.handled=none) (K:wg c scope cl [x] cn cap)
  (hk:∀c':Cx g,c'.A=c.A->c'.names=cn->(∃C,c'.env=dB scope cl C c.env)->dI c' kx fk)
  (hv:∀c':Cx g,c'.A=c.A->c'.names=cn->(∃C,c'.env=dB scope cl C c.env)->dI c' vx fv)
  (T:MS c I It t ys chk ρ₀) (hl:yo c nm₀ ρ₀ l) (hD:∀d7,ρ<+:d7->d7[n]?=aa D) (Er:ρ₀<+:ρ)
  {H:af av} (q:s6 chk cap l fk fv n ys H=aa H') {own:af (aX×d9)} {oC:d9} {nm:dv->ag aB} {obs:af d9} {s:aD} (xa:It 0 own ρ) (R:HR c h₀ m (own++(C,oC)::ext) ρ obs H s) (hn:lA oC nm)
  {RR:xW->aD->Prop} (k:∀h₁ d7 xr vW pT s',ρ<+:d7->HR c h₁ m ((C,vW)::ext) d7 xr H' s'->lA vW pT->RR (.ok .next) s'):
  oj g.M c.A (.compLoop (.DictComp kx vx [⟨.Name x px,iter,[],0⟩] scope pos) 0 (.ref I) (.ref D) (dB scope cl C c.env)) RR s:=by
 refine yr (CompI c C m ext (s6 chk cap l fk fv n) ys H' ρ It) ?_ (ys.length-0) ⟨0,own,oC,nm,ρ,obs,H,_,rfl,jn _,q,xa,a9,R,hn⟩ (λ_=>rfl);refineλn₁ s h=>h.casesOn λj own oC nm aQ obs H h₀ J1 hj q xa b8 R hn=>?_;refine DL hj q (λeY f9 kv ed vv mA sU h3 h4 h5 q=>?_) (λug f9 hH=>?_)
 ·refine T.item j ys[j] own _ m ((C,oC)::ext) obs H aQ s _ _ (ao eY) xa f9 (Er.trans b8) R λv' nQ cy nO dn vv Ho dG dh=>?_
  have gI:HR c h₀ m ((C,oC)::(nQ++ext)) cy nO (ys[j].heap H) dn:=dh.perm ik;refine kq ?_;have sL:iD g cy [ys[j].get H] [v']:=iD.cons vv iD.nil;generalize(jo g.M c.A (dB scope cl C c.env) λe s'=>RR (.error e) s')=EE;have ql:=CU (c:=c) (cl:=cl) (A:=c.A) (E:=EE) (Q:=λeS=>bg g.M c.A (forIn ([]:af PySem.Expr) true λe r=>if r=true then do let ok<-x8 e (dB scope cl C c.env) (eval e (dB scope cl C c.env));pure (fN ok) else pure (fN r)) (λok eS=>
     if ok=true then bg g.M c.A (eval kx (dB scope cl C c.env)) (λkv ow=>bg g.M c.A (eval vx (dB scope cl C c.env)) (λvv kQ=>bg g.M c.A (yU D kv vv) (λ_ kQ=>∃m',m'<n₁/\CompI c C m ext (s6 chk cap l fk fv n) ys H' ρ It m' kQ) EE kQ) EE ow) EE eS
     else∃m',m'<n₁/\CompI c C m ext (s6 chk cap l fk fv n) ys H' ρ It m' eS) EE eS) K.kind [x] [v'] oC nm dn K.loc rfl gI hn λvW pT eS nA rJ h1 h2=>?_
  ·exact ql
  ·have mU:HR c h₀ m (nQ++(C,vW)::ext) cy nO (ys[j].heap H) eS:=nA.perm ik.symm
   have rI:=zE (C:=C) (m₀:=m) K hl ((Er.trans b8).trans dG) sL rfl λi y w a b=>h1 i y w (by simp) a b;have Dy:Rel (c.inComp C m scope cl cn K.nd K.kind) (nQ++(C,vW)::ext) cy ⟨ys[j].heap H,dH [ys[j].get H] cap l⟩ eS:=⟨h₀,m,pT,nO,mU.into,⟨rfl,rfl,vW,bw _ (.head _),rJ⟩,rI⟩;refine agn ?_;rw[aP rfl];refine hk (c.inComp C m scope cl cn K.nd K.kind) rfl rfl ⟨C,rfl⟩ _ _ ed h3 _ cy eS Dy _ _ λiH kv' ow iU BL vk=>?_;refine hv (c.inComp C m scope cl cn K.nd K.kind) rfl rfl ⟨C,rfl⟩ _ _ mA h4 _ iH ow BL _ _ λC7 w kQ HU RL vw=>?_;have pp:=(b8.trans dG).trans (iU.trans HU);refine BV (c:=c.inComp C m scope cl cn K.nd K.kind) h5 RL (hD C7 pp) (vk.mono HU) vw λVx RM=>?_;exact qA RM λ_ xt oq=>⟨_,J1▸O3 eY,j+1,nQ,vW,pT,C7,xt,sU,_,rfl,eY,q,T.mono _ _ _ _ Ho (iU.trans HU),pp,oq,rJ⟩
 ·rw[ug] at xa
  exact T.done own _ m _ obs _ aQ s _ _ xa f9 (Er.trans b8) R λdn dh=>k h₀ aQ obs oC nm dn b8 (hH▸dh) hn
noncomputable def rh(cap:ag ah)(fi:St->ag ((af lM×(af av->cj))×St))(fk fv:St->ag (MV×St)):St->ag (MV×St):=λst=>YI (fi st) λys chk ax=>ot (s6 chk cap ax.l fk fv ax.H.length ys (ax.H++[.dict [] 0])) λH'=>aa (.ref ax.H.length,{ax with H:=H'})
theorem Ge{h h':jf}{L:aX}{m m':dv->ag aB}(e1:h.Ns L m)(e2:h'.Ns L m')(k:∀o,h.get? L=aa o->h'.get? L=aa o):m=m':=by
 refine CJ e1 λo es ep ho hd hk hf=>?_;clear e1;refine CJ e2 λo' es' ep' vl Qz MB hf'=>?_;clear e2;rw[k o ho] at vl;cases vl
 rw[hd] at Qz;cases Qz
 funext z;rw[<-hf z,<-hf' z]
theorem Dm{kx vx iter:PySem.Expr}{x:dv}{px:iP}{scope:kO}{pos:iP}{cl:af (dv×aX)}{cn:af dv}{cap:ag ah}{fk fv fi}{t:cj}
  (hc:c.comp=none) (hh:c.A.handled=none) (K:wg c scope cl [x] cn cap)
  (Ce:xZ scope c.env=pure cl) (xc:∀x∈scope.names,x.2=.local->scope.names.lookup x.1=aa .local) (hs:∀x,i5 iter c.env x=pure x)
  (hi:Ah c iter t fi)
  (hk:∀c':Cx g,c'.A=c.A->c'.names=cn->(∃C,c'.env=dB scope cl C c.env)->dI c' kx fk)
  (hv:∀c':Cx g,c'.A=c.A->c'.names=cn->(∃C,c'.env=dB scope cl C c.env)->dI c' vx fv)
  (hev:eval (.DictComp kx vx [⟨.Name x px,iter,[],0⟩] scope pos) c.env=comprehension (.DictComp kx vx [⟨.Name x px,iter,[],0⟩] scope pos) scope c.env (Mv [⟨.Name x px,iter,[],0⟩] pos) newDict false (eval iter c.env)):
  dI c (.DictComp kx vx [⟨.Name x px,iter,[],0⟩] scope pos) (rh cap fi fk fv):=by
 intro st v bZ q ext ρ s R Q E k;rw[hev];refine qS (use:=none) rfl hs Ce K.kind xc ?_;refine K9 q ?_;clear q;intro ys chk ax h1 q;refine eh q ?_;clear q;intro H' h2 q;cases q
 refine hi st ys chk ax h1 ext ρ s R _ _ λaQ I It own bC b8 T xa f9 _ bW=>?_;have dh:Rel c (own++ext) (aQ++[bC.heap.objs.size]) {ax with H:=ax.H++[.dict [] 0]} {bC with heap:=bC.heap.push {cls:=.type "dict",data:=.dict #[] 0},toks:=bC.toks}:=bW.push _ ⟨[],rfl,rfl,by simp,eB,λi x h=>by cases h⟩;refine kr ?_;refine Rel.el dh λh₀ m nm obs h a b=>?_;have hlen:ax.H.length=aQ.length:=bW.len;refine xq K.cell K.kind h λC oC QT eS BU hC S7 oq J2=>?_;rw[S7,hC];have loop:oj g.M c.A (.compLoop (.DictComp kx vx [⟨.Name x px,iter,[],0⟩] scope pos) 0 (.ref I) (.ref bC.heap.objs.size) (dB scope cl C c.env)) (compPost g.M c.A E none Q (.ref bC.heap.objs.size) C) eS:=by
  refine DM (ρ₀:=aQ) (ρ:=aQ++[bC.heap.objs.size]) (nm₀:=nm) hh K hk hv T ?_ (λd7 p'=>bj p' (by rw[hlen];simp)) ⟨_,rfl⟩ h2 (T.mono _ _ _ _ xa ⟨_,rfl⟩) (oq.perm ik.symm) J2 λh₁ d7 xr vW pT s' p' h' rJ=>?_
  ·refine Rel.el bW λN6 m₀ nm₀ Um h₀ DD sm=>?_;clear bW
   have:nm₀=nm:=by unfold o6 at a DD;rw[hc] at a DD;rw[a.2,DD.2];exact Ge h₀.F.ns h.F.ns λo e=>bY _ e
   rw[<-this];exact sm
  ·refine⟨pT,rJ.ns h'.mL,λIz yc=>k d7 _ _ (b8.trans (lJ ⟨_,rfl⟩ p')) ⟨h₁,m,nm,xr,h'.leave s'.toks (λb o hb e=>(yc.2 b hb).trans e),a.ofFn hc,b.mono p'⟩ ⟨_,bj p' (by rw[hlen];simp),rfl⟩⟩
 exact codeAny_compStart_dict loop (T.self 0 own _ m ((C,oC)::ext) obs _ _ eS _ _ (T.mono _ _ _ _ xa ⟨_,rfl⟩) (oq.perm ik.symm) loop)
noncomputable def ahk(o:av):ag ah:=av.pr (λxs=>aa xs.length) (λxs=>aa xs.length) (λes _=>aa es.length) n1 n1 n1 n2 n2 n1 n1 o
noncomputable def jc:af MV->af av->ag (MV×af av):=λvs H=>a1 vs λi=>ot H[i]? λo=>ot (ahk o) λn=>aa (.int (n:ah),H)
theorem lS:gj c (.builtin "len") jc:=by
 intro st vs r H' q ext ρ s eN R hv Q E k;refine BO q ?_;clear q;intro i hi q;subst hi;refine eu hv.inv λv0 ws cP r0 sL=>?_;subst cP;cases sL.mJ
 refine eh q ?_;clear q;intro o h1 q;refine R.objE h1 λa b ha hb et=>?_;rw[r0.dq ha];have fin:∀{n m:ah},n=m->aa (MV.int (m:ah),st.H)=aa (r,H')->Q (.int (n:ah) (s.toks+1)) {s with toks:=s.toks+1+1}:=λe q=>Rg q λh1 h2=>k ρ _ _ a9 (h2▸R.lF _) (h1▸⟨s.toks+1,by rw[e]⟩);cases o with
 |list xs=>refine eu et λys n cP hz vv=>?_;clear et;subst cP;exact call_len_list (items:=ys.toArray) ⟨_,hb,rfl,n,rfl⟩ (by rw[bN,<-vv.1];lia) (fin (by rw[bN,<-vv.1]) q)
 |tup xs=>refine eu et λys n cP hz vv=>?_;clear et;subst cP;exact len_tuple (items:=ys.toArray) ⟨_,hb,rfl,n,rfl⟩ (by rw[bN,<-vv.1];omega) (fin (by rw[bN,<-vv.1]) q)
 |dict es ep=>
  have hz:es.length<=1000:=by refine lT et λ_ _ _ hz _=>?_;exact hz
  refine lT (eR et hb) λgs D ma JY rX=>?_;exact call_len_dict (knd:=eE g.prog g.w) (jW R ha) D.dictOf (by rw[ma];lia) (fin ma q)
 |_=>exact lR q
noncomputable def uk:af MV->af av->ag (MV×af av):=λvs H=>a1 vs λi=>og av.ls H[i]? λxs=>aa (.ref H.length,H++[.tup xs])
theorem CI:gj c (.type "tuple") uk:=by
 intro st vs r H' q ext ρ s eN R hv Q E k;refine BO q ?_;clear q;intro i hv q;subst hv;refine eu hv.inv λv0 ws cP r0 sL=>?_;subst cP;cases sL.mJ
 refine nP q ?_;clear q;intro xs h1 q;cases q
 refine R.objE (h1) λa b ha hb et=>?_;refine eu et λys n cP hz vv=>?_;clear et;subst cP;rw[r0.dq ha];refine call_tuple_list (items:=ys.toArray) ⟨_,hb,rfl,n,rfl⟩ (λh' hk=>?_) (by rw[bN,<-vv.1,fQ];exact Es hz);have bW:=R.grow s.toks hk;exact k _ _ _ ⟨_,rfl⟩ (bW.push s.toks ⟨ys,0,rfl,hz,vv.mono ⟨_,rfl⟩⟩) (jU R.len)
noncomputable def Ul(x:Float64.Num):ag (cj×ah×aE):=@ao0 (λ_=>ag (cj×ah×aE)) none (λ_=>none) (λa b c=>aa (a,b,c)) x
noncomputable def Oz:af MV->af av->ag (MV×af av):=λvs H=>ot (l1 vs) λa=>ot a.fl λx=>ob (Ul (jM x)) λsg p=>aa (.int (iB sg p.1 p.2),H)
theorem Le:gj c (.type "int") Oz:=by
 intro st vs r H' q ext ρ s eN R hv Q E k;refine eh q ?_;clear q;intro y h1 q;refine eh q ?_;clear q;intro x h2 q;have Ht:=Om h1;have hx:=Sy h2;subst Ht;subst hx;refine ea q ?_;clear q;intro sg p h q;obtain⟨v0,ws,rfl,⟨u,rfl⟩,sL⟩:=hv.inv;cases sL.mJ
 cases q
 have h:jM x=.fin sg p.1 p.2:=by
  cases hd:jM x with
  |fin a b c=>rw[hd] at h;exact Rg (show aa (a,(b,c))=aa (sg,p) from h) λe1 e2=>by rw[e1,<-e2]
  |_=>rw[hd] at h;exact lR h
 exact call_int_float h (k ρ _ _ a9 (R.lF _) ⟨_,rfl⟩)
theorem vm(l:aX)(items:fm aB)(n:ah)(hz:(items.size:aE)<2^63):Meets (nZ.«bool.__new__» ⟨[.type "bool",.ref l],[]⟩) (λA R s=>s.heap.get? l=aa {cls:=.type "list",data:=.seq items n}/\R (.ok (.ret (.bool (!items.isEmpty)))) {s with toks:=s.toks+1+1}):=
 Meets.of_wp λprog w A R s hs=>by
  obtain⟨hp,g,d,tk,os⟩:=s;refine dQ hs λh1 h2=>?_;clear hs;have f1:=F.conv_sub_bool;have f2:Heap.IsList (Shared.heap ⟨hp,g,d,tk,os⟩) l items:=⟨_,h1,rfl,n,rfl⟩
  repeat (any_goals (first|assumption|with_reducible refine Ww f2 hz ?_|wp_step))
  all_goals first|exact⟨_,rfl,h2⟩|skip
noncomputable def KJ:af MV->af av->ag (MV×af av):=λvs H=>a1 vs λi=>og av.ls H[i]? λxs=>aa (.bool (!xs.isEmpty),H)
theorem OK:gj c (.type "bool") KJ:=by
 intro st vs r H' q ext ρ s eN R hv Q E k;refine BO q ?_;clear q;intro i hv q;subst hv;refine eu hv.inv λv0 ws cP r0 sL=>?_;subst cP;cases sL.mJ
 refine nP q ?_;clear q;intro xs h1 q;cases q
 refine R.objE (h1) λa b ha hb et=>?_;refine eu et λys n cP hz vv=>?_;clear et;subst cP;rw[r0.dq ha];refine call_bool_1 (vm a ys.toArray n (by rw[bN,<-vv.1];omega)) ⟨hb,?_⟩;refine⟨rfl,k ρ _ _ a9 (R.lF _) ?_⟩;have:(!(ys.toArray).isEmpty)=!xs.isEmpty:=by have hsz:=vv.1;cases xs<;>cases ys<;>first|rfl|cases hsz
 rw[this];rfl
noncomputable def Cz:af MV->af av->ag (MV×af av):=λvs H=>a1 vs λi=>og av.ls H[i]? λxs=>aa (.ref H.length,H++[.iter i 0])
theorem OL:gj c (.builtin "iter") Cz:=by
 intro st vs r H' q ext ρ s eN R hv Q E k;refine BO q ?_;clear q;intro i hv q;subst hv;refine eu hv.inv λv0 ws cP r0 sL=>?_;subst cP;cases sL.mJ
 refine nP q ?_;clear q;intro xs h1 q;cases q
 refine R.objE (h1) λa b ha hb et=>?_;refine eu et λys n cP hz vv=>?_;clear et;subst cP;rw[r0.dq ha];refine call_function_entry ∅ ∅ kdk_entry_iter (kdk_args_iter _) ?_;unfold nZ.«iter»;refine aw (m:=someArgs "iter" 1 2 _) (By (a:=[aq a]) (by first|rfl|kernel_rfl!) ?_)
 dsimp only
 refine aw (mP (items:=ys.toArray) ⟨_,hb,rfl,n,rfl⟩ (bA ⟨_,rfl,?_⟩));exact k _ _ _ ⟨_,rfl⟩ (R.push s.toks ⟨a,bj ⟨_,rfl⟩ ha,rfl⟩) (jU R.len)
noncomputable def bL:MV->MV->af av->ag (MV×af av):=λa b H=>vX a λi=>vX b λj=>og av.ls H[i]? λxs=>og av.ls H[j]? λys=>if xs.length+ys.length<=1000 then aa (.ref H.length,H++[.list (xs++ys)]) else none
theorem Jb:IT c .Add bL:=by
 intro st a b r H' e ext ρ s a' b' R ha hb Q E k;refine jL e ?_;clear e;intro i hv e;subst hv;refine jL e ?_;clear e;intro j hv e;subst hv;refine nP e ?_;clear e;intro xs h1 e;refine nP e ?_;clear e;intro ys h2 e;refine fP e ?_;clear e;intro hl e
 ···cases e
    refine R.objE (h1) λx bx hx Hr et=>?_;refine eu et λus n cP hz vu=>?_;clear et;subst cP;refine R.objE (h2) λy by' hy hby et=>?_;refine eu et λws n' cP V9 vw=>?_;clear et;subst cP;rw[ha.dq hx,hb.dq hy];refine PySem.P.add_list (items:=us.toArray) (items2:=ws.toArray) (n:=n) (n2:=n') Hr hby (k _ _ _ ⟨_,rfl⟩ (R.push s.toks ⟨us++ws,0,by simp,by simpa using hl,(vu.append vw).mono ⟨_,rfl⟩⟩) (jU R.len)) (by rw[bN,bN,<-vu.1,<-vw.1,fQ];exact ajQ hl)
noncomputable def agw(xs:af MV):cj:=xs.all λx=>x.fl.isSome
noncomputable def lu(xs:af MV):cj:=allI xs||agw xs
noncomputable def best(op:kL)(b:MV)(xs:af MV):MV:=xs.foldl (λb y=>if ua op y b=aa true then y else b) b
noncomputable def bestOf(op:kL)(xs:af MV):ag MV:=@dC MV (λ_=>ag MV) none (λx xs _=>if lu (x::xs)=true then aa (best op x xs) else none) xs
noncomputable def yq(op:kL)(l:af MV)(i j:ah):cj:=cq (∃a b,l[i]?=aa a/\l[j]?=aa b/\ua op a b=aa true)
theorem Fz{op:kL}{l:af MV}{i j:ah}{a b:MV}(ha:l[i]?=aa a)(hb:l[j]?=aa b):yq op l i j=decide (ua op a b=aa true):=by
 by_cases h:ua op a b=aa true
 ·rw[cM h];exact vf ⟨a,b,ha,hb,h⟩
 ·rw[dO h]
  exact Bool.eq_false_iff.mpr λq=>eu (yt q) λa' b' JQ oQ q=>h (by rw[ha] at JQ;rw[hb] at oQ;cases JQ;cases oQ;exact q)
theorem M4(op:kL)(x:MV)(xs:af MV):∀k,k<=xs.length->(x::xs)[Dl (yq op (x::xs)) k]?=aa (best op x (xs.take k)):=by
 intro k
 induction k with
 |zero=>intro _;rfl
 |succ k ih=>
  intro hk;have QH:=ih (Lr hk:);have hx:(x::xs)[k+1]?=aa xs[k]:=by simp
  rw[vc (Et hk:)];unfold best at QH⊢;rw[iI];simp only[jx,List.foldl_nil];unfold Dl;have hb:yq op (x::xs) (k+1) (Dl (yq op (x::xs)) k)=decide (ua op xs[k] (af8 (λb y=>if ua op y b=aa true then y else b) x (xs.take k))=aa true):=Fz hx QH;rw[hb];by_cases hc:ua op xs[k] (af8 (λb y=>if ua op y b=aa true then y else b) x (xs.take k))=aa true
  ·rw[aP (by simpa using hc),aP hc,hx]
  ·rw[aZ (by simpa using hc),aZ hc,QH]
theorem Nc{op:kL}(ho:op=.Gt\/op=.Lt){l:af MV}(h:lu l=true){i j:ah}{a b:MV}(ha:l[i]?=aa a)(hb:l[j]?=aa b):ua op a b=aa (yq op l i j):=by
 rw[Fz ha hb];have key:∃r,ua op a b=aa r:=by
  have i1:∀{x:MV},x.it.isSome=true->∃y,x=.int y:=λ{x} h=>by cases q:x.it with |none=>rw[q] at h;exact nomatch h|some y=>exact⟨y,TP q⟩
  have f1:∀{x:MV},x.fl.isSome=true->∃y,x=.bO y:=λ{x} h=>by cases q:x.fl with |none=>rw[q] at h;exact nomatch h|some y=>exact⟨y,Sy q⟩
  rcases(nq _ _).mp h with h|h
  ·refine dA (i1 (dS.mp h a (aM ha))) λx hx=>dA (i1 (dS.mp h b (aM hb))) λy hy=>?_
   rw[hx,hy];rcases ho with rfl|rfl<;>exact⟨_,rfl⟩
  ·refine dA (f1 (dS.mp h a (aM ha))) λx hx=>dA (f1 (dS.mp h b (aM hb))) λy hy=>?_
   rw[hx,hy];rcases ho with rfl|rfl<;>exact⟨_,rfl⟩
 refine dA key λr hr=>?_;clear key;rw[hr];cases r<;>rfl
theorem zp{op:kL}(ho:op=.Gt\/op=.Lt){A:eD}{ρ:af aX}{l:af MV}{vs:af aB}(hv:iD g ρ l vs)(h:lu l=true):CmpOf g.prog g.w A op (λi v=>vs.toArray[i]?=aa v) (yq op l):=by
 intro i j vi vj s Q E hi hj hQ;have NU:vs[i]?=aa vi:=by simpa using hi
 have ug:vs[j]?=aa vj:=by simpa using hj
 obtain⟨a,ha⟩:∃a,l[i]?=aa a:=⟨_,ao (by rw[hv.1];exact(gM NU))⟩;obtain⟨b,hb⟩:∃b,l[j]?=aa b:=⟨_,ao (by rw[hv.1];exact(gM ug))⟩;refine cv (hv.2 i a ha) λva e1 r1=>?_;refine cv (hv.2 j b hb) λvb e2 r2=>?_;rw[NU] at e1;cases e1
 rw[ug] at e2;cases e2
 have:=Jn (g:=g) (A:=A) (E:=E) (Q:=Q) (s:=s) (Nc ho h ha hb) r1 r2 hQ;rcases ho with rfl|rfl<;>exact this
theorem zl{op:kL}(ho:op=.Gt\/op=.Lt){ρ:af aX}{l:af MV}{vs:af aB}{r:MV}(hv:iD g ρ l vs)(e:bestOf op l=aa r){v:aB}(hP:vs.toArray[Dl (yq op l) (vs.toArray.size-1)]?=aa v):VR g ρ r v/\0<vs.toArray.size/\lu l=true:=by
 cases l with
 |nil=>cases e
 |cons x xs=>
  have e:(if lu (x::xs)=true then aa (best op x xs) else none)=aa r:=e;refine fP e ?_;clear e;intro hn e;cases e
  have hsz:vs.toArray.size=xs.length+1:=by rw[bN,<-hv.1];rfl
  rw[hsz,Nat.add_sub_cancel] at hP;have hb:=M4 op x xs xs.length (cL _);rw[ip] at hb;refine cv (hv.2 _ _ hb) λv' e' r'=>?_;have hP':vs[Dl (yq op (x::xs)) xs.length]?=aa v:=by simpa using hP
  rw[hP'] at e';cases e'
  exact⟨r',by rw[hsz];exact ajj,hn⟩
theorem wG{op:kL}{l:af MV}{r:MV}(e:bestOf op l=aa r):lu l=true/\0<l.length:=by
 cases l with
 |nil=>cases e
 |cons x xs=>have e:(if lu (x::xs)=true then aa (best op x xs) else none)=aa r:=e;exact fP e λh _=>⟨h,EW _⟩
noncomputable abbrev BW(c:Cx g)(op:kL)(Q:aB->aD->Prop):aB->aD->Prop:=λit dn=>∃I fp wr n P St bt,it=.ref I/\Walks g.prog g.w c.A.in1 I fp wr n P St/\St 0 dn.heap/\(∀b∈fp,b<dn.heap.objs.size)/\0<n/\CmpOf g.prog g.w c.A.in1 op P bt/\
   ∀v h' tk,P (Dl bt (n-1)) v->(∀b o,b∉wr->dn.heap.get? b=aa o->h'.get? b=aa o)->Q v {dn with heap:=h',toks:=tk}
theorem wH{op:kL}(ho:op=.Gt\/op=.Lt)(hh:c.A.handled=none){ext ρ st s}(R:Rel c ext ρ st s){l:af MV}{vs:af aB}{r:MV}(hv:iD g ρ l vs)(e:bestOf op l=aa r){T:aX}(hT:s.heap.IsTuple T vs.toArray){Q:aB->aD->Prop}{E:aB->aD->Prop}
  (k:∀v' s',Rel c ext ρ st s'->VR g ρ r v'->Q v' s'):
  bg g.M c.A.in1 (Bp (.ref T)) (BW c op Q) E s:=by
 refine dQ (wG e) λhn xd=>?_;have eY:T<s.heap.objs.size:=by refine cv hT λo ho _=>?_;clear hT;exact cW ho
 refine VS hT ?_;refine⟨s.heap.objs.size,[s.heap.objs.size,T],[s.heap.objs.size],vs.toArray.size,_,_,yq op l,rfl,Walks.tuple (A:=c.A.in1) hh s.heap.objs.size T (dP eY) vs.toArray,⟨⟨_,dR _ rfl,rfl,rfl⟩,hT.push _⟩,λb hb=>?_,by rw[bN,<-hv.1];exact xd,zp ho hv hn,λv h' tk hP hk=>?_⟩
 ·show b<(s.heap.push _).objs.size
  rw[se];rcases bE.mp hb with rfl|hb
  ·exact qj _
  ·rw[bT.mp hb];exact eL eY
 ·refine fD (zl ho hv e hP) λrv _ _=>?_
  refine k v _ (R.grow tk λb o eb=>hk b o (λhm=>?_) (bY _ eb)) rv;rw[bT.mp hm] at eb;exact ej (cW eb) (fU _)
theorem G5{op:kL}(ho:op=.Gt\/op=.Lt)(hh:c.A.handled=none){ext ρ st s}(R:Rel c ext ρ st s){l:af MV}{vs:af aB}{r:MV}(hv:iD g ρ l vs)(e:bestOf op l=aa r){T:aX}(hT:s.heap.IsList T vs.toArray){Q:aB->aD->Prop}{E:aB->aD->Prop}
  (k:∀v' s',Rel c ext ρ st s'->VR g ρ r v'->Q v' s'):
  bg g.M c.A.in1 (Bp (.ref T)) (BW c op Q) E s:=by
 refine dQ (wG e) λhn xd=>?_;have eY:T<s.heap.objs.size:=by refine cv hT λo ho _=>?_;clear hT;exact cW ho
 refine mP hT ?_;refine⟨s.heap.objs.size,[s.heap.objs.size,T],[s.heap.objs.size],vs.toArray.size,_,_,yq op l,rfl,afF (A:=c.A.in1) hh s.heap.objs.size T (dP eY) vs.toArray,⟨⟨_,dR _ rfl,rfl,rfl⟩,hT.push _⟩,λb hb=>?_,by rw[bN,<-hv.1];exact xd,zp ho hv hn,λv h' tk hP hk=>?_⟩
 ·show b<(s.heap.push _).objs.size
  rw[se];rcases bE.mp hb with rfl|hb
  ·exact qj _
  ·rw[bT.mp hb];exact eL eY
 ·refine fD (zl ho hv e hP) λrv _ _=>?_
  refine k v _ (R.grow tk λb o eb=>hk b o (λhm=>?_) (bY _ eb)) rv;rw[bT.mp hm] at eb;exact ej (cW eb) (fU _)
noncomputable def g23(vs:af MV):cj:=afA vs.length 2||Nat.beq vs.length 3
noncomputable def iG(op:kL):af MV->af av->ag (MV×af av):=λvs H=>@ji MV (λ_=>ag (MV×af av)) (bc (g23 vs) (ot (bestOf op vs) λr=>aa (r,H)) none) (λa=>vX a λi=>og av.sq H[i]? λxs=>ot (bestOf op xs) λr=>aa (r,H)) (l1 vs)
theorem Gg{op:kL}(ho:op=.Gt\/op=.Lt){fv:aB}(hh:c.A.handled=none)
  (w1:∀{x Q E s},bg g.M c.A.in1 (Bp x) (BW c op Q) E s->bg g.M c.A (call fv [x]) Q E s)
  (w2:∀{x y Q E s},bg g.M c.A.in1 (Bp (.ref s.heap.objs.size)) (BW c op Q) E {s with heap:=s.heap.push {cls:=.type "tuple",data:=.seq #[x,y]}}->bg g.M c.A (call fv [x,y]) Q E s)
  (w3:∀{x y z Q E s},bg g.M c.A.in1 (Bp (.ref s.heap.objs.size)) (BW c op Q) E {s with heap:=s.heap.push {cls:=.type "tuple",data:=.seq #[x,y,z]}}->bg g.M c.A (call fv [x,y,z]) Q E s):gj c fv (iG op):=by
 intro st vs r H' q ext ρ s eN R hv Q E k;cases hl:l1 vs with
 |some y=>
  have Ht:=Om hl;subst Ht;refine jL (show vX y _=_ from q) ?_;clear q;intro i hi q;subst hi;refine eh q ?_;clear q;intro o h1 q;refine eh q ?_;clear q;intro xs hx q;refine eh q ?_;clear q;intro r' h2 q;cases q
  refine eu hv.inv λv0 ws cP r0 sL=>?_;subst cP;cases sL.mJ
  refine R.objE h1 λa b ha hb et=>?_;rw[r0.dq ha];refine w1 ?_;rcases Vt hx with hx|hx
  ·subst hx
   refine eu et λys n cP hz vv=>?_;clear et;subst cP;exact G5 ho hh R vv h2 ⟨_,hb,rfl,n,rfl⟩ λv' s' R' PC=>k ρ v' s' a9 R' PC
  ·subst hx
   refine eu et λys n cP hz vv=>?_;clear et;subst cP;exact wH ho hh R vv h2 ⟨_,hb,rfl,n,rfl⟩ λv' s' R' PC=>k ρ v' s' a9 R' PC
 |none=>
  have q:bc (g23 vs) (ot (bestOf op vs) λr=>aa (r,st.H)) none=aa (r,H'):=by rw[<-q];show _=@ji MV (λ_=>ag (MV×af av)) _ _ (l1 vs);rw[hl]
  refine R3 q (λh q=>?_) λ_ q=>lR q;refine eh q ?_;clear q;intro r' h2 q;cases q
  rcases(nq _ _).mp h with h|h
  ·obtain⟨x,y,rfl⟩:=yC (rP h)
   refine eu hv.inv λv0 ws cP r0 sL=>?_;subst cP;refine eu sL.inv λv1 ws cP r1 ID=>?_;subst cP;cases ID.mJ
   have bW:=R.grow s.toks (h':=s.heap.push {cls:=.type "tuple",data:=.seq #[v0,v1]}) λ_ _ e=>bY _ e;exact w2 (wH ho hh bW hv h2 ⟨_,dR _ rfl,rfl,0,rfl⟩ λv' s' R' PC=>k ρ v' s' a9 R' PC)
  ·obtain⟨x,y,z,rfl⟩:=Cv (rP h)
   refine eu hv.inv λv0 ws cP r0 sL=>?_;subst cP;refine eu sL.inv λv1 ws cP r1 ID=>?_;subst cP;refine eu ID.inv λv2 ws cP r2 hv3=>?_;subst cP;cases hv3.mJ
   have bW:=R.grow s.toks (h':=s.heap.push {cls:=.type "tuple",data:=.seq #[v0,v1,v2]}) λ_ _ e=>bY _ e;exact w3 (wH ho hh bW hv h2 ⟨_,dR _ rfl,rfl,0,rfl⟩ λv' s' R' PC=>k ρ v' s' a9 R' PC)
theorem sF(hh:c.A.handled=none):gj c (.builtin "max") (iG .Gt):=Gg (.inl rfl) hh call_max_walk call_max_two call_max_three
theorem xu(hh:c.A.handled=none):gj c (.builtin "min") (iG .Lt):=Gg (.inr rfl) hh call_min_walk call_min_two call_min_three
noncomputable def Yx(k:aE)(o:av):ag cj:=av.pr n1 (λxs=>if allI xs=true then aa (xs.findIdx? (λx=>decide (x=.int k))).isSome else none) (λes _=>aa (es.lookup k).isSome) (λxs=>aa (xs.contains k)) n1 n1 n2 n2 n1 n1 o
noncomputable def Br(want:cj):MV->MV->af av->ag cj:=λx o H=>AW x λk=>vX o λi=>ot H[i]? λob=>ot (Yx k ob) λb=>aa (b==want)
theorem qE{ρ:af aX}{es:af (aE×MV)}{gs:af (aE×aB)}(k:aE)(hl:gs.length=es.length)(h:∀(i:ah) x,es[i]?=aa x->∃v,gs[i]?=aa (x.1,v)/\VR g ρ x.2 v):(qn gs k).isSome=(es.lookup k).isSome:=by
 have:=ml es gs k hl h;cases hx:es.lookup k with
 |some x=>rw[hx] at this;refine cv this λv e _=>?_;clear this;rw[e];rfl
 |none=>rw[hx] at this;rw[this];rfl
theorem BQ{ρ:af aX}(k:aE){xs:af MV}{vs:af aB}(h:iD g ρ xs vs)(ha:allI xs=true):vs.toArray.any (DR k)=(xs.findIdx? (λx=>decide (x=.int k))).isSome:=by rw[<-uN k h ha,GK];simp
theorem zk(b:cj):(b==true)=b:=by cases b<;>rfl
theorem wF(b:cj):(b==false)=!b:=by cases b<;>rfl
theorem Al:uG c .In (Br true):=by
 intro st a b r e ext ρ s a' b' R ha hb Q E k;refine mr e ?_;clear e;intro kk hv e;subst hv;refine jL e ?_;clear e;intro i hv e;subst hv;refine eh e ?_;clear e;intro o h1 e;refine eh e ?_;clear e;intro m hm e;cases e
 refine dA ha λt cP=>?_;clear ha;subst cP;refine R.objE h1 λad bo NL Hq et=>?_;rw[hb.dq NL];have fin:∀tk,Q (.bool (m==true)) {s with toks:=tk}:=λtk=>k _ (R.lF tk);rw[zk] at fin;cases o with
 |dict es ep=>refine lT (eR et Hq) λgs D ma JY rX=>?_;refine wpAny_in_of (knd:=eE g.prog g.w) (k:=kk) (by show(kk==kk)=true;simp) (jW R NL) D.dictOf.mapOf ?_;rw[qE kk ma rX,aR (show aa (es.lookup kk).isSome=aa m from hm)];exact fin _
 |set xs=>refine fD et λhS hz _=>?_;refine wpAny_inSet_of (knd:=eE g.prog g.w) (k:=kk) (by show(kk==kk)=true;simp) rfl ((hS g.prog g.w).setOf Hq (by unfold IQ;exact aaW hz)) ?_;rw[aR (show aa (xs.contains kk)=aa m from hm)];exact fin _
 |tup xs=>refine fP hm λlO hm=>?_;refine eu et λys n cP hz vv=>?_;clear et;subst cP;refine PySem.SeqAt.in_tupleAt (items:=ys.toArray) (DR kk) ⟨_,Hq,rfl,n,rfl⟩ (λy hy=>(xg kk t vv lO y (by simpa using hy)).at _ _) ?_;rw[BQ kk vv lO,aR hm];exact fin s.toks
 |_=>exact lR hm
theorem zq:uG c .NotIn (Br false):=by
 intro st a b r e ext ρ s a' b' R ha hb Q E k;refine mr e ?_;clear e;intro kk hv e;subst hv;refine jL e ?_;clear e;intro i hv e;subst hv;refine eh e ?_;clear e;intro o h1 e;refine eh e ?_;clear e;intro m hm e;cases e
 refine dA ha λt cP=>?_;clear ha;subst cP;refine R.objE h1 λad bo NL Hq et=>?_;rw[hb.dq NL];have fin:∀tk,Q (.bool (m==false)) {s with toks:=tk}:=λtk=>k _ (R.lF tk);rw[wF] at fin;cases o with
 |dict es ep=>refine lT (eR et Hq) λgs D ma JY rX=>?_;refine wpAny_notIn_of (knd:=eE g.prog g.w) (k:=kk) (by show(kk==kk)=true;simp) (jW R NL) D.dictOf.mapOf ?_;rw[qE kk ma rX,aR (show aa (es.lookup kk).isSome=aa m from hm)];exact fin _
 |set xs=>refine fD et λhS hz _=>?_;refine wpAny_notInSet_of (knd:=eE g.prog g.w) (k:=kk) (by show(kk==kk)=true;simp) rfl ((hS g.prog g.w).setOf Hq (by unfold IQ;exact aaW hz)) ?_;rw[aR (show aa (xs.contains kk)=aa m from hm)];exact fin _
 |tup xs=>refine fP hm λlO hm=>?_;refine eu et λys n cP hz vv=>?_;clear et;subst cP;refine PySem.SeqAt.notIn_tupleAt (items:=ys.toArray) (DR kk) ⟨_,Hq,rfl,n,rfl⟩ (λy hy=>(xg kk t vv lO y (by simpa using hy)).at _ _) ?_;rw[BQ kk vv lO,aR hm];exact fin s.toks
 |_=>exact lR hm
noncomputable def oJ(f:MV->ag jg)(xs:af MV):ag (af jg):=@dC MV (λ_=>ag (af jg)) (aa []) (λx _ ih=>ot (f x) λd=>ot ih λds=>aa (d::ds)) xs
noncomputable def rdB(f:ah->ag jg)(x:MV):ag jg:=@MV.rec (λ_=>ag jg) (aa .none) (λb=>aa (.bool b)) (λi=>aa (.int i)) (λ_=>none) f none x
noncomputable def rd(n:ah)(H:af av):MV->ag jg:=@qP (λ_=>MV->ag jg) (rdB λ_=>none) (λ_ ih=>rdB λi=>ot H[i]? λo=>av.pr (λxs=>ot (oJ ih xs) λds=>aa (.list ds)) (λxs=>ot (oJ ih xs) λds=>aa (.tuple ds)) n2 n1 n1 n1 n2 n2 n1 n1 o) n
theorem uW{ρ:af aX}{h:jf}{f:MV->ag jg}(hf:∀x d v,f x=aa d->VR g ρ x v->∃as,Reads h v d as):∀{xs:af MV}{vs:af aB}{ds:af jg},oJ f xs=aa ds->iD g ρ xs vs->∃as,ReadsAll h vs ds as:=by
 intro xs
 induction xs with
 |nil=>
  intro vs ds e hv;cases e;cases hv.mJ
  exact⟨[],.nil⟩
 |cons x xs ih=>
  intro vs ds e hv;refine eu hv.inv λv ws cP r IC=>?_;subst cP;refine eh e ?_;clear e;intro d h1 e;refine eh e ?_;clear e;intro ds' h2 e;cases e
  refine dA (hf x d v h1 r) λas ra=>?_;refine dA (ih h2 IC) λbs rb=>?_;exact⟨as++bs,.cons ra rb⟩
theorem LM{ext ρ st s}(R:Rel c ext ρ st s){f:ah->ag jg}(hf:∀i d a b o,f i=aa d->ρ[i]?=aa a->st.H[i]?=aa o->s.heap.get? a=aa b->OR g ρ o b->∃as,Reads s.heap (.ref a) d as)(hn:∀i d,f i=aa d->∃o,st.H[i]?=aa o){x:MV}{d:jg}{v:aB}(e:rdB f x=aa d)(r:VR g ρ x v):∃as,Reads s.heap v d as:=by
 cases x with
 |int i=>have e:aa (Wq i)=aa d:=e;cases e;refine dA r λt cP=>?_;clear r;subst cP;exact⟨_,.int i t⟩
 |none=>have e:aa PyData.none=aa d:=e;cases e;cases r;exact⟨_,.none⟩
 |bool b=>have e:aa (PyData.bool b)=aa d:=e;cases e;cases r;exact⟨_,.bool b⟩
 |ref i=>refine dA (hn i d e) λo h1=>?_;refine R.objE h1 λa b ha hb et=>?_;rw[r.dq ha];exact hf i d a b o e ha h1 hb et
 |_=>exact lR e
theorem zM{ext ρ st s}(R:Rel c ext ρ st s):∀(n:ah)(x:MV)(d:jg)(v:aB),rd n st.H x=aa d->VR g ρ x v->∃as,Reads s.heap v d as:=by
 intro n
 induction n with
 |zero=>exactλx d v e r=>LM R (λi d a b o e=>lR e) (λi d e=>lR e) e r
 |succ n ih=>
  refineλx d v e r=>LM R (f:=λi=>ot st.H[i]? λo=>av.pr (λxs=>ot (oJ (rd n st.H) xs) λds=>aa (.list ds)) (λxs=>ot (oJ (rd n st.H) xs) λds=>aa (.tuple ds)) n2 n1 n1 n1 n2 n2 n1 n1 o) (λi d a b o e ha h1 hb et=>?_) (λi d e=>eh e λo h _=>⟨o,h⟩) e r;refine eh e ?_;clear e;intro o' h2 e;have ho:o'=o:=aR (h2.symm.trans h1);subst ho;cases o' with
  |list xs=>
   refine eh (show ot (oJ (rd n st.H) xs) _=_ from e) ?_;clear e;intro ds h2 e;cases e
   refine eu et λys k cP hz vv=>?_;clear et;subst cP;refine dA (uW (λx d v=>ih x d v) h2 vv) λas ra=>?_;exact⟨_,.list hb rfl rfl ra⟩
  |tup xs=>
   refine eh (show ot (oJ (rd n st.H) xs) _=_ from e) ?_;clear e;intro ds h2 e;cases e
   refine eu et λys k cP hz vv=>?_;clear et;subst cP;refine dA (uW (λx d v=>ih x d v) h2 vv) λas ra=>?_;exact⟨_,.tuple hb rfl rfl ra⟩
  |_=>exact lR e
noncomputable def cD(want:cj):MV->MV->af av->ag cj:=λa b H=>ot (rd 3 H a) λda=>ot (rd 3 H b) λdb=>if jl da=true/\jl db=true then aa (n9 da db==want) else none
theorem EC(hr:9<=c.room):c.A.units+64<cLine:=by have:=c.hu;exact acy hr this
theorem FD(hr:9<=c.room):uG c .Eq (cD true):=by
 intro st a b r e ext ρ s a' b' R ha hb Q E k;refine eh e ?_;clear e;intro da h1 e;refine eh e ?_;clear e;intro db h2 e;refine fP e ?_;clear e;intro hs e
 ··cases e
   refine dA (zM R 3 a da a' h1 ha) λas ra=>?_;refine dA (zM R 3 b db b' h2 hb) λbs rb=>?_;refine eq_dataH ra rb hs.1 hs.2 (EC hr) ?_;have:=k s R;rw[zk] at this;exact this
theorem FE(hr:9<=c.room):uG c .NotEq (cD false):=by
 intro st a b r e ext ρ s a' b' R ha hb Q E k;refine eh e ?_;clear e;intro da h1 e;refine eh e ?_;clear e;intro db h2 e;refine fP e ?_;clear e;intro hs e
 ··cases e
   refine dA (zM R 3 a da a' h1 ha) λas ra=>?_;refine dA (zM R 3 b db b' h2 hb) λbs rb=>?_;refine ne_dataH ra rb hs.1 hs.2 (EC hr) ?_;have:=k s R;rw[wF] at this;exact this
noncomputable def afa(H:af av)(x y:MV):cj:=cq (∃d d',rd 2 H x=aa d/\rd 2 H y=aa d'/\jl d=true/\jl d'=true/\n9 d d'=true)
noncomputable def Xp(H:af av)(fs:af (aE×MV))(x:aE×MV):cj:=cq (∃y,fs.lookup x.1=aa y/\afa H x.2 y=true)
noncomputable def qZ:MV->MV->af av->ag cj:=λa b H=>vX a λi=>vX b λj=>oh av.dc H[i]? λes _=>oh av.dc H[j]? λfs _=>if es.length=fs.length/\(es.all (Xp H fs))=true then aa false else none
theorem NW{ext ρ st s}{A:eD}(R:Rel c ext ρ st s)(hu:A.in1.units+64<cLine){fs:af (aE×MV)}{kb:af (aE×aB)}(Xr:kb.length=fs.length)(hb:∀(i:ah) x,fs[i]?=aa x->∃v,kb[i]?=aa (x.1,v)/\VR g ρ x.2 v):
  ∀(es:af (aE×MV))(ka:af (aE×aB)),ka.length=es.length->(∀(i:ah) x,es[i]?=aa x->∃v,ka[i]?=aa (x.1,v)/\VR g ρ x.2 v)->es.all (Xp st.H fs)=true->KeqHits A.in1 s kb ka true:=by
 intro es
 induction es with
 |nil=>
  intro ka hl _ _;cases ka with
  |nil=>exact .nil
  |cons=>cases hl
 |cons x es ih=>
  intro ka hl ha lO;cases ka with
  |nil=>cases hl
  |cons z ka=>
   refine cv (ha 0 x rfl) λv e r=>?_;cases e
   rw[Bw,d6] at lO;have hf:=ml fs kb x.1 Xr hb;refine cv (yt lO.1) λy hy h1=>?_;rw[hy] at hf;refine cv hf λw e rw'=>?_;clear hf;refine HS (yt h1) λd d' e1 e2 h2 h3 h4=>?_;refine dA (zM R 2 x.2 d v e1 r) λas ra=>?_;refine dA (zM R 2 y d' w e2 rw') λbs rb=>?_;have heq:=keq_at (A:=A) ra rb h2 h3 hu;rw[h4] at heq;have:=KeqHits.hit (b:=true) e heq (ih ka (by simpa using hl) (λi y hy=>ha (i+1) y hy) lO.2);exact this
theorem DK(hr:9<=c.room):uG c .NotEq qZ:=by
 intro st a b r e ext ρ s a' b' R ha hb Q E k;refine jL e ?_;clear e;intro i hv e;subst hv;refine jL e ?_;clear e;intro j hv e;subst hv;refine uV e ?_;clear e;intro es ep h1 e;refine uV e ?_;clear e;intro fs fp h2 e;refine fP e ?_;clear e;intro hs e
 ···cases e
    refine R.objE (h1) λx bx hx Hr rx=>?_;refine R.objE (h2) λy by' hy hby ry=>?_;rw[ha.dq hx,hb.dq hy];refine lT (eR rx Hr) λka Da V2 ham hav=>?_;refine lT (eR ry hby) λkb Db Xr hbm hbv=>?_;have hu:=EC hr;refine keq_ne (knd:=eE g.prog g.w) (r:=true) (jW R hx) (jW R hy) Da.dictOf Db.dictOf (O6 hu:) (λ_=>NW R (by have:=c.hu;show c.A.units+1+64<cLine;exact akI hr this) Xr hbv es ka V2 hav hs.2) ?_;have:(ka.length==kb.length&&true)=true:=by rw[V2,Xr,hs.1];simp
    rw[this];exact k s R
noncomputable def intsOf(xs:af MV):ag (af aE):=@dC MV (λ_=>ag (af aE)) (aa []) (λx _ ih=>AW x λi=>ot ih λis=>if i.natAbs<1000000000 then aa (i::is) else none) xs
theorem Ea{xs:af MV}:∀{is:af aE},intsOf xs=aa is->is.length=xs.length/\∀(j:ah) i,is[j]?=aa i->xs[j]?=aa (.int i)/\i.natAbs<1000000000:=by
 induction xs with
 |nil=>intro is e;have e:aa []=aa is:=e;cases e;exact⟨rfl,λj i h=>by cases h⟩
 |cons x r ih=>
  intro is e;refine mr e ?_;clear e;intro i hv e;subst hv;refine eh e ?_;clear e;intro is' h e;refine fP e ?_;clear e;intro hi e;cases e
  refine dQ (ih h) λh1 h2=>?_;refine⟨by simp[h1],λj k hk=>?_⟩;cases j with
  |zero=>cases hk;exact⟨rfl,hi⟩
  |succ j=>exact h2 j k hk
noncomputable def KP:af MV->af av->ag (MV×af av):=λvs H=>a1 vs λi=>og av.ls H[i]? λxs=>ot (intsOf xs) λis=>aa (.int is.sum,H)
theorem CM(is:af aE):∀k,k<=is.length->VP (λj=>is.getD j 0) k=(is.take k).sum:=by
 intro k
 induction k with
 |zero=>intro _;rfl
 |succ k ih=>
  intro hk;rw[vc (Et hk:),List.sum_append];unfold VP;rw[ih (Lr hk:)];have:is.getD k 0=is[k]:=by simp[Dc,ao (show k<is.length by exact Et hk)]
  rw[this];simp
theorem Eo(is:af aE)(h:∀(j:ah) i,is[j]?=aa i->i.natAbs<1000000000):∀k,k<=is.length->(VP (λj=>is.getD j 0) k).natAbs<=k*1000000000:=by
 intro k
 induction k with
 |zero=>intro _;simp[VP]
 |succ k ih=>
  intro hk;unfold VP;have h1:=ih (Lr hk:);have:is.getD k 0=is[k]:=by simp[Dc,ao (show k<is.length by exact Et hk)]
  have h2:=h k is[k] (ao (Et hk:));rw[this];exact abC h1 h2
theorem Us(hh:c.A.handled=none):gj c (.builtin "sum") KP:=by
 intro st vs r H' q ext ρ s eN R hv Q E k;refine BO q ?_;clear q;intro i hv q;subst hv;refine eu hv.inv λv0 ws cP r0 sL=>?_;subst cP;cases sL.mJ
 refine nP q ?_;clear q;intro xs h1 q;refine eh q ?_;clear q;intro is h2 q;cases q
 refine R.objE (h1) λa b ha hb et=>?_;refine eu et λys n cP hz vv=>?_;clear et;subst cP;rw[r0.dq ha];refine dQ (Ea h2) λhl his=>?_;have hT:s.heap.IsList a ys.toArray:=⟨_,hb,rfl,n,rfl⟩;have eY:a<s.heap.objs.size:=cW hb;have X7:ys.toArray.size=is.length:=by rw[bN,<-vv.1,hl]
 refine call_sum_walk (mP hT ?_);refine⟨s.heap.objs.size,[s.heap.objs.size,a],[s.heap.objs.size],ys.toArray.size,_,_,λj=>is.getD j 0,rfl,afF (A:=c.A.in1) hh s.heap.objs.size a (dP eY) ys.toArray,⟨⟨_,dR _ rfl,rfl,rfl⟩,hT.push _⟩,λb hb=>?_,λj v hj=>?_,λj hj=>?_,λh' tk t' hk=>?_⟩
 ·show b<(s.heap.push _).objs.size
  rw[se];rcases bE.mp hb with rfl|hb
  ·exact qj _
  ·rw[bT.mp hb];exact eL eY
 ·have ug:ys[j]?=aa v:=by simpa using hj
  have QA:j<is.length:=by rw[hl,vv.1];exact(gM ug)
  refine dQ (his j is[j] (ao QA)) λe1 _=>?_;obtain⟨w,ew,⟨t,rfl⟩⟩:=vv.2 j _ e1;rw[ug] at ew;cases ew
  exact⟨t,by simp[Dc,ao QA]⟩
 ·rw[X7] at hj
  have h3:=Eo is (λj i e=>(his j i e).2) (j+1) hj;have h4:=(his j is[j] (ao hj)).2;have h5:is.getD j 0=is[j]:=by simp[Dc,ao hj]
  have h6:is.length<=1000:=by exact alz hz hl
  refine⟨?_,?_⟩
  ·show InLong (is.getD j 0)
   rw[h5];constructor<;>grind
  ·constructor<;>grind
 ·rw[X7,CM is is.length (cL _),ip]
  refine k ρ _ _ a9 (R.grow tk λb o eb=>hk b o (λhm=>?_) (bY _ eb)) ⟨t',rfl⟩;rw[bT.mp hm] at eb;exact ej (cW eb) (fU _)
noncomputable def eOr(f:St->ag (cj×St))(f':St->ag (MV×St)):St->ag (MV×St):=λst=>ob (f st) λb ax=>bc b (aa (.bool true,ax)) (f' ax)
theorem Wz{x y:PySem.Expr}{pos:iP}{f f'}(hx:dI c x (s8 f))(hy:dI c y f'):dI c (.BoolOp .Or [x,y] pos) (eOr f f'):=by
 intro st v bZ e ext ρ s R Q E k;refine ea e ?_;clear e;intro b ax h1 e;refine BoolOp_or (hx st (.bool b) ax (cV h1 rfl) ext ρ s R _ _ λaQ xP bC b8 bW jT=>?_);have hv:xP=.bool b:=jT;subst hv;refine qo ?_;cases b with
 |true=>
  have e:aa (MV.bool true,ax)=aa (v,bZ):=e;cases e
  rw[aP rfl];exact k aQ _ bC b8 bW rfl
 |false=>rw[aZ (by decide)];exact hy ax v bZ e ext aQ bC bW _ _ λcy VB dn dG dh yu=>k cy VB dn (b8.trans dG) dh yu
noncomputable def MU(c:Cx g)(es:af PySem.Expr)(fs:St->ag (af MV×St)):Prop:=
 ∀st vs bZ,fs st=aa (vs,bZ)->∀ext ρ s(pos:iP)(f:aB)(first:af aB),eI g.K f=true->Rel c ext ρ st s->∀(Q:aB->aD->Prop)(E:aB->aD->Prop),
  (∀d7 eN s',ρ<+:d7->Rel c ext d7 bZ s'->iD g d7 vs eN->bg g.M c.A (call f (first++eN)) Q E s')->bg g.M c.A (fg pos f first (gE pos (dT es c.env)) []) Q E s
theorem Rel.TK{ext ρ st s}(R:Rel c ext ρ st s):g.K.In s.heap:=by refine Rel.el R λh₀ m nm obs h _ _=>?_;clear R;exact h.G.X.keeps h.F.keep
theorem zg:MU c [] bG:=by
 intro st vs bZ q ext ρ s pos f first hk R Q E k
 cases q
 exact callWith_K0 R.TK hk (k ρ [] s a9 R iD.nil)
theorem gG{e:PySem.Expr}{es:af PySem.Expr}{fs}(hp:gH (e::es)=true)(hA:tW c (e::es) fs):MU c (e::es) fs:=by
 intro st vs bZ q ext ρ s pos f first hk R Q E k
 have h':(!isStar e&&gH es)=true:=hp;rw[d6,u9] at h';exact callWith_K R.TK hk (hA st vs bZ q ext ρ s pos R _ _ λd7 eN s' p' R' vv=>⟨R'.TK,k d7 eN s' p' R' vv⟩) (lX h'.1) (mz h'.2)
noncomputable def rT(f:St->ag (MV×St)):St->ag (af MV×St):=λst=>HO (f st) λi ax=>og av.sq ax.H[i]? λxs=>aa (xs,ax)
theorem zR{ext ρ st s}{i:ah}{xs:af MV}(R:Rel c ext ρ st s)(ho:st.H[i]?=aa (.list xs)\/st.H[i]?=aa (.tup xs)){v':aB}(hv:VR g ρ (.ref i) v'){Q:af aB->aD->Prop}{E:aB->aD->Prop}
  (k:∀eN s',Rel c ext ρ st s'->iD g ρ xs eN->Q eN s'):StarOf g.M c.A E v' Q s:=by
 refine Rel.el R λh₀ m nm obs h a b=>?_;rcases ho with ho|ho
 ·obtain⟨ad,bo,NL,Hq,⟨ys,n,rfl,hz,vv⟩,hm⟩:=h.at ho
  rw[hv.dq NL];refine star_seq (its:=ys.toArray) (n:=n) h.F h.N hm rfl rfl (.inl rfl) rfl (by rw[bN,<-vv.1,fQ];exact Es hz) λh' F' N'=>?_;exact k ys _ ⟨h₀,m,nm,obs,h.keep (tk:=s.toks) F' N',a,b⟩ vv
 ·obtain⟨ad,bo,NL,Hq,⟨ys,n,rfl,hz,vv⟩,hm⟩:=h.at ho
  rw[hv.dq NL];refine star_seq (its:=ys.toArray) (n:=n) h.F h.N hm rfl rfl (.inr rfl) rfl (by rw[bN,<-vv.1,fQ];exact Es hz) λh' F' N'=>?_;exact k ys _ ⟨h₀,m,nm,obs,h.keep (tk:=s.toks) F' N',a,b⟩ vv
theorem zh{f}{st bZ:St}{vs:af MV}(q:rT f st=aa (vs,bZ)):∃i,f st=aa (.ref i,bZ)/\(bZ.H[i]?=aa (.list vs)\/bZ.H[i]?=aa (.tup vs)):=by
 refine p8 q ?_;clear q;intro i ax h1 q;refine eh q ?_;clear q;intro o h2 q;refine eh q ?_;clear q;intro xs hx q;cases q
 exact⟨i,h1,(Vt hx).imp (λe=>h2.trans (bI aa e)) λe=>h2.trans (bI aa e)⟩
theorem RE{e:PySem.Expr}{p:iP}{f}(he:dI c e f):tW c [.Starred e p] (rT f):=by intro st vs bZ q ext ρ s pos R Q E k;refine cv (zh q) λi h1 h2=>?_;refine items_star (he st _ bZ h1 ext ρ s R _ _ λaQ v' bC b8 bW vv=>zR bW h2 vv λeN dn dh rr=>?_) rfl;refine PV ?_;rw[kR];exact k aQ eN dn b8 dh rr
noncomputable def jb(bf:af MV->af av->ag (MV×af av))(fo:St->ag (MV×St))(fs:St->ag (af MV×St)):St->ag (MV×St):=λst=>HO (fo st) λi ax=>og av.is ax.H[i]? λd=>og av.as ax.H[d]? λ_=>ob (fs ax) λvs cH=>ob (bf (.ref i::vs) cH.H) λr H=>aa (r,{cH with H:=H})
set_option genInjectivity false in structure KMeth(g:Gl)(name:dv)(fa:aX):Prop where
 g1:iF g.K 137 name=true
 g2:gJ g.K (.ref 137) name=aa (aa (.ref fa))
 g3:isFn g.K (.ref fa)=true
 g4:eI g.K (.ref fa)=true
theorem t7{ρ:af aX}{vs:af MV}{ds:af j9}(hl:ds.length=vs.length)(h4:vs.length<=4)(r:∀(i:ah) x nm,vs[i]?=aa x->dF[i]?=aa nm->∃e,ds[i]?=aa e/\AR g ρ nm x e){name:dv}(hn:name∉dF):getL name ds=aa none:=by
 have at':∀e∈ds,∃nm t,nm∈dF/\e.key=.str nm t:=by intro e he;obtain⟨i,hi,rfl⟩:=dm he;refine eu (sZ hl h4 r hi) λx' pT _ rJ eX=>?_;refine cv eX λt q' _=>?_;clear eX;exact⟨pT,t,aM rJ,q'⟩
 unfold getL;have h1:ds.find? (·.key.isStr name)=none:=by
  rw[tM];intro e he;refine uq (at' e he) λnm t hm q=>?_;rw[q];show¬(nm==name)=true;rw[xY]
  rintro rfl
  exact hn hm
 rw[h1];have h2:ds.any (·.refKey)=false:=by rw[jP];intro e he;refine uq (at' e he) λnm t _ q=>?_;unfold ES;rw[q];simp
 rw[h2];rfl
theorem pH{o:PySem.Expr}{name:dv}{apos pos:iP}{es:af PySem.Expr}{fa:aX}{pl:Sem cj}{fo fs bf}(K:KMeth g name fa)(hn:name∉dF)(ho:dI c o fo)(hW:MU c es fs)(hb:gj c (.ref fa) bf)
  (he:eval (.Call (.Attribute o name apos) es [] pos) c.env=(do
   let ov<-eval o c.env
   g9 apos.atName
   let(f,first)<-holding [ov] (mi ov name pl)
   fg pos f first (gE pos (dT es c.env)) [])):
  dI c (.Call (.Attribute o name apos) es [] pos) (jb bf fo fs):=by
 intro st v bZ q ext ρ s R Q E k;refine p8 q ?_;clear q;intro i ax h1 q;refine CH q ?_;clear q;intro d h2 q;refine CG q ?_;clear q;intro ats h3 q;refine ea q ?_;clear q;intro vs cH h4 q;refine ea q ?_;clear q;intro r H h5 q;cases q
 refine uz (pl:=pl) (ho st _ ax h1 ext ρ s R _ _ λaQ a' bC b8 bW va=>?_) he;refine Rel.el bW λh₀ m nm obs h _ _=>?_;refine bW.objE (h2) λx bx hx Hr et=>?_;refine cv et λda Bs cP=>?_;clear et;subst cP;refine bW.jw (h3) (Bs) λbd JR et=>?_;refine xv et λds n cP hl SQ r=>?_;clear et;subst cP;rw[va.dq hx];refine method_inst h.F h.G.X ⟨Hr,rfl,rfl,JR⟩ K.g1 K.g2 K.g3 (t7 hl SQ r hn) ?_;refine hW ax vs cH h4 ext aQ bC pos _ _ K.g4 bW _ _ λcy eN dn dG dh vv=>?_;exact hb cH _ v H h5 ext cy dn _ dh (iD.cons ⟨x,bj dG hx,rfl⟩ vv) _ _ λiH v' eS iU gI Ao=>k iH v' eS ((b8.trans dG).trans iU) gI Ao
theorem CZ(A:eD)(C:aX)(vals:af aB):(A.under (.builtin "type.__call__" ⟨.ref C::vals,[]⟩)).units=A.units+1:=rfl
theorem Bf(A:eD)(C:aX)(vals:af aB):(A.under (.builtin "type.__call__" ⟨.ref C::vals,[]⟩)).frames=A.frames:=by show pushEnvs [] A.frames=A.frames;cases A.frames<;>rfl
noncomputable def Cx.made(c:Cx g)(C:aX)(vals:af aB)(h:0<c.room):Cx g where
 A₀:=c.A₀
 A:=c.A.under (.builtin "type.__call__" ⟨.ref C::vals,[]⟩)
 base:=c.base
 h₀:=c.h₀
 outer:=c.outer
 gL:=c.gL
 env:=c.env
 L:=c.L
 room:=c.room-1
 names:=c.names
 comp:=c.comp
 gens:=c.gens
 os:=c.os
 XB:=c.XB
 TB:=c.TB
 SB:=c.SB
 SI:=c.SI
 hA:=(Bf ..).trans c.hA
 hf:=c.hf
 MC:=c.MC
 ek:=c.ek
 eg:=c.eg
 eb:=c.eb
 hd:=by have:=c.hd;rw[depth_under_kw];exact acx h this
 hu:=by have:=c.hu;rw[CZ];exact akG h this
 nd:=c.nd
theorem Rel.Vy{ext ρ st s}{C:aX}{vals:af aB}(h:0<c.room)(R:Rel c ext ρ st s):Rel (c.made C vals h) ext ρ st s:=by refine Rel.el R λh₀ m nm obs r a b=>?_;clear R;exact⟨h₀,m,nm,obs,⟨⟨r.G.B,r.G.D,r.G.turn⟩,r.F,r.N,r.nd,r.off,r.en,r.low,r.lr,r.lo,r.ob,r.nk,r.gens,r.os⟩,a,b⟩
theorem Rel.ofMade{ext ρ st s}{C:aX}{vals:af aB}{h:0<c.room}(R:Rel (c.made C vals h) ext ρ st s):Rel c ext ρ st s:=by refine Rel.el R λh₀ m nm obs r a b=>?_;clear R;exact⟨h₀,m,nm,obs,⟨⟨r.G.B,r.G.D,r.G.turn⟩,r.F,r.N,r.nd,r.off,r.en,r.low,r.lr,r.lo,r.ob,r.nk,r.gens,r.os⟩,a,b⟩
noncomputable def Ef(node:cj)(d:ah):av:=if node then .node d [] else .inst d
noncomputable def HJ(node:cj)(fi:af MV->af av->ag (MV×af av)):af MV->af av->ag (MV×af av):=λvs H=>ob (fi (.ref (H.length+1)::vs) (H++[.attrs []]++[Ef node H.length])) λv H'=>bc v.isNone (aa (.ref (H.length+1),H')) none
set_option genInjectivity false in structure KCls(g:Gl)(C fI:aX):Prop where
 g1:makesIn g.K C=true
 g2:gJ g.K (.ref C) "__init__"=aa (aa (.ref fI))
 g3:isFn g.K (.ref fI)=true
theorem Lf{node:cj}{C fI:aX}{n:ah}{fi}(K:KCls g C fI)(hC:C=if node then 40 else 137)(hc:c.comp=none)(hh:c.A.handled=none)(hr:n+1<=c.room)(hf:gy g n fI fi):gj c (.ref C) (HJ node fi):=by
 intro st vs r H' q ext ρ s eN R hv Q E k;refine ea q ?_;clear q;intro xP wm h1 q;refine R3 q (λhn q=>?_) λ_ q=>lR q;have hn:xP=.none:=by cases xP<;>first|rfl|exact nomatch hn
 subst hn;cases q
 have X:=R.TK;refine ya ?_;have xd:0<c.room:=by exact akb hr
 have hlen:=R.len;obtain⟨hp,gn,d,t,os⟩:=s;refine make_core (makes_of X K.g1) (looks_findIn X K.g2) (λself=>bind_fn X self (xY.mp K.g3)) (.inl rfl) ?_;have bW:Rel c ext (ρ++[hp.objs.size]) {st with H:=st.H++[.attrs []]} {heap:=hp.push IL,gens:=gn,drawn:=d,toks:=t,os:=os}:=R.push (s:=⟨hp,gn,d,t,os⟩) t ⟨[],0,rfl,rfl,by simp,λi x nm e=>by cases e⟩;have hsz:(hp.push IL).objs.size=hp.objs.size+1:=se ..;have Bs:(ρ++[hp.objs.size])[st.H.length]?=aa hp.objs.size:=by rw[hlen];simp
 have dh:Rel c ext (ρ++[hp.objs.size]++[hp.objs.size+1]) {st with H:=st.H++[.attrs []]++[Ef node st.H.length]} {heap:=(hp.push IL).push (instObj C hp.objs.size),gens:=gn,drawn:=d,toks:=t,os:=os}:=by
  have:=bW.push (s:={heap:=hp.push IL,gens:=gn,drawn:=d,toks:=t,os:=os}) (b:=instObj C hp.objs.size) (o:=Ef node st.H.length) t (by
   unfold Ef;split
   ·rename_i J0
    rw[aP J0] at hC;subst hC;exact⟨[],hp.objs.size,bj ⟨_,rfl⟩ Bs,rfl,rfl,by simp,λi x e=>by cases e⟩
   ·rename_i J0
    rw[aZ J0] at hC;subst hC;exact⟨hp.objs.size,bj ⟨_,rfl⟩ Bs,rfl⟩) rfl (by
   intro d' ape e;unfold Ef at e;split at e
   ·cases e
    exact⟨[],by simp⟩
   ·cases e)
  rw[hsz] at this;exact this
 have pp:ρ<+:ρ++[hp.objs.size]++[hp.objs.size+1]:=⟨[hp.objs.size,hp.objs.size+1],by simp⟩;have hx:(ρ++[hp.objs.size]++[hp.objs.size+1])[st.H.length+1]?=aa (hp.objs.size+1):=by rw[hlen];simp
 refine hf (c.made C eN xd) hc hh (by show n<=c.room-1;exact ajI hr) {st with H:=st.H++[.attrs []]++[Ef node st.H.length]} _ _ _ h1 ext _ _ (.ref (hp.objs.size+1)::eN) (dh.Vy xd) (iD.cons ⟨hp.objs.size+1,hx,rfl⟩ (hv.mono pp)) _ λd7 v' s' p' R' vv=>?_;cases vv
 exact⟨rfl,k d7 _ s' (pp.trans p') R'.ofMade ⟨hp.objs.size+1,bj p' hx,rfl⟩⟩
theorem ig{x:dv}{p pos:iP}{es:af PySem.Expr}{fa:aX}{fs bf}(hk:c.env.kindOf x=aa .globalImplicit)(e:eA g.K aK x=aa (aa (.ref fa)))(JW:eI g.K (.ref fa)=true)
  (hd:(x==("__debug__":dv))=false) (hW:MU c es fs) (hb:gj c (.ref fa) bf)
  (he:eval (.Call (.Name x p) es [] pos) c.env=(do fg pos (<-eval (.Name x p) c.env) [] (gE pos (dT es c.env)) (oG pos (jF [] c.env)))):
  dI c (.Call (.Name x p) es [] pos) (cJ bf fs):=by
 intro st v bZ q ext ρ s R Q E k;refine ea q ?_;clear q;intro vs ax h1 q;refine ea q ?_;clear q;intro r H h2 q;cases q
 refine Wf (mq R hk e hd ?_) he;refine hW st vs ax h1 ext ρ s pos (.ref fa) [] JW R _ _ λaQ eN bC b8 bW vv=>?_;exact hb ax vs v H h2 ext aQ bC eN bW vv _ _ λcy v' dn dG dh yu=>k cy v' dn (b8.trans dG) dh yu
end fG
namespace fG
open PySem PySem.W PySem.Calls PyProof.Rows
variable{g:Gl}{c:Cx g}
theorem L9{α:Type}{K:Frag}{M:PQ}{A:eD}{E:aB->aD->Prop}{Q:α->aD->Prop}{s:aD}{o:d9}{r:aX->α}(X:K.In s.heap)
  (q:Q (r s.heap.objs.size) {s with heap:=s.heap.push o}):∀(t:Sem α)(f:aX->ag α),peek1 K ⟨M.prog,M.w.params⟩ t=aa (o,f)->(∀D,f D=aa (r D))->bg M A t Q E s:=by
 intro t
 induction t with
 |rule _ k ih=>intro f e hg Γ p QE;exact ih ⟨⟩ f e hg Γ p QE
 |point _ k ih=>intro f e hg Γ p QE;exact ih ⟨⟩ f e hg Γ p QE
 |ask k ih=>intro f e hg Γ p QE;exact ih _ f e hg Γ p QE
 |load a _ k ih=>
  intro f e hg Γ p QE;simp only[peek1] at e;cases ho:K.lookup a with
  |none=>rw[ho] at e;exact lR e
  |some ob=>rw[ho] at e;exact⟨ob,X _ _ ho,ih ob f e hg Γ p QE⟩
 |alloc ob k _=>intro f e hg;have e':aa (ob,λD=>peek K ⟨M.prog,M.w.params⟩ (k D))=aa (o,f):=e;refine dQ (Prod.mk.inj (aR e')) λe1 e2=>?_;subst e1;subst e2;have X':K.In (s.heap.push ob):=X.keeps λb x hb=>bY _ hb;show bg M A (alloc ob>>=k) Q E s;refine aw (wpAny_alloc ?_);exact(Looks.of_peek (M:=M) (h:=s.heap.push ob) X' (hg s.heap.objs.size)).here (s:={s with heap:=s.heap.push ob}) q
 |_=>intro f e;cases e
noncomputable def Pj(k:ah)(fb:St->ag (MF×St)):af MV->af av->ag (MV×af av):=λvs H=>if k<=vs.length/\vs.length<=k+9 then ob (fb ⟨H++[.tup (vs.drop k)],λi=>if i<k then vs[i]? else if i=k then aa (.ref H.length) else none⟩) λm st=>aa (m.rv,st.H) else none
theorem iD.drop{ρ:af aX}{xs:af MV}{vs:af aB}(h:iD g ρ xs vs)(k:ah):iD g ρ (xs.drop k) (vs.drop k):=by refine⟨by simp[h.1],λi x e=>?_⟩;rw[tO] at e⊢;exact h.2 _ x e
theorem gy.La{fa:aX}{oc:aB}{od:ag aX}{OQ:fm (ag aB)}{name qual:dv}{params:pC}{body:af oF}{scope:kO}{dV kV doc pm nY ct:aB}{an:ag aX}{fb:St->ag (MF×St)}
  (n k:ah) (names pn:af dv) (rn:dv)
  (ho:g.K.lookup fa=aa ⟨oc,od,.func (lD name qual params body scope dV kV doc pm an nY ct),OQ⟩) (Cd:dN g.K nY qual=true)
  (IA:names.take (k+1)=pn++[rn]) (m9:names.Nodup) (D5:pn.length=k)
  (tm:∀(vs rest:af aB),vs.length=k->rest.length<=9->∃f,peek1 g.K ⟨g.prog,g.w.params⟩ (bindArgs (lD name qual params body scope dV kV doc pm an nY ct) ⟨vs++rest,[]⟩)=aa (({cls:=.type "tuple",data:=.seq rest.toArray}:d9),f)/\∀D,f D=aa ((pn++[rn]).zip (vs++[.ref D])))
  (rI:((pn++[rn]).all λx=>decide (scope.names.lookup x=aa .local))=true) (tq:∀x∈scope.names,x.2≠ .cell)
  (NP:scope.isCoroutine=false) (AD:scope.isGenerator=false) (hk:scope.kind=.function)
  (hb:∀c':Cx g,c'.comp=none->c'.A.handled=none->c'.room=n->c'.names=names->c'.env=jm qual scope c'.L fa nY []->ja c' body fb):
  gy g (n+1) fa (Pj k fb):=by
 intro c hc hh mR st vs r H' q ext ρ s eN R hv RR kk;refine fP q ?_;clear q;intro Hs q;refine Rel.el R λh₀ m nm obs h a b=>?_;have NX:eN.length=vs.length:=hv.1.symm;refine cv (tm (eN.take k) (eN.drop k) (by rw[ij];exact Q7 Hs NX) (by rw[MK];exact alU Hs NX)) λagT hp hg=>?_;rw[List.take_append_drop] at hp;have X:=h.G.X.keeps h.F.keep;refine MM (fd:=lD name qual params body scope dV kV doc pm an nY ct) (body:=body) (by have:=c.hd;exact O6 this) (X _ _ ho) rfl NP AD rfl (E3 X Cd) ?_;refine L9 (r:=λD=>(pn++[rn]).zip (eN.take k++[.ref D])) X ?_ _ agT hp hg;have bW:Rel c ext (ρ++[s.heap.objs.size]) {st with H:=st.H++[.tup (vs.drop k)]} {s with heap:=s.heap.push {cls:=.type "tuple",data:=.seq (eN.drop k).toArray},toks:=s.toks}:=R.push s.toks ⟨eN.drop k,0,rfl,by rw[MK];exact akp Hs,(hv.drop k).mono ⟨_,rfl⟩⟩
 refine Rel.el bW λafP m₁ QT qH h₁ ao6 ao7=>?_;clear bW;have IB:∀b o,s.heap.get? b=aa o->(s.heap.push ({cls:=.type "tuple",data:=.seq (eN.drop k).toArray}:d9)).get? b=aa o:=λb o e=>bY _ e;generalize s.heap.push ({cls:=.type "tuple",data:=.seq (eN.drop k).toArray}:d9)=QB at h₁ IB⊢;have pnd:(pn++[rn]).Nodup:=IA▸ko (lL ..) m9;have JZ:∀y∈(pn++[rn]).zip (eN.take k++[.ref s.heap.objs.size]),scope.names.lookup y.1=aa .local:=λy hy=>cz (dS.mp rI _ (gQ (a:=y.1) (b:=y.2) hy).1);refine P0 tq JZ (λpk D6 XW=>⟨(h₁.G.T.nolimit.keeps h₁.F.keep).fresh _ XW,codeAny_func ?_⟩) hk;have p6:∀b o,(QB).get? b=aa o->pk.get? b=aa o:=λb o e=>XW.extBut b o (dP (cW e)) (bY _ e);refine oS (qy h₁.G h₁.F h₁.N) λFG BG DG ex=>?_
 dsimp only at ex FG BG DG
 generalize hL':(QB).objs.size=L' at D6 XW⊢;show bg g.M (c.A.deeper (jm qual scope L' fa nY [])) (execs body (jm qual scope L' fa nY [])) _ _ _;have S5:=hb (c.callee n mR (gP (QB) ((ext++(ρ++[s.heap.objs.size]).zip qH).map (·.1))) L' (jm qual scope L' fa nY []) names m9 rfl hk rfl rfl) rfl hh rfl rfl rfl;have F':Fr (gP (QB) ((ext++(ρ++[s.heap.objs.size]).zip qH).map (·.1))) L' pk (λy=>((pn++[rn]).zip (eN.take k++[.ref s.heap.objs.size])).reverse.lookup y):=⟨D6,λb o e=>p6 b o (pZ _ e),by rw[<-hL'];exact vC (Mx _ _)⟩;have N':EX (gP (QB) ((ext++(ρ++[s.heap.objs.size]).zip qH).map (·.1))) L' pk (ext++(ρ++[s.heap.objs.size]).zip qH):=λp hp=>⟨p6 _ _ (h₁.N p hp).1,by rw[<-hL'];exact dP (cW (h₁.N p hp).1),Mw _ (nV hp)⟩;have hlen:st.H.length=ρ.length:=R.len;have R':Rel (c.callee n mR (gP (QB) ((ext++(ρ++[s.heap.objs.size]).zip qH).map (·.1))) L' (jm qual scope L' fa nY []) names m9 rfl hk rfl rfl) ext (ρ++[s.heap.objs.size]) ⟨st.H++[.tup (vs.drop k)],λi=>if i<k then vs[i]? else if i=k then aa (.ref st.H.length) else none⟩ {s with heap:=pk,toks:=s.toks+((pn++[rn]).zip (eN.take k++[.ref s.heap.objs.size])).length}:=by
  refine⟨_,_,_,qH,⟨⟨BG,DG,tI⟩,F',N',h₁.nd,h₁.off,h₁.en,h₁.low,h₁.lr,h₁.lo,h₁.ob,h₁.nk,h₁.gens,h₁.os⟩,⟨rfl,rfl⟩,?_⟩;intro i mv e;have e:(if i<k then vs[i]? else if i=k then aa (.ref st.H.length) else none)=aa mv:=e;have tk:(eN.take k).length=k:=by rw[ij];exact Q7 Hs NX
  have fin:∀x v,(pn++[rn])[i]?=aa x->(eN.take k++[.ref s.heap.objs.size])[i]?=aa v->VR g (ρ++[s.heap.objs.size]) mv v->∃x,names[i]?=aa x/\WC (c.callee n mR (gP (QB) ((ext++(ρ++[s.heap.objs.size]).zip qH).map (·.1))) L' (jm qual scope L' fa nY []) names m9 rfl hk rfl rfl) (λy=>((pn++[rn]).zip (eN.take k++[.ref s.heap.objs.size])).reverse.lookup y) (ρ++[s.heap.objs.size]) x mv:=by
   intro x v hx hvx rv;refine⟨x,?_,.inl ⟨?_,v,nJ pnd i hx hvx,rv⟩⟩
   ·rw[<-IA,ix] at hx
    exact fP hx λ_ hx=>hx
   ·exact cz (dS.mp rI _ (aM hx))
  refine Wa e (λhi e=>?_) λ_ e=>fP e λhi e=>?_
  ·refine cv (hv.2 i mv e) λv' e' vv=>?_
   refine fin _ v' (ao (by simp;exact alg D5 hi)) ?_ (vv.mono ⟨_,rfl⟩);rw[aA (H7 tk hi:),ix,aP hi];exact e'
  ·cases e
   subst hi;refine fin _ (.ref s.heap.objs.size) (ao (by simp;exact aki D5)) ?_ (jU hlen);rw[aY (adV tk:),tk];simp
 have hm:m=m₁:=Ge h.F.ns h₁.F.ns λo e=>IB _ _ e;have back:∀{d7 ax s'},ρ++[s.heap.objs.size]<+:d7->Rel (c.callee n mR (gP (QB) ((ext++(ρ++[s.heap.objs.size]).zip qH).map (·.1))) L' (jm qual scope L' fa nY []) names m9 rfl hk rfl rfl) ext d7 ax s'->ρ<+:d7/\Rel c ext d7 {st with H:=ax.H} s':=λp dh=>
  have pp:=lJ ⟨_,rfl⟩ p
  ⟨pp,dh.back ex (hm▸a) b pp⟩
 refine ea q ?_;clear q;intro f ax h1 q;cases q
 refine S5 _ _ ax h1 ext _ _ R' _ _ λaQ ED bC b8 bW jT=>?_;refine dQ (back b8 bW) λpp RB=>?_;cases f with
 |ret v=>refine cv jT λv' cP vv=>?_;clear jT;subst cP;exact kk aQ v' bC pp RB vv
 |_=>have fin:=kk aQ .none bC pp RB rfl;cases jT;exact fin
theorem Ak(kf:dv->ag NameKind):∀(binds:af (dv×aB))(m:dv->ag aB)(x:dv),(∀y∈binds,kf y.1=aa .local)->bindL kf binds m x=(binds.reverse.lookup x).or (m x):=by
 intro binds
 induction binds with
 |nil=>intro m x _;rfl
 |cons p r ih=>
  intro m x h;obtain⟨n,v⟩:=p;have e:bindL kf ((n,v)::r) m=bindL kf r (if kf n=aa .local thenλy=>if y=n then aa v else m y else m):=rfl;rw[e,aP (h (n,v) (.head _)),ih _ x λy hy=>h y (.tail _ hy)];rw[gO,II];cases r.reverse.lookup x with
  |some w=>rfl
  |none=>
   show(if x=n then aa v else m x)=((pA x [(n,v)]).or (m x));by_cases hx:x=n
   ·subst hx;simp
   ·have:(x==n)=false:=by simpa using hx
    simp[pA,this,hx]
theorem DE(kf:dv->ag NameKind):∀(binds:af (dv×aB))(m:dv->ag aB),(∀y∈binds,kf y.1=aa .local)->bindC kf binds m=m:=by
 intro binds
 induction binds with
 |nil=>intro m _;rfl
 |cons p r ih=>intro m h;obtain⟨n,v⟩:=p;have e:bindC kf ((n,v)::r) m=bindC kf r (if kf n=aa .local then m elseλy=>if y=n then aa v else m y):=rfl;rw[e,aP (h (n,v) (.head _))];exact ih m λy hy=>h y (.tail _ hy)
noncomputable def runC(k:ah)(fb:St->ag (MF×St)):af MV->af av->ag (MV×af av):=λvs H=>if vs.length=k then ob (fb ⟨H++[.cell none]++[.cell none],λi=>if i<k then vs[i]? else if i=k then aa (.ref H.length) else if i=k+1 then aa (.ref (H.length+1)) else none⟩) λm st=>aa (m.rv,st.H) else none
theorem gy.Gf{fa:aX}{oc:aB}{od:ag aX}{OQ:fm (ag aB)}{name qual:dv}{params:pC}{body:af oF}{scope:kO}{dV kV doc pm nY ct:aB}{an:ag aX}{fb:St->ag (MF×St)}
  (n k:ah) (names pn:af dv) (x1 x2:dv)
  (ho:g.K.lookup fa=aa ⟨oc,od,.func (lD name qual params body scope dV kV doc pm an nY ct),OQ⟩) (Cd:dN g.K nY qual=true)
  (IA:names.take (k+2)=pn++[x1,x2]) (m9:names.Nodup) (D5:pn.length=k)
  (tm:∀(c:Cx g)(s:aD)(vs:af aB),g.K.In s.heap->vs.length=k->We s (lD name qual params body scope dV kV doc pm an nY ct) ⟨vs,[]⟩ (pn.zip vs))
  (rI:(pn.all λx=>decide (scope.names.lookup x=aa .local))=true) (hcl:∀n,IK n scope.names []=[(x1,n+1),(x2,n)]) (hk1:scope.names.lookup x1=aa .cell) (hk2:scope.names.lookup x2=aa .cell) (h12:x1≠x2)
  (NP:scope.isCoroutine=false) (AD:scope.isGenerator=false) (hk:scope.kind=.function)
  (hb:∀c':Cx g,c'.comp=none->c'.A.handled=none->c'.room=n->c'.names=names->c'.env=jm qual scope c'.L fa nY [(x1,c'.L+1+1),(x2,c'.L+1)]->ja c' body fb):
  gy g (n+1) fa (runC k fb):=by
 intro c hc hh mR st vs r H' q ext ρ s eN R hv RR kk;refine fP q ?_;clear q;intro Hs q;refine Rel.el R λh₀ m nm obs h a b=>?_;have NX:eN.length=k:=hv.1▸Hs;have lO:∀y∈pn.zip eN,scope.names.lookup y.1=aa .local:=λy hy=>cz (dS.mp rI _ (gQ (a:=y.1) (b:=y.2) hy).1);have X:=h.G.X.keeps h.F.keep;refine oS (qy h.G h.F h.N) λFG B' DG ex=>?_;refine MM (fd:=fnX name qual params body scope [] dV kV doc pm an nY ct) (body:=body) (by have:=c.hd;exact O6 this) (X _ _ ho) rfl NP AD rfl (E3 X Cd) (tm c s eN X NX _ _ _ _ ?_);refine wpAny_newFunctionEnv_cells hk (λy hy=> .inl (lO y hy)) λs9 he s' x=>?_;subst he;refine⟨(h.G.T.nolimit.keeps h.F.keep).keeps x.toInCall.keep,codeAny_func ?_⟩;refine uq x.done λh₁ tk cP _=>?_;subst cP;have p6:=x.toInCall.keep;have ag1:((IK 0 scope.names []).map (·.1)).Nodup:=by rw[hcl];simpa using h12
 refine cv (Cl.news (h₀:=s.heap) (cL _) λn c hm=>⟨x.cell n c (lookup_of_mem_nodup (cellsFrom_names scope.names 0 (s.heap.objs.size+1) [] [] rfl▸ag1) hm),x.above n c hm⟩) λcells NC C'=>?_;have F':Fr (gP s.heap ((ext++ρ.zip obs).map (·.1))) s.heap.objs.size h₁ (bindL (VN qual scope s.heap.objs.size fa nY).kindOf (pn.zip eN) λ_=>none):=⟨x.toInCall.ns,λb o e=>p6 b o (pZ _ e),vC (Mx _ _)⟩;have N':EX (gP s.heap ((ext++ρ.zip obs).map (·.1))) s.heap.objs.size h₁ (cells++(ext++ρ.zip obs)):=λp hp=>by
  rcases bK.mp hp with hp|hp
  ·refine⟨(NC p hp).1,(NC p hp).2.1,?_⟩
   cases q:(gP s.heap ((ext++ρ.zip obs).map (·.1))).get? p.1 with
   |none=>rfl
   |some o=>have:=pZ _ q;rw[(NC p hp).2.2] at this;cases this
  ·exact⟨p6 _ _ (h.N p hp).1,dP (cW (h.N p hp).1),Mw _ (nV hp)⟩
 have lt:∀p∈ext++ρ.zip obs,p.1<s.heap.objs.size:=λp hp=>cW (h.N p hp).1;have L3:3<s.heap.objs.size:=h.xI;show bg g.M (c.A.deeper (VN qual scope s.heap.objs.size fa nY)) (execs body (VN qual scope s.heap.objs.size fa nY)) _ _ _;generalize s.heap.objs.size=L' at F' N' C' lt L3⊢;generalize hgg:gP s.heap ((ext++ρ.zip obs).map (·.1))=gg at F' N' ex B' DG FG;have ecl:IK (L'+1) scope.names []=[(x1,L'+1+1),(x2,L'+1)]:=hcl (L'+1);have agQ:VN qual scope L' fa nY=jm qual scope L' fa nY [(x1,L'+1+1),(x2,L'+1)]:=by show jm qual scope L' fa nY (IK (L'+1) scope.names [])=_;rw[ecl]
 rw[ecl,DE _ _ _ lO] at C';refine eu C'.two λo1 o2 cP d1 d2=>?_;subst cP;rw[agQ];have V6:bindL (VN qual scope L' fa nY).kindOf (pn.zip eN) (λ_=>none)=λy=>(pn.zip eN).reverse.lookup y:=by funext y;rw[Ak _ _ _ _ lO];cases(pn.zip eN).reverse.lookup y<;>rfl
 rw[V6] at F';have S5:=hb (c.callee n mR gg L' (jm qual scope L' fa nY [(x1,L'+1+1),(x2,L'+1)]) names m9 rfl hk rfl rfl) rfl hh rfl rfl rfl;have hlen:st.H.length=ρ.length:=R.len;have dh:HR (c.callee n mR gg L' (jm qual scope L' fa nY [(x1,L'+1+1),(x2,L'+1)]) names m9 rfl hk rfl rfl) gg (λy=>(pn.zip eN).reverse.lookup y) ext (ρ++[L'+1+1]++[L'+1]) (obs++[o1]++[o2]) (st.H++[.cell none]++[.cell none]) {s with heap:=h₁,toks:=tk}:=by
  have R₀:HR (c.callee n mR gg L' (jm qual scope L' fa nY [(x1,L'+1+1),(x2,L'+1)]) names m9 rfl hk rfl rfl) gg (λy=>(pn.zip eN).reverse.lookup y) ext ρ obs st.H {s with heap:=h₁,toks:=tk}:=⟨⟨B',DG,tI⟩,F',λp hp=>N' p (.tail _ (.tail _ hp)),h.nd,h.off,h.en,h.low,h.lr,h.lo,h.ob,h.nk,h.gens,h.os⟩
  have bW:=R₀.alloc (o:=.cell none) (tk:=tk) F' N' (λp hp=> .tail _ hp) (λp hp=>dP (eL (eL (lt p hp)))) (eL (eL L3)) (λ_ _ q=>nomatch q) ⟨_,d1,rfl⟩;have hz:∀p∈ext++(ρ++[L'+1+1]).zip (obs++[o1]),p∈ext++ρ.zip obs\/p=(L'+1+1,o1):=λp hp=>by
   rw[PO (by rw[h.lr,h.lo])] at hp;rcases bK.mp hp with q|q
   ·exact .inl (aI _ q)
   ·rcases bK.mp q with q|q
    ·exact .inl (bw _ q)
    ·exact .inr (bT.mp q)
  exact bW.alloc (o:=.cell none) (tk:=tk) (more:=ext++(ρ++[L'+1+1]).zip (obs++[o1])) F' (λp hp=>(bE.mp hp).elim (λq=>N' p (q▸ .tail _ (.head _))) λq=>(hz p q).elim (λq=>N' p (.tail _ (.tail _ q))) λq=>N' p (q▸ .head _)) (λp hp=>hp) (λp hp=>(hz p hp).elim (λq=>dP (eL (lt p q))) λq=>q▸Nat.succ_ne_self _) (eL L3) (λ_ _ q=>nomatch q) ⟨_,d2,rfl⟩
 have pnd:(pn++[x1,x2]).Nodup:=IA▸ko (lL ..) m9;have Uj:∀(i:ah) x,(pn++[x1,x2])[i]?=aa x->names[i]?=aa x:=λi x hx=>by rw[<-IA,ix] at hx;exact fP hx λ_ hx=>hx
 have R':Rel (c.callee n mR gg L' (jm qual scope L' fa nY [(x1,L'+1+1),(x2,L'+1)]) names m9 rfl hk rfl rfl) ext (ρ++[L'+1+1]++[L'+1]) ⟨st.H++[.cell none]++[.cell none],λi=>if i<k then vs[i]? else if i=k then aa (.ref st.H.length) else if i=k+1 then aa (.ref (st.H.length+1)) else none⟩ {s with heap:=h₁,toks:=tk}:=by
  refine⟨_,_,_,_,dh,⟨rfl,rfl⟩,?_⟩;intro i mv e;have e:(if i<k then vs[i]? else if i=k then aa (.ref st.H.length) else if i=k+1 then aa (.ref (st.H.length+1)) else none)=aa mv:=e;refine Wa e (λhi e=>?_) λ_ e=>Wa e (λhi e=>?_) λ_ e=>fP e λhi e=>?_
  ·refine cv (hv.2 i mv e) λv' e' vv=>?_
   obtain⟨x,hx⟩:∃x,pn[i]?=aa x:=⟨_,ao (H7 D5 hi:)⟩;refine⟨x,Uj i x (by rw[aA (H7 D5 hi:)];exact hx),.inl ⟨?_,v',?_,vv.mono ⟨[L'+1+1,L'+1],by simp⟩⟩⟩
   ·exact cz (dS.mp rI _ (aM hx))
   ·exact nJ (ko (List.sublist_append_left ..) pnd) i hx e'
  ·cases e
   subst hi;refine⟨x1,Uj _ x1 (by rw[aY (adV D5:)];simp[D5]),.inr ⟨.inl hk1,_,L'+1+1,rfl,?_,?_⟩⟩
   ·rw[hlen];simp
   ·show pA x1 [(x1,L'+1+1),(x2,L'+1)]=aa (L'+1+1)
    simp[pA]
  ·cases e
   subst hi;refine⟨x2,Uj _ x2 (by rw[aY (aj2 D5:)];simp[D5]),.inr ⟨.inl hk2,_,L'+1,rfl,?_,?_⟩⟩
   ·rw[hlen];simp
   ·show pA x2 [(x1,L'+1+1),(x2,L'+1)]=aa (L'+1)
    have:(x2==x1)=false:=by simpa usingλe=>h12 e.symm
    simp[pA,this]
 have back:∀{d7 ax s'},ρ++[L'+1+1]++[L'+1]<+:d7->Rel (c.callee n mR gg L' (jm qual scope L' fa nY [(x1,L'+1+1),(x2,L'+1)]) names m9 rfl hk rfl rfl) ext d7 ax s'->ρ<+:d7/\Rel c ext d7 {st with H:=ax.H} s':=λp dh=>
  have pp:=lJ ⟨[L'+1+1,L'+1],by simp⟩ p
  ⟨pp,dh.back ex a b pp⟩
 refine ea q ?_;clear q;intro f ax h1 q;cases q
 refine S5 _ _ ax h1 ext _ _ R' _ _ λaQ ED bC b8 bW jT=>?_;refine dQ (back b8 bW) λpp RB=>?_;cases f with
 |ret v=>refine cv jT λv' cP vv=>?_;clear jT;subst cP;exact kk aQ v' bC pp RB vv
 |_=>have fin:=kk aQ .none bC pp RB rfl;cases jT;exact fin
noncomputable def Nv(i:ah)(f:St->ag (MV×St)):St->ag (MV×St):=λst=>ob (f st) λv ax=>aa (v,{ax with l:=bV ax.l i v})
theorem P4{x:dv}{p pos:iP}{e:PySem.Expr}{f}(i:ah)(hc:c.comp=none)(hx:c.names[i]?=aa x)(hk:c.env.kindOf x=aa .local)(he:dI c e f):dI c (.NamedExpr (.Name x p) e pos) (Nv i f):=by
 intro st v bZ q ext ρ s R Q E k;refine ea q ?_;clear q;intro w ax h1 q;cases q
 exact wpAny_NamedExpr (he st v ax h1 ext ρ s R _ _ λaQ v' bC b8 bW vv=>kq (bW.store hc hx hk vv λdn dh=>k aQ v' dn b8 dh vv))
noncomputable def LP(i:ah)(fo fi fv:St->ag (MV×St)):St->ag (MF×St):=λst=>ob (fv st) λv ax=>ob (fo ax) λa cH=>ob (fi cH) λb ed=>ot (vt a b v ed.H) λH=>aa (.next,⟨H,bV ed.l i v⟩)
theorem RQ{x:dv}{o i e:PySem.Expr}{p p' pos:iP}{fo fi fv}(j:ah)(hc:c.comp=none)(hx:c.names[j]?=aa x)(hk:c.env.kindOf x=aa .local)(ho:dI c o fo)(hi:dI c i fi)(hv:dI c e fv)
  (hs:we [.Subscript o i p,.Name x p'] e c.env=pure none):
  oo c (.Assign [.Subscript o i p,.Name x p'] e pos) (LP j fo fi fv):=by
 intro st r bZ q ext ρ s R Q E k;refine ea q ?_;clear q;intro v ax h1 q;refine ea q ?_;clear q;intro a cH h2 q;refine ea q ?_;clear q;intro b ed h3 q;refine eh q ?_;clear q;intro H h4 q;cases q
 rw[exec_Assign];refine aw (jh ?_);show bg g.M c.A ((pure false:Sem cj)>>=_) Q E s;refine aw (bA ?_);simp only[cR,iv];refine aw (hv st v ax h1 ext ρ s R _ _ λaQ v' bC b8 bW vv=>?_);rw[hs];refine aw (bA ?_);show bg g.M c.A (do assignAll v' ((kP [.Subscript o i p,.Name x p'] c.env).map (·.2));pure Flow.next) Q E bC;have agN:assignAll v' ((kP [.Subscript o i p,.Name x p'] c.env).map (·.2))=(do holding [v'] (assign (.Subscript o i p) c.env v');assign (.Name x p') c.env v'):=rfl;rw[agN];refine aw (aw (cN ?_));rw[assign_Subscript];refine aw (cN (ho ax a cH h2 ext aQ bC bW _ _ λcy a' dn dG dh va=>aw (cN (hi cH b ed h3 ext cy dn dh _ _ λiH b' eS iU gI vb=>aw (jh (aw (cN ?_)))))));have vv3:=(vv.mono dG).mono iU;refine Gy h4 gI (va.mono iU) vb vv3 λow nA=>wpAny_release (kq (nA.store hc hx hk vv3 λkQ mU=>bA ?_));exact k iH _ kQ ((b8.trans dG).trans iU) mU rfl
noncomputable def uO(chk:af av->cj)(i j:ah)(body:St->ag (MF×St))(es:af (aE×MV)):St->ag (MF×St):=@dC (aE×MV) (λ_=>St->ag (MF×St)) (λst=>if chk st.H=true then aa (.next,st) else none) (λe _ ih st=>if chk st.H=true then p9 ih (body {st with l:=qJ st.l [i,j] [.int e.1,e.2]}) else none) es
noncomputable def EF(i j:ah)(f:St->ag (MV×St))(fb:St->ag (MF×St)):St->ag (MF×St):=λst=>HO (f st) λl ax=>oh av.dc ax.H[l]? λes ep=>uO (hU l (.dict es ep)) i j fb es ax
theorem DY{chk:af av->cj}{i j:ah}{fb:St->ag (MF×St)}{es:af (aE×MV)}{t:ah}{st bZ:St}{r:MF}{P:Prop}(ht:t<=es.length)(q:uO chk i j fb (es.drop t) st=aa (r,bZ))
  (h1:∀eY:t<es.length,chk st.H=true->p9 (uO chk i j fb (es.drop (t+1))) (fb {st with l:=qJ st.l [i,j] [.int es[t].1,es[t].2]})=aa (r,bZ)->P) (h2:t=es.length->chk st.H=true->r=.next->st=bZ->P):P:=by
 by_cases eY:t<es.length
 ·rw[iE eY] at q
  exact fP (c:=chk st.H=true) q λf9 q=>h1 eY f9 q
 ·have MD:t=es.length:=Lx ht eY
  rw[MD,qc] at q;exact fP (c:=chk st.H=true) q λf9 q=>Rg q λa b=>h2 MD f9 a.symm b
theorem Dz{x y:dv}{px py L5 apos pf pos:iP}{k:ah}{o:PySem.Expr}{body:af oF}{pl:Sem cj}{f fb}(i j:ah)(hc:c.comp=none)(hh:c.A.handled=none)(hL:cY c [i,j] [x,y])(ho:dI c o f)(hb:ja c body fb)
  (he:eval (.Call (.Attribute o "items" apos) [] [] pf) c.env=(do
   let ov<-eval o c.env
   g9 apos.atName
   let(f,first)<-holding [ov] (mi ov "items" pl)
   fg pf f first (gE pf (dT [] c.env)) [])) (hs:∀x,i5 (.Call (.Attribute o "items" apos) [] [] pf) c.env x=pure x):
  oo c (.For (.Tuple [.Name x px,.Name y py] k L5) (.Call (.Attribute o "items" apos) [] [] pf) body [] pos) (EF i j f fb):=by
 intro st r bZ q ext ρ s R Q E kk;refine p8 q ?_;clear q;intro l ax h1 q;refine uV q ?_;clear q;intro es ep h2 q;refine wpAny_For (uz (pl:=pl) (ho st _ ax h1 ext ρ s R _ _ λaQ a' bC b8 bW va=>?_) he) hs;refine bW.objE (h2) λa b ha Hq rr=>?_;rw[va.dq ha];refine lT (eR rr Hq) λgs D ma _ rX=>?_;refine dQ (Bd rr (by show 2<4;exact q8)) λt1 t2=>?_;refine yV ⟨b,Hq,t1⟩ qa Rr F.type_dict_items (λa'' e=>by cases e;exact⟨b,Hq,t2⟩) ?_;refine afI ?_;refine Mt Rr D.dictOf.typeIs F.entry_dict_items (F.args_dict_items_1 _) (meets_dict_items (eE g.prog g.w) a (jW bW ha)) ⟨⟨_,D.dictOf⟩,?_⟩;have dh:=bW.grow bC.toks (h':=bC.heap.push {cls:=.type "dict_items",data:=.fields #[.ref a]}) λ_ _ e=>bY _ e;refine wpAny_pyIter_items (knd:=eE g.prog g.w) ⟨_,dR _ rfl,rfl,rfl⟩ (D.push _) ?_;have gI:=dh.zJ bC.toks {cls:=.type "dict_itemiterator",data:=.fields #[.none,.bool false,.ref a,.int 0 0,.int gs.length 0,.int ep 0,.none,.none]};rw[ma] at gI;rw[ma];generalize(bC.heap.push {cls:=.type "dict_items",data:=.fields #[.ref a]}).objs.size=I at gI⊢;refine codeAny_forLoop_any (λn s=>∃t:ah,∃cH cy ok ov,n=es.length-t/\t<=es.length/\uO (hU l (.dict es ep)) i j fb (es.drop t) cH=aa (r,bZ)/\aQ<+:cy/\Rel c ((I,{cls:=.type "dict_itemiterator",data:=.fields #[.none,.bool false,.ref a,.int (t:ah) 0,.int (es.length:ah) 0,.int ep 0,ok,ov]})::ext) cy cH s) ?_ (es.length-0) ⟨0,ax,aQ,.none,.none,rfl,jn _,q,a9,gI⟩;refineλn s h=>ex5 h λt cH cy ok ov h=>an5 h λhn ht q dG R=>?_;refine DY ht q (λeY f9 q=>?_) (λMD f9 hr ql=>?_)
 ·refine R.jw (pe f9) (bj dG ha) λb' oQ rr'=>?_
  refine lT (eR rr' oQ) λYn D' JX _ XK=>?_;refine cv (XK t es[t] (ao eY)) λv hv vv=>?_;have hit:=R.Qr
  dsimp only at hit
  rw[<-JX] at hit;have hIs:I≠s.heap.objs.size:=dP (cW hit);refine wpAny_pyNext_items_item (knd:=eE g.prog g.w) hit D' hv λkey h₁ rH D7 ahb hz p6=>?_;rw[JX] at D7;have nA:=R.change hc s.toks p6 D7;refine wpAny_letOwnedTupleGo_items D7 λoq Bt xe=>?_;have mU:=nA.change hc s.toks (λb o hb e=>(xe.2 b hb).trans e) Bt;have X4:oq.IsTuple s.heap.objs.size #[key,v]:=⟨_,(xe.2 _ (oM hIs)).trans ahb,rfl,_,rfl⟩;refine wpAny_assign_Tuple hh X4 rfl rfl λJ9 X6=>?_;have Dy:=mU.grow s.toks (h':=J9) λb o e=>X6 b o (dP (cW e)) e;have e1:(kP [.Name x px,.Name y py] c.env).map (·.2)=[(x,px),(y,py)].map λp=>assign (.Name p.1 p.2) c.env:=rfl;rw[e1];have hvr:iD g cy [.int es[t].1,es[t].2] [key,v]:=by refine iD.cons ?_ (iD.cons vv iD.nil);refine dA (oY rH) λtk' cP=>?_;subst cP;exact⟨tk',rfl⟩
  refine nH [(x,px),(y,py)] [key,v] _ rfl ?_;refine Rel.stores hc hL hvr rfl Dy λafg BL=>?_;exact t9 (X:=uO (hU l (.dict es ep)) i j fb (es.drop (t+1))) hb BL q (λs h=>⟨h,h⟩) (λmA mB kQ q rN mU=>⟨_,hn▸O3 eY,t+1,mA,mB,key,v,rfl,eY,q,dG.trans rN,mU⟩)
   (λmB kQ hr rN mU=>kk mB _ kQ ((b8.trans dG).trans rN) (mU.drop hc) (by rw[hr];rfl)) (λv v' mB kQ hr rN mU vv=>kk mB _ kQ ((b8.trans dG).trans rN) (mU.drop hc) (by rw[hr];exact⟨v',rfl,vv⟩))
 ·subst MD
  refine R.jw (pe f9) (bj dG ha) λb' oQ rr'=>?_;refine lT (eR rr' oQ) λYn D' JX _ XK=>?_;have hit:=R.Qr
  dsimp only at hit
  have Tc:IsItemIter s.heap I a es.length Yn.length ep ok ov:=by rw[JX];exact hit
  refine wpAny_pyNext_items_end (knd:=eE g.prog g.w) hh Tc D' (by rw[fj,JX];exact cL _) λh₁ XA=>oX ?_;exact kk cy _ _ (b8.trans dG) (ql▸R.leave hc s.toks XA) (by rw[hr];rfl)
section
variable{prog:kp}{w:wc}{A:eD}{E:aB->aD->Prop}{s:aD}
theorem L8{M:PQ}{a:aX}{Q:ag d9->aD->Prop}(h:Q (s.heap.get? a) s):bg M A (PY a) Q E s:=λΓ p QE=>by unfold PY;rw[Sem.wp_loadIfAlive];exact h
noncomputable abbrev P8(h:jf)(z TI TO:aX)(f0:aB)(b:cj):Prop:=h.get? z=aa {cls:=.type "zip",dict:=none,data:=.fields #[f0,.bool b,.bool false,.ref TI,.ref TO],slots:= #[]}
theorem zS{z TI TO T:aX}{b:cj}{oT:d9}{Q:cj->aD->Prop}(hz:P8 s.heap z TI TO (mO T) b)(hT:s.heap.get? T=aa oT)(h:∀h',P8 h' z TI TO (mO T) true->kn z s.heap h'->Q false {s with heap:=h'}):
  bg (model prog w) A (gw (.ref z)) Q E s:=by
 unfold gw;refine aw (i6 hz rfl (x:=mO T) rfl ?_);show bg _ _ (PY ((T:aE).toNat)>>=_) _ _ _;rw[fY];refine aw (L8 ?_);rw[hT];show bg _ _ (field (.ref z) 1>>=_) _ _ _;refine aw (i6 hz rfl (x:=.bool b) rfl ?_);cases b with
 |true=>rw[aZ (by decide)];exact aw (bA (bA (h _ hz (Bj ..))))
 |false=>rw[aP (by decide)];refine aw (wpAny_setField_rec hz (by simp) λh' V9 yc=>?_);exact bA (h h' V9 yc)
theorem Im{z TI TO T i1 i2 l1 l2:aX}{k1 k2:ah}{xs ys:fm aB}{x y:aB}{b:cj}{oT:d9}{Q:aB->aD->Prop}(D:yP z TI TO i1 i2 l1 l2)
  (hz:P8 s.heap z TI TO (mO T) b) (SX:IsPair s.heap TI (.ref i1) (.ref i2)) (hT:s.heap.get? T=aa oT)
  (h1:s.heap.IsListIter i1 l1 k1) (h2:s.heap.IsListIter i2 l2 k2) (NY:s.heap.IsList l1 xs) (V5:s.heap.IsList l2 ys) (hx:xs[k1]?=aa x) (hy:ys[k2]?=aa y)
  (hQ:∀h',P8 h' z TI TO (mO T) true->h'.IsListIter i1 l1 (k1+1)->h'.IsListIter i2 l2 (k2+1)->h'.objs.size=s.heap.objs.size->
   (∀c o,c≠z->c≠i1->c≠i2->s.heap.get? c=aa o->h'.get? c=aa o)->Q (.ref s.heap.objs.size) {s with heap:=h'.push {cls:=.type "tuple",data:=.seq #[x,y]}}):
  bg (model prog w) A (nZ.«zip.__next__» ⟨[.ref z],[]⟩) (λfin s'=>∃v,fin=.done (.ret v)/\Q v s') E s:=by
 show bg _ _ (field (.ref z) 2>>=_) _ _ _;refine aw (i6 hz rfl (x:=.bool false) rfl ?_);show bg _ _ (field (.ref z) 3>>=_) _ _ _;refine aw (i6 hz rfl (x:=.ref TI) rfl ?_);refine aw (uE SX rfl ?_);show bg _ _ (gw (.ref z)>>=_) _ _ _;refine aw (zS hz hT λh₁ QD mS=>?_);simp only[cR,iv];refine aw ?_;rw[<-Ip];simp only[PM,Rv];refine aw (aw (cN ?_));show bg _ _ (lI (.ref i1)>>=_) _ _ _;refine aw (My (h1.extBut mS.extBut D.i1z) (NY.extBut mS.extBut D.l1z) hx λpk Xg tu=>bA ?_);refine bA ?_;refine aw (aw (cN ?_));show bg _ _ (lI (.ref i2)>>=_) _ _ _;refine aw (My ((h2.extBut mS.extBut D.i2z).extBut tu.extBut D.i12.symm) ((V5.extBut mS.extBut D.l2z).extBut tu.extBut D.l2i1) hy λoq Xi xe=>bA ?_);refine bA (bA ?_);refine aw (wpAny_newTuple ?_ (hsz:=by show 2<=lE;rw[fQ];exact q9));have hsz:oq.objs.size=s.heap.objs.size:=by rw[xe.1,tu.1,mS.1]
 refine bA ⟨_,rfl,?_⟩;show Q (.ref oq.objs.size) _;rw[hsz];exact hQ oq (xe.extBut _ _ D.i2z.symm (tu.extBut _ _ D.i1z.symm QD)) (Xg.extBut xe.extBut D.i12) Xi hsz λc o c1 c2 c3 e=>xe.extBut _ _ c3 (tu.extBut _ _ c2 (mS.extBut _ _ c1 e))
theorem Md{z TI TO T i1 i2 l1 l2:aX}{k1 k2:ah}{xs:fm aB}{b:cj}{oT:d9}{Q:PySem.Fin->aD->Prop}(hh:A.handled=none)(D:yP z TI TO i1 i2 l1 l2)
  (hz:P8 s.heap z TI TO (mO T) b) (SX:IsPair s.heap TI (.ref i1) (.ref i2)) (hT:s.heap.get? T=aa oT)
  (h1:s.heap.IsListIter i1 l1 k1) (NY:s.heap.IsList l1 xs) (hx:xs[k1]?=none)
  (hE:∀h' e,(∀c o,c≠z->c≠i1->c≠i2->s.heap.get? c=aa o->h'.get? c=aa o)->(∃o,h'.get? e=aa o/\o.cls=.type "StopIteration")->E (.ref e) {s with heap:=h'}):
  bg (model prog w) A (nZ.«zip.__next__» ⟨[.ref z],[]⟩) Q E s:=by
 show bg _ _ (field (.ref z) 2>>=_) _ _ _;refine aw (i6 hz rfl (x:=.bool false) rfl ?_);show bg _ _ (field (.ref z) 3>>=_) _ _ _;refine aw (i6 hz rfl (x:=.ref TI) rfl ?_);refine aw (uE SX rfl ?_);show bg _ _ (gw (.ref z)>>=_) _ _ _;refine aw (zS hz hT λh₁ QD mS=>?_);simp only[cR,iv];refine aw ?_;rw[<-Ip];simp only[PM,Rv];refine aw (aw (cN ?_));show bg _ _ (lI (.ref i1)>>=_) _ _ _;refine aw (wpAny_nextOf_list_end hh (h1.extBut mS.extBut D.i1z) (NY.extBut mS.extBut D.l1z) hx λpk e tu he=>?_);exact hE pk e (λc o c1 c2 c3 x=>tu _ _ c2 (mS.extBut _ _ c1 x)) he
theorem C6{z TI TO T i1 i2 l1 l2:aX}{k1 k2:ah}{xs ys:fm aB}{x y:aB}{b:cj}{oT:d9}{Q:ag aB->aD->Prop}(D:yP z TI TO i1 i2 l1 l2)
  (hz:P8 s.heap z TI TO (mO T) b) (SX:IsPair s.heap TI (.ref i1) (.ref i2)) (hT:s.heap.get? T=aa oT)
  (h1:s.heap.IsListIter i1 l1 k1) (h2:s.heap.IsListIter i2 l2 k2) (NY:s.heap.IsList l1 xs) (V5:s.heap.IsList l2 ys) (hx:xs[k1]?=aa x) (hy:ys[k2]?=aa y)
  (hQ:∀h',P8 h' z TI TO (mO T) true->h'.IsListIter i1 l1 (k1+1)->h'.IsListIter i2 l2 (k2+1)->h'.objs.size=s.heap.objs.size->
   (∀c o,c≠z->c≠i1->c≠i2->s.heap.get? c=aa o->h'.get? c=aa o)->Q (aa (.ref s.heap.objs.size)) {s with heap:=h'.push {cls:=.type "tuple",data:=.seq #[x,y]}}):
  bg (model prog w) A (x9 (.ref z)) Q E s:=by
 have Xm:s.TypeIs (.ref z) "zip":=⟨_,hz,rfl⟩;unfold x9;exact aw (wpAny_attempt (rS (name:=ic "__next__") Xm ox
  (kW ox Xm VJ
   (Im D hz SX hT h1 h2 NY V5 hx hy λh' a1 a2 a3 a4 a5=>bA (hQ h' a1 a2 a3 a4 a5)) (Rq _))))
theorem EM{z TI TO T i1 i2 l1 l2:aX}{k1 k2:ah}{xs:fm aB}{b:cj}{oT:d9}{Q:ag aB->aD->Prop}(hh:A.handled=none)(D:yP z TI TO i1 i2 l1 l2)
  (hz:P8 s.heap z TI TO (mO T) b) (SX:IsPair s.heap TI (.ref i1) (.ref i2)) (hT:s.heap.get? T=aa oT)
  (h1:s.heap.IsListIter i1 l1 k1) (NY:s.heap.IsList l1 xs) (hx:xs[k1]?=none)
  (hQ:∀h',(∀c o,c≠z->c≠i1->c≠i2->s.heap.get? c=aa o->h'.get? c=aa o)->Q none {s with heap:=h'}):bg (model prog w) A (x9 (.ref z)) Q E s:=by
 have Xm:s.TypeIs (.ref z) "zip":=⟨_,hz,rfl⟩;unfold x9;refine aw (wpAny_attempt (rS (name:=ic "__next__") Xm ox
  (kW ox Xm VJ (Md (k2:=k2) hh D hz SX hT h1 NY hx λh' e hk he=>?_) (Rq _))))
 refine cv he λo ho hc=>?_;clear he;refine aw (wpAny_isInstance (T:="StopIteration") (b:=true) ⟨o,ho,hc⟩ isSubtype_stop ?_);exact bA (hQ _ hk)
end
theorem HR.adopt{m:dv->ag aB}{ext:af (aX×d9)}{ρ:af aX}{obs:af d9}{H:af av}{s:aD}(R:HR c h₀ m ext ρ obs H s){a:aX}{b:d9}{o:av}(ha:s.heap.get? a=aa b)(hL:a≠c.L)(h0:h₀.get? a=none)(rK:∀p∈ext++ρ.zip obs,p.1≠a)(h3:3<a)
  (hk:∀d vs,o=.node d vs->∃ws,H[d]?=aa (.attrs ws)) (r:OR g (ρ++[a]) o b):HR c h₀ m ext (ρ++[a]) (obs++[b]) (H++[o]) s:=
 R.alloc (h':=s.heap) (tk:=s.toks) (more:=ext++ρ.zip obs) R.F (λp hp=>by
  rcases bE.mp hp with rfl|hp
  ·exact⟨ha,hL,h0⟩
  ·exact R.N p hp) (λp hp=>hp) rK h3 hk r
noncomputable abbrev C5(TI TO:aX)(f0:aB)(b:cj):d9:={cls:=.type "zip",dict:=none,data:=.fields #[f0,.bool b,.bool false,.ref TI,.ref TO],slots:= #[]}
noncomputable abbrev lx(a b:aB):d9:={cls:=.type "tuple",data:=.seq #[a,b]}
noncomputable abbrev AQ(l:aX)(j:ah):d9:={cls:=.type "list_iterator",data:=.fields #[.ref l,.int (j:ah) 0]}
inductive ZIt(z TI TO i1 i2 l1 l2:aX)(j:ah)(own:af (aX×d9))(ρ:af aX):Prop where
 |mk (oz o1 o2:d9) (ta tb:aB) (e:own=[(z,oz),(TI,lx (.ref i1) (.ref i2)),(TO,lx ta tb),(i1,o1),(i2,o2)]) (c1:o1.cls=.type "list_iterator") (d1:o1.data=.fields #[.ref l1,.int (j:ah) 0]) (c2:o2.cls=.type "list_iterator") (d2:o2.data=.fields #[.ref l2,.int (j:ah) 0])
  (h:(j=0/\oz=C5 TI TO .none false)\/∃(T:aX)(b:cj)(t:ah),ρ[t]?=aa T/\oz=C5 TI TO (mO T) b)
noncomputable def PE(xs:af MV):af MV->af lM:=@dC MV (λ_=>af MV->af lM) (λ_=>[]) (λx _ ih ys=>@dC MV (λ_=>af lM) [] (λy ys _=> .pair x y::ih ys) ys) xs
theorem Mb(xs:af MV):∀(ys:af MV)(j:ah){q:lM},(PE xs ys)[j]?=aa q->∃x y,xs[j]?=aa x/\ys[j]?=aa y/\q=.pair x y:=by
 induction xs with
 |nil=>exactλys j q h=>lR h
 |cons x xs ih=>
  intro ys j q h;cases ys with
  |nil=>exact lR h
  |cons y ys=>cases j with
   |zero=>exact⟨x,y,rfl,rfl,(aR h).symm⟩
   |succ j=>exact ih ys j h
theorem Mc(xs:af MV):∀(ys:af MV),xs.length=ys.length->(PE xs ys).length=xs.length:=by
 induction xs with
 |nil=>exactλ_ _=>rfl
 |cons x xs ih=>
  intro ys h;cases ys with
  |nil=>exact nomatch h
  |cons y ys=>exact bI Nat.succ (ih ys (pE h))
noncomputable def Jl(a b:ah)(xs ys:af MV)(H:af av):cj:=cq (H[a]?=aa (.list xs)/\H[b]?=aa (.list ys))
theorem FC{a b:ah}{xs ys:af MV}{H:af av}(h:Jl a b xs ys H=true):H[a]?=aa (.list xs)/\H[b]?=aa (.list ys):=yt h
theorem N9(hh:c.A.handled=none){a b:ah}{xs ys:af MV}{ρ:af aX}{z TI TO i1 i2 l1 l2:aX}(D:yP z TI TO i1 i2 l1 l2)(ha:ρ[a]?=aa l1)(hb:ρ[b]?=aa l2)(hl:xs.length=ys.length)(xd:0<xs.length):
  MS c z (ZIt z TI TO i1 i2 l1 l2) false (PE xs ys) (Jl a b xs ys) ρ where
 mono:=by
  rintro j own aQ cy ⟨oz,o1,o2,ta,tb,h1,h2,h3,h4,h6,h5⟩ p
  refine⟨oz,o1,o2,ta,tb,h1,h2,h3,h4,h6,?_⟩;rcases h5 with h5|⟨T,b',t,e1,e2⟩
  ·exact .inl h5
  ·exact .inr ⟨T,b',t,bj p e1,e2⟩
 item:=by
  rintro j y own h₀ m ext obs H aQ s Q E hy ⟨oz,o1,o2,ta,tb,rfl,h1c,Xf,h2c,h2d,h5⟩ f9 b8 R kk
  refine eu (Mb xs ys j hy) λmx my XO hmy cP=>?_;subst cP;refine dQ (FC f9) λe1 e2=>?_;refine R.objE (e1) λa1 b1 Xn NN et=>?_;refine eu et λus n1 cP hz1 ru=>?_;clear et;subst cP;refine R.objE (e2) λa2 b2 Xo NO et=>?_;refine eu et λws n2 cP hz2 rw2=>?_;clear et;subst cP;rw[bj b8 ha] at Xn;cases Xn
  rw[bj b8 hb] at Xo;cases Xo
  refine cv (ru.2 j mx XO) λvx hvx rx=>?_;refine cv (rw2.2 j my hmy) λvy hvy ry=>?_;have g0:=(R.N (z,oz) (aI _ (.head _))).1;have g1:=(R.N (TI,lx (.ref i1) (.ref i2)) (aI _ (.tail _ (.head _)))).1;have g2:=(R.N (TO,lx ta tb) (aI _ (.tail _ (.tail _ (.head _))))).1;have g3:=(R.N (i1,o1) (aI _ (.tail _ (.tail _ (.tail _ (.head _)))))).1;have g4:=(R.N (i2,o2) (aI _ (.tail _ (.tail _ (.tail _ (.tail _ (.head _))))))).1;have fresh:∀a',s.heap.objs.size<=a'->s.heap.get? a'=none:=λa' h=>by
   cases e:s.heap.get? a' with
   |none=>rfl
   |some o=>exact ej (cW e) (uA.mpr h)
  have f0:h₀.get? s.heap.objs.size=none:=by
   cases e:h₀.get? s.heap.objs.size with
   |none=>rfl
   |some o=>have:=R.F.keep _ _ e;rw[fresh _ (cL _)] at this;cases this
  have fL:s.heap.objs.size≠c.L:=λe=>by have:=R.F.ns.lt;rw[<-e] at this;exact fU _ this
  have sz3:=R.xI;rcases h5 with⟨rfl,rfl⟩|⟨T,b',t,eT,rfl⟩
  ·refine wpAny_pyNext_zip_item D g0 g1 g2 ⟨_,g3,h1c,Xf⟩ ⟨_,g4,h2c,h2d⟩ ⟨_,NN,rfl,n1,rfl⟩ ⟨_,NO,rfl,n2,rfl⟩ (by simpa using hvx) (by simpa using hvy) λh' q1 q2 q3 q4 q5 q6 q7=>?_
   obtain⟨YF,q3,q3c,q3d⟩:=q3;obtain⟨YG,q4,q4c,q4d⟩:=q4;have bW:HR c h₀ m ([(z,C5 TI TO (mO s.heap.objs.size) false),(TI,lx (.ref i1) (.ref i2)),(TO,lx vx vy),(i1,YF),(i2,YG)]++ext) aQ obs H {s with heap:=h',toks:=s.toks}:=
    R.Rb s.toks (λb o hb e=>q7 b o (λh=>hb (by rw[h];repeat' (first|exact gU _|refine gV _ ?_))) (λh=>hb (by rw[h];repeat' (first|exact gU _|refine gV _ ?_))) (λh=>hb (by rw[h];repeat' (first|exact gU _|refine gV _ ?_))) (λh=>hb (by rw[h];repeat' (first|exact gU _|refine gV _ ?_))) e) rfl (λp hp=>by
     simp only[bE,v9,or_false] at hp;rcases hp with rfl|rfl|rfl|rfl|rfl
     ·exact q1
     ·exact q7 TI _ D.TIz D.TITO D.TIi1 D.TIi2 g1
     ·exact q2
     ·exact q3
     ·exact q4)
   have dh:=bW.adopt (a:=s.heap.objs.size) (b:=lx vx vy) (o:=.tup [mx,my]) q5 fL f0 (λp hp e=>fU _ (e▸R.QK (by rfl) hp)) sz3 (λ_ _ q=>by cases q) ⟨[vx,vy],0,rfl,by simp,(iD.cons rx (iD.cons ry iD.nil)).mono ⟨_,rfl⟩⟩;exact kk (.ref s.heap.objs.size) _ (aQ++[s.heap.objs.size]) _ _ (jU R.lr.symm) ⟨_,YF,YG,_,_,rfl,q3c,q3d,q4c,q4d,.inr ⟨s.heap.objs.size,false,aQ.length,by simp,rfl⟩⟩ ⟨_,rfl⟩ dh
  ·obtain⟨oTT,hTT⟩:∃o,s.heap.get? T=aa o:=by
    refine dA (bR.mp eT) λhi he=>?_;have hj:t<obs.length:=by rw[R.lo,<-R.lr];exact hi
    exact⟨obs[t],(R.N (T,obs[t]) (bw _ (aM (i:=t) (by rw[eo];exact⟨eT,ao hj⟩)))).1⟩
   refine C6 D g0 g1 hTT ⟨_,g3,h1c,Xf⟩ ⟨_,g4,h2c,h2d⟩ ⟨_,NN,rfl,n1,rfl⟩ ⟨_,NO,rfl,n2,rfl⟩ (by simpa using hvx) (by simpa using hvy) λh' q1 q3 q4 q6 q7=>?_;obtain⟨YF,q3,q3c,q3d⟩:=q3;obtain⟨YG,q4,q4c,q4d⟩:=q4;have bW:HR c h₀ m ([(z,C5 TI TO (mO T) true),(TI,lx (.ref i1) (.ref i2)),(TO,lx ta tb),(i1,YF),(i2,YG)]++ext) aQ obs H {s with heap:=h',toks:=s.toks}:=
    R.Rb s.toks (λb o hb e=>q7 b o (λh=>hb (by rw[h];repeat' (first|exact gU _|refine gV _ ?_))) (λh=>hb (by rw[h];repeat' (first|exact gU _|refine gV _ ?_))) (λh=>hb (by rw[h];repeat' (first|exact gU _|refine gV _ ?_))) e) rfl (λp hp=>by
     simp only[bE,v9,or_false] at hp;rcases hp with rfl|rfl|rfl|rfl|rfl
     ·exact q1
     ·exact q7 TI _ D.TIz D.TIi1 D.TIi2 g1
     ·exact q7 TO _ D.TOz D.TOi1 D.TOi2 g2
     ·exact q3
     ·exact q4)
   have dh:=bW.grow s.toks (h':=h'.push (lx vx vy)) λ_ _ e=>bY _ e;have gI:=dh.adopt (a:=s.heap.objs.size) (b:=lx vx vy) (o:=.tup [mx,my]) (by rw[<-q6];exact dR _ rfl) fL f0 (λp hp e=>fU _ (e▸R.QK (by rfl) hp)) sz3 (λ_ _ q=>by cases q) ⟨[vx,vy],0,rfl,by simp,(iD.cons rx (iD.cons ry iD.nil)).mono ⟨_,rfl⟩⟩;exact kk (.ref s.heap.objs.size) _ (aQ++[s.heap.objs.size]) _ _ (jU R.lr.symm) ⟨_,YF,YG,_,_,rfl,q3c,q3d,q4c,q4d,.inr ⟨T,true,t,bj ⟨_,rfl⟩ eT,rfl⟩⟩ ⟨_,rfl⟩ gI
 done:=by
  rintro own h₀ m ext obs H aQ s Q E ⟨oz,o1,o2,ta,tb,rfl,h1c,Xf,h2c,h2d,h5⟩ f9 b8 R kk
  refine dQ (FC f9) λe1 e2=>?_;refine R.jw (e1) (bj b8 ha) λb1 NN et=>?_;refine eu et λus n1 cP hz1 ru=>?_;clear et;subst cP;have g0:=(R.N (z,oz) (aI _ (.head _))).1;have g1:=(R.N (TI,lx (.ref i1) (.ref i2)) (aI _ (.tail _ (.head _)))).1;have g3:=(R.N (i1,o1) (aI _ (.tail _ (.tail _ (.tail _ (.head _)))))).1;rw[Mc xs ys hl] at h5 Xf;rcases h5 with⟨h0,_⟩|⟨T,b',t,eT,rfl⟩
  ·lia
  ·obtain⟨oTT,hTT⟩:∃o,s.heap.get? T=aa o:=by
    refine dA (bR.mp eT) λhi he=>?_;have hj:t<obs.length:=by rw[R.lo,<-R.lr];exact hi
    exact⟨obs[t],(R.N (T,obs[t]) (bw _ (aM (i:=t) (by rw[eo];exact⟨eT,ao hj⟩)))).1⟩
   refine EM (k2:=0) hh D g0 g1 hTT ⟨_,g3,h1c,Xf⟩ ⟨_,NN,rfl,n1,rfl⟩ (by simp[ru.1]) λh' hk=>?_;exact kk _ (R.Rl s.toks λb o hb e=>hk b o (λh=>hb (by rw[h];repeat' (first|exact gU _|refine gV _ ?_))) (λh=>hb (by rw[h];repeat' (first|exact gU _|refine gV _ ?_))) (λh=>hb (by rw[h];repeat' (first|exact gU _|refine gV _ ?_))) e)
 self:=by
  rintro j own h₀ m ext obs H aQ s Q E ⟨oz,o1,o2,ta,tb,rfl,_,_,_,_,h5⟩ R k
  have g0:=(R.N (z,oz) (aI _ (.head _))).1;have hT:s.TypeIs (.ref z) "zip":=by
   rcases h5 with⟨_,rfl⟩|⟨T,b',t,_,rfl⟩
   ·exact⟨_,g0,rfl⟩
   ·exact⟨_,g0,rfl⟩
  refine wpAny_pyIter_slot hT Wi (kW Wi hT F.entry_zip_iter ?_ (F.args_zip_iter_1 _));show bg _ _ (ret (.ref z)) _ _ s;exact bA ⟨_,rfl,"zip",_,hT,ox.lookup,k⟩
 go:=λh=>by cases h
noncomputable def Kb(f f':St->ag (MV×St)):St->ag ((af lM×(af av->cj))×St):=λst=>HO (f st) λa ax=>HO (f' ax) λb cH=>og av.ls cH.H[a]? λxs=>og av.ls cH.H[b]? λys=>if xs.length=ys.length/\0<xs.length then aa ((PE xs ys,Jl a b xs ys),cH) else none
theorem P7{e e':PySem.Expr}{p pos:iP}{f f'}(hh:c.A.handled=none)(hk:c.env.kindOf "zip"=aa .globalImplicit)(hg:eA g.K aK "zip"=aa none)(ql:isStar e=false)(X0:isStar e'=false)(he:dI c e f)(FX:dI c e' f')
  (hc:eval (.Call (.Name "zip" p) [e,e'] [] pos) c.env=(do fg pos (<-eval (.Name "zip" p) c.env) [] (gE pos (dT [e,e'] c.env)) (oG pos (jF [] c.env)))):
  Ah c (.Call (.Name "zip" p) [e,e'] [] pos) false (Kb f f'):=by
 intro st ys chk bZ q ext ρ s R Q E k;refine p8 q ?_;clear q;intro a ax h1 q;refine p8 q ?_;clear q;intro b cH h2 q;refine nP q ?_;clear q;intro xs e1 q;refine nP q ?_;clear q;intro ys' e2 q;refine fP q ?_;clear q;intro hl q;cases q
 have hp:gH [e,e']=true:=by show(!isStar e&&(!isStar e'&&true))=true;rw[ql,X0];rfl
 refine Wf (lq R hk hg (v:=.type "zip") ∅ (by decide) rfl (mE (mz hp) ?_)) hc;refine mW hp (aN he (aN FX cm X0) ql) (vs:=[.ref a,.ref b]) (bZ:=bZ) (cV h1 (cV (cV h2 rfl) rfl)) R λaQ eN bC b8 bW vv=>?_;refine eu vv.inv λv0 ws cP r0 vv1=>?_;subst cP;refine eu vv1.inv λv1 ws cP r1 vv2=>?_;subst cP;cases vv2.mJ
 refine bW.objE (e1) λl1 b1 Xn NN et=>?_;refine eu et λus n1 cP hz1 ru=>?_;clear et;subst cP;refine bW.objE (e2) λl2 b2 Xo NO et=>?_;refine eu et λus2 n2 cP hz2 ru2=>?_;clear et;subst cP;rw[r0.dq Xn,r1.dq Xo];have D:yP (bC.heap.objs.size+4) (bC.heap.objs.size+2) (bC.heap.objs.size+3) bC.heap.objs.size (bC.heap.objs.size+1) l1 l2:=ktu_apart _ _ _ (cW NN) (cW NO);refine call_zip_2 (xs:=us.toArray) (ys:=us2.toArray) ⟨_,NN,rfl,n1,rfl⟩ ⟨_,NO,rfl,n2,rfl⟩ λh' q1 q2 q3 q4 q5 q6 q7=>?_;refine wpAny_pyIter_zip q1 ?_;obtain⟨o1,q4,q4c,q4d⟩:=q4;obtain⟨o2,q5,q5c,q5d⟩:=q5;refine Rel.el bW λh₀ m nm obs h na lb=>?_;have fresh:∀n:ah,bC.heap.get? (bC.heap.objs.size+n)=none:=λn=>by
  cases e:bC.heap.get? (bC.heap.objs.size+n) with
  |none=>rfl
  |some o=>exact ej (cW e) (uA.mpr (d8 _ _))
 have lt:∀p∈ext++aQ.zip obs,p.1<bC.heap.objs.size:=λp hp=>cW (h.N p hp).1;have f0:∀n:ah,h₀.get? (bC.heap.objs.size+n)=none:=λn=>by
  cases e:h₀.get? (bC.heap.objs.size+n) with
  |none=>rfl
  |some o=>have:=h.F.keep _ _ e;rw[fresh n] at this;cases this
 have fL:∀n:ah,bC.heap.objs.size+n≠c.L:=λn e=>by have:=h.F.ns.lt;rw[<-e] at this;exact uA.mpr (d8 _ _) this
 have sz3:=h.xI
 let own:af (aX×d9):=[(bC.heap.objs.size+4,C5 (bC.heap.objs.size+2) (bC.heap.objs.size+3) .none false),(bC.heap.objs.size+2,lx (.ref bC.heap.objs.size) (.ref (bC.heap.objs.size+1))),(bC.heap.objs.size+3,lx .none .none),(bC.heap.objs.size,o1),(bC.heap.objs.size+1,o2)]
 have D8:∀p∈own,(∃n:ah,p.1=bC.heap.objs.size+n)/\h'.get? p.1=aa p.2:=by
  intro p hp;simp only[own,bE,v9,or_false] at hp;rcases hp with rfl|rfl|rfl|rfl|rfl
  ·exact⟨⟨4,rfl⟩,q1⟩
  ·exact⟨⟨2,rfl⟩,q2⟩
  ·exact⟨⟨3,rfl⟩,q3⟩
  ·exact⟨⟨0,rfl⟩,q4⟩
  ·exact⟨⟨1,rfl⟩,q5⟩
 have dh:Rel c (own++ext) aQ bZ {bC with heap:=h',toks:=bC.toks}:=by
  refine⟨h₀,m,nm,obs,⟨h.G,h.F.keeps q7,?_,h.nd,?_,?_,h.low,h.lr,h.lo,h.ob,h.nk,h.gens,h.os⟩,?_,lb⟩
  ·intro p hp
   rcases bK.mp hp with hp|hp
   ·rcases bK.mp hp with hp|hp
    ·obtain⟨⟨n,e⟩,hg'⟩:=D8 p hp
     exact⟨hg',by rw[e];exact fL n,by rw[e];exact f0 n⟩
    ·have z:=h.N p (aI _ hp)
     exact⟨q7 _ _ z.1,z.2⟩
   ·have z:=h.N p (bw _ hp)
    exact⟨q7 _ _ z.1,z.2⟩
  ·intro p hp q
   rcases bK.mp hp with hp|hp
   ·obtain⟨⟨n,e⟩,_⟩:=D8 p hp
    obtain⟨i,hi,ei⟩:=dm q;have hj:i<obs.length:=by rw[h.lo,<-h.lr];exact hi
    have:=lt (p.1,obs[i]) (bw _ (aM (i:=i) (by rw[eo];exact⟨by rw[ao hi,ei],ao hj⟩)));rw[e] at this;exact uA.mpr (d8 _ _) this
   ·exact h.off p hp q
  ·rw[d4,gN]
   refine⟨?_,h.en,λx hx y hy=>?_⟩
   ·simp[own]
   ·refine cv (aU.mp hx) λp hp cP=>?_;subst cP
    refine cv (aU.mp hy) λp' V7 cP=>?_;subst cP;obtain⟨⟨n,e⟩,_⟩:=D8 p hp;have:=lt p' (aI _ V7);rw[e];intro e';rw[<-e'] at this;exact uA.mpr (d8 _ _) this
  ·exact na.app own
 refine k aQ _ _ own _ b8 (N9 hh D Xn Xo hl.1 hl.2) ⟨_,o1,o2,_,_,rfl,q4c,q4d,q5c,q5d,.inl ⟨rfl,rfl⟩⟩ ?_ (λp hp=>?_) dh
 ·exact vf ⟨e1,e2⟩
 ·obtain⟨⟨n,e⟩,_⟩:=D8 p hp
  rw[e];exact fE sz3 (d8 _ _)
theorem Be:Bq (.builtin "list_iterator.__next__")=pure (.type "wrapper_descriptor"):=by show oH _=_;rw[iq];kernel_rfl
theorem uv:Slot "wrapper_descriptor" "__get__" "wrapper_descriptor.__get__":=
 .of (owner:="wrapper_descriptor") (n:="__get__") (by rw[sQ,nv];kernel_rfl) ∅ ∅ ∅
  (by first|exact .inl ∅|exact .inr ∅) (by rw[pY];kernel_rfl)
theorem DU:entryFor table "wrapper_descriptor.__get__"=aa nZ.«wrapper_descriptor.__get__» :=entryFor_of_tree ()
theorem GV(a b c:aB):argsOk "wrapper_descriptor.__get__" ⟨[a,b,c],[]⟩:=by unfold argsOk;kernel_rfl
theorem Ow:VQ (.type "wrapper_descriptor") "__set__"=pure none:=by rw[sQ,nv];kernel_rfl
theorem Ov:VQ (.type "wrapper_descriptor") "__delete__"=pure none:=by rw[sQ,nv];kernel_rfl
theorem Bc:isSubtype (.type "list_iterator") (.type (".".intercalate ("list_iterator.__next__".cutAt '.').dropLast))=pure true:=by have:(".".intercalate ("list_iterator.__next__".cutAt '.').dropLast)="list_iterator":=∅;rw[this,pY];kernel_rfl
noncomputable abbrev mV(a:aX):d9:={cls:=.type "method-wrapper",data:=.fields #[.builtin "list_iterator.__next__",.ref a]}
section
variable{prog:kp}{w:wc}{A:eD}{E:aB->aD->Prop}{h:jf}{gn:fm GenState}{d:Drawn}{t:ah}{os:OsState}{a:aX}{o:d9}
theorem K5{R:xW->aD->Prop}(hx:h.get? a=aa o)(hc:o.cls=.type "list_iterator")(hq:R (.ok (.ret (.ref h.objs.size))) ⟨h.push (mV a),gn,d,t,os⟩):
  oj (model prog w) A (.call (.builtin "wrapper_descriptor.__get__") ⟨[.builtin "list_iterator.__next__",.ref a,.type "list_iterator"],[]⟩) R ⟨h,gn,d,t,os⟩:=by
 have hT:(⟨h,gn,d,t,os⟩:aD).TypeIs (.ref a) "list_iterator":=⟨_,hx,hc⟩;have hT5:(⟨h,gn,d,t,os⟩:aD).TypeIs (.builtin "list_iterator.__next__") "wrapper_descriptor":=Be;have f8:=Bc;refine PW uv.plain DU (uv.check _ _ _ _ _ _ _ _ hT5 (GV _ _ _) ?_)
 repeat (any_goals (first|assumption|wp_step))
theorem Ei{tk:Tok}{l:aX}{i:ah}{Q:PySem.Fin->aD->Prop}(hx:h.get? a=aa (AQ l i))(hq:Q (.done (.ret (.ref h.objs.size))) ⟨h.push (mV a),gn,d,t,os⟩):
  bg (model prog w) A (nZ.«object.__getattribute__» ⟨[.ref a,.str "__next__" tk],[]⟩) Q E ⟨h,gn,d,t,os⟩:=by
 have hT:(⟨h,gn,d,t,os⟩:aD).TypeIs (.ref a) "list_iterator":=⟨_,hx,rfl⟩;have hT5:(⟨h,gn,d,t,os⟩:aD).TypeIs (.builtin "list_iterator.__next__") "wrapper_descriptor":=Be;have f4:=slot_listiter_next.lookup;have f5:=Be;have f6:=uv.lookup;have f7:=Ow;have f8:=Ov
 repeat (any_goals (first|assumption|wp_step))
 exact K5 hx rfl (bA hq)
theorem tF:Slot "list_iterator" "__getattribute__" "object.__getattribute__":=
 .of (owner:="object") (n:="__getattribute__") (by rw[sQ,nv];kernel_rfl) ∅ ∅ ∅
  (by first|exact .inl ∅|exact .inr ∅) (by rw[pY];kernel_rfl)
theorem OI{tk:Tok}{l:aX}{i:ah}{Q:aB->aD->Prop}(hx:h.get? a=aa (AQ l i))(hq:Q (.ref h.objs.size) ⟨h.push (mV a),gn,d,t,os⟩):bg (model prog w) A (getAttrBy (.ref a) (.str "__next__" tk) true true) Q E ⟨h,gn,d,t,os⟩:=by
 have hT:(⟨h,gn,d,t,os⟩:aD).TypeIs (.ref a) "list_iterator":=⟨_,hx,rfl⟩;have f2:=tF.lookup;have f3:=tF.bind (.ref a)
 repeat (any_goals (first|assumption|wp_step))
 refine PW tF.plain F.entry_object_getattribute (tF.check _ _ _ _ _ _ _ _ hT (F.args_object_getattribute_2 _ _) (Ei hx ?_))
 repeat (any_goals (first|assumption|wp_step))
theorem AA{s:aD}{l:aX}{i:ah}{Q:aB->aD->Prop}(hx:s.heap.get? a=aa (AQ l i))(hq:Q (.ref s.heap.objs.size) {s with heap:=s.heap.push (mV a),toks:=s.toks+1}):bg (model prog w) A (om (.ref a) "__next__" true) Q E s:=by
 obtain⟨h,gn,d,t,os⟩:=s;unfold om
 repeat (any_goals (first|assumption|with_reducible apply OI hx|wp_step))
end
noncomputable abbrev Cx.Qt(c:Cx g):af aX:=(c.gL::c.outer).filterMap (·.frame)
theorem Rel.turn{ext ρ st}{s:aD}{h':jf}(R:Rel c ext ρ st s)(hs:(gP s.heap c.Qt).StaysIn h')(hu:s.heap.UpToSlots h'):Rel c ext ρ st {s with heap:=h'}:=by
 refine Rel.el R λh₀ m nm obs h a b=>?_;clear R;have nL:h₀.get? c.L=none:=kts_self h.F;have off:∀b o,h₀.get? b=aa o->b∉c.fs->h'.get? b=aa o:=λb o e nf=>hs b o (hideAll_get _ (h.F.keep b o e) λq=>by
  rcases Aq q with z|z
  ·rw[z,nL] at e;cases e
  ·exact nf z)
 obtain⟨T,S⟩:=kts_turn_at (h:=h') (fs:=c.fs) (g:=h₀) (λb hb=>by obtain⟨_,o,ho,_⟩:=h.G.B.frames.mem hb;exact⟨o,ho⟩) off
  (λb o e hm=>by
   obtain⟨_,o',vl,hd⟩:=h.G.B.frames.mem hm;rw[e] at vl;cases(vl)
   exact hu b o (h.F.keep b o e) hd)
 refine⟨ktsHeap h' c.fs h₀,m,nm,obs,⟨⟨⟨h.G.B.stack,λb o e=>T.other b o (h.G.B.stays b o e) (λhm=>by rw[(h.G.B.frames.mem hm).1] at e;cases e),h.G.B.frames.of_keeps λb o e _=>by obtain⟨sl,hs⟩:=T.up e;exact⟨_,hs,rfl⟩⟩,h.G.D.turn T,h.G.turn.trans T⟩,⟨hu.ns h.F.ns,S,by rw[T.size];exact h.F.above⟩,?_,h.nd,h.off,h.en,h.low,h.lr,h.lo,h.ob,h.nk,h.gens,h.os⟩,a,b⟩
 intro p hp;have z:=h.N p hp;refine⟨hs _ _ (hideAll_get _ z.1 λq=>?_),z.2.1,T.none_ _ z.2.2⟩;rcases Aq q with w|w
 ·exact z.2.1 w
 ·refine dQ (h.G.B.frames.mem w) λ_ eX=>?_;refine cv eX λo ho _=>?_;clear eX
  rw[z.2.2] at ho;cases ho
theorem Rel.frames{ext ρ st}{s:aD}(R:Rel c ext ρ st s):s.heap.FunFrames (gP s.heap c.Qt) (c.gL::c.outer):=by refine Rel.el R λh₀ m nm obs h a b=>?_;clear R;exact funFrames_hide (pushX h.G.B h.F c.hf c.MC).frames λenv he a ha=>List.mem_filterMap.mpr ⟨env,he,ha⟩
theorem Ej{ext ρ st}{s:aD}{h₁:jf}{e:aX}{oe:d9}{vs:fm aB}{a0:aB}(R:Rel c ext ρ st s)(V3:c.gL=c.env)(keeps:∀b o,s.heap.get? b=aa o->h₁.get? b=aa o)
  (hn:s.heap.get? e=none) (he:h₁.get? e=aa oe) (hd:oe.data=.fields vs) (h1:vs[1]?=aa .none) (h0:vs[0]?=aa a0) {Q:xX->aD->Prop} {E:aB->aD->Prop}
  (k:∀h',Wj (gP s.heap c.Qt) (c.gL::c.outer) e oe.cls a0 h'->s.heap.UpToSlots h'->Q ⟨⟩ {s with heap:=h'}):
  bg g.M c.A (IP (.ref e) c.env) (λ_ dn=>bg g.M c.A (setFlight (.ref e) none) Q E dn) E {s with heap:=h₁}:=by
 have hen:(gP s.heap c.Qt).get? e=none:=by
  cases q:(gP s.heap c.Qt).get? e with
  |none=>rfl
  |some o=>have:=pZ _ q;rw[hn] at this;cases this
 have hkb:(gP s.heap c.Qt).StaysIn h₁:=λb o q=>keeps b o (pZ _ q);have hl:h₁.FunFrames (gP s.heap c.Qt) (c.gL::c.outer):=R.frames.of_keeps λb o q _=>⟨o,keeps b o q,rfl⟩;rw[<-V3];unfold IP;simp only[c.hf];refine aw (i6 he hd h1 ?_);rw[aZ (by decide)];refine wpAny_entryW c.hA hl c.hf he hkb hen hd (Array.getElem?_eq_some_iff.mp h1).1 h0 λh' hN=>?_;refine oS hN λk1 k2 k3 k4=>?_;clear hN;refine wpAny_landsW ⟨k1,hen,k2,k3⟩ λpk NS XY=>?_;exact k pk NS (λb o q nf=>by refine dA (k4 b o (keeps b o q) nf) λsl z=>?_;refine dA (XY b _ z nf) λsl' z'=>?_;exact⟨sl',z'⟩)
noncomputable def Cx.marked(c:Cx g)(e:aB):Cx g where
 A₀:=c.A₀
 A:=c.A.mark (aa e)
 base:=c.base
 h₀:=c.h₀
 outer:=c.outer
 gL:=c.gL
 env:=c.env
 L:=c.L
 room:=c.room
 names:=c.names
 comp:=c.comp
 gens:=c.gens
 os:=c.os
 XB:=c.XB
 TB:=c.TB
 SB:=c.SB
 SI:=c.SI
 hA:=c.hA
 hf:=c.hf
 MC:=c.MC
 ek:=c.ek
 eg:=c.eg
 eb:=c.eb
 hd:=c.hd
 hu:=c.hu
 nd:=c.nd
theorem Rel.mark{ext ρ st s}{e:aB}(R:Rel c ext ρ st s):Rel (c.marked e) ext ρ st s:=by refine Rel.el R λh₀ m nm obs h a b=>?_;clear R;exact⟨h₀,m,nm,obs,⟨⟨h.G.B,h.G.D,h.G.turn⟩,h.F,h.N,h.nd,h.off,h.en,h.low,h.lr,h.lo,h.ob,h.nk,h.gens,h.os⟩,a,b⟩
theorem Rel.unmark{ext ρ st s}{e:aB}(R:Rel (c.marked e) ext ρ st s):Rel c ext ρ st s:=by refine Rel.el R λh₀ m nm obs h a b=>?_;clear R;exact⟨h₀,m,nm,obs,⟨⟨h.G.B,h.G.D,h.G.turn⟩,h.F,h.N,h.nd,h.off,h.en,h.low,h.lr,h.lo,h.ob,h.nk,h.gens,h.os⟩,a,b⟩
theorem DJ{it:aX}:checkBoundCall "list_iterator.__next__" ⟨[.ref it],[]⟩=pure ⟨⟩:=()
theorem EA{as:Args}:(Wg "list_iterator.__next__" as).quiet=true:=Code.quiet_builtin _ ∅
section
variable{prog:kp}{w:wc}{A:eD}{E:aB->aD->Prop}{s:aD}{B it l:aX}{i:ah}{items:fm aB}
theorem wJ{Q:aB->aD->Prop}(ho:s.heap.get? B=aa (mV it))
  (tree:∀A':eD,A'.handled=A.handled->bg (model prog w) A' (nZ.«list_iterator.__next__» ⟨[.ref it],[]⟩) (λfin s'=>∃v,fin=.done (.ret v)/\Q v s') E s):bg (model prog w) A (call (.ref B) []) Q E s:=by
 refine ya (codeAny_of_tree ?_);show bg _ A.in1 (callAny (.ref B) ⟨[],[]⟩) _ _ s;simp only[callAny];refine aw (wpAny_load ho ?_);simp only[show(aS "method-wrapper"==aS "method"||Value.type "method-wrapper"==aS "builtin_function_or_method"||Value.type "method-wrapper"==aS "method-wrapper")=true by decide,kU];show bg _ _ (if(aS "method-wrapper" !=aS "method")=true then(do checkBoundCall "list_iterator.__next__" ⟨[.ref it],[]⟩;again (Wg "list_iterator.__next__" ⟨[.ref it],[]⟩)) else _) _ _ _;rw[aP (show(aS "method-wrapper" !=aS "method")=true by decide)];refine aw (By (a:=⟨⟩) DJ ?_);refine aw (bA (bA ?_));refine⟨EA,codeAny_builtin entry_listiter_next (ie (tree _ rfl) (λfin s' h'=>?_) λ_ _ h'=>h')⟩;refine cv h' λv cP hv=>?_;clear h';subst cP;exact hv
theorem DF{x:aB}{Q:aB->aD->Prop}(ho:s.heap.get? B=aa (mV it))(hit:s.heap.get? it=aa (AQ l i))(hl:s.heap.IsList l items)(hx:items[i]?=aa x)
  (hQ:∀h',h'.get? it=aa (AQ l (i+1))->kn it s.heap h'->Q x {s with heap:=h'}):bg (model prog w) A (call (.ref B) []) Q E s:=by
 have vl:=hit;have hd:(AQ l i).data=.fields #[.ref l,.int (i:ah) 0]:=rfl;refine js hl λol hol _ eX=>?_;clear hl;refine dA eX λnl Xy=>?_;clear eX;refine wJ ho λA' _=>?_;show bg _ _ (field (.ref it) 0>>=_) _ _ s;refine aw (i6 vl hd (x:=.ref l) rfl ?_);show bg _ _ (if(aq l==aG)=true then _ else _) _ _ s;rw[aZ (show¬((aq l==aG)=true) from tJ)];show bg _ _ (field (.ref it) 1>>=_) _ _ s;refine aw (i6 vl hd (x:=.int i 0) rfl ?_);show bg _ _ (seqItems? (.ref l)>>=_) _ _ s;refine aw (uE hol Xy ?_);simp only[fY,hx];refine aw (wpAny_setField vl hd (by simp) (bA ⟨x,rfl,hQ _ ?_ (eO ..)⟩));refine(gm _ vl (GN (Mp hd _))).trans (bI aa ?_);simp[Obj.mapFields,mO,AQ]
theorem G7{Q:aB->aD->Prop}(hh:A.handled=none)(ho:s.heap.get? B=aa (mV it))(hit:s.heap.get? it=aa (AQ l i))(hl:s.heap.IsList l items)(hx:items[i]?=none)
  (hE:∀h₁ pk e oe vs a0,kn it s.heap h₁->(∃oi,h₁.get? it=aa oi)->(∀b o,h₁.get? b=aa o->pk.get? b=aa o)->h₁.get? e=none->pk.get? e=aa oe->oe.cls=.type "StopIteration"->oe.data=.fields vs->vs[1]?=aa .none->vs[0]?=aa a0->E (.ref e) {s with heap:=pk}):
  bg (model prog w) A (call (.ref B) []) Q E s:=by
 have vl:=hit;have hd:(AQ l i).data=.fields #[.ref l,.int (i:ah) 0]:=rfl;refine js hl λol hol _ eX=>?_;clear hl;refine dA eX λnl Xy=>?_;clear eX;refine wJ ho λA' SR=>?_;show bg _ _ (field (.ref it) 0>>=_) _ _ s;refine aw (i6 vl hd (x:=.ref l) rfl ?_);show bg _ _ (if(aq l==aG)=true then _ else _) _ _ s;rw[aZ (show¬((aq l==aG)=true) from tJ)];show bg _ _ (field (.ref it) 1>>=_) _ _ s;refine aw (i6 vl hd (x:=.int i 0) rfl ?_);show bg _ _ (seqItems? (.ref l)>>=_) _ _ s;refine aw (uE hol Xy ?_);simp only[fY,hx];refine aw (yb (aw (wpAny_setField vl hd (by simp) ?_)));show bg _ _ (newExc (.type "StopIteration") []>>=_) _ _ _;refine aw ?_;simp only[newExc,newTuple];refine aw (kr ?_ (by size_fits));refine aw (m:=firstArgMember _ _) (By (a:=aG) (by first|rfl|(simp only[firstArgMember];rfl)) ?_);refine kr ?_ (by size_fits);simp only[raiseNew];refine aw (wpAny_handled ?_);rw[show A'.handled=none from SR.trans hh];refine aw (bA (wpAny_throw ?_));refine hE _ _ _ _ _ _ (eO ..) ⟨_,gm _ vl (GN (Mp hd _))⟩ (λb o q=>bY _ (bY _ q)) (Heap.get?_none_of_le (by simp)) (dR _ rfl) rfl rfl rfl rfl
end
theorem BS{M:PQ}{A:eD}{E:aB->aD->Prop}{s:aD}{pos:iP}{u t:aX}{env:ux}{Q:aB->aD->Prop}(ho:s.heap.get? u=aa (mV t))
  (h:bg M A (call (.ref u) []) Q E s):bg M A (fg pos (.ref u) [] (gE pos (dT [] env)) (oG pos (jF [] env))) Q E s:=by
 refine callWith_of (P:=λh=>h.get? u=aa (mV t)) rfl (λh' q=>⟨.machine,.inr (.inl rfl),(Looks.ld (part:=none) q).andThen .now⟩) ?_;show bg M A (E4 (.ref u) true [] []) _ _ _;unfold E4;show bg M A (spliced []>>=_) _ _ _;refine aw (ie (PV (pos:=pos) (env:=env) (Q:=λvs s'=>vs=[]/\s'=s) ⟨rfl,rfl⟩) (λvs s' h'=>?_) λ_ _ x=>x);refine dQ h' λJ3 J4=>?_;clear h';subst J3;subst J4;refine aw (bA (cN ?_));exact aw (bA (aw (bA (bA ⟨ho,h⟩))))
noncomputable def tC(i:ah)(fo:St->ag (MV×St))(fs:St->ag (MF×St)):St->ag (MF×St):=λst=>HO (fo st) λb ax=>og av.bo ax.H[b]? λt=>oh av.ir ax.H[t]? λl j=>og av.ls ax.H[l]? λxs=>@ji MV (λ_=>ag (MF×St)) (fs ⟨ax.H.set t .dead,ax.l⟩) (λv=>aa (.brk,⟨ax.H.set t (.iter l (j+1)),bV ax.l i v⟩)) xs[j]?
theorem GP{x:dv}{fe:PySem.Expr}{px pa pb np hp pos pf:iP}{sm:oF}{CW:af oF}{fo fs}(i:ah)(hc:c.comp=none)(hh:c.A.handled=none)(V3:c.gL=c.env)(hx:c.names[i]?=aa x)(hk:c.env.kindOf x=aa .local)
  (hn:c.env.kindOf "StopIteration"=aa .globalImplicit) (hg:eA g.K aK "StopIteration"=aa none) (ho:dI c fe fo)
  (Xu:eval (.Call fe [] [] pf) c.env=(do fg pf (<-eval fe c.env) [] (gE pf (dT [] c.env)) (oG pf (jF [] c.env))))
  (Tx:jt (.Call fe [] [] pf) (aa (.Name x px)) pa.line c.env=pure false) (hs:∀e,ja (c.marked e) (sm::CW) fs):
  oo c (.Try [.Assign [.Name x px] (.Call fe [] [] pf) pa,.Break pb] [.ExceptHandler (aa (.Name "StopIteration" np)) none (sm::CW) hp] [] [] pos) (tC i fo fs):=by
 intro st r bZ q ext ρ s R Q E k;refine p8 q ?_;clear q;intro b ax h1 q;refine YK q ?_;clear q;intro t hb q;refine QW q ?_;clear q;intro l j ht q;refine nP q ?_;clear q;intro xs hl q;refine afM (ju ?_);refine yX (Wf (ho st _ ax h1 ext ρ s R _ _ λaQ v' bC b8 bW vv=>?_) Xu) Tx;refine cv vv λB hB cP=>?_;clear vv;subst cP;refine Rel.el bW λh₀ m nm obs h na lr=>?_;refine h.jw (hb) (hB) λoB XS et=>?_;refine cv et λT hT cP=>?_;clear et;subst cP;refine h.jw (ht) (hT) λoT hoT et=>?_;refine cv et λa ha cP=>?_;clear et;subst cP;refine h.jw (hl) (ha) λoa hoa et=>?_;refine eu et λvs n cP hz rr=>?_;clear et;subst cP;refine BS XS ?_;cases hv:xs[j]? with
 |some v=>
  rw[hv] at q;have q:aa (MF.brk,(⟨ax.H.set t (.iter l (j+1)),bV ax.l i v⟩:St))=aa (r,bZ):=q;cases q
  refine cv (rr.2 j v hv) λv' IC vv=>?_;refine DF (items:=vs.toArray) XS hoT ⟨_,hoa,rfl,n,rfl⟩ (by simpa using IC) λh' hi XY=>?_;have dh:Rel c ext aQ {ax with H:=ax.H.set t (.iter l (j+1))} {bC with heap:=h'}:=bW.setAt bC.toks hT XY hi (λo e=>by rw[ht] at e;cases e;rfl) (λ_ _ _ _ _ q=>by cases q) ⟨a,ha,rfl⟩
  exact dh.store hc hx hk vv λeS gI=>ju (wpAny_Break (k aQ _ eS b8 gI rfl))
 |none=>
  rw[hv] at q;have q:fs ⟨ax.H.set t .dead,ax.l⟩=aa (r,bZ):=q;refine G7 (items:=vs.toArray) hh XS hoT ⟨_,hoa,rfl,n,rfl⟩ (by rw[List.getElem?_toArray];rw[fj] at hv⊢;rw[<-rr.1];exact hv) ?_
  rintro h₁ pk e oe ws a0 XY ⟨oi,hoi⟩ JW rK hoe agV hd hw1 hw0
  have dh:Rel c ext aQ {ax with H:=ax.H.set t .dead} {bC with heap:=h₁}:=bW.setAt bC.toks hT XY hoi (λo e=>by rw[ht] at e;cases e;rfl) (λ_ _ _ _ _ q=>by cases q) trivial
  refine Ej (s:={bC with heap:=h₁}) dh V3 JW rK hoe hd hw1 hw0 λoq NS IB=>?_;have gI:=dh.turn NS.1 IB;refine cv NS.there λob N1 Tp=>?_;refine wpAny_handleBy_builtin (X:="StopIteration") (T:="StopIteration") (b:=true) (by rw[pY];kernel_rfl) (by rw[pY];kernel_rfl) isSubtype_stop (lq gI hn hg PyProof.Rows.Boot.«StopIteration» (by decide) (by decide) ⟨rfl,⟨ob,N1,Tp.trans agV⟩,?_⟩);refine lands_againW NS λJ9 S8 TC=>?_;have nA:=dh.turn S8.1 (IB.trans TC);exact hs (.ref e) _ r bZ q ext aQ _ nA.mark _ _ λmB aoQ kQ rN mU agR=>k mB aoQ kQ (b8.trans rN) mU.unmark agR
noncomputable def RK(c:Cx g)(ext:af (aX×d9))(ρ:af aX)(st:St)(C e:aX)(s:aD):Prop:=∃(B:jf)(a0:aB)(hb:jf),Wj B (c.gL::c.outer) e (.ref C) a0 s.heap/\hb.UpToSlots s.heap/\∀h',B.StaysIn h'->hb.UpToSlots h'->Rel c ext ρ st {s with heap:=h'}
noncomputable def I2(c:Cx g)(b:af oF)(C:aX)(f:St->ag St):Prop:=
 ∀st bZ,f st=aa bZ->∀ext ρ s,Rel c ext ρ st s->∀(Q:Flow->aD->Prop)(E:aB->aD->Prop),
  (∀d7 e vs dn h',ρ<+:d7->Rel c ext d7 bZ dn->Heap.MadeExcOf dn.heap h' e (.ref C) vs->E (.ref e) {dn with heap:=h'})->bg g.M c.A (execs b c.env) Q E s
noncomputable def LH(f:St->ag (MF×St))(f':St->ag St):St->ag St:=λst=>ob (f st) λm ax=>m.nx (f' ax) none
theorem Dw{x:oF}{rest:af oF}{C:aX}{f f'}(hx:oo c x f)(hr:I2 c rest C f'):I2 c (x::rest) C (LH f f'):=by
 intro st bZ q ext ρ s R Q E k;refine ea q ?_;clear q;intro m ax h1 q;refine ju (hx st m ax h1 ext ρ s R _ _ λaQ ED bC b8 bW jT=>?_);cases m with
 |next=>
  cases jT
  exact hr ax bZ q ext aQ bC bW _ _ λcy e vs dn h' dG dh m=>k cy e vs dn h' (b8.trans dG) dh m
 |_=>exact lR q
noncomputable def rIf(t:St->ag (cj×St))(f:St->ag (MV×St)):St->ag St:=λst=>ob (t st) λb ax=>bc b (ob (f ax) λ_ cH=>aa cH) none
theorem Rel.base{ext ρ st s}(R:Rel c ext ρ st s):∀b o,c.base.get? b=aa o->s.heap.get? b=aa o:=by refine Rel.el R λh₀ m nm obs h _ _=>?_;clear R;exactλb o e=>h.F.keep b o (h.G.B.stays b o e)
theorem agt{t ev:PySem.Expr}{x:dv}{sc:dv}{n0:ah}{np p0 p1 pf aoN pos:iP}{C:aX}{B newId TL:Bn}{bmB:af aB}{ft f}(FB:ExcBaseFacts B newId TL bmB)(hh:c.A.handled=none)(hk:c.env.kindOf x=aa .globalImplicit)
  (e:eA g.K aK x=aa (aa (.ref C))) (hq:excIn g.K C bmB newId=true) (hd:(x==("__debug__":dv))=false) (ht:tX c t ft) (hv:dI c ev f) (ql:isStar ev=false):
  I2 c [.If t [.Raise (aa (.Call (.Name x np) [.JoinedStr [.Constant (.str sc) n0 p0] p1,ev] [] pf)) none aoN] [] pos] C (rIf ft f):=by
 intro st bZ q ext ρ s R Q E k;refine ea q ?_;clear q;intro b ax h1 q;refine R3 q (λhb q=>?_) λ_ q=>lR q;subst hb;refine ea (WQ q) ?_;clear q;intro v cH h2 q;cases q
 refine ju (wpAny_If (ht st _ ax h1 ext ρ s R _ _ λaQ bC b8 bW=>?_));rw[aP rfl];refine ju ?_;obtain⟨tl,N,pT,q',bs,hdct,sn,sub,ab,col,dd,k0,k1,k2,k3,k5,mN,hC,hN,hni,T⟩:=(own_of_in (x:=x) c.XB (topRead_of c.TB) e hq).obj;refine wpAny_Raise_call_subT (C:=C) (nm:=pT) (q:=q') (N:=N) (bs:=bs) (bm:=tl) (hdct:=hdct) (sn:=sn) (sub:=sub) (ab:=ab) (col:=col) (dd:=dd) (k0:=k0) (k1:=k1) (k2:=k2) (k3:=k3) (k5:=k5)
  FB (mN:=mN) (T.hasType FB.hasBase) hh (mz (by unfold gH;rw[Bw,Bw,ql];rfl)) hni (mq bW hk e hd ⟨rfl,?_⟩)
 rw[lX (e:=.JoinedStr [.Constant (.str sc) n0 p0] p1) rfl];refine EP (spliced_cons (JoinedStr_one (pos:=p1) (wpAny_Constant_str (args_cons (hv ax v bZ h2 ext aQ _ (bW.lF _) _ _ λcy v' dn dG dh vv=>PV ?_) (lX ql)))));have kb:=dh.base;exact⟨rfl,by show 2<=lE;decide,kb _ _ hC,hN.keeps kb,T.keeps kb,λh' e' hm=>k cy e' _ dn h' (b8.trans dG) dh hm⟩
noncomputable def P2(c:Cx g)(fv:aB)(C:aX)(bf:af MV->af av->ag (af av)):Prop:=
 ∀st vs H',bf vs st.H=aa H'->∀ext ρ s eN,Rel c ext ρ st s->iD g ρ vs eN->∀(RR:xW->aD->Prop),
  (∀d7 e s',ρ<+:d7->RK c ext d7 {st with H:=H'} C e s'->RR (.error (.ref e)) s')->oj g.M c.A (.call fv ⟨eN,[]⟩) RR s
noncomputable def FnX(g:Gl)(n:ah)(fa C:aX)(F:af MV->af av->ag (af av)):Prop:=∀c:Cx g,c.comp=none->c.A.handled=none->n<=c.room->P2 c (.ref fa) C F
noncomputable def Vk(k:ah)(fb:St->ag St):af MV->af av->ag (af av):=λvs H=>if vs.length=k then ot (fb ⟨H,λi=>vs[i]?⟩) λst=>aa st.H else none
theorem FnX.of{fa C:aX}{oc:aB}{od:ag aX}{OQ:fm (ag aB)}{name qual:dv}{params:pC}{body:af oF}{scope:kO}{dV kV doc pm nY ct:aB}{an:ag aX}{fb:St->ag St}
  (n k:ah) (names pn:af dv)
  (ho:g.K.lookup fa=aa ⟨oc,od,.func (lD name qual params body scope dV kV doc pm an nY ct),OQ⟩) (Cd:dN g.K nY qual=true)
  (IA:names.take k=pn) (m9:names.Nodup) (D5:pn.length=k)
  (tm:∀(c:Cx g)(s:aD)(vs:af aB),g.K.In s.heap->vs.length=k->We s (lD name qual params body scope dV kV doc pm an nY ct) ⟨vs,[]⟩ (pn.zip vs))
  (rI:(pn.all λx=>decide (scope.names.lookup x=aa .local))=true) (tq:∀x∈scope.names,x.2≠ .cell)
  (NP:scope.isCoroutine=false) (AD:scope.isGenerator=false) (hk:scope.kind=.function)
  (hb:∀c':Cx g,c'.comp=none->c'.A.handled=none->c'.room=n->c'.names=names->c'.gL=c'.env->c'.env=jm qual scope c'.L fa nY []->I2 c' body C fb):
  FnX g (n+1) fa C (Vk k fb):=by
 intro c hc hh mR st vs H' q ext ρ s eN R hv RR kk;refine fP q ?_;clear q;intro Hs q;refine B6 n k names pn ho Cd IA m9 D5 tm rI tq NP AD hk hh mR Hs R hv λc' e1 e2 e3 e4 e5 e6 e7 back bC R'=>?_;refine eh q ?_;clear q;intro ax h1 q;cases q
 refine hb c' e1 e2 e3 e4 e5 e6 _ ax h1 ext ρ _ R' _ _ λaQ e ws dn h' b8 bW hm=>?_;have hA:=c'.hA;have hl:dn.heap.FunFrames (gP dn.heap c'.Qt) (c'.gL::c'.outer):=bW.frames;rw[e5] at hA hl;refine wpAny_leaves_madeW (s:={dn with heap:=h'}) hA (e5▸c'.hf) (λb o z=>pZ _ z) hl hm λIz t x1 x2 x3 x4=>?_;rw[e7] at x1;exact kk aQ e _ b8 ⟨_,_,dn.heap,x1,(Wl hm.keeps).trans x4,λoq hs hu=>back _ _ _ b8 (bW.turn hs hu)⟩
theorem HK{o:PySem.Expr}{name:dv}{apos pos:iP}{fa:aX}{pl:Sem cj}{fo}(K:KMeth g name fa)(hn:name∉dF)(ho:dI c o fo)
  (he:eval (.Call (.Attribute o name apos) [] [] pos) c.env=(do
   let ov<-eval o c.env
   g9 apos.atName
   let(f,first)<-holding [ov] (mi ov name pl)
   fg pos f first (gE pos (dT [] c.env)) []))
  {st ax:St} {i d:ah} {ats:af MV} (h1:fo st=aa (.ref i,ax)) (h2:ax.H[i]?=aa (.inst d)) (h3:ax.H[d]?=aa (.attrs ats)) {ext ρ s} (R:Rel c ext ρ st s) {Q:aB->aD->Prop} {E:aB->aD->Prop}
  (k:∀d7 s' x,ρ<+:d7->Rel c ext d7 ax s'->iD g d7 [.ref i] [.ref x]->bg g.M c.A (call (.ref fa) [.ref x]) Q E s'):bg g.M c.A (eval (.Call (.Attribute o name apos) [] [] pos) c.env) Q E s:=by
 refine uz (pl:=pl) (ho st _ ax h1 ext ρ s R _ _ λaQ a' bC b8 bW va=>?_) he;refine Rel.el bW λh₀ m nm obs h _ _=>?_;refine bW.objE (h2) λx bx hx Hr et=>?_;refine cv et λda Bs cP=>?_;clear et;subst cP;refine bW.jw (h3) (Bs) λbd JR et=>?_;refine xv et λds n cP hl SQ r=>?_;clear et;subst cP;rw[va.dq hx];refine method_inst h.F h.G.X ⟨Hr,rfl,rfl,JR⟩ K.g1 K.g2 K.g3 (t7 hl SQ r hn) ?_;refine zg ax [] ax rfl ext aQ bC pos _ _ K.g4 bW _ _ λcy eN dn dG dh vv=>?_;rw[vv.mJ];exact k cy dn x (b8.trans dG) dh (iD.cons ⟨x,bj dG hx,rfl⟩ iD.nil)
noncomputable def zQ(bf:af MV->af av->ag (MV×af av))(bx:af MV->af av->ag (af av))(fo:St->ag (MV×St))(fs:St->ag (MF×St)):St->ag (MF×St):=λst=>HO (fo st) λi ax=>og av.is ax.H[i]? λd=>og av.as ax.H[d]? λ_=>@ji (MV×af av) (λ_=>ag (MF×St)) (ot (bx [.ref i] ax.H) λH=>fs {ax with H:=H}) (λp=>aa (.next,{ax with H:=p.2})) (bf [.ref i] ax.H)
theorem RT{o:PySem.Expr}{name x:dv}{apos pf W4 np hp pos:iP}{sm:oF}{CW:af oF}{fa C:aX}{pl:Sem cj}{fo bf bx fs}(hc:c.comp=none)(hh:c.A.handled=none)(V3:c.gL=c.env)
  (K:KMeth g name fa) (hn:name∉dF) (hk:c.env.kindOf x=aa .globalImplicit) (ex:eA g.K aK x=aa (aa (.ref C))) (hd:(x==("__debug__":dv))=false) (hq:ktsIn g.K C "BaseException"=true)
  (ho:dI c o fo) (hb:wh c (.ref fa) bf) (hx:P2 c (.ref fa) C bx)
  (he:eval (.Call (.Attribute o name apos) [] [] pf) c.env=(do
   let ov<-eval o c.env
   g9 apos.atName
   let(f,first)<-holding [ov] (mi ov name pl)
   fg pf f first (gE pf (dT [] c.env)) []))
  (hi:interactive c.env=false) (hs:jt (.Call (.Attribute o name apos) [] [] pf) none W4.line c.env=pure false) (Tw:∀e,ja (c.marked e) (sm::CW) fs):
  oo c (.Try [.Expr (.Call (.Attribute o name apos) [] [] pf) W4] [.ExceptHandler (aa (.Name x np)) none (sm::CW) hp] [] [] pos) (zQ bf bx fo fs):=by
 intro st r bZ q ext ρ s R Q E k;refine p8 q ?_;clear q;intro i ax h1 q;refine CH q ?_;clear q;intro d h2 q;refine CG q ?_;clear q;intro ats h3 q;refine afM (ju (wpAny_Expr_any (HK K hn ho he h1 h2 h3 R λaQ bC y b8 bW vv=>?_) hi hs));cases h4:bf [.ref i] ax.H with
 |some p=>
  obtain⟨v,H⟩:=p;rw[h4] at q;have q:aa (MF.next,({ax with H:=H}:St))=aa (r,bZ):=q;cases q
  exact hb.call ax _ v H h4 ext aQ bC _ bW vv _ _ λcy v' dn dG dh yu=>oX (oX (k cy _ dn (b8.trans dG) dh rfl))
 |none=>
  rw[h4] at q;refine eh (show ot (bx [.ref i] ax.H) (λH=>fs {ax with H:=H})=_ from q) ?_;clear q;intro H h5 q;refine ya (hx ax _ H h5 ext aQ bC _ bW vv _ λcy e dn dG Ra=>?_);refine YO Ra λB a0 oQ NS IB back=>?_;clear Ra;show bg _ _ (IP (.ref e) c.env) _ _ _;rw[<-V3];refine wpAny_looks_onW c.hA c.hf NS λJ9 JV J5=>?_;refine wpAny_landsW JV λKa JU J6=>?_;have mU:=back Ka JU.1 ((IB.trans J5).trans J6);refine cv JU.there λob N1 Tp=>?_;obtain⟨nm,q',N,bs,bm,hdct,sn,sub,ab,col,dd,k0,k1,k2,k3,k5,newId,hC,Xq,hbT⟩:=kts_cls c.XB hq;rw[V3];refine wpAny_handleBy_cons (codeAny_handlers_test (mq mU hk ex hd ?_)) (by intro q;cases q)
  refine wpAny_excMatches_sub_self (mU.base _ _ hC) N1 Tp Xq (codeAny_handlers_suite ?_);refine lands_againW JU λahc S9 Tv=>?_;have Dy:=back ahc S9.1 (((IB.trans J5).trans J6).trans Tv);exact Tw (.ref e) _ r bZ q ext cy _ Dy.mark _ _ λafv aoR afg ail BL agS=>k afv aoR afg ((b8.trans dG).trans ail) BL.unmark agS
end fG
namespace fG
open PySem PySem.W PySem.Calls PyProof.Rows
namespace Srt
noncomputable abbrev at'(p:fm ah)(i:ah):ah:=p.getD i 0
set_option genInjectivity false in structure PP(n:ah)(p:fm ah):Prop where
 sz:p.size=n
 pm:p.toList.Perm (cO n)
theorem PP.get{n:ah}{p:fm ah}(P:PP n p){i:ah}(h:i<n):p.toList[i]?=aa (at' p i):=by have hi:i<p.size:=P.sz▸h;simp[at',hi]
theorem PP.lt{n:ah}{p:fm ah}(P:PP n p)(i:ah)(h:i<n):at' p i<n:=eP.mp (P.pm.subset (aM (P.get h)))
theorem PP.inj{n:ah}{p:fm ah}(P:PP n p){i j:ah}(hi:i<n)(hj:j<n)(e:at' p i=at' p j):i=j:=by have nd:p.toList.Nodup:=P.pm.nodup_iff.mpr v8;have h1:=P.get hi;have h2:=P.get hj;rw[<-e] at h2;refine dA (bR.mp h1) λa a'=>?_;refine dA (bR.mp h2) λb b'=>?_;exact(i9 (h₀:=a) (h₁:=b) nd).mp (a'.trans b'.symm)
noncomputable def Up(r:ah->aE)(p:fm ah)(k:ah):Prop:=∀i j,i<j->j<k->r (at' p i)<r (at' p j)
noncomputable def Dn(r:ah->aE)(p:fm ah)(k:ah):Prop:=∀i j,i<j->j<k->r (at' p j)<r (at' p i)
theorem sY{p q:fm ah}{i j:ah}(h:p[i]?=q[j]?):at' p i=at' q j:=by unfold at';rw[ye,ye,h]
theorem PP.rev{n:ah}{p:fm ah}(P:PP n p)(k:ah):PP n (Wt p 0 k):=⟨(mirror_size ..).trans P.sz,(yL.mp (mirror_perm ..)).trans P.pm⟩
theorem PP.bub{n:ah}{p:fm ah}(P:PP n p)(k d:ah):PP n (bubble p k d):=⟨(bubble_size ..).trans P.sz,(yL.mp (bubble_perm ..)).trans P.pm⟩
theorem Vg{n:ah}{r:ah->aE}{p:fm ah}(P:PP n p){k:ah}(hk:k<=n)(h:Dn r p k):Up r (Wt p 0 k) k:=by
 have key:∀i,i<k->at' (Wt p 0 k) i=at' p (k-1-i):=λi hi=>sY (by
  unfold Wt;rw[getElem?_mirror_all (by rw[P.sz];exact hk),aP ⟨jn _,hi⟩,cw])
 intro i j tr hj;rw[key i (aea tr hj:),key j hj];exact h _ _ (acK tr hj:) (acJ hj:)
theorem PA{r:ah->aE}{p:fm ah}{a:ah}(h1:1<=a)(h:Up r p a)(hl:r (at' p (a-1))<r (at' p a)):Up r p (a+1):=by
 intro i j tr hj;by_cases XF:j=a
 ·subst XF
  by_cases hi:i=j-1
  ·rw[hi];exact hl
  ·exact vB (h i (j-1) (adR tr hi:) (aaS h1:)) hl
 ·exact h i j tr (xx hj XF:)
theorem FJ{r:ah->aE}{p:fm ah}{a:ah}(h1:1<=a)(h:Dn r p a)(hl:r (at' p a)<r (at' p (a-1))):Dn r p (a+1):=by
 intro i j tr hj;by_cases XF:j=a
 ·subst XF
  by_cases hi:i=j-1
  ·rw[hi];exact hl
  ·exact vB hl (h i (j-1) (adR tr hi:) (aaS h1:))
 ·exact h i j tr (xx hj XF:)
section
variable{n:ah}{r:ah->aE}{cmp:ah->ah->(cj->aD->Prop)->aD->Prop}{s:aD}
 (inj:∀i j,i<n->j<n->r i=r j->i=j) (hc:∀i j C,i<n->j<n->C (decide (r i<r j)) s->cmp i j C s)
include inj hc
theorem JN{p:fm ah}(P:PP n p){i j:ah}(hi:i<n)(hj:j<n)(tr:i≠j)(h:¬r (at' p i)<r (at' p j)):r (at' p j)<r (at' p i):=by
 rcases Int.lt_trichotomy (r (at' p j)) (r (at' p i)) with z|z|z
 ·exact z
 ·exact ej (P.inj hj hi (inj _ _ (P.lt _ hj) (P.lt _ hi) z)) (oM tr)
 ·exact ej z h
theorem DC{p:fm ah}(P:PP n p){Q:ah->aD->Prop}:∀(f a:ah),1<=a->a+f<=n->Up r p a->(∀m,a<=m->m<=a+f->Up r p m->(m=a+f\/r (at' p m)<r (at' p (m-1)))->Q m s)->(kas_asc p f a).kasWp cmp Q s
 |0,a,h1,h2,h3,k=>k a (cL _) (cL _) h3 (.inl rfl)
 |f+1,a,h1,h2,h3,k=>by
  refine hc _ _ _ (P.lt a (H6 h2:)) (P.lt (a-1) (LA h2:)) ?_;by_cases h:r (at' p a)<r (at' p (a-1))
  ·rw[cM h]
   exact k a (cL _) (ad5:) h3 (.inr h)
  ·rw[dO h]
   show(kas_asc p f (a+1)).kasWp cmp Q s;exact DC P f (a+1) (aaY:) (UP h2:) (PA h1 h3 (JN inj hc P (H6 h2:) (LA h2:) (aaT h1:) h)) λm m1 m2 m3 m4=>k m (Lr m1:) (UQ m2:) m3 (m4.imp (λe=>by exact aec e) id)
theorem FI{p:fm ah}(P:PP n p){Q:fm ah×ah×ah->aD->Prop}:∀(f a:ah),1<=a->a+f<=n->Dn r p a->(∀m,a<=m->m<=a+f->Dn r p m->Q (p,m,0) s)->(kas_desc f p a 0).kasWp cmp Q s
 |0,a,h1,h2,h3,k=>k a (cL _) (cL _) h3
 |f+1,a,h1,h2,h3,k=>by
  refine hc _ _ _ (P.lt a (H6 h2:)) (P.lt (a-1) (LA h2:)) ?_;by_cases h:r (at' p a)<r (at' p (a-1))
  ·rw[cM h]
   show(kas_desc f p (a+1) 0).kasWp cmp Q s;exact FI P f (a+1) (aaY:) (UP h2:) (FJ h1 h3 h) λm m1 m2 m3=>k m (Lr m1:) (UQ m2:) m3
  ·rw[dO h]
   refine hc _ _ _ (P.lt (a-1) (LA h2:)) (P.lt a (H6 h2:)) ?_;rw[cM (JN inj hc P (H6 h2:) (LA h2:) (aaT h1:) h)];exact k a (cL _) (ad5:) h3
theorem Pz{p:fm ah}(P:PP n p){Q:ah×fm ah->aD->Prop}{a:ah}(h1:1<=a)(h2:a<=n)(h3:Dn r p a)(k:∀m q,1<=m->m<=n->PP n q->Up r q m->Q (m,q) s):(afL a n p).kasWp cmp Q s:=by unfold afL;rw[nr];exact DC inj hc (P.rev a) _ _ h1 (aka h2:) (Vg P h2 h3) λm m1 m2 m3 _=>k m _ (ajF h1 m1:) (alA h2 m2:) (P.rev a) m3
theorem Jo{p:fm ah}(P:PP n p)(hn:2<=n){Q:ah×fm ah->aD->Prop}(k:∀m q,1<=m->m<=n->PP n q->Up r q m->Q (m,q) s):(kas_count n p).kasWp cmp Q s:=by
 unfold kas_count;rw[nr];refine DC inj hc P _ _ (cL _) (aiE hn:) (λi j a b=>by exact YW a b) λm m1 m2 m3 m4=>?_;by_cases h:(m==n)=true
 ·rw[aP h]
  exact k m p m1 (by lia) P m3
 ·rw[aZ h]
  have hmn:m≠n:=λe=>h (by simp[e]);by_cases hm:m>1
  ·rw[aP hm]
   refine hc _ _ _ (P.lt 0 (aiD hn:)) (P.lt (m-1) (ab9 hn m2:)) ?_;rw[cM (m3 0 (m-1) (ai4 hm:) (ai5 hm:))];exact k m p m1 (ajG hn m2:) P m3
  ·rw[aZ hm]
   obtain rfl:m=1:=by exact aiz m1 hm
   unfold kas_descPart;rw[nr];refine FI inj hc P _ _ (q6:) (abO hn:) (FJ (cL _) (λi j a b=>by exact YW a b) (m4.resolve_left (aiF hn:))) λm' n1 n2 n3=>?_;show(afL m' n p).kasWp cmp Q s;exact Pz inj hc P (aiy n1:) (ab8 hn n2:) n3 k
theorem xw{p:fm ah}(P:PP n p){k:ah}(hk:k<n)(hu:Up r p k){Q:ah->aD->Prop}:∀(f l u:ah),l<=u->u<=k->u-l<=f->(∀i,i<l->r (at' p i)<r (at' p k))->(∀i,u<=i->i<k->r (at' p k)<r (at' p i))->
  (∀m,m<=k->(∀i,i<m->r (at' p i)<r (at' p k))->(∀i,m<=i->i<k->r (at' p k)<r (at' p i))->Q m s)->(IM p k f l u).kasWp cmp Q s
 |0,l,u,h1,h2,h3,h4,h5,kk=>kk l (UR h1 h2:) h4 λi hi=>h5 i (acB h3 hi:)
 |f+1,l,u,h1,h2,h3,h4,h5,kk=>by
  unfold IM;by_cases h:l≥u
  ·rw[aP h]
   exact kk l (UR h1 h2:) h4 λi hi=>h5 i (alD h hi:)
  ·rw[aZ h]
   refine hc _ _ _ (P.lt k hk) (P.lt ((l+u)/2) (Q8 hk h2 h:)) ?_;by_cases h':r (at' p k)<r (at' p ((l+u)/2))
   ·rw[cM h']
    show(IM p k f l ((l+u)/2)).kasWp cmp Q s;refine xw P hk hu f _ _ (akw h:) (YX h2 h:) (acI h3:) h4 (λi hi hik=>?_) kk;by_cases e:i=(l+u)/2
    ·rw[e];exact h'
    ·exact vB h' (hu _ _ (akJ hi e:) hik)
   ·rw[dO h']
    show(IM p k f ((l+u)/2+1) u).kasWp cmp Q s;have Iz:=JN inj hc P hk (Q8 hk h2 h:) (acM h2 h:) h';refine xw P hk hu f _ _ (akv h:) (ack h2:) (acA h3:) (λi hi=>?_) h5 kk;by_cases e:i=(l+u)/2
    ·rw[e];exact Iz
    ·exact vB (hu i _ (akS hi e:) (aln h2 h:)) Iz
theorem R8{p:fm ah}(P:PP n p){k m:ah}(hk:k<n)(hu:Up r p k)(hm:m<=k)(h1:∀i,i<m->r (at' p i)<r (at' p k))(h2:∀i,m<=i->i<k->r (at' p k)<r (at' p i)):Up r (bubble p k (k-m)) (k+1):=by
 have key:∀i,at' (bubble p k (k-m)) i=if i=m then at' p k else if m<i/\i<=k then at' p (i-1) else at' p i:=λi=>by
  have e:=getElem?_bubble (xs:=p) (src:=k) (by rw[P.sz];exact hk) (k-m) (akD:) i;rw[show k-(k-m)=m by exact akr hm] at e;split
  ·rename_i h;rw[aP h] at e;exact sY e
  ·rename_i h;rw[aZ h] at e
   split
   ·rename_i h';rw[aP h'] at e;exact sY e
   ·rename_i h';rw[aZ h'] at e;exact sY e
 intro i j tr hj;rw[key i,key j];by_cases a:i=m
 ·rw[aP a,aZ (alp tr a:),aP (al3 tr hj a:)]
  exact h2 _ (als tr a:) (US tr hj:)
 ·rw[aZ a]
  by_cases b:m<i
  ·rw[aP (alQ tr hj b:),aZ (alo tr b:),aP (al2 tr hj b:)]
   exact hu _ _ (acC tr b:) (US tr hj:)
  ·rw[aZ (aek b:)]
   by_cases d:j=m
   ·rw[aP d];exact h1 i (aku a b:)
   ·rw[aZ d]
    by_cases e:m<j
    ·rw[aP (ala hj e:)];exact hu _ _ (acN a b e:) (US tr hj:)
    ·rw[aZ (aek e:)];exact hu _ _ tr (alC hm d e:)
theorem Jc{Q:fm ah->aD->Prop}(kk:∀q,PP n q->Up r q n->Q q s):∀(f k:ah)(p:fm ah),PP n p->k+f=n->Up r p k->(kas_bin f p k).kasWp cmp Q s
 |0,k,p,P,e,h=>by
  obtain rfl:k=n:=by exact acb e
  exact kk p P h
 |f+1,k,p,P,e,h=>by unfold kas_bin;rw[nr];refine xw inj hc P (ad8 e:) h _ _ _ (jn _) (cL _) (ajv:) (λi hi=>by exact ain hi) (λi a b=>by exact aip a b) λm m1 m2 m3=>?_;exact Jc kk f (k+1) _ (P.bub _ _) (ad7 e:) (R8 inj hc P (ad8 e:) h m1 m2 m3)
theorem Px(hn:2<=n){Q:fm ah->aD->Prop}(kk:∀q,PP n q->Up r q n->Q q s):(kas_sort n).kasWp cmp Q s:=by
 unfold kas_sort;rw[nr];refine Jo inj hc ⟨by simp,by simp⟩ hn λm q h1 h2 P h3=>?_
 dsimp only
 by_cases h:m<n
 ·rw[aP h,show max m 1=m by exact aiA h1]
  exact Jc inj hc kk _ _ _ P (ajX h:) h3
 ·rw[aZ h]
  obtain rfl:m=n:=by exact Lx h2 h
  exact kk q P h3
end
end Srt
end fG
namespace fG
open PySem PySem.W PySem.Calls PyProof.Rows
variable{g:Gl}{c:Cx g}
noncomputable def xy(H:af av)(x:MV):ag aE:=vX x λj=>og av.tp H[j]? λys=>ob (l2 ys) λu v=>AW u λa=>AW v λb=>if 0<=b/\b<1000 then aa (a*1000+b) else none
noncomputable def LJ(H:af av)(xs:af MV):ag (af aE):=@dC MV (λ_=>ag (af aE)) (aa []) (λx _ ih=>ot (xy H x) λr=>ot ih λrs=>aa (r::rs)) xs
noncomputable def sortBy(rs:af aE)(xs:af MV):af MV:=((rs.zip xs).mergeSort λx y=>decide (x.1<=y.1)).map (·.2)
noncomputable def pO:af MV->af av->ag (MV×af av):=λvs H=>a1 vs λi=>og av.ls H[i]? λxs=>ot (LJ H xs) λrs=>if decide rs.Nodup=true/\0<xs.length/\xs.length<64 then aa (.ref H.length,H++[.list (sortBy rs xs)]) else none
theorem Ib{H:af av}{xs:af MV}:∀{rs:af aE},LJ H xs=aa rs->rs.length=xs.length/\∀(i:ah) x,xs[i]?=aa x->xy H x=aa (rs.getD i 0):=by
 induction xs with
 |nil=>intro rs h;have h:aa []=aa rs:=h;cases h;exact⟨rfl,λi x e=>by cases e⟩
 |cons x xs ih=>
  intro rs h;refine eh h ?_;clear h;intro r h1 h;refine eh h ?_;clear h;intro rs' h2 h;cases h
  refine dQ (ih h2) λl k=>?_;refine⟨by simp[l],λi y e=>?_⟩;cases i with
  |zero=>cases e;exact h1
  |succ i=>exact k i y e
theorem Io{α:Type}(d:α):∀(rs:af aE)(xs:af α),rs.length=xs.length->(cO rs.length).map (λi=>(rs.getD i 0,xs.getD i d))=rs.zip xs:=by intro rs xs h;refine List.ext_getElem (by simp[h]) λi h1 h2=>?_;simp at h1 h2;have h3:i<xs.length:=h▸h1;simp[h1,h3]
theorem CL{rs:af aE}{xs:af MV}(hl:rs.length=xs.length)(nd:rs.Nodup){p:fm ah}(P:Srt.PP rs.length p)(U:Srt.Up (λi=>rs.getD i 0) p rs.length):
  p.toList.map (λi=>xs.getD i .none)=sortBy rs xs:=by
 have e1:(p.toList.map λi=>(rs.getD i 0,xs.getD i MV.none)).Perm (rs.zip xs):=by rw[<-Io MV.none rs xs hl];exact P.pm.map _
 have e2:(p.toList.map λi=>(rs.getD i 0,xs.getD i MV.none))=(rs.zip xs).mergeSort λx y=>decide (x.1<=y.1):=by
  refine xU (le:=λx y=>x.1<=y.1) ?_ ?_ ?_ (e1.trans (iZ ..).symm)
  ·intro a b ha hb h1 h2
   have JQ:=e1.subset ha;have oQ:=(iZ ..).subset hb;have e:a.1=b.1:=Int.le_antisymm h1 h2;obtain⟨i,hi,rfl⟩:=dm JQ;obtain⟨j,hj,rfl⟩:=dm oQ;simp only[List.getElem_zip] at e⊢;have:=(i9 (h₀:=by simp at hi;grind) (h₁:=by simp at hj;grind) nd).mp e;subst this;rfl
  ·rw[lK,List.pairwise_iff_getElem]
   intro i j hi hj tr;have ug:j<rs.length:=by have:=P.sz;simp at hj;exact akX hj this
   have:=U i j tr ug;have g1:=P.get (i:=i) (aea tr ug:);have g2:=P.get (i:=j) ug;rw[ao hi] at g1;rw[ao hj] at g2;rw[aR g1,aR g2];exact vA this
  ·refine(De (λa b c h1 h2=>?_) (λa b=>?_) _).imp λh=>cz h
   ·exact cM (fX (cz h1) (cz h2))
   ·simp[qL]
 unfold sortBy;rw[<-e2,iJ];rfl
theorem C2{ρ:af aX}{xs:af MV}{vs:af aB}(h:iD g ρ xs vs):∀(l:af ah),(∀i∈l,i<xs.length)->iD g ρ (l.map λi=>xs.getD i .none) (l.map λi=>vs.getD i aG)
 |[],_=>iD.nil
 |i::l,hl=>by have hi:=hl i (.head _);refine cv (h.2 i xs[i] (ao hi)) λv hv vv=>?_;refine iD.cons ?_ (C2 h l λj hj=>hl j (.tail _ hj));show VR g ρ (xs.getD i .none) (vs.getD i aG);rw[fT,fT,ao hi,hv];exact vv
section
variable{prog:kp}{w:wc}{A:eD}{E:aB->aD->Prop}{s:aD}
theorem yD{a:aX}{v:aB}{n:ah}{P:PySem.Fin->aD->Prop}(ho:s.heap.get? a=aa (p4 "list" #[v] n))
  (h:P (.done (.ret .none)) {s with heap:=sortedHeap s.heap a [v] #[v]}):bg (model prog w) A (nZ.«list.sort» ⟨[.ref a],[]⟩) P E s:=by
 rw[list_sort_plain];have ha:a<s.heap.objs.size:=cW ho;refine aw (listItems_at ho rfl ?_);refine aw (listUpdate_at ho rfl ?_);obtain⟨e1,ho1⟩:∃e1,(s.heap.update a (qR λ_=> #[])).get? a=aa (p4 "list" #[] e1):=⟨_,get?_update_seq ho (λ_=> #[])⟩;refine aw (seqEpoch_at ho1 rfl ?_);refine aw (wpAny_newTuple ?_);refine aw (wpAny_newList ?_);refine cN ?_;have ho6:(((s.heap.update a (qR λ_=> #[])).push (p4 "tuple" #[v] 0)).push (p4 "list" #[] 0)).get? a=aa (p4 "list" #[] e1):=by rw[Mi _ _ _ (by rw[size_push',vZ];exact dP (eL ha)),Mi _ _ _ (by rw[vZ];exact dP ha)];exact ho1
 show bg (model prog w) A _ P E {s with heap:=((s.heap.update a (qR λ_=> #[])).push (p4 "tuple" #[v] 0)).push (p4 "list" #[] 0)}
 dsimp only
 have h2:(#[v]:fm aB).size<2:=by simp
 rw[aP h2,aP h2];refine aw (bA ?_);rw[StateT.run_pure];refine aw (bA ?_)
 dsimp only
 refine aw (seqEpoch_at ho6 rfl ?_);refine aw (listUpdate_at ho6 rfl ?_ (hsz2:=by rw[Array.size_map];show(#[v].zip #[v]).size<=_;rw[fQ];simp));simp only[bne_self_eq_false,cR,iv];refine bA ?_;have ez:(arrOf (SortSt.mk' general' (#[v].zip #[v]) #[] 7 none)).map (·.2)= #[v]:=by show((#[v].zip #[v]).map (·.2))=_;simp
 rw[ez];exact h
theorem EJ{l:aX}{v:aB}{Q:aB->aD->Prop}(hl:s.heap.IsList l #[v])(h:Q (.ref (s.heap.objs.size+1)) {s with heap:=sortedAll s.heap [v] #[v]}):bg (model prog w) A (call (.builtin "sorted") [.ref l]) Q E s:=by
 refine Calls.call_function_entry kind_sorted plain_sorted entry_sorted (args_sorted1 _) ?_;unfold nZ.«sorted»;refine aw (m:=checkCount "sorted" 1 1 _) (bA ?_);refine aw (collect_list (vs:=[v]) hl ?_);refine aw (wpAny_newList ?_);have hsz:((s.heap.push (p4 "list" #[] 0)).update s.heap.objs.size (qR (· ++[v].toArray))).objs.size=s.heap.objs.size+1:=by rw[vZ,size_push']
 have hoL:(((s.heap.push (p4 "list" #[] 0)).update s.heap.objs.size (qR (· ++[v].toArray))).push (p4 "list" [v].toArray 0)).get? (s.heap.objs.size+1)=aa (p4 "list" [v].toArray 0):=by rw[<-hsz];exact dR _ rfl
 show bg _ _ _ _ _ {s with heap:=((s.heap.push (p4 "list" #[] 0)).update s.heap.objs.size (qR (· ++[v].toArray))).push (p4 "list" [v].toArray 0)};rw[hsz];refine aw (cN (kW slot_list_sort ⟨_,hoL,rfl⟩ entry_list_sort (yD hoL ⟨_,rfl,?_⟩) (args_list_sort _)));exact bA ⟨_,rfl,h⟩
end
theorem KG{a b a' b':aE}(h:0<=b/\b<1000)(h':0<=b'/\b'<1000):decide (a*1000+b<a'*1000+b')=if(a==a')=true then(if(b==b')=true then false else decide (b<b')) else decide (a<a'):=by
 by_cases e:a=a'
 ·subst e
  simp only[afG,kU];by_cases f:b=b'
  ·subst f;simp
  ·simp only[ef.mpr f,cR,iv]
   exact afK.mpr (q78:)
 ·simp only[ef.mpr e,cR,iv]
  exact afK.mpr (by lia)
section
variable{prog:kp}{w:wc}{A:eD}{E:aB->aD->Prop}{s:aD}
theorem OW{x y:aX}{n k:ah}{a b a' b':aE}{t u t' u':Tok}{Q:cj->aD->Prop}(hx:s.heap.get? x=aa {cls:=.type "tuple",data:=.seq #[.int a t,.int b u] n})(hy:s.heap.get? y=aa {cls:=.type "tuple",data:=.seq #[.int a' t',.int b' u'] k})
  (h:0<=b/\b<1000) (h':0<=b'/\b'<1000) (hq:Q (decide (a*1000+b<a'*1000+b')) s):bg (model prog w) A (keyLt' (tuples' true) (.ref x) (.ref y)) Q E s:=by
 refine kat_lt hx rfl hy rfl ?_;rw[KG h h'] at hq;refine kat_cons (afN (kat_go (λe=>kat_yes ?_) λe=>kat_no ?_))
 ·rw[aP e] at hq
  refine kat_cons (afN (kat_go (λe=>kat_yes (kat_nil ?_)) λe=>kat_no ?_))
  ·rw[aP e] at hq;exact hq
  ·rw[e,aZ (by decide)] at hq
   refine kat_one _ _ ?_;exact lt_int hq
 ·rw[e,aZ (by decide)] at hq
  exact oneLt_int hq
end
theorem EB{H:af av}{x:MV}{r:aE}(h:xy H x=aa r):∃j a b,x=.ref j/\H[j]?=aa (.tup [.int a,.int b])/\(0<=b/\b<1000)/\r=a*1000+b:=by refine jL h ?_;clear h;intro j hj h;subst hj;refine QV h ?_;clear h;intro ys h1 h;refine ea h ?_;clear h;intro u v h2 h;refine mr h ?_;clear h;intro a ha h;subst ha;refine mr h ?_;clear h;intro b hb h;subst hb;refine fP h ?_;clear h;intro h3 h;exact⟨j,a,b,rfl,Yo h2▸h1,h3,(aR h).symm⟩
theorem Lk{ext ρ st s}(R:Rel c ext ρ st s){x:MV}{r:aE}{v:aB}(h:xy st.H x=aa r)(vv:VR g ρ x v):
  ∃y n a b t u,v=.ref y/\s.heap.get? y=aa {cls:=.type "tuple",data:=.seq #[.int a t,.int b u] n}/\(0<=b/\b<1000)/\r=a*1000+b:=by
 refine CJ (EB h) λj a b cP h1 h2 h3=>?_;subst cP;refine R.objE (h1) λy ob hy N1 et=>?_;obtain⟨ws,n,rfl,hz,rr⟩:=et;obtain⟨v0,ws0,rfl,⟨t,rfl⟩,r1⟩:=rr.inv;obtain⟨v1,ws1,rfl,⟨u,rfl⟩,r2⟩:=r1.inv;cases r2.mJ
 exact⟨y,n,a,b,t,u,vv.dq hy,N1,h2,h3⟩
theorem HP:gj c (.builtin "sorted") pO:=by
 intro st vs r H' q ext ρ s eN R hv Q E k;refine BO q ?_;clear q;intro i hv q;subst hv;refine eu hv.inv λv0 ws cP r0 sL=>?_;subst cP;cases sL.mJ
 refine nP q ?_;clear q;intro xs h1 q;refine eh q ?_;clear q;intro rs h2 q;refine fP q ?_;clear q;intro h3 q;cases q
 refine fD h3 λnd h0 h64=>?_;clear h3;have nd:=cz nd;refine R.objE (h1) λa b ha hb et=>?_;refine eu et λys n cP hz vv=>?_;clear et;subst cP;rw[r0.dq ha];refine dQ (Ib h2) λuh hrk=>?_;have Hu:ys.length=xs.length:=vv.1.symm;refine Rel.el R λh₀ m nm obs h na lr=>?_;have W3:∀(D:aX)(out:af aB)(h':jf)(cc:ah),Fr h₀ c.L h' m->EX h₀ c.L h' ((D,listOf out.toArray cc)::(ext++ρ.zip obs))->(∀q∈ext++ρ.zip obs,q.1<D)->iD g ρ (sortBy rs xs) out->Q (.ref D) {s with heap:=h'}:=by
  intro D out h' cc F' N' eY hvr;have hia:=h.at h1;obtain⟨a2,b2,e1,e2,_,agZ⟩:=hia;have h3:3<D:=vE (h.low a2 (aM e1)) (eY _ agZ);have N4:(sortBy rs xs).length<=1000:=by unfold sortBy;rw[a8,List.length_mergeSort,List.length_zip];exact aco h64
  exact k (ρ++[D]) _ _ ⟨_,rfl⟩ ⟨h₀,m,nm,obs++[listOf out.toArray cc],h.alloc (tk:=s.toks) F' N' (λp hp=>hp) (λp hp e=>fU _ (e▸eY p hp)) h3 (λ_ _ q=>by cases q) ⟨out,cc,rfl,N4,hvr.mono ⟨_,rfl⟩⟩,na,lr.mono ⟨_,rfl⟩⟩ (jU R.len)
 by_cases hn:2<=xs.length
 ·refine kat_sorted (vs:=ys) h.F h.N ⟨_,hb,rfl,n,rfl⟩ (aeg Hu hn:) (alq h64 Hu:) λD e1 h' F' N' eY=>?_
  have R':HR c h₀ m ext ρ obs st.H {s with heap:=h'}:=h.keep (tk:=s.toks) F' λp hp=>N' p (.tail _ hp);have VV:Rel c ext ρ st {s with heap:=h'}:=⟨h₀,m,nm,obs,R',na,lr⟩;have Tq:∀i,i<ys.length->∃y n a b t u,ys.getD i aG=.ref y/\h'.get? y=aa {cls:=.type "tuple",data:=.seq #[.int a t,.int b u] n}/\(0<=b/\b<1000)/\rs.getD i 0=a*1000+b:=λi hi=>by
   refine cv (vv.2 i xs[i] (ao (LB Hu hi:))) λv hv PC=>?_;have e:ys.getD i aG=v:=by rw[fT,hv];rfl
   rw[e];exact Lk VV (hrk i _ (ao (LB Hu hi:))) PC
  have aoW:∀(l:af aB),(∀v∈l,∃y n a b t u,v=.ref y/\h'.get? y=aa {cls:=.type "tuple",data:=.seq #[.int a t,.int b u] n})->∃fs,KatTups h' l fs/\fs.length=l.length/\∀v∈fs,∃a t,v=ak a t:=by
   intro l
   induction l with
   |nil=>exactλ_=>⟨[],trivial,rfl,λ_ z=>by cases z⟩
   |cons v l ih=>
    intro hl;refine js (ih λv hv=>hl v (.tail _ hv)) λfs f1 f2 f3=>?_;refine aik (hl v (.head _)) λy n a b t u cP hy=>?_;subst cP;exact⟨.int a t::fs,KatTups.cons hy rfl rfl rfl f1,by simp[f2],λv hv=>by
     rcases bE.mp hv with rfl|hv
     ·exact⟨a,t,rfl⟩
     ·exact f3 v hv⟩
  obtain⟨fs,f1,f2,f3⟩:=aoW ys λv hv=>by obtain⟨i,hi,rfl⟩:=dm hv;obtain⟨y,n,a,b,t,u,e1,e2,_⟩:=Tq i hi;rw[fT,ao hi] at e1;exact⟨y,n,a,b,t,u,e1,e2⟩
  refine kat_kind (T:=.type "int") f1 (akH h0 Hu f2:) (λv hv=>by obtain⟨a,t,rfl⟩:=f3 v hv;exact .now) (by decide) ?_;refine Srt.Px (r:=λi=>rs.getD i 0) ?_ ?_ (aeg Hu hn:) λq P U=>?_
  ·intro i j hi hj e
   have e':rs[i]'(H9 uh Hu hi:)=rs[j]'(H9 uh Hu hj:):=by have e2:rs.getD i 0=rs.getD j 0:=e;rwa[fT,fT,ao (H9 uh Hu hi:),ao (H9 uh Hu hj:)] at e2
   exact(i9 (h₀:=by exact H9 uh Hu hi) (h₁:=by exact H9 uh Hu hj) nd).mp e'
  ·intro i j C hi hj hC
   refine YQ (Tq i hi) λy n a b t u e1 e2 e3 e4=>?_;refine YQ (Tq j hj) λy' n' a' b' t' u' e1' e2' e3' e4'=>?_;show bg _ _ (keyLt' _ (ys.getD i aG) (ys.getD j aG)) _ _ _;rw[e1,e1'];refine OW e2 e2' e3 e3' ?_;rw[e4,e4'] at hC;exact hC
  ·have hlen:ys.length=rs.length:=by exact alh uh Hu
   rw[hlen] at P U;refine KasFin.intro F' N' (UpdF.head λp hp=>dP (eY p hp)) λIz cc F'' N''=>W3 D _ Iz cc F'' N'' eY ?_;rw[<-CL uh nd P U];exact C2 vv _ λi hi=>by have:=eP.mp (P.pm.subset hi);exact LB uh this
 ·obtain⟨x,rfl⟩:∃x,xs=[x]:=qm.mp (aix h0 hn:)
  obtain⟨r1,hr1⟩:∃r1,rs=[r1]:=qm.mp (by simpa using uh);subst hr1;refine eu vv.inv λv ws cP vv1 vv2=>?_;subst cP;cases vv2.mJ
  refine EJ ⟨_,hb,rfl,n,rfl⟩ ?_;refine dA (sortedAll_at s.heap [v] #[v]) λe he=>?_;refine W3 _ [v] _ e (h.F.kept λ_ _=>sortedAll_old) (h.N.kept_cons h.F (λ_ _=>sortedAll_old) (aga _) he) (λp hp=>eL (cW (h.N p hp).1)) ?_;rw[show sortBy [r1] [x]=[x] by simp[sortBy]];exact iD.cons vv1 iD.nil
noncomputable def B0(f:St->ag (MV×St)):St->ag (MV×St):=λst=>HO (f st) λt ax=>oh av.ir ax.H[t]? λ_ _=>aa (.ref ax.H.length,{ax with H:=ax.H++[.bound t]})
theorem RF{e:PySem.Expr}{pos:iP}{f}(hf:dI c e f)
  (he:eval (.Attribute e "__next__" pos) c.env=(do
   let o<-eval e c.env
   g9 pos.atName
   let r<-holding [o] (om o "__next__" true)
   uD e o r
   pure r)):dI c (.Attribute e "__next__" pos) (B0 f):=by
 intro st v bZ q ext ρ s R Q E k;refine p8 q ?_;clear q;intro t ax h1 q;refine QW q ?_;clear q;intro l j h2 q;cases q
 refine Attribute_any_ (hf st _ ax h1 ext ρ s R _ _ λaQ a' bC b8 bW va=>?_) he;refine bW.objE (h2) λx ob hx N1 et=>?_;refine cv et λa ha cP=>?_;clear et;subst cP;rw[va.dq hx];refine AA N1 ?_;exact k _ _ _ (b8.trans ⟨_,rfl⟩) (bW.push _ ⟨x,bj ⟨_,rfl⟩ hx,rfl⟩) (jU bW.len)
noncomputable def RU(c:Cx g)(es:af PySem.Expr)(fs:St->ag (af MV×St)):Prop:=
 ∀st vs bZ,fs st=aa (vs,bZ)->∀ext ρ s(pos:iP)(f:aB)(P:jf->Prop),(∀h,P h->∃k,(k=Keeper.frame\/k=Keeper.machine\/k=Keeper.boundFrame)/\Looks g.M h (keeperOf f) k)->(∀d7 ax s',Rel c ext d7 ax s'->P s'.heap)->
  Rel c ext ρ st s->∀(Q:aB->aD->Prop)(E:aB->aD->Prop),
  (∀d7 eN s',ρ<+:d7->Rel c ext d7 bZ s'->iD g d7 vs eN->bg g.M c.A (call f eN) Q E s')->bg g.M c.A (fg pos f [] (gE pos (dT es c.env)) []) Q E s
theorem RV{e:PySem.Expr}{p:iP}{f}(he:dI c e f):RU c [.Starred e p] (rT f):=by intro st vs bZ q ext ρ s pos fv P hk hP R Q E k;refine cv (zh q) λi h1 h2=>?_;exact ks_call rfl hk (ks_lone (he st _ bZ h1 ext ρ s R _ _ λaQ v' bC b8 bW vv=>zR bW h2 vv λeN dn dh rr=>⟨hP _ _ _ dh,k aQ eN dn b8 dh rr⟩))
theorem wC{e e':PySem.Expr}{p:iP}{f f'}(he:dI c e f)(FX:dI c e' f')(ql:isStar e=false):RU c [e,.Starred e' p] (aJ f (rT f')):=by intro st vs bZ q ext ρ s pos fv P hk hP R Q E k;have:=aN he (RE (p:=p) FX) ql st vs bZ q ext ρ s pos R (λeN s'=>P s'.heap/\bg g.M c.A (call fv eN) Q E s') E λd7 eN s' p' R' vv=>⟨hP _ _ _ R',k d7 eN s' p' R' vv⟩;rw[lX ql] at this⊢;exact ks_call rfl hk (EP this)
set_option genInjectivity false in structure Dq(g:Gl)(name:dv)(fa:aX):Prop where
 g0:pG g.K 137=true
 g1:rR g.K (.ref fa) "__get__"=aa (aa (.builtin "function.__get__"))
 g2:yW g.K (.ref fa)=aa false
 g3:copiedNames.contains name=false
 g4:fnIn g.K fa=true
theorem HR.cons{h₀:jf}{m:dv->ag aB}{ext:af (aX×d9)}{ρ:af aX}{obs:af d9}{H:af av}{s:aD}(h:HR c h₀ m ext ρ obs H s){q:aX}{ob:d9}{h':jf}{tk:ah}(F:Fr h₀ c.L h' m)(N:EX h₀ c.L h' ((q,ob)::(ext++ρ.zip obs)))(eY:∀p∈ext++ρ.zip obs,p.1<q):
  HR c h₀ m ((q,ob)::ext) ρ obs H {s with heap:=h',toks:=tk}:=by
 have hq:q∉ρ:=λhm=>by
  obtain⟨i,hi,e⟩:=dm hm;have hj:i<obs.length:=by rw[h.lo,<-h.lr];exact hi
  have:=eY (q,obs[i]) (bw _ (aM (i:=i) (by rw[eo];exact⟨by rw[ao hi,e],ao hj⟩)));exact fU _ this
 refine⟨h.G,F,N,h.nd,?_,?_,h.low,h.lr,h.lo,h.ob,h.nk,h.gens,h.os⟩
 ·intro p hp
  rcases bE.mp hp with rfl|hp
  ·exact hq
  ·exact h.off p hp
 ·rw[bX,cQ]
  refine⟨λz=>?_,h.en⟩;refine cv (aU.mp z) λp hp e=>?_;have:=eY p (aI _ hp);rw[e] at this;exact fU _ this
theorem zU{o:PySem.Expr}{name:dv}{apos pos:iP}{es:af PySem.Expr}{fa:aX}{fo fs bf}(K:KMeth g name fa)(KB:Dq g name fa)(hn:name∉dF)(hc:c.comp=none)(ho:dI c o fo)(hV:RU c es fs)(hb:wh c (.ref fa) bf)
  (he:eval (.Call (.Attribute o name apos) es [] pos) c.env=(do
   let ov<-eval o c.env
   g9 apos.atName
   let(f,first)<-holding [ov] (do pure (<-om ov name true,[]))
   fg pos f first (gE pos (dT es c.env)) [])):
  dI c (.Call (.Attribute o name apos) es [] pos) (jb bf fo fs):=by
 intro st v bZ q ext ρ s R Q E k;refine p8 q ?_;clear q;intro i ax h1 q;refine CH q ?_;clear q;intro d h2 q;refine CG q ?_;clear q;intro ats h3 q;refine ea q ?_;clear q;intro vs cH h4 q;refine ea q ?_;clear q;intro r H h5 q;cases q
 rw[he];refine aw (ho st _ ax h1 ext ρ s R _ _ λaQ a' bC b8 bW va=>aw (jh (aw (cN (aw ?_)))));refine Rel.el bW λh₀ m nm obs h na lr=>?_;refine bW.objE (h2) λx bx hx Hr et=>?_;refine cv et λda Bs cP=>?_;clear et;subst cP;refine bW.jw (h3) (Bs) λbd JR et=>?_;refine xv et λds n cP hl SQ r=>?_;clear et;subst cP;rw[va.dq hx];refine kbm_bound h.F h.G.X h.N ⟨Hr,rfl,rfl,JR⟩ K.g1 KB.g0 K.g2 K.g3 KB.g1 KB.g2 KB.g3 (t7 hl SQ r hn) λq h' F' N' eY=>bA ?_;have dh:Rel c ((q,methodObj (.ref fa) (.ref x))::ext) aQ ax {bC with heap:=h',toks:=bC.toks+1}:=⟨h₀,m,nm,obs,h.cons F' N' eY,na.ofFn hc,lr⟩;have hM:∀d7 st s',Rel c ((q,methodObj (.ref fa) (.ref x))::ext) d7 st s'->MethP g.K q fa (.ref x) s'.heap:=λd7 st s' R'=>by refine Rel.el R' λJ8 m' pT xr hh _ _=>?_;exact⟨hh.mL,R'.TK⟩
 refine hV ax vs cH h4 _ aQ _ pos _ (MethP g.K q fa (.ref x)) (keeps_M KB.g4) hM dh _ _ λcy eN dn dG gI vv=>?_;refine ya (method_call (hM _ _ _ gI).1 ?_);exact hb cH _ v H h5 _ cy dn _ gI (iD.cons ⟨x,bj dG hx,rfl⟩ vv) _ λiH v' eS iU nA Ao=>k iH v' eS ((b8.trans dG).trans iU) (Rel.AX (own:=[_]) hc nA) Ao
end fG
namespace fG
open PySem PySem.W PySem.Calls PyProof.Rows
noncomputable abbrev S(x:Bn):dv:=ic x
noncomputable abbrev kh(P:df)(x:dv):aE:=lB P x
noncomputable abbrev pg:kp:=PySem.Challenge.pw_mj0284_01
noncomputable def parts:oF->pC×af oF×kO
 |.FunctionDef _ a b _ _ _ s _ _ _=>(a,b,s)
 |_=>default
noncomputable def below:oF->af oF
 |.ClassDef _ _ _ b _ _ _ _ _ _ _=>b
 |_=>[]
noncomputable def tp(i:ah):pC×af oF×kO:=match pg.main.body[i]? with
 |some s=>parts s
 |none=>default
noncomputable def mt(i j:ah):pC×af oF×kO:=match pg.main.body[i]? with
 |some s=>match(below s)[j]? with
  |some s=>parts s
  |none=>default
 |none=>default
noncomputable section
noncomputable def o3(P:df):d9:={cls:=aS "dict",data:=C8 #[{hash:=kh P (S "__name__"),key:=aj (S "__name__") 165,val:=aj (S "law_mj0284_01") 485},{hash:=kh P (S "__doc__"),key:=aj (S "__doc__") 166,val:=aG},{hash:=kh P (S "__package__"),key:=aj (S "__package__") 167,val:=aG},{hash:=kh P (S "__loader__"),key:=aj (S "__loader__") 168,val:=eQ "__main__.__loader__#opaque"},{hash:=kh P (S "__spec__"),key:=aj (S "__spec__") 169,val:=aG},{hash:=kh P (S "__annotations__"),key:=aj (S "__annotations__") 170,val:=aq 6},{hash:=kh P (S "__builtins__"),key:=aj (S "__builtins__") 171,val:=aq 4},{hash:=kh P (S "__file__"),key:=aj (S "__file__") 173,val:=aj (S "/claim/cut.py") 172},{hash:=kh P (S "__cached__"),key:=aj (S "__cached__") 174,val:=aG},{hash:=kh P (S "_wall"),key:=aj (S "_wall") 193,val:=aq 21},{hash:=kh P (S "_NODE_OUT"),key:=aj (S "_NODE_OUT") 198,val:=ak (-1) 197},{hash:=kh P (S "_NODE_DONE"),key:=aj (S "_NODE_DONE") 201,val:=ak (-2) 200},{hash:=kh P (S "_NodeInfo"),key:=aj (S "_NodeInfo") 238,val:=aq 40},{hash:=kh P (S "CycleError"),key:=aj (S "CycleError") 256,val:=aq 55},{hash:=kh P (S "TopologicalSorter"),key:=aj (S "TopologicalSorter") 375,val:=aq 137},{hash:=kh P (S "ONE_THIRD"),key:=aj (S "ONE_THIRD") 381,val:=E0 4599676419421066581 380},{hash:=kh P (S "ONE_SIXTH"),key:=aj (S "ONE_SIXTH") 385,val:=E0 4595172819793696085 384},{hash:=kh P (S "TWO_THIRD"),key:=aj (S "TWO_THIRD") 389,val:=E0 4604180019048437077 388},{hash:=kh P (S "rgb_to_yiq"),key:=aj (S "rgb_to_yiq") 401,val:=aq 148},{hash:=kh P (S "yiq_to_rgb"),key:=aj (S "yiq_to_rgb") 413,val:=aq 155},{hash:=kh P (S "rgb_to_hls"),key:=aj (S "rgb_to_hls") 432,val:=aq 162},{hash:=kh P (S "hls_to_rgb"),key:=aj (S "hls_to_rgb") 443,val:=aq 169},{hash:=kh P (S "_v"),key:=aj (S "_v") 452,val:=aq 176},{hash:=kh P (S "rgb_to_hsv"),key:=aj (S "rgb_to_hsv") 470,val:=aq 183},{hash:=kh P (S "hsv_to_rgb"),key:=aj (S "hsv_to_rgb") 484,val:=aq 190},{hash:=kh P (S "_law_sheet"),key:=aj (S "_law_sheet") 492,val:=aq 195},{hash:=kh P (S "_law_before"),key:=aj (S "_law_before") 498,val:=aq 200},{hash:=kh P (S "_law_whole"),key:=aj (S "_law_whole") 504,val:=aq 205},{hash:=kh P (S "_law_due"),key:=aj (S "_law_due") 510,val:=aq 210},{hash:=kh P (S "_law_by_the_module"),key:=aj (S "_law_by_the_module") 516,val:=aq 215},{hash:=kh P (S "_law_worked"),key:=aj (S "_law_worked") 527,val:=aq 222},{hash:=kh P (S "law"),key:=aj (S "law") 533,val:=aq 227}] 32}
noncomputable def o35(P:df):d9:={cls:=aS "code",data:=cX #[aj (S "__init__") 218,aj (S "_NodeInfo.__init__") 219,aj (S "/claim/cut.py") 220,ak 10 0,ak 2 0,ak 0 0,ak 0 0,ak 3 0,aq 30,dJ true,ak 181 0,aq 31,aG,aq 32,aq 33,aq 34,ak 223 0,ak 10 0,aj (S "/claim/cut.py") 224]}
noncomputable def o36(P:df):d9:={cls:=aS "function",data:=eF {name:=S "__init__",qualname:=S "_NodeInfo.__init__",params:=(mt 4 1).1,body:=cT (mt 4 1).2.1,scope:=(mt 4 1).2.2,globals:=3,closure:=[],defaults:=aG,kwdefaults:=aG,pyModule:=aj (S "cpy313.graphlib") 194,code:=aq 35}}
noncomputable def o39(P:df):d9:={cls:=aS "dict",data:=C8 #[{hash:=kh P (S "__module__"),key:=aj (S "__module__") 209,val:=aj (S "cpy313.graphlib") 194},{hash:=kh P (S "__firstlineno__"),key:=aj (S "__firstlineno__") 213,val:=ak 7 212},{hash:=kh P (S "__slots__"),key:=aj (S "__slots__") 217,val:=aq 29},{hash:=kh P (S "__init__"),key:=aj (S "__init__") 225,val:=aq 36},{hash:=kh P (S "__static_attributes__"),key:=aj (S "__static_attributes__") 229,val:=aq 37},{hash:=kh P (S "node"),key:=aj (S "node") 231,val:=aq 41},{hash:=kh P (S "npredecessors"),key:=aj (S "npredecessors") 233,val:=aq 42},{hash:=kh P (S "successors"),key:=aj (S "successors") 235,val:=aq 43},{hash:=kh P (S "__doc__"),key:=aj (S "__doc__") 236,val:=aG}] 5}
noncomputable def o40(P:df):d9:={cls:=aS "type",data:=Rp {name:=S "_NodeInfo",bases:=[aS "object"],mro:=[aq 40,aS "object"],ns:=39,qualname:=S "_NodeInfo",hasDict:=false,slotNames:=[S "node",S "npredecessors",S "successors"]},slots:= #[none,none,aa (aj (S "_NodeInfo") 202),aa (aj (S "_NodeInfo") 210),aa (eQ "object.__new__"),aa (dJ false)]}
noncomputable def o41(P:df):d9:={cls:=aS "member_descriptor",data:=cX #[aj (S "node") 230,aq 40,eQ "proto.slot",eQ "proto.slot#set",ak 2 0]}
noncomputable def o42(P:df):d9:={cls:=aS "member_descriptor",data:=cX #[aj (S "npredecessors") 232,aq 40,eQ "proto.slot",eQ "proto.slot#set",ak 1 0]}
noncomputable def o43(P:df):d9:={cls:=aS "member_descriptor",data:=cX #[aj (S "successors") 234,aq 40,eQ "proto.slot",eQ "proto.slot#set",ak 0 0]}
noncomputable def o54(P:df):d9:={cls:=aS "dict",data:=C8 #[{hash:=kh P (S "__module__"),key:=aj (S "__module__") 246,val:=aj (S "cpy313.graphlib") 194},{hash:=kh P (S "__firstlineno__"),key:=aj (S "__firstlineno__") 250,val:=ak 14 249},{hash:=kh P (S "__static_attributes__"),key:=aj (S "__static_attributes__") 251,val:=aq 53},{hash:=kh P (S "__weakref__"),key:=aj (S "__weakref__") 253,val:=aq 56},{hash:=kh P (S "__doc__"),key:=aj (S "__doc__") 254,val:=aG}] 3}
noncomputable def o55(P:df):d9:={cls:=aS "type",data:=Rp {name:=S "CycleError",bases:=[aS "ValueError"],mro:=[aq 55,aS "ValueError",aS "Exception",aS "BaseException",aS "object"],ns:=54,qualname:=S "CycleError"},slots:= #[aa (aq 46),none,aa (aj (S "CycleError") 239),aa (aj (S "CycleError") 247),aa (eQ "ValueError.__new__"),aa (dJ true)]}
noncomputable def o56(P:df):d9:={cls:=aS "getset_descriptor",data:=cX #[aj (S "__weakref__") 252,aq 55,eQ "ExceptionGroup.__weakref__",aG]}
noncomputable def o66(P:df):d9:={cls:=aS "tuple",data:=Data.seq #[aG]}
noncomputable def o72(P:df):d9:={cls:=aS "code",data:=cX #[aj (S "__init__") 269,aj (S "TopologicalSorter.__init__") 270,aj (S "/claim/cut.py") 271,ak 18 0,ak 2 0,ak 0 0,ak 0 0,ak 3 0,aq 67,dJ true,ak 181 0,aq 68,aG,aq 69,aq 70,aq 71,ak 276 0,ak 18 0,aj (S "/claim/cut.py") 277]}
noncomputable def o73(P:df):d9:={cls:=aS "function",data:=eF {name:=S "__init__",qualname:=S "TopologicalSorter.__init__",params:=(mt 6 0).1,body:=cT (mt 6 0).2.1,scope:=(mt 6 0).2.2,globals:=3,closure:=[],defaults:=aq 66,kwdefaults:=aG,pyModule:=aj (S "cpy313.graphlib") 194,code:=aq 72}}
noncomputable def o79(P:df):d9:={cls:=aS "code",data:=cX #[aj (S "_get_nodeinfo") 279,aj (S "TopologicalSorter._get_nodeinfo") 280,aj (S "/claim/cut.py") 281,ak 27 0,ak 2 0,ak 0 0,ak 0 0,ak 3 0,aq 74,dJ true,ak 181 0,aq 75,aG,aq 76,aq 77,aq 78,ak 285 0,ak 27 0,aj (S "/claim/cut.py") 286]}
noncomputable def o80(P:df):d9:={cls:=aS "function",data:=eF {name:=S "_get_nodeinfo",qualname:=S "TopologicalSorter._get_nodeinfo",params:=(mt 6 1).1,body:=cT (mt 6 1).2.1,scope:=(mt 6 1).2.2,globals:=3,closure:=[],defaults:=aG,kwdefaults:=aG,pyModule:=aj (S "cpy313.graphlib") 194,code:=aq 79}}
noncomputable def o86(P:df):d9:={cls:=aS "code",data:=cX #[aj (S "add") 288,aj (S "TopologicalSorter.add") 289,aj (S "/claim/cut.py") 290,ak 32 0,ak 2 0,ak 0 0,ak 0 0,ak 7 0,aq 81,dJ true,ak 181 0,aq 82,aG,aq 83,aq 84,aq 85,ak 297 0,ak 32 0,aj (S "/claim/cut.py") 298]}
noncomputable def o87(P:df):d9:={cls:=aS "function",data:=eF {name:=S "add",qualname:=S "TopologicalSorter.add",params:=(mt 6 2).1,body:=cT (mt 6 2).2.1,scope:=(mt 6 2).2.2,globals:=3,closure:=[],defaults:=aG,kwdefaults:=aG,pyModule:=aj (S "cpy313.graphlib") 194,code:=aq 86}}
noncomputable def o91(P:df):d9:={cls:=aS "code",data:=cX #[aj (S "prepare") 300,aj (S "TopologicalSorter.prepare") 301,aj (S "/claim/cut.py") 302,ak 41 0,ak 1 0,ak 0 0,ak 0 0,ak 3 0,aq 88,dJ true,ak 181 0,aq 89,aG,aG,aG,aq 90,ak 303 0,ak 41 0,aj (S "/claim/cut.py") 304]}
noncomputable def o92(P:df):d9:={cls:=aS "function",data:=eF {name:=S "prepare",qualname:=S "TopologicalSorter.prepare",params:=(mt 6 3).1,body:=cT (mt 6 3).2.1,scope:=(mt 6 3).2.2,globals:=3,closure:=[],defaults:=aG,kwdefaults:=aG,pyModule:=aj (S "cpy313.graphlib") 194,code:=aq 91}}
noncomputable def o98(P:df):d9:={cls:=aS "code",data:=cX #[aj (S "get_ready") 306,aj (S "TopologicalSorter.get_ready") 307,aj (S "/claim/cut.py") 308,ak 49 0,ak 1 0,ak 0 0,ak 0 0,ak 3 0,aq 93,dJ true,ak 181 0,aq 94,aG,aq 95,aq 96,aq 97,ak 313 0,ak 49 0,aj (S "/claim/cut.py") 314]}
noncomputable def o99(P:df):d9:={cls:=aS "function",data:=eF {name:=S "get_ready",qualname:=S "TopologicalSorter.get_ready",params:=(mt 6 4).1,body:=cT (mt 6 4).2.1,scope:=(mt 6 4).2.2,globals:=3,closure:=[],defaults:=aG,kwdefaults:=aG,pyModule:=aj (S "cpy313.graphlib") 194,code:=aq 98}}
noncomputable def ahv(P:df):d9:={cls:=aS "code",data:=cX #[aj (S "is_active") 316,aj (S "TopologicalSorter.is_active") 317,aj (S "/claim/cut.py") 318,ak 60 0,ak 1 0,ak 0 0,ak 0 0,ak 3 0,aq 100,dJ true,ak 181 0,aq 101,aG,aq 102,aq 103,aq 104,ak 320 0,ak 60 0,aj (S "/claim/cut.py") 321]}
noncomputable def ahw(P:df):d9:={cls:=aS "function",data:=eF {name:=S "is_active",qualname:=S "TopologicalSorter.is_active",params:=(mt 6 5).1,body:=cT (mt 6 5).2.1,scope:=(mt 6 5).2.2,globals:=3,closure:=[],defaults:=aG,kwdefaults:=aG,pyModule:=aj (S "cpy313.graphlib") 194,code:=aq 105}}
noncomputable def ahx(P:df):d9:={cls:=aS "code",data:=cX #[aj (S "done") 330,aj (S "TopologicalSorter.done") 331,aj (S "/claim/cut.py") 332,ak 68 0,ak 1 0,ak 0 0,ak 0 0,ak 7 0,aq 114,dJ true,ak 181 0,aq 115,aG,aq 116,aq 117,aq 118,ak 341 0,ak 68 0,aj (S "/claim/cut.py") 342]}
noncomputable def ahy(P:df):d9:={cls:=aS "function",data:=eF {name:=S "done",qualname:=S "TopologicalSorter.done",params:=(mt 6 7).1,body:=cT (mt 6 7).2.1,scope:=(mt 6 7).2.2,globals:=3,closure:=[],defaults:=aG,kwdefaults:=aG,pyModule:=aj (S "cpy313.graphlib") 194,code:=aq 119}}
noncomputable def ahz(P:df):d9:={cls:=aS "code",data:=cX #[aj (S "_find_cycle") 344,aj (S "TopologicalSorter._find_cycle") 345,aj (S "/claim/cut.py") 346,ak 91 0,ak 1 0,ak 0 0,ak 0 0,ak 3 0,aq 121,dJ true,ak 181 0,aq 122,aG,aq 123,aq 124,aq 125,ak 354 0,ak 91 0,aj (S "/claim/cut.py") 355]}
noncomputable def ahA(P:df):d9:={cls:=aS "function",data:=eF {name:=S "_find_cycle",qualname:=S "TopologicalSorter._find_cycle",params:=(mt 6 8).1,body:=cT (mt 6 8).2.1,scope:=(mt 6 8).2.2,globals:=3,closure:=[],defaults:=aG,kwdefaults:=aG,pyModule:=aj (S "cpy313.graphlib") 194,code:=aq 126}}
noncomputable def ahB(P:df):d9:={cls:=aS "dict",data:=C8 #[{hash:=kh P (S "__module__"),key:=aj (S "__module__") 264,val:=aj (S "cpy313.graphlib") 194},{hash:=kh P (S "__firstlineno__"),key:=aj (S "__firstlineno__") 268,val:=ak 16 267},{hash:=kh P (S "__init__"),key:=aj (S "__init__") 278,val:=aq 73},{hash:=kh P (S "_get_nodeinfo"),key:=aj (S "_get_nodeinfo") 287,val:=aq 80},{hash:=kh P (S "add"),key:=aj (S "add") 299,val:=aq 87},{hash:=kh P (S "prepare"),key:=aj (S "prepare") 305,val:=aq 92},{hash:=kh P (S "get_ready"),key:=aj (S "get_ready") 315,val:=aq 99},{hash:=kh P (S "is_active"),key:=aj (S "is_active") 322,val:=aq 106},{hash:=kh P (S "__bool__"),key:=aj (S "__bool__") 329,val:=aq 113},{hash:=kh P (S "done"),key:=aj (S "done") 343,val:=aq 120},{hash:=kh P (S "_find_cycle"),key:=aj (S "_find_cycle") 356,val:=aq 127},{hash:=kh P (S "static_order"),key:=aj (S "static_order") 363,val:=aq 134},{hash:=kh P (S "__static_attributes__"),key:=aj (S "__static_attributes__") 368,val:=aq 135},{hash:=kh P (S "__dict__"),key:=aj (S "__dict__") 370,val:=aq 138},{hash:=kh P (S "__weakref__"),key:=aj (S "__weakref__") 372,val:=aq 139},{hash:=kh P (S "__doc__"),key:=aj (S "__doc__") 373,val:=aG}] 4}
noncomputable def ahC(P:df):d9:={cls:=aS "type",data:=Rp {name:=S "TopologicalSorter",bases:=[aS "object"],mro:=[aq 137,aS "object"],ns:=136,qualname:=S "TopologicalSorter"},slots:= #[none,none,aa (aj (S "TopologicalSorter") 257),aa (aj (S "TopologicalSorter") 265),aa (eQ "object.__new__"),aa (dJ true)]}
noncomputable def ahD(P:df):d9:={cls:=aS "getset_descriptor",data:=cX #[aj (S "__dict__") 369,aq 137,eQ "function.__dict__",eQ "function.__dict__#set"]}
noncomputable def ahE(P:df):d9:={cls:=aS "getset_descriptor",data:=cX #[aj (S "__weakref__") 371,aq 137,eQ "ExceptionGroup.__weakref__",aG]}
noncomputable def ahF(P:df):d9:={cls:=aS "code",data:=cX #[aj (S "rgb_to_yiq") 390,aj (S "rgb_to_yiq") 391,aj (S "/claim/cut.py") 392,ak 126 0,ak 3 0,ak 0 0,ak 0 0,ak 3 0,aq 142,dJ true,ak 181 0,aq 143,aG,aq 144,aq 145,aq 146,ak 399 0,ak 126 0,aj (S "/claim/cut.py") 400]}
noncomputable def ahG(P:df):d9:={cls:=aS "function",data:=eF {name:=S "rgb_to_yiq",qualname:=S "rgb_to_yiq",params:=(tp 11).1,body:=cT (tp 11).2.1,scope:=(tp 11).2.2,globals:=3,closure:=[],defaults:=aG,kwdefaults:=aG,pyModule:=aj (S "cpy313.colorsys") 376,code:=aq 147}}
noncomputable def ahH(P:df):d9:={cls:=aS "code",data:=cX #[aj (S "yiq_to_rgb") 402,aj (S "yiq_to_rgb") 403,aj (S "/claim/cut.py") 404,ak 131 0,ak 3 0,ak 0 0,ak 0 0,ak 3 0,aq 149,dJ true,ak 181 0,aq 150,aG,aq 151,aq 152,aq 153,ak 411 0,ak 131 0,aj (S "/claim/cut.py") 412]}
noncomputable def ahI(P:df):d9:={cls:=aS "function",data:=eF {name:=S "yiq_to_rgb",qualname:=S "yiq_to_rgb",params:=(tp 12).1,body:=cT (tp 12).2.1,scope:=(tp 12).2.2,globals:=3,closure:=[],defaults:=aG,kwdefaults:=aG,pyModule:=aj (S "cpy313.colorsys") 376,code:=aq 154}}
noncomputable def ahJ(P:df):d9:={cls:=aS "code",data:=cX #[aj (S "rgb_to_hls") 414,aj (S "rgb_to_hls") 415,aj (S "/claim/cut.py") 416,ak 148 0,ak 3 0,ak 0 0,ak 0 0,ak 3 0,aq 156,dJ true,ak 181 0,aq 157,aG,aq 158,aq 159,aq 160,ak 430 0,ak 148 0,aj (S "/claim/cut.py") 431]}
noncomputable def ahK(P:df):d9:={cls:=aS "function",data:=eF {name:=S "rgb_to_hls",qualname:=S "rgb_to_hls",params:=(tp 13).1,body:=cT (tp 13).2.1,scope:=(tp 13).2.2,globals:=3,closure:=[],defaults:=aG,kwdefaults:=aG,pyModule:=aj (S "cpy313.colorsys") 376,code:=aq 161}}
noncomputable def ahL(P:df):d9:={cls:=aS "code",data:=cX #[aj (S "hls_to_rgb") 433,aj (S "hls_to_rgb") 434,aj (S "/claim/cut.py") 435,ak 171 0,ak 3 0,ak 0 0,ak 0 0,ak 3 0,aq 163,dJ true,ak 181 0,aq 164,aG,aq 165,aq 166,aq 167,ak 441 0,ak 171 0,aj (S "/claim/cut.py") 442]}
noncomputable def ahM(P:df):d9:={cls:=aS "function",data:=eF {name:=S "hls_to_rgb",qualname:=S "hls_to_rgb",params:=(tp 14).1,body:=cT (tp 14).2.1,scope:=(tp 14).2.2,globals:=3,closure:=[],defaults:=aG,kwdefaults:=aG,pyModule:=aj (S "cpy313.colorsys") 376,code:=aq 168}}
noncomputable def ahN(P:df):d9:={cls:=aS "code",data:=cX #[aj (S "_v") 444,aj (S "_v") 445,aj (S "/claim/cut.py") 446,ak 180 0,ak 3 0,ak 0 0,ak 0 0,ak 3 0,aq 170,dJ true,ak 181 0,aq 171,aG,aq 172,aq 173,aq 174,ak 450 0,ak 180 0,aj (S "/claim/cut.py") 451]}
noncomputable def ahO(P:df):d9:={cls:=aS "function",data:=eF {name:=S "_v",qualname:=S "_v",params:=(tp 15).1,body:=cT (tp 15).2.1,scope:=(tp 15).2.2,globals:=3,closure:=[],defaults:=aG,kwdefaults:=aG,pyModule:=aj (S "cpy313.colorsys") 376,code:=aq 175}}
noncomputable def ahP(P:df):d9:={cls:=aS "code",data:=cX #[aj (S "rgb_to_hsv") 453,aj (S "rgb_to_hsv") 454,aj (S "/claim/cut.py") 455,ak 189 0,ak 3 0,ak 0 0,ak 0 0,ak 3 0,aq 177,dJ true,ak 181 0,aq 178,aG,aq 179,aq 180,aq 181,ak 468 0,ak 189 0,aj (S "/claim/cut.py") 469]}
noncomputable def ahQ(P:df):d9:={cls:=aS "function",data:=eF {name:=S "rgb_to_hsv",qualname:=S "rgb_to_hsv",params:=(tp 16).1,body:=cT (tp 16).2.1,scope:=(tp 16).2.2,globals:=3,closure:=[],defaults:=aG,kwdefaults:=aG,pyModule:=aj (S "cpy313.colorsys") 376,code:=aq 182}}
noncomputable def ahR(P:df):d9:={cls:=aS "code",data:=cX #[aj (S "hsv_to_rgb") 471,aj (S "hsv_to_rgb") 472,aj (S "/claim/cut.py") 473,ak 208 0,ak 3 0,ak 0 0,ak 0 0,ak 3 0,aq 184,dJ true,ak 181 0,aq 185,aG,aq 186,aq 187,aq 188,ak 482 0,ak 208 0,aj (S "/claim/cut.py") 483]}
noncomputable def ahS(P:df):d9:={cls:=aS "function",data:=eF {name:=S "hsv_to_rgb",qualname:=S "hsv_to_rgb",params:=(tp 17).1,body:=cT (tp 17).2.1,scope:=(tp 17).2.2,globals:=3,closure:=[],defaults:=aG,kwdefaults:=aG,pyModule:=aj (S "cpy313.colorsys") 376,code:=aq 189}}
noncomputable def ahT(P:df):d9:={cls:=aS "code",data:=cX #[aj (S "_law_sheet") 487,aj (S "_law_sheet") 488,aj (S "/claim/cut.py") 489,ak 230 0,ak 1 0,ak 0 0,ak 0 0,ak 3 0,aq 191,dJ true,ak 181 0,aq 192,aG,aG,aG,aq 193,ak 490 0,ak 230 0,aj (S "/claim/cut.py") 491]}
noncomputable def ahU(P:df):d9:={cls:=aS "function",data:=eF {name:=S "_law_sheet",qualname:=S "_law_sheet",params:=(tp 19).1,body:=cT (tp 19).2.1,scope:=(tp 19).2.2,globals:=3,closure:=[],defaults:=aG,kwdefaults:=aG,pyModule:=aj (S "law_mj0284_01") 485,code:=aq 194}}
noncomputable def ahV(P:df):d9:={cls:=aS "code",data:=cX #[aj (S "_law_before") 493,aj (S "_law_before") 494,aj (S "/claim/cut.py") 495,ak 245 0,ak 2 0,ak 0 0,ak 0 0,ak 3 0,aq 196,dJ true,ak 181 0,aq 197,aG,aG,aG,aq 198,ak 496 0,ak 245 0,aj (S "/claim/cut.py") 497]}
noncomputable def ahX(P:df):d9:={cls:=aS "function",data:=eF {name:=S "_law_before",qualname:=S "_law_before",params:=(tp 20).1,body:=cT (tp 20).2.1,scope:=(tp 20).2.2,globals:=3,closure:=[],defaults:=aG,kwdefaults:=aG,pyModule:=aj (S "law_mj0284_01") 485,code:=aq 199}}
noncomputable def ahY(P:df):d9:={cls:=aS "code",data:=cX #[aj (S "_law_whole") 499,aj (S "_law_whole") 500,aj (S "/claim/cut.py") 501,ak 254 0,ak 2 0,ak 0 0,ak 0 0,ak 3 0,aq 201,dJ true,ak 181 0,aq 202,aG,aG,aG,aq 203,ak 502 0,ak 254 0,aj (S "/claim/cut.py") 503]}
noncomputable def ahZ(P:df):d9:={cls:=aS "function",data:=eF {name:=S "_law_whole",qualname:=S "_law_whole",params:=(tp 21).1,body:=cT (tp 21).2.1,scope:=(tp 21).2.2,globals:=3,closure:=[],defaults:=aG,kwdefaults:=aG,pyModule:=aj (S "law_mj0284_01") 485,code:=aq 204}}
noncomputable def ah0(P:df):d9:={cls:=aS "code",data:=cX #[aj (S "_law_due") 505,aj (S "_law_due") 506,aj (S "/claim/cut.py") 507,ak 266 0,ak 1 0,ak 0 0,ak 0 0,ak 3 0,aq 206,dJ true,ak 181 0,aq 207,aG,aG,aG,aq 208,ak 508 0,ak 266 0,aj (S "/claim/cut.py") 509]}
noncomputable def ah1(P:df):d9:={cls:=aS "function",data:=eF {name:=S "_law_due",qualname:=S "_law_due",params:=(tp 22).1,body:=cT (tp 22).2.1,scope:=(tp 22).2.2,globals:=3,closure:=[],defaults:=aG,kwdefaults:=aG,pyModule:=aj (S "law_mj0284_01") 485,code:=aq 209}}
noncomputable def ah2(P:df):d9:={cls:=aS "code",data:=cX #[aj (S "_law_by_the_module") 511,aj (S "_law_by_the_module") 512,aj (S "/claim/cut.py") 513,ak 281 0,ak 2 0,ak 0 0,ak 0 0,ak 3 0,aq 211,dJ true,ak 181 0,aq 212,aG,aG,aG,aq 213,ak 514 0,ak 281 0,aj (S "/claim/cut.py") 515]}
noncomputable def ah3(P:df):d9:={cls:=aS "function",data:=eF {name:=S "_law_by_the_module",qualname:=S "_law_by_the_module",params:=(tp 23).1,body:=cT (tp 23).2.1,scope:=(tp 23).2.2,globals:=3,closure:=[],defaults:=aG,kwdefaults:=aG,pyModule:=aj (S "law_mj0284_01") 485,code:=aq 214}}
noncomputable def ah4(P:df):d9:={cls:=aS "code",data:=cX #[aj (S "_law_worked") 517,aj (S "_law_worked") 518,aj (S "/claim/cut.py") 519,ak 296 0,ak 2 0,ak 0 0,ak 0 0,ak 3 0,aq 216,dJ true,ak 181 0,aq 217,aG,aq 218,aq 219,aq 220,ak 525 0,ak 296 0,aj (S "/claim/cut.py") 526]}
noncomputable def ah5(P:df):d9:={cls:=aS "function",data:=eF {name:=S "_law_worked",qualname:=S "_law_worked",params:=(tp 24).1,body:=cT (tp 24).2.1,scope:=(tp 24).2.2,globals:=3,closure:=[],defaults:=aG,kwdefaults:=aG,pyModule:=aj (S "law_mj0284_01") 485,code:=aq 221}}
noncomputable def ah6(P:df):d9:={cls:=aS "code",data:=cX #[aj (S "law") 528,aj (S "law") 529,aj (S "/claim/cut.py") 530,ak 305 0,ak 1 0,ak 0 0,ak 0 0,ak 3 0,aq 223,dJ true,ak 181 0,aq 224,aG,aG,aG,aq 225,ak 531 0,ak 305 0,aj (S "/claim/cut.py") 532]}
noncomputable def ah7(P:df):d9:={cls:=aS "function",data:=eF {name:=S "law",qualname:=S "law",params:=(tp 25).1,body:=cT (tp 25).2.1,scope:=(tp 25).2.2,globals:=3,closure:=[],defaults:=aG,kwdefaults:=aG,pyModule:=aj (S "law_mj0284_01") 485,code:=aq 226}}
noncomputable def KK(P:df):Frag:=[(3,o3 P),(35,o35 P),(36,o36 P),(39,o39 P),(40,o40 P),(41,o41 P),(42,o42 P),(43,o43 P),(54,o54 P),(55,o55 P),(56,o56 P),(66,o66 P),(72,o72 P),(73,o73 P),(79,o79 P),(80,o80 P),(86,o86 P),(87,o87 P),(91,o91 P),(92,o92 P),(98,o98 P),(99,o99 P),(105,ahv P),(106,ahw P),(119,ahx P),(120,ahy P),(126,ahz P),(127,ahA P),(136,ahB P),(137,ahC P),(138,ahD P),(139,ahE P),(147,ahF P),(148,ahG P),(154,ahH P),(155,ahI P),(161,ahJ P),(162,ahK P),(168,ahL P),(169,ahM P),(175,ahN P),(176,ahO P),(182,ahP P),(183,ahQ P),(189,ahR P),(190,ahS P),(194,ahT P),(195,ahU P),(199,ahV P),(200,ahX P),(204,ahY P),(205,ahZ P),(209,ah0 P),(210,ah1 P),(214,ah2 P),(215,ah3 P),(221,ah4 P),(222,ah5 P),(226,ah6 P),(227,ah7 P)]
noncomputable def asK:af aX:=[3,35,36,39,40,41,42,43,54,55,56,66,72,73,79,80,86,87,91,92,98,99,105,106,119,120,126,127,136,137,138,139,147,148,154,155,161,162,168,169,175,176,182,183,189,190,194,195,199,200,204,205,209,210,214,215,221,222,226,227]
end
theorem gK{g:Gl}(h:g.K=KK g.w.params){β:Type}{f:Frag->β}{b:β}(q:∀P,f (KK P)=b:=by intro P;kernel_rfl):f g.K=b:=h▸q _
section
variable{g:Gl}{c:Cx g}
theorem nn{x y:dv}(h:(x==y)=false:=by kernel_rfl):x≠y:=λe=>by subst e;simp at h
theorem na{x:dv}(h:dF.contains x=false:=by kernel_rfl):x∉dF:=λe=>by rw[gp.mpr e] at h;cases h
theorem rm{n m:ah}(hr:c.room=n)(h:m<=n:=by decide):m<=c.room:=hr.symm▸h
theorem cf{E:ux}{sc:kO}{cl:af (dv×aX)}(h:c.env=E)(q:xZ sc E=pure cl:=by kernel_rfl):xZ sc c.env=pure cl:=h▸q
theorem fs{E:ux}{it:PySem.Expr}(h:c.env=E)(q:∀x,i5 it E x=pure x:=by intro x;kernel_rfl):∀x,i5 it c.env x=pure x:=h▸q
theorem swt{E:ux}{e:PySem.Expr}{t:ag PySem.Expr}{n:ah}(h:c.env=E)(q:jt e t n E=pure true:=by kernel_rfl):jt e t n c.env=pure true:=h▸q
theorem ck{E:ux}{x:dv}{o:ag aX}(h:c.env=E)(q:o=E.cells.lookup x):o=c.env.cells.lookup x:=h▸q
theorem de{E:ux}{kx vx iter pB:PySem.Expr}{sc:kO}{pos:iP}(h:c.env=E)(q:eval (.DictComp kx vx [⟨pB,iter,[],0⟩] sc pos) E=comprehension (.DictComp kx vx [⟨pB,iter,[],0⟩] sc pos) sc E (Mv [⟨pB,iter,[],0⟩] pos) newDict false (eval iter E)):
  eval (.DictComp kx vx [⟨pB,iter,[],0⟩] sc pos) c.env=comprehension (.DictComp kx vx [⟨pB,iter,[],0⟩] sc pos) sc c.env (Mv [⟨pB,iter,[],0⟩] pos) newDict false (eval iter c.env):=h▸q
theorem mk{E:ux}{o:PySem.Expr}{name:dv}{apos pos:iP}{es:af PySem.Expr}(h:c.env=E)(q:eval (.Call (.Attribute o name apos) es [] pos) E=(do
   let ov<-eval o E
   g9 apos.atName
   let(f,first)<-holding [ov] (mi ov name (do return(<-importBound o E).getD true))
   fg pos f first (gE pos (dT es E)) []):=by kernel_rfl):eval (.Call (.Attribute o name apos) es [] pos) c.env=(do
   let ov<-eval o c.env
   g9 apos.atName
   let(f,first)<-holding [ov] (mi ov name (do return(<-importBound o E).getD true))
   fg pos f first (gE pos (dT es c.env)) []):=me h q
theorem mb{E:ux}{o:PySem.Expr}{name:dv}{apos pos:iP}{es:af PySem.Expr}(h:c.env=E)(q:eval (.Call (.Attribute o name apos) es [] pos) E=(do
   let ov<-eval o E
   g9 apos.atName
   let(f,first)<-holding [ov] (do pure (<-om ov name true,[]))
   fg pos f first (gE pos (dT es E)) []):=by kernel_rfl):eval (.Call (.Attribute o name apos) es [] pos) c.env=(do
   let ov<-eval o c.env
   g9 apos.atName
   let(f,first)<-holding [ov] (do pure (<-om ov name true,[]))
   fg pos f first (gE pos (dT es c.env)) []):=h▸q
theorem eV{N:af dv}{E:ux}(hN:c.names=N)(hE:c.env=E)(i:ah){x:dv}{p:iP}(h1:N[i]?=aa x:=by rfl)(h2:E.kindOf x=aa .local:=by kernel_rfl)(h3:(x==("__debug__":dv))=false:=by kernel_rfl):dI c (.Name x p) (au i):=ku i (nm hN h1) (kd hE h2) h3
theorem eVc{N:af dv}{E:ux}(hN:c.names=N)(hE:c.env=E)(i:ah){x:dv}{p:iP}(h1:N[i]?=aa x:=by rfl)(h2:E.kindOf x=aa .cell:=by kernel_rfl)(h3:(x==("__debug__":dv))=false:=by kernel_rfl):dI c (.Name x p) (jK i):=tQ i (nm hN h1) (kd hE h2) h3
theorem sA{N:af dv}{E:ux}(hN:c.names=N)(hE:c.env=E)(hc:c.comp=none)(i:ah){x:dv}{e:PySem.Expr}{p p':iP}{f}(he:dI c e f)(h1:N[i]?=aa x:=by rfl)(h2:E.kindOf x=aa .local:=by kernel_rfl)(h3:jt e (aa (.Name x p)) p'.line E=pure false:=by kernel_rfl):oo c (.Assign [.Name x p] e p') (ba i f):=BM i hc (nm hN h1) (kd hE h2) he (sw hE h3)
theorem cB{E:ux}(hE:c.env=E){x:dv}{p pos:iP}{es:af PySem.Expr}{id:Bn}{fs bf}(e:eA g.K aK x=aa none)(hb:gj c (.builtin id) bf)(hA:tW c es fs)(h1:E.kindOf x=aa .globalImplicit:=by kernel_rfl)(h2:yT x=aa (.builtin id):=by kernel_rfl)(h3:(x==("__name__":dv))=false:=by kernel_rfl)(h4:(x==("__debug__":dv))=false:=by kernel_rfl)(h5:gH es=true:=by rfl)
  (h6:eval (.Call (.Name x p) es [] pos) E=(do fg pos (<-eval (.Name x p) E) [] (gE pos (dT es E)) (oG pos (jF [] E))):=by kernel_rfl):dI c (.Call (.Name x p) es [] pos) (cJ bf fs):=MR (kd hE h1) e h2 (nn h3) h4 h5 hb hA (ce hE h6)
end
theorem gB:Bq (.builtin "list.append")=pure (.type "method_descriptor"):=by show oH _=_;rw[iq];kernel_rfl
theorem u7:Bq (.builtin "list.pop")=pure (.type "method_descriptor"):=by show oH _=_;rw[iq];kernel_rfl
theorem yK:Bq (.builtin "list.clear")=pure (.type "method_descriptor"):=by show oH _=_;rw[iq];kernel_rfl
theorem u6:Bq (.builtin "dict.get")=pure (.type "method_descriptor"):=by show oH _=_;rw[iq];kernel_rfl
theorem EL:Bq (.builtin "set.add")=pure (.type "method_descriptor"):=by show oH _=_;rw[iq];kernel_rfl
theorem xN:Bq (.builtin "tuple.index")=pure (.type "method_descriptor"):=by show oH _=_;rw[iq];kernel_rfl
section
variable{g:Gl}(hK:g.K=KK g.w.params)
include hK
theorem th:eA g.K aK (S "CycleError")=aa (aa (.ref 55)):=gK (f:=λK=>eA K aK (S "CycleError")) hK
theorem B9:eA g.K aK (S "ONE_SIXTH")=aa (aa (.float 4595172819793696085 384)):=gK (f:=λK=>eA K aK (S "ONE_SIXTH")) hK
theorem uP:eA g.K aK (S "ONE_THIRD")=aa (aa (.float 4599676419421066581 380)):=gK (f:=λK=>eA K aK (S "ONE_THIRD")) hK
theorem vh:eA g.K aK (S "StopIteration")=aa (none):=gK (f:=λK=>eA K aK (S "StopIteration")) hK
theorem uQ:eA g.K aK (S "TWO_THIRD")=aa (aa (.float 4604180019048437077 388)):=gK (f:=λK=>eA K aK (S "TWO_THIRD")) hK
theorem rG:eA g.K aK (S "TopologicalSorter")=aa (aa (.ref 137)):=gK (f:=λK=>eA K aK (S "TopologicalSorter")) hK
theorem ti:eA g.K aK (S "_NODE_DONE")=aa (aa (.int (-2) 200)):=gK (f:=λK=>eA K aK (S "_NODE_DONE")) hK
theorem uR:eA g.K aK (S "_NODE_OUT")=aa (aa (.int (-1) 197)):=gK (f:=λK=>eA K aK (S "_NODE_OUT")) hK
theorem Ca:eA g.K aK (S "_NodeInfo")=aa (aa (.ref 40)):=gK (f:=λK=>eA K aK (S "_NodeInfo")) hK
theorem rV:eA g.K aK (S "_law_before")=aa (aa (.ref 200)):=gK (f:=λK=>eA K aK (S "_law_before")) hK
theorem qv:eA g.K aK (S "_law_by_the_module")=aa (aa (.ref 215)):=gK (f:=λK=>eA K aK (S "_law_by_the_module")) hK
theorem DZ:eA g.K aK (S "_law_due")=aa (aa (.ref 210)):=gK (f:=λK=>eA K aK (S "_law_due")) hK
theorem Ar:eA g.K aK (S "_law_sheet")=aa (aa (.ref 195)):=gK (f:=λK=>eA K aK (S "_law_sheet")) hK
theorem As:eA g.K aK (S "_law_whole")=aa (aa (.ref 205)):=gK (f:=λK=>eA K aK (S "_law_whole")) hK
theorem yv:eA g.K aK (S "_law_worked")=aa (aa (.ref 222)):=gK (f:=λK=>eA K aK (S "_law_worked")) hK
theorem SN:eA g.K aK (S "_v")=aa (aa (.ref 176)):=gK (f:=λK=>eA K aK (S "_v")) hK
theorem g_bool:eA g.K aK (S "bool")=aa (none):=gK (f:=λK=>eA K aK (S "bool")) hK
theorem Au:eA g.K aK (S "hls_to_rgb")=aa (aa (.ref 169)):=gK (f:=λK=>eA K aK (S "hls_to_rgb")) hK
theorem Av:eA g.K aK (S "hsv_to_rgb")=aa (aa (.ref 190)):=gK (f:=λK=>eA K aK (S "hsv_to_rgb")) hK
theorem Qu:eA g.K aK (S "int")=aa (none):=gK (f:=λK=>eA K aK (S "int")) hK
theorem SO:eA g.K aK (S "iter")=aa (none):=gK (f:=λK=>eA K aK (S "iter")) hK
theorem pj:eA g.K aK (S "len")=aa (none):=gK (f:=λK=>eA K aK (S "len")) hK
theorem w9:eA g.K aK (S "max")=aa (none):=gK (f:=λK=>eA K aK (S "max")) hK
theorem Cb:eA g.K aK (S "min")=aa (none):=gK (f:=λK=>eA K aK (S "min")) hK
theorem ri:eA g.K aK (S "range")=aa (none):=gK (f:=λK=>eA K aK (S "range")) hK
theorem Aw:eA g.K aK (S "rgb_to_hls")=aa (aa (.ref 162)):=gK (f:=λK=>eA K aK (S "rgb_to_hls")) hK
theorem Ax:eA g.K aK (S "rgb_to_hsv")=aa (aa (.ref 183)):=gK (f:=λK=>eA K aK (S "rgb_to_hsv")) hK
theorem Ay:eA g.K aK (S "rgb_to_yiq")=aa (aa (.ref 148)):=gK (f:=λK=>eA K aK (S "rgb_to_yiq")) hK
theorem Xa:eA g.K aK (S "set")=aa (none):=gK (f:=λK=>eA K aK (S "set")) hK
theorem JM:eA g.K aK (S "sorted")=aa (none):=gK (f:=λK=>eA K aK (S "sorted")) hK
theorem Xb:eA g.K aK (S "sum")=aa (none):=gK (f:=λK=>eA K aK (S "sum")) hK
theorem FW:eA g.K aK (S "tuple")=aa (none):=gK (f:=λK=>eA K aK (S "tuple")) hK
theorem Az:eA g.K aK (S "yiq_to_rgb")=aa (aa (.ref 155)):=gK (f:=λK=>eA K aK (S "yiq_to_rgb")) hK
theorem Qv:eA g.K aK (S "zip")=aa (none):=gK (f:=λK=>eA K aK (S "zip")) hK
theorem iC:uH g (S "_node2info"):=⟨gK (f:=λK=>iF K 137 (S "_node2info")) hK,gK (f:=λK=>pG K 137) hK,⟨none,gK (f:=λK=>gJ K (.ref 137) (S "_node2info")) hK,gK (f:=λK=>noGet K none) hK⟩,
 gK (f:=λK=>gJ K (.ref 137) "__setattr__") hK,gK (f:=λK=>nX K 137) hK,gK (f:=λK=>sJ K 137 (S "_node2info")) hK⟩
theorem dX:uH g (S "_ready_nodes"):=⟨gK (f:=λK=>iF K 137 (S "_ready_nodes")) hK,gK (f:=λK=>pG K 137) hK,⟨none,gK (f:=λK=>gJ K (.ref 137) (S "_ready_nodes")) hK,gK (f:=λK=>noGet K none) hK⟩,
 gK (f:=λK=>gJ K (.ref 137) "__setattr__") hK,gK (f:=λK=>nX K 137) hK,gK (f:=λK=>sJ K 137 (S "_ready_nodes")) hK⟩
theorem md:uH g (S "_npassedout"):=⟨gK (f:=λK=>iF K 137 (S "_npassedout")) hK,gK (f:=λK=>pG K 137) hK,⟨none,gK (f:=λK=>gJ K (.ref 137) (S "_npassedout")) hK,gK (f:=λK=>noGet K none) hK⟩,
 gK (f:=λK=>gJ K (.ref 137) "__setattr__") hK,gK (f:=λK=>nX K 137) hK,gK (f:=λK=>sJ K 137 (S "_npassedout")) hK⟩
theorem mX:uH g (S "_nfinished"):=⟨gK (f:=λK=>iF K 137 (S "_nfinished")) hK,gK (f:=λK=>pG K 137) hK,⟨none,gK (f:=λK=>gJ K (.ref 137) (S "_nfinished")) hK,gK (f:=λK=>noGet K none) hK⟩,
 gK (f:=λK=>gJ K (.ref 137) "__setattr__") hK,gK (f:=λK=>nX K 137) hK,gK (f:=λK=>sJ K 137 (S "_nfinished")) hK⟩
theorem ks_node:wo g (S "node") 41 0:=⟨gK (f:=λK=>iF K 40 (S "node")) hK,gK (f:=λK=>Ws K 40) hK,gK (f:=λK=>gJ K (.ref 40) (S "node")) hK,gK (f:=λK=>rR K (.ref 41) "__get__") hK,
 gK (f:=λK=>yW K (.ref 41)) hK,gK (f:=λK=>slotIn K 41 40) hK,gK (f:=λK=>gJ K (.ref 40) "__setattr__") hK,gK (f:=λK=>nX K 40) hK,gK (f:=λK=>sJ K 40 (S "node")) hK,gK (f:=λK=>typeIn K (.ref 41)) hK⟩
theorem dY:wo g (S "npredecessors") 42 1:=⟨gK (f:=λK=>iF K 40 (S "npredecessors")) hK,gK (f:=λK=>Ws K 40) hK,gK (f:=λK=>gJ K (.ref 40) (S "npredecessors")) hK,gK (f:=λK=>rR K (.ref 42) "__get__") hK,
 gK (f:=λK=>yW K (.ref 42)) hK,gK (f:=λK=>slotIn K 42 40) hK,gK (f:=λK=>gJ K (.ref 40) "__setattr__") hK,gK (f:=λK=>nX K 40) hK,gK (f:=λK=>sJ K 40 (S "npredecessors")) hK,gK (f:=λK=>typeIn K (.ref 42)) hK⟩
theorem mf:wo g (S "successors") 43 2:=⟨gK (f:=λK=>iF K 40 (S "successors")) hK,gK (f:=λK=>Ws K 40) hK,gK (f:=λK=>gJ K (.ref 40) (S "successors")) hK,gK (f:=λK=>rR K (.ref 43) "__get__") hK,
 gK (f:=λK=>yW K (.ref 43)) hK,gK (f:=λK=>slotIn K 43 40) hK,gK (f:=λK=>gJ K (.ref 40) "__setattr__") hK,gK (f:=λK=>nX K 40) hK,gK (f:=λK=>sJ K 40 (S "successors")) hK,gK (f:=λK=>typeIn K (.ref 43)) hK⟩
theorem Of:g.K.lookup 36=aa ⟨.type "function",none,.func (lD (S "__init__") (S "_NodeInfo.__init__") (mt 4 1).1 (mt 4 1).2.1 (mt 4 1).2.2 .none .none .none (.str (S "cpy313.graphlib") 194) none (.ref 35) .none),#[]⟩:=gK (f:=λK=>K.lookup 36) hK
theorem Co:dN g.K (.ref 35) (S "_NodeInfo.__init__")=true:=gK (f:=λK=>dN K (.ref 35) (S "_NodeInfo.__init__")) hK
theorem Oh:g.K.lookup 73=aa ⟨.type "function",none,.func (lD (S "__init__") (S "TopologicalSorter.__init__") (mt 6 0).1 (mt 6 0).2.1 (mt 6 0).2.2 (.ref 66) .none .none (.str (S "cpy313.graphlib") 194) none (.ref 72) .none),#[]⟩:=gK (f:=λK=>K.lookup 73) hK
theorem Cq:dN g.K (.ref 72) (S "TopologicalSorter.__init__")=true:=gK (f:=λK=>dN K (.ref 72) (S "TopologicalSorter.__init__")) hK
theorem Od:g.K.lookup 80=aa ⟨.type "function",none,.func (lD (S "_get_nodeinfo") (S "TopologicalSorter._get_nodeinfo") (mt 6 1).1 (mt 6 1).2.1 (mt 6 1).2.2 .none .none .none (.str (S "cpy313.graphlib") 194) none (.ref 79) .none),#[]⟩:=gK (f:=λK=>K.lookup 80) hK
theorem Cm:dN g.K (.ref 79) (S "TopologicalSorter._get_nodeinfo")=true:=gK (f:=λK=>dN K (.ref 79) (S "TopologicalSorter._get_nodeinfo")) hK
theorem Ct:KMeth g (S "_get_nodeinfo") 80:=⟨gK (f:=λK=>iF K 137 (S "_get_nodeinfo")) hK,gK (f:=λK=>gJ K (.ref 137) (S "_get_nodeinfo")) hK,gK (f:=λK=>isFn K (.ref 80)) hK,gK (f:=λK=>eI K (.ref 80)) hK⟩
theorem Yb:g.K.lookup 87=aa ⟨.type "function",none,.func (lD (S "add") (S "TopologicalSorter.add") (mt 6 2).1 (mt 6 2).2.1 (mt 6 2).2.2 .none .none .none (.str (S "cpy313.graphlib") 194) none (.ref 86) .none),#[]⟩:=gK (f:=λK=>K.lookup 87) hK
theorem Hw:dN g.K (.ref 86) (S "TopologicalSorter.add")=true:=gK (f:=λK=>dN K (.ref 86) (S "TopologicalSorter.add")) hK
theorem Kq:KMeth g (S "add") 87:=⟨gK (f:=λK=>iF K 137 (S "add")) hK,gK (f:=λK=>gJ K (.ref 137) (S "add")) hK,gK (f:=λK=>isFn K (.ref 87)) hK,gK (f:=λK=>eI K (.ref 87)) hK⟩
theorem Km:Dq g (S "add") 87:=⟨gK (f:=λK=>pG K 137) hK,gK (f:=λK=>rR K (.ref 87) "__get__") hK,gK (f:=λK=>yW K (.ref 87)) hK,∅,gK (f:=λK=>fnIn K 87) hK⟩
theorem Kk:g.K.lookup 92=aa ⟨.type "function",none,.func (lD (S "prepare") (S "TopologicalSorter.prepare") (mt 6 3).1 (mt 6 3).2.1 (mt 6 3).2.2 .none .none .none (.str (S "cpy313.graphlib") 194) none (.ref 91) .none),#[]⟩:=gK (f:=λK=>K.lookup 92) hK
theorem xj:dN g.K (.ref 91) (S "TopologicalSorter.prepare")=true:=gK (f:=λK=>dN K (.ref 91) (S "TopologicalSorter.prepare")) hK
theorem Ol:KMeth g (S "prepare") 92:=⟨gK (f:=λK=>iF K 137 (S "prepare")) hK,gK (f:=λK=>gJ K (.ref 137) (S "prepare")) hK,gK (f:=λK=>isFn K (.ref 92)) hK,gK (f:=λK=>eI K (.ref 92)) hK⟩
theorem Kj:g.K.lookup 99=aa ⟨.type "function",none,.func (lD (S "get_ready") (S "TopologicalSorter.get_ready") (mt 6 4).1 (mt 6 4).2.1 (mt 6 4).2.2 .none .none .none (.str (S "cpy313.graphlib") 194) none (.ref 98) .none),#[]⟩:=gK (f:=λK=>K.lookup 99) hK
theorem AH:dN g.K (.ref 98) (S "TopologicalSorter.get_ready")=true:=gK (f:=λK=>dN K (.ref 98) (S "TopologicalSorter.get_ready")) hK
theorem zC:KMeth g (S "get_ready") 99:=⟨gK (f:=λK=>iF K 137 (S "get_ready")) hK,gK (f:=λK=>gJ K (.ref 137) (S "get_ready")) hK,gK (f:=λK=>isFn K (.ref 99)) hK,gK (f:=λK=>eI K (.ref 99)) hK⟩
theorem Oe:g.K.lookup 106=aa ⟨.type "function",none,.func (lD (S "is_active") (S "TopologicalSorter.is_active") (mt 6 5).1 (mt 6 5).2.1 (mt 6 5).2.2 .none .none .none (.str (S "cpy313.graphlib") 194) none (.ref 105) .none),#[]⟩:=gK (f:=λK=>K.lookup 106) hK
theorem Cn:dN g.K (.ref 105) (S "TopologicalSorter.is_active")=true:=gK (f:=λK=>dN K (.ref 105) (S "TopologicalSorter.is_active")) hK
theorem Kr:KMeth g (S "is_active") 106:=⟨gK (f:=λK=>iF K 137 (S "is_active")) hK,gK (f:=λK=>gJ K (.ref 137) (S "is_active")) hK,gK (f:=λK=>isFn K (.ref 106)) hK,gK (f:=λK=>eI K (.ref 106)) hK⟩
theorem TQ:g.K.lookup 120=aa ⟨.type "function",none,.func (lD (S "done") (S "TopologicalSorter.done") (mt 6 7).1 (mt 6 7).2.1 (mt 6 7).2.2 .none .none .none (.str (S "cpy313.graphlib") 194) none (.ref 119) .none),#[]⟩:=gK (f:=λK=>K.lookup 120) hK
theorem Ec:dN g.K (.ref 119) (S "TopologicalSorter.done")=true:=gK (f:=λK=>dN K (.ref 119) (S "TopologicalSorter.done")) hK
theorem Oj:KMeth g (S "done") 120:=⟨gK (f:=λK=>iF K 137 (S "done")) hK,gK (f:=λK=>gJ K (.ref 137) (S "done")) hK,gK (f:=λK=>isFn K (.ref 120)) hK,gK (f:=λK=>eI K (.ref 120)) hK⟩
theorem Oi:Dq g (S "done") 120:=⟨gK (f:=λK=>pG K 137) hK,gK (f:=λK=>rR K (.ref 120) "__get__") hK,gK (f:=λK=>yW K (.ref 120)) hK,∅,gK (f:=λK=>fnIn K 120) hK⟩
theorem Oc:g.K.lookup 127=aa ⟨.type "function",none,.func (lD (S "_find_cycle") (S "TopologicalSorter._find_cycle") (mt 6 8).1 (mt 6 8).2.1 (mt 6 8).2.2 .none .none .none (.str (S "cpy313.graphlib") 194) none (.ref 126) .none),#[]⟩:=gK (f:=λK=>K.lookup 127) hK
theorem Ck:dN g.K (.ref 126) (S "TopologicalSorter._find_cycle")=true:=gK (f:=λK=>dN K (.ref 126) (S "TopologicalSorter._find_cycle")) hK
theorem Cs:KMeth g (S "_find_cycle") 127:=⟨gK (f:=λK=>iF K 137 (S "_find_cycle")) hK,gK (f:=λK=>gJ K (.ref 137) (S "_find_cycle")) hK,gK (f:=λK=>isFn K (.ref 127)) hK,gK (f:=λK=>eI K (.ref 127)) hK⟩
theorem Yj:g.K.lookup 148=aa ⟨.type "function",none,.func (lD (S "rgb_to_yiq") (S "rgb_to_yiq") (tp 11).1 (tp 11).2.1 (tp 11).2.2 .none .none .none (.str (S "cpy313.colorsys") 376) none (.ref 147) .none),#[]⟩:=gK (f:=λK=>K.lookup 148) hK
theorem HE:dN g.K (.ref 147) (S "rgb_to_yiq")=true:=gK (f:=λK=>dN K (.ref 147) (S "rgb_to_yiq")) hK
theorem T7:eI g.K (.ref 148)=true:=gK (f:=λK=>eI K (.ref 148)) hK
theorem Yk:g.K.lookup 155=aa ⟨.type "function",none,.func (lD (S "yiq_to_rgb") (S "yiq_to_rgb") (tp 12).1 (tp 12).2.1 (tp 12).2.2 .none .none .none (.str (S "cpy313.colorsys") 376) none (.ref 154) .none),#[]⟩:=gK (f:=λK=>K.lookup 155) hK
theorem HF:dN g.K (.ref 154) (S "yiq_to_rgb")=true:=gK (f:=λK=>dN K (.ref 154) (S "yiq_to_rgb")) hK
theorem T8:eI g.K (.ref 155)=true:=gK (f:=λK=>eI K (.ref 155)) hK
theorem Yi:g.K.lookup 162=aa ⟨.type "function",none,.func (lD (S "rgb_to_hls") (S "rgb_to_hls") (tp 13).1 (tp 13).2.1 (tp 13).2.2 .none .none .none (.str (S "cpy313.colorsys") 376) none (.ref 161) .none),#[]⟩:=gK (f:=λK=>K.lookup 162) hK
theorem HD:dN g.K (.ref 161) (S "rgb_to_hls")=true:=gK (f:=λK=>dN K (.ref 161) (S "rgb_to_hls")) hK
theorem T6:eI g.K (.ref 162)=true:=gK (f:=λK=>eI K (.ref 162)) hK
theorem Yf:g.K.lookup 169=aa ⟨.type "function",none,.func (lD (S "hls_to_rgb") (S "hls_to_rgb") (tp 14).1 (tp 14).2.1 (tp 14).2.2 .none .none .none (.str (S "cpy313.colorsys") 376) none (.ref 168) .none),#[]⟩:=gK (f:=λK=>K.lookup 169) hK
theorem HA:dN g.K (.ref 168) (S "hls_to_rgb")=true:=gK (f:=λK=>dN K (.ref 168) (S "hls_to_rgb")) hK
theorem TY:eI g.K (.ref 169)=true:=gK (f:=λK=>eI K (.ref 169)) hK
theorem ahh:g.K.lookup 176=aa ⟨.type "function",none,.func (lD (S "_v") (S "_v") (tp 15).1 (tp 15).2.1 (tp 15).2.2 .none .none .none (.str (S "cpy313.colorsys") 376) none (.ref 175) .none),#[]⟩:=gK (f:=λK=>K.lookup 176) hK
theorem Kn:dN g.K (.ref 175) (S "_v")=true:=gK (f:=λK=>dN K (.ref 175) (S "_v")) hK
theorem Kt:eI g.K (.ref 176)=true:=gK (f:=λK=>eI K (.ref 176)) hK
theorem Yh:g.K.lookup 183=aa ⟨.type "function",none,.func (lD (S "rgb_to_hsv") (S "rgb_to_hsv") (tp 16).1 (tp 16).2.1 (tp 16).2.2 .none .none .none (.str (S "cpy313.colorsys") 376) none (.ref 182) .none),#[]⟩:=gK (f:=λK=>K.lookup 183) hK
theorem HC:dN g.K (.ref 182) (S "rgb_to_hsv")=true:=gK (f:=λK=>dN K (.ref 182) (S "rgb_to_hsv")) hK
theorem TZ:eI g.K (.ref 183)=true:=gK (f:=λK=>eI K (.ref 183)) hK
theorem Ye:g.K.lookup 190=aa ⟨.type "function",none,.func (lD (S "hsv_to_rgb") (S "hsv_to_rgb") (tp 17).1 (tp 17).2.1 (tp 17).2.2 .none .none .none (.str (S "cpy313.colorsys") 376) none (.ref 189) .none),#[]⟩:=gK (f:=λK=>K.lookup 190) hK
theorem Hz:dN g.K (.ref 189) (S "hsv_to_rgb")=true:=gK (f:=λK=>dN K (.ref 189) (S "hsv_to_rgb")) hK
theorem TX:eI g.K (.ref 190)=true:=gK (f:=λK=>eI K (.ref 190)) hK
theorem Og:g.K.lookup 195=aa ⟨.type "function",none,.func (lD (S "_law_sheet") (S "_law_sheet") (tp 19).1 (tp 19).2.1 (tp 19).2.2 .none .none .none (.str (S "law_mj0284_01") 485) none (.ref 194) .none),#[]⟩:=gK (f:=λK=>K.lookup 195) hK
theorem Cp:dN g.K (.ref 194) (S "_law_sheet")=true:=gK (f:=λK=>dN K (.ref 194) (S "_law_sheet")) hK
theorem Ks:eI g.K (.ref 195)=true:=gK (f:=λK=>eI K (.ref 195)) hK
theorem Ki:g.K.lookup 200=aa ⟨.type "function",none,.func (lD (S "_law_before") (S "_law_before") (tp 20).1 (tp 20).2.1 (tp 20).2.2 .none .none .none (.str (S "law_mj0284_01") 485) none (.ref 199) .none),#[]⟩:=gK (f:=λK=>K.lookup 200) hK
theorem AG:dN g.K (.ref 199) (S "_law_before")=true:=gK (f:=λK=>dN K (.ref 199) (S "_law_before")) hK
theorem zD:eI g.K (.ref 200)=true:=gK (f:=λK=>eI K (.ref 200)) hK
theorem k_whole:g.K.lookup 205=aa ⟨.type "function",none,.func (lD (S "_law_whole") (S "_law_whole") (tp 21).1 (tp 21).2.1 (tp 21).2.2 .none .none .none (.str (S "law_mj0284_01") 485) none (.ref 204) .none),#[]⟩:=gK (f:=λK=>K.lookup 205) hK
theorem Cr:dN g.K (.ref 204) (S "_law_whole")=true:=gK (f:=λK=>dN K (.ref 204) (S "_law_whole")) hK
theorem Ku:eI g.K (.ref 205)=true:=gK (f:=λK=>eI K (.ref 205)) hK
theorem Yd:g.K.lookup 210=aa ⟨.type "function",none,.func (lD (S "_law_due") (S "_law_due") (tp 22).1 (tp 22).2.1 (tp 22).2.2 .none .none .none (.str (S "law_mj0284_01") 485) none (.ref 209) .none),#[]⟩:=gK (f:=λK=>K.lookup 210) hK
theorem Hy:dN g.K (.ref 209) (S "_law_due")=true:=gK (f:=λK=>dN K (.ref 209) (S "_law_due")) hK
theorem TV:eI g.K (.ref 210)=true:=gK (f:=λK=>eI K (.ref 210)) hK
theorem Yc:g.K.lookup 215=aa ⟨.type "function",none,.func (lD (S "_law_by_the_module") (S "_law_by_the_module") (tp 23).1 (tp 23).2.1 (tp 23).2.2 .none .none .none (.str (S "law_mj0284_01") 485) none (.ref 214) .none),#[]⟩:=gK (f:=λK=>K.lookup 215) hK
theorem Hx:dN g.K (.ref 214) (S "_law_by_the_module")=true:=gK (f:=λK=>dN K (.ref 214) (S "_law_by_the_module")) hK
theorem TU:eI g.K (.ref 215)=true:=gK (f:=λK=>eI K (.ref 215)) hK
theorem Kl:g.K.lookup 222=aa ⟨.type "function",none,.func (lD (S "_law_worked") (S "_law_worked") (tp 24).1 (tp 24).2.1 (tp 24).2.2 .none .none .none (.str (S "law_mj0284_01") 485) none (.ref 221) .none),#[]⟩:=gK (f:=λK=>K.lookup 222) hK
theorem AI:dN g.K (.ref 221) (S "_law_worked")=true:=gK (f:=λK=>dN K (.ref 221) (S "_law_worked")) hK
theorem HG:eI g.K (.ref 222)=true:=gK (f:=λK=>eI K (.ref 222)) hK
theorem Yg:g.K.lookup 227=aa ⟨.type "function",none,.func (lD (S "law") (S "law") (tp 25).1 (tp 25).2.1 (tp 25).2.2 .none .none .none (.str (S "law_mj0284_01") 485) none (.ref 226) .none),#[]⟩:=gK (f:=λK=>K.lookup 227) hK
theorem HB:dN g.K (.ref 226) (S "law")=true:=gK (f:=λK=>dN K (.ref 226) (S "law")) hK
theorem AJ:eI g.K (.ref 40)=true:=gK (f:=λK=>eI K (.ref 40)) hK
theorem AF:KCls g 40 36:=⟨gK (f:=λK=>makesIn K 40) hK,gK (f:=λK=>gJ K (.ref 40) "__init__") hK,gK (f:=λK=>isFn K (.ref 36)) hK⟩
theorem qC:eI g.K (.ref 137)=true:=gK (f:=λK=>eI K (.ref 137)) hK
theorem qB:KCls g 137 73:=⟨gK (f:=λK=>makesIn K 137) hK,gK (f:=λK=>gJ K (.ref 137) "__init__") hK,gK (f:=λK=>isFn K (.ref 73)) hK⟩
theorem yx:ktsIn g.K 55 "BaseException"=true:=gK (f:=λK=>ktsIn K 55 "BaseException") hK
theorem yz:excIn g.K 55 [.type "ValueError",.type "Exception",.type "BaseException",.type "object"] "ValueError.__new__"=true:=gK (f:=λK=>excIn K 55 [.type "ValueError",.type "Exception",.type "BaseException",.type "object"] "ValueError.__new__") hK
end
noncomputable abbrev WD:af dv:=[S "m1",S "m2",S "hue"]
noncomputable def RG(sns:af aE):St->ag (MF×St):=
 aO (ba 2 (bU (bS .Mod) (au 2) (eK (.bO 4607182418800017408))))
 (aO (je (dp (cS .Lt) (au 2) (eK (.bO 4595172819793696085))) (aO (gA (bU (bS .Add) (au 0) (bU (bS .Mult) (bU (bS .Mult) (bU (bS .Sub) (au 1) (au 0)) (au 2)) (eK (.bO 4618441417868443648)))))
 bF) bF)
 (aO (je (dp (cS .Lt) (au 2) (eK (.bO 4602678819172646912))) (aO (gA (au 1))
 bF) bF)
 (aO (je (dp (cS .Lt) (au 2) (eK (.bO 4604180019048437077))) (aO (gA (bU (bS .Add) (au 0) (bU (bS .Mult) (bU (bS .Mult) (bU (bS .Sub) (au 1) (au 0)) (bU (bS .Sub) (eK (.bO 4604180019048437077)) (au 2))) (eK (.bO 4618441417868443648)))))
 bF) bF)
 (aO (gA (au 0))
 bF))))
theorem aoS{g:Gl}(hK:g.K=KK g.w.params){c:Cx g}(hc:c.comp=none)(hh:c.A.handled=none)(hr:c.room=10)(hN:c.names=WD)(hF:c.gL=c.env)(hE:c.env=jm (S "_v") (tp 15).2.2 c.L 176 (.ref 175) []):ja c (tp 15).2.1 (RG g.sns):=by
 have v:=@eV _ _ _ _ hN hE;have z:=@sA _ _ _ _ hN hE hc;exact az (z 2 (br (bu .Mod) (v 2) dW))
  (az (fZ (dM (dU .Lt) (v 2) (sS (kd hE) (B9 hK) ())) (az (gk (br (bu .Add) (v 0) (br (bu .Mult) (br (bu .Mult) (br (bu .Sub) (v 1) (v 0)) (v 2)) dW)))
  bz) bz)
  (az (fZ (dM (dU .Lt) (v 2) dW) (az (gk (v 1))
  bz) bz)
  (az (fZ (dM (dU .Lt) (v 2) (sS (kd hE) (uQ hK) ())) (az (gk (br (bu .Add) (v 0) (br (bu .Mult) (br (bu .Mult) (br (bu .Sub) (v 1) (v 0)) (br (bu .Sub) (sS (kd hE) (uQ hK) ()) (v 2))) dW)))
  bz) bz)
  (az (gk (v 0))
  bz))))
noncomputable def Dx(sns:af aE):=mZ 3 (RG sns)
theorem JK{g:Gl}(hK:g.K=KK g.w.params):gy g 11 176 (Dx g.sns):=gy.of 10 3 WD [S "m1",S "m2",S "hue"] (ahh hK) (Kn hK) rfl ∅ rfl (λ_ _ vs X h=>by obtain⟨a,b,d,rfl⟩:=Cv h;exact dr ()) ∅ ∅ rfl rfl rfl λc hc hh hr hN hF hE=>aoS hK hc hh hr hN hF hE
noncomputable abbrev Qh:af dv:=[S "r",S "g",S "b",S "y",S "i",S "q"]
noncomputable def IW(sns:af aE):St->ag (MF×St):=
 aO (ba 3 (bU (bS .Add) (bU (bS .Add) (bU (bS .Mult) (eK (.bO 4599075939470750515)) (au 0)) (bU (bS .Mult) (eK (.bO 4603489467105573601)) (au 1))) (bU (bS .Mult) (eK (.bO 4592590756007337001)) (au 2))))
 (aO (ba 4 (bU (bS .Sub) (bU (bS .Mult) (eK (.bO 4604840546993784750)) (bU (bS .Sub) (au 0) (au 3))) (bU (bS .Mult) (eK (.bO 4598535507515466056)) (bU (bS .Sub) (au 2) (au 3)))))
 (aO (ba 5 (bU (bS .Add) (bU (bS .Mult) (eK (.bO 4602318531202457272)) (bU (bS .Sub) (au 0) (au 3))) (bU (bS .Mult) (eK (.bO 4601057523306793533)) (bU (bS .Sub) (au 2) (au 3)))))
 (aO (gA (jz (aJ (au 3) (aJ (au 4) (aJ (au 5) bG)))))
 bF)))
theorem ae7{g:Gl}(hK:g.K=KK g.w.params){c:Cx g}(hc:c.comp=none)(hh:c.A.handled=none)(hr:c.room=10)(hN:c.names=Qh)(hF:c.gL=c.env)(hE:c.env=jm (S "rgb_to_yiq") (tp 11).2.2 c.L 148 (.ref 147) []):ja c (tp 11).2.1 (IW g.sns):=by
 have v:=@eV _ _ _ _ hN hE;have z:=@sA _ _ _ _ hN hE hc;exact az (z 3 (br (bu .Add) (br (bu .Add) (br (bu .Mult) dW (v 0)) (br (bu .Mult) dW (v 1))) (br (bu .Mult) dW (v 2))))
  (az (z 4 (br (bu .Sub) (br (bu .Mult) dW (br (bu .Sub) (v 0) (v 3))) (br (bu .Mult) dW (br (bu .Sub) (v 2) (v 3)))))
  (az (z 5 (br (bu .Add) (br (bu .Mult) dW (br (bu .Sub) (v 0) (v 3))) (br (bu .Mult) dW (br (bu .Sub) (v 2) (v 3)))))
  (az (gk (ks (aN (v 3) (aN (v 4) (aN (v 5) cm)))))
  bz)))
noncomputable def BJ(sns:af aE):=mZ 3 (IW sns)
theorem SK{g:Gl}(hK:g.K=KK g.w.params):gy g 11 148 (BJ g.sns):=gy.of 10 3 Qh [S "r",S "g",S "b"] (Yj hK) (HE hK) rfl ∅ rfl (λ_ _ vs X h=>by obtain⟨a,b,d,rfl⟩:=Cv h;exact dr ()) ∅ ∅ rfl rfl rfl λc hc hh hr hN hF hE=>ae7 hK hc hh hr hN hF hE
noncomputable abbrev Qi:af dv:=[S "y",S "i",S "q",S "r",S "g",S "b"]
noncomputable def IX(sns:af aE):St->ag (MF×St):=
 aO (ba 3 (bU (bS .Add) (bU (bS .Add) (au 0) (bU (bS .Mult) (eK (.bO 4606703976345377586)) (au 1))) (bU (bS .Mult) (eK (.bO 4603791717925830846)) (au 2))))
 (aO (ba 4 (bU (bS .Sub) (bU (bS .Sub) (au 0) (bU (bS .Mult) (eK (.bO 4598621754083818298)) (au 1))) (bU (bS .Mult) (eK (.bO 4603901015759978483)) (au 2))))
 (aO (ba 5 (bU (bS .Add) (bU (bS .Sub) (au 0) (bU (bS .Mult) (eK (.bO 4607671262177584182)) (au 1))) (bU (bS .Mult) (eK (.bO 4610375502138591871)) (au 2))))
 (aO (je (dp (cS .Lt) (au 3) (eK (.bO 0))) (aO (ba 3 (eK (.bO 0)))
 bF) bF)
 (aO (je (dp (cS .Lt) (au 4) (eK (.bO 0))) (aO (ba 4 (eK (.bO 0)))
 bF) bF)
 (aO (je (dp (cS .Lt) (au 5) (eK (.bO 0))) (aO (ba 5 (eK (.bO 0)))
 bF) bF)
 (aO (je (dp (cS .Gt) (au 3) (eK (.bO 4607182418800017408))) (aO (ba 3 (eK (.bO 4607182418800017408)))
 bF) bF)
 (aO (je (dp (cS .Gt) (au 4) (eK (.bO 4607182418800017408))) (aO (ba 4 (eK (.bO 4607182418800017408)))
 bF) bF)
 (aO (je (dp (cS .Gt) (au 5) (eK (.bO 4607182418800017408))) (aO (ba 5 (eK (.bO 4607182418800017408)))
 bF) bF)
 (aO (gA (jz (aJ (au 3) (aJ (au 4) (aJ (au 5) bG)))))
 bF)))))))))
theorem ae8{g:Gl}(hK:g.K=KK g.w.params){c:Cx g}(hc:c.comp=none)(hh:c.A.handled=none)(hr:c.room=10)(hN:c.names=Qi)(hF:c.gL=c.env)(hE:c.env=jm (S "yiq_to_rgb") (tp 12).2.2 c.L 155 (.ref 154) []):ja c (tp 12).2.1 (IX g.sns):=by
 have v:=@eV _ _ _ _ hN hE;have z:=@sA _ _ _ _ hN hE hc;exact az (z 3 (br (bu .Add) (br (bu .Add) (v 0) (br (bu .Mult) dW (v 1))) (br (bu .Mult) dW (v 2))))
  (az (z 4 (br (bu .Sub) (br (bu .Sub) (v 0) (br (bu .Mult) dW (v 1))) (br (bu .Mult) dW (v 2))))
  (az (z 5 (br (bu .Add) (br (bu .Sub) (v 0) (br (bu .Mult) dW (v 1))) (br (bu .Mult) dW (v 2))))
  (az (fZ (dM (dU .Lt) (v 3) dW) (az (z 3 dW)
  bz) bz)
  (az (fZ (dM (dU .Lt) (v 4) dW) (az (z 4 dW)
  bz) bz)
  (az (fZ (dM (dU .Lt) (v 5) dW) (az (z 5 dW)
  bz) bz)
  (az (fZ (dM (dU .Gt) (v 3) dW) (az (z 3 dW)
  bz) bz)
  (az (fZ (dM (dU .Gt) (v 4) dW) (az (z 4 dW)
  bz) bz)
  (az (fZ (dM (dU .Gt) (v 5) dW) (az (z 5 dW)
  bz) bz)
  (az (gk (ks (aN (v 3) (aN (v 4) (aN (v 5) cm)))))
  bz)))))))))
noncomputable def BK(sns:af aE):=mZ 3 (IX sns)
theorem SM{g:Gl}(hK:g.K=KK g.w.params):gy g 11 155 (BK g.sns):=gy.of 10 3 Qi [S "y",S "i",S "q"] (Yk hK) (HF hK) rfl ∅ rfl (λ_ _ vs X h=>by obtain⟨a,b,d,rfl⟩:=Cv h;exact dr ()) ∅ ∅ rfl rfl rfl λc hc hh hr hN hF hE=>ae8 hK hc hh hr hN hF hE
noncomputable abbrev Qg:af dv:=[S "r",S "g",S "b",S "maxc",S "minc",S "sumc",S "rangec",S "l",S "s",S "rc",S "gc",S "bc",S "h"]
noncomputable def BA(sns:af aE):St->ag (MF×St):=
 aO (ba 3 (cJ (iG .Gt) (aJ (au 0) (aJ (au 1) (aJ (au 2) bG)))))
 (aO (ba 4 (cJ (iG .Lt) (aJ (au 0) (aJ (au 1) (aJ (au 2) bG)))))
 (aO (ba 5 (bU (bS .Add) (au 3) (au 4)))
 (aO (ba 6 (bU (bS .Sub) (au 3) (au 4)))
 (aO (ba 7 (bU (bS .Div) (au 5) (eK (.bO 4611686018427387904))))
 (aO (je (dp (cS .Eq) (au 4) (au 3)) (aO (gA (jz (aJ (eK (.bO 0)) (aJ (au 7) (aJ (eK (.bO 0)) bG)))))
 bF) bF)
 (aO (je (dp (cS .LtE) (au 7) (eK (.bO 4602678819172646912))) (aO (ba 8 (bU (bS .Div) (au 6) (au 5)))
 bF) (aO (ba 8 (bU (bS .Div) (au 6) (bU (bS .Sub) (bU (bS .Sub) (eK (.bO 4611686018427387904)) (au 3)) (au 4))))
 bF))
 (aO (ba 9 (bU (bS .Div) (bU (bS .Sub) (au 3) (au 0)) (au 6)))
 (aO (ba 10 (bU (bS .Div) (bU (bS .Sub) (au 3) (au 1)) (au 6)))
 (aO (ba 11 (bU (bS .Div) (bU (bS .Sub) (au 3) (au 2)) (au 6)))
 (aO (je (dp (cS .Eq) (au 0) (au 3)) (aO (ba 12 (bU (bS .Sub) (au 11) (au 10)))
 bF) (aO (je (dp (cS .Eq) (au 1) (au 3)) (aO (ba 12 (bU (bS .Sub) (bU (bS .Add) (eK (.bO 4611686018427387904)) (au 9)) (au 11)))
 bF) (aO (ba 12 (bU (bS .Sub) (bU (bS .Add) (eK (.bO 4616189618054758400)) (au 10)) (au 9)))
 bF))
 bF))
 (aO (ba 12 (bU (bS .Mod) (bU (bS .Div) (au 12) (eK (.bO 4618441417868443648))) (eK (.bO 4607182418800017408))))
 (aO (gA (jz (aJ (au 12) (aJ (au 7) (aJ (au 8) bG)))))
 bF))))))))))))
theorem ae6{g:Gl}(hK:g.K=KK g.w.params){c:Cx g}(hc:c.comp=none)(hh:c.A.handled=none)(hr:c.room=10)(hN:c.names=Qg)(hF:c.gL=c.env)(hE:c.env=jm (S "rgb_to_hls") (tp 13).2.2 c.L 162 (.ref 161) []):ja c (tp 13).2.1 (BA g.sns):=by
 have v:=@eV _ _ _ _ hN hE;have z:=@sA _ _ _ _ hN hE hc;exact az (z 3 (cB hE (w9 hK) (sF hh) (aN (v 0) (aN (v 1) (aN (v 2) cm)))))
  (az (z 4 (cB hE (Cb hK) (xu hh) (aN (v 0) (aN (v 1) (aN (v 2) cm)))))
  (az (z 5 (br (bu .Add) (v 3) (v 4)))
  (az (z 6 (br (bu .Sub) (v 3) (v 4)))
  (az (z 7 (br (bu .Div) (v 5) dW))
  (az (fZ (dM (dU .Eq) (v 4) (v 3)) (az (gk (ks (aN dW (aN (v 7) (aN dW cm)))))
  bz) bz)
  (az (fZ (dM (dU .LtE) (v 7) dW) (az (z 8 (br (bu .Div) (v 6) (v 5)))
  bz) (az (z 8 (br (bu .Div) (v 6) (br (bu .Sub) (br (bu .Sub) dW (v 3)) (v 4))))
  bz))
  (az (z 9 (br (bu .Div) (br (bu .Sub) (v 3) (v 0)) (v 6)))
  (az (z 10 (br (bu .Div) (br (bu .Sub) (v 3) (v 1)) (v 6)))
  (az (z 11 (br (bu .Div) (br (bu .Sub) (v 3) (v 2)) (v 6)))
  (az (fZ (dM (dU .Eq) (v 0) (v 3)) (az (z 12 (br (bu .Sub) (v 11) (v 10)))
  bz) (az (fZ (dM (dU .Eq) (v 1) (v 3)) (az (z 12 (br (bu .Sub) (br (bu .Add) dW (v 9)) (v 11)))
  bz) (az (z 12 (br (bu .Sub) (br (bu .Add) dW (v 10)) (v 9)))
  bz))
  bz))
  (az (z 12 (br (bu .Mod) (br (bu .Div) (v 12) dW) dW))
  (az (gk (ks (aN (v 12) (aN (v 7) (aN (v 8) cm)))))
  bz))))))))))))
noncomputable def zf(sns:af aE):=mZ 3 (BA sns)
theorem SJ{g:Gl}(hK:g.K=KK g.w.params):gy g 11 162 (zf g.sns):=gy.of 10 3 Qg [S "r",S "g",S "b"] (Yi hK) (HD hK) rfl ∅ rfl (λ_ _ vs X h=>by obtain⟨a,b,d,rfl⟩:=Cv h;exact dr ()) ∅ ∅ rfl rfl rfl λc hc hh hr hN hF hE=>ae6 hK hc hh hr hN hF hE
noncomputable abbrev Qd:af dv:=[S "h",S "l",S "s",S "m2",S "m1"]
noncomputable def Fc(sns:af aE):St->ag (MF×St):=
 aO (je (dp (cS .Eq) (au 2) (eK (.bO 0))) (aO (gA (jz (aJ (au 1) (aJ (au 1) (aJ (au 1) bG)))))
 bF) bF)
 (aO (je (dp (cS .LtE) (au 1) (eK (.bO 4602678819172646912))) (aO (ba 3 (bU (bS .Mult) (au 1) (bU (bS .Add) (eK (.bO 4607182418800017408)) (au 2))))
 bF) (aO (ba 3 (bU (bS .Sub) (bU (bS .Add) (au 1) (au 2)) (bU (bS .Mult) (au 1) (au 2))))
 bF))
 (aO (ba 4 (bU (bS .Sub) (bU (bS .Mult) (eK (.bO 4611686018427387904)) (au 1)) (au 3)))
 (aO (gA (jz (aJ (cJ (Dx sns) (aJ (au 4) (aJ (au 3) (aJ (bU (bS .Add) (au 0) (eK (.bO 4599676419421066581))) bG)))) (aJ (cJ (Dx sns) (aJ (au 4) (aJ (au 3) (aJ (au 0) bG)))) (aJ (cJ (Dx sns) (aJ (au 4) (aJ (au 3) (aJ (bU (bS .Sub) (au 0) (eK (.bO 4599676419421066581))) bG)))) bG)))))
 bF)))
theorem ae3{g:Gl}(hK:g.K=KK g.w.params){c:Cx g}(hc:c.comp=none)(hh:c.A.handled=none)(hr:c.room=12)(hN:c.names=Qd)(hF:c.gL=c.env)(hE:c.env=jm (S "hls_to_rgb") (tp 14).2.2 c.L 169 (.ref 168) []):ja c (tp 14).2.1 (Fc g.sns):=by
 have v:=@eV _ _ _ _ hN hE;have z:=@sA _ _ _ _ hN hE hc;exact az (fZ (dM (dU .Eq) (v 2) dW) (az (gk (ks (aN (v 1) (aN (v 1) (aN (v 1) cm)))))
  bz) bz)
  (az (fZ (dM (dU .LtE) (v 1) dW) (az (z 3 (br (bu .Mult) (v 1) (br (bu .Add) dW (v 2))))
  bz) (az (z 3 (br (bu .Sub) (br (bu .Add) (v 1) (v 2)) (br (bu .Mult) (v 1) (v 2))))
  bz))
  (az (z 4 (br (bu .Sub) (br (bu .Mult) dW (v 1)) (v 3)))
  (az (gk (ks (aN (ig (kd hE) (SN hK) (Kt hK) () (gG rfl (aN (v 4) (aN (v 3) (aN (br (bu .Add) (v 0) (sS (kd hE) (uP hK) ())) cm)))) ((JK hK).at hc hh (rm hr)) (ce hE)) (aN (ig (kd hE) (SN hK) (Kt hK) () (gG rfl (aN (v 4) (aN (v 3) (aN (v 0) cm)))) ((JK hK).at hc hh (rm hr)) (ce hE)) (aN (ig (kd hE) (SN hK) (Kt hK) () (gG rfl (aN (v 4) (aN (v 3) (aN (br (bu .Sub) (v 0) (sS (kd hE) (uP hK) ())) cm)))) ((JK hK).at hc hh (rm hr)) (ce hE)) cm)))))
  bz)))
noncomputable def wB(sns:af aE):=mZ 3 (Fc sns)
theorem SG{g:Gl}(hK:g.K=KK g.w.params):gy g 13 169 (wB g.sns):=gy.of 12 3 Qd [S "h",S "l",S "s"] (Yf hK) (HA hK) rfl ∅ rfl (λ_ _ vs X h=>by obtain⟨a,b,d,rfl⟩:=Cv h;exact dr ()) ∅ ∅ rfl rfl rfl λc hc hh hr hN hF hE=>ae3 hK hc hh hr hN hF hE
noncomputable abbrev Qf:af dv:=[S "r",S "g",S "b",S "maxc",S "minc",S "rangec",S "v",S "s",S "rc",S "gc",S "bc",S "h"]
noncomputable def Fe(sns:af aE):St->ag (MF×St):=
 aO (ba 3 (cJ (iG .Gt) (aJ (au 0) (aJ (au 1) (aJ (au 2) bG)))))
 (aO (ba 4 (cJ (iG .Lt) (aJ (au 0) (aJ (au 1) (aJ (au 2) bG)))))
 (aO (ba 5 (bU (bS .Sub) (au 3) (au 4)))
 (aO (ba 6 (au 3))
 (aO (je (dp (cS .Eq) (au 4) (au 3)) (aO (gA (jz (aJ (eK (.bO 0)) (aJ (eK (.bO 0)) (aJ (au 6) bG)))))
 bF) bF)
 (aO (ba 7 (bU (bS .Div) (au 5) (au 3)))
 (aO (ba 8 (bU (bS .Div) (bU (bS .Sub) (au 3) (au 0)) (au 5)))
 (aO (ba 9 (bU (bS .Div) (bU (bS .Sub) (au 3) (au 1)) (au 5)))
 (aO (ba 10 (bU (bS .Div) (bU (bS .Sub) (au 3) (au 2)) (au 5)))
 (aO (je (dp (cS .Eq) (au 0) (au 3)) (aO (ba 11 (bU (bS .Sub) (au 10) (au 9)))
 bF) (aO (je (dp (cS .Eq) (au 1) (au 3)) (aO (ba 11 (bU (bS .Sub) (bU (bS .Add) (eK (.bO 4611686018427387904)) (au 8)) (au 10)))
 bF) (aO (ba 11 (bU (bS .Sub) (bU (bS .Add) (eK (.bO 4616189618054758400)) (au 9)) (au 8)))
 bF))
 bF))
 (aO (ba 11 (bU (bS .Mod) (bU (bS .Div) (au 11) (eK (.bO 4618441417868443648))) (eK (.bO 4607182418800017408))))
 (aO (gA (jz (aJ (au 11) (aJ (au 7) (aJ (au 6) bG)))))
 bF)))))))))))
theorem ae5{g:Gl}(hK:g.K=KK g.w.params){c:Cx g}(hc:c.comp=none)(hh:c.A.handled=none)(hr:c.room=10)(hN:c.names=Qf)(hF:c.gL=c.env)(hE:c.env=jm (S "rgb_to_hsv") (tp 16).2.2 c.L 183 (.ref 182) []):ja c (tp 16).2.1 (Fe g.sns):=by
 have v:=@eV _ _ _ _ hN hE;have z:=@sA _ _ _ _ hN hE hc;exact az (z 3 (cB hE (w9 hK) (sF hh) (aN (v 0) (aN (v 1) (aN (v 2) cm)))))
  (az (z 4 (cB hE (Cb hK) (xu hh) (aN (v 0) (aN (v 1) (aN (v 2) cm)))))
  (az (z 5 (br (bu .Sub) (v 3) (v 4)))
  (az (z 6 (v 3))
  (az (fZ (dM (dU .Eq) (v 4) (v 3)) (az (gk (ks (aN dW (aN dW (aN (v 6) cm)))))
  bz) bz)
  (az (z 7 (br (bu .Div) (v 5) (v 3)))
  (az (z 8 (br (bu .Div) (br (bu .Sub) (v 3) (v 0)) (v 5)))
  (az (z 9 (br (bu .Div) (br (bu .Sub) (v 3) (v 1)) (v 5)))
  (az (z 10 (br (bu .Div) (br (bu .Sub) (v 3) (v 2)) (v 5)))
  (az (fZ (dM (dU .Eq) (v 0) (v 3)) (az (z 11 (br (bu .Sub) (v 10) (v 9)))
  bz) (az (fZ (dM (dU .Eq) (v 1) (v 3)) (az (z 11 (br (bu .Sub) (br (bu .Add) dW (v 8)) (v 10)))
  bz) (az (z 11 (br (bu .Sub) (br (bu .Add) dW (v 9)) (v 8)))
  bz))
  bz))
  (az (z 11 (br (bu .Mod) (br (bu .Div) (v 11) dW) dW))
  (az (gk (ks (aN (v 11) (aN (v 7) (aN (v 6) cm)))))
  bz)))))))))))
noncomputable def ze(sns:af aE):=mZ 3 (Fe sns)
theorem SH{g:Gl}(hK:g.K=KK g.w.params):gy g 11 183 (ze g.sns):=gy.of 10 3 Qf [S "r",S "g",S "b"] (Yh hK) (HC hK) rfl ∅ rfl (λ_ _ vs X h=>by obtain⟨a,b,d,rfl⟩:=Cv h;exact dr ()) ∅ ∅ rfl rfl rfl λc hc hh hr hN hF hE=>ae5 hK hc hh hr hN hF hE
noncomputable abbrev Qc:af dv:=[S "h",S "s",S "v",S "i",S "f",S "p",S "q",S "t"]
noncomputable def E9(sns:af aE):St->ag (MF×St):=
 aO (je (dp (cS .Eq) (au 1) (eK (.bO 0))) (aO (gA (jz (aJ (au 2) (aJ (au 2) (aJ (au 2) bG)))))
 bF) bF)
 (aO (ba 3 (cJ Oz (aJ (bU (bS .Mult) (au 0) (eK (.bO 4618441417868443648))) bG)))
 (aO (ba 4 (bU (bS .Sub) (bU (bS .Mult) (au 0) (eK (.bO 4618441417868443648))) (au 3)))
 (aO (ba 5 (bU (bS .Mult) (au 2) (bU (bS .Sub) (eK (.bO 4607182418800017408)) (au 1))))
 (aO (ba 6 (bU (bS .Mult) (au 2) (bU (bS .Sub) (eK (.bO 4607182418800017408)) (bU (bS .Mult) (au 1) (au 4)))))
 (aO (ba 7 (bU (bS .Mult) (au 2) (bU (bS .Sub) (eK (.bO 4607182418800017408)) (bU (bS .Mult) (au 1) (bU (bS .Sub) (eK (.bO 4607182418800017408)) (au 4))))))
 (aO (ba 3 (bU (bS .Mod) (au 3) (eK (.int 6))))
 (aO (je (dp (cS .Eq) (au 3) (eK (.int 0))) (aO (gA (jz (aJ (au 2) (aJ (au 7) (aJ (au 5) bG)))))
 bF) bF)
 (aO (je (dp (cS .Eq) (au 3) (eK (.int 1))) (aO (gA (jz (aJ (au 6) (aJ (au 2) (aJ (au 5) bG)))))
 bF) bF)
 (aO (je (dp (cS .Eq) (au 3) (eK (.int 2))) (aO (gA (jz (aJ (au 5) (aJ (au 2) (aJ (au 7) bG)))))
 bF) bF)
 (aO (je (dp (cS .Eq) (au 3) (eK (.int 3))) (aO (gA (jz (aJ (au 5) (aJ (au 6) (aJ (au 2) bG)))))
 bF) bF)
 (aO (je (dp (cS .Eq) (au 3) (eK (.int 4))) (aO (gA (jz (aJ (au 7) (aJ (au 5) (aJ (au 2) bG)))))
 bF) bF)
 (aO (je (dp (cS .Eq) (au 3) (eK (.int 5))) (aO (gA (jz (aJ (au 2) (aJ (au 5) (aJ (au 6) bG)))))
 bF) bF)
 bF))))))))))))
theorem ae2{g:Gl}(hK:g.K=KK g.w.params){c:Cx g}(hc:c.comp=none)(hh:c.A.handled=none)(hr:c.room=10)(hN:c.names=Qc)(hF:c.gL=c.env)(hE:c.env=jm (S "hsv_to_rgb") (tp 17).2.2 c.L 190 (.ref 189) []):ja c (tp 17).2.1 (E9 g.sns):=by
 have v:=@eV _ _ _ _ hN hE;have z:=@sA _ _ _ _ hN hE hc;exact az (fZ (dM (dU .Eq) (v 1) dW) (az (gk (ks (aN (v 2) (aN (v 2) (aN (v 2) cm)))))
  bz) bz)
  (az (z 3 (qT (kd hE) (Qu hK) () nn () rfl Le (aN (br (bu .Mult) (v 0) dW) cm) (ce hE)))
  (az (z 4 (br (bu .Sub) (br (bu .Mult) (v 0) dW) (v 3)))
  (az (z 5 (br (bu .Mult) (v 2) (br (bu .Sub) dW (v 1))))
  (az (z 6 (br (bu .Mult) (v 2) (br (bu .Sub) dW (br (bu .Mult) (v 1) (v 4)))))
  (az (z 7 (br (bu .Mult) (v 2) (br (bu .Sub) dW (br (bu .Mult) (v 1) (br (bu .Sub) dW (v 4))))))
  (az (z 3 (br (bu .Mod) (v 3) cC))
  (az (fZ (dM (dU .Eq) (v 3) cC) (az (gk (ks (aN (v 2) (aN (v 7) (aN (v 5) cm)))))
  bz) bz)
  (az (fZ (dM (dU .Eq) (v 3) cC) (az (gk (ks (aN (v 6) (aN (v 2) (aN (v 5) cm)))))
  bz) bz)
  (az (fZ (dM (dU .Eq) (v 3) cC) (az (gk (ks (aN (v 5) (aN (v 2) (aN (v 7) cm)))))
  bz) bz)
  (az (fZ (dM (dU .Eq) (v 3) cC) (az (gk (ks (aN (v 5) (aN (v 6) (aN (v 2) cm)))))
  bz) bz)
  (az (fZ (dM (dU .Eq) (v 3) cC) (az (gk (ks (aN (v 7) (aN (v 5) (aN (v 2) cm)))))
  bz) bz)
  (az (fZ (dM (dU .Eq) (v 3) cC) (az (gk (ks (aN (v 2) (aN (v 5) (aN (v 6) cm)))))
  bz) bz)
  bz))))))))))))
noncomputable def wA(sns:af aE):=mZ 3 (E9 sns)
theorem SF{g:Gl}(hK:g.K=KK g.w.params):gy g 11 190 (wA g.sns):=gy.of 10 3 Qc [S "h",S "s",S "v"] (Ye hK) (Hz hK) rfl ∅ rfl (λ_ _ vs X h=>by obtain⟨a,b,d,rfl⟩:=Cv h;exact dr ()) ∅ ∅ rfl rfl rfl λc hc hh hr hN hF hE=>ae2 hK hc hh hr hN hF hE
noncomputable abbrev Fn:af dv:=[S "self",S "node"]
noncomputable def Fd(sns:af aE):St->ag (MF×St):=
 aO (iV (yF 0) (au 0) (au 1))
 (aO (iV (yF 1) (au 0) (eK (.int 0)))
 (aO (iV (yF 2) (au 0) (eList bG))
 bF))
theorem Pn{g:Gl}(hK:g.K=KK g.w.params){c:Cx g}(hc:c.comp=none)(hh:c.A.handled=none)(hr:c.room=10)(hN:c.names=Fn)(hF:c.gL=c.env)(hE:c.env=jm (S "_NodeInfo.__init__") (mt 4 1).2.2 c.L 36 (.ref 35) []):ja c (mt 4 1).2.1 (Fd g.sns):=by
 have v:=@eV _ _ _ _ hN hE;exact az (iQ (xE 0 (ks_node hK)) (v 0) (v 1) (sw hE))
  (az (iQ (xE 1 (dY hK)) (v 0) cC (sw hE))
  (az (iQ (xE 2 (mf hK)) (v 0) (jG cm) (sw hE))
  bz))
noncomputable def Ad(sns:af aE):=mZ 2 (Fd sns)
theorem JH{g:Gl}(hK:g.K=KK g.w.params):gy g 11 36 (Ad g.sns):=gy.of 10 2 Fn [S "self",S "node"] (Of hK) (Co hK) rfl ∅ rfl (λ_ _ vs X h=>by obtain⟨a,b,rfl⟩:=yC h;exact dr ()) ∅ ∅ rfl rfl rfl λc hc hh hr hN hF hE=>Pn hK hc hh hr hN hF hE
noncomputable abbrev Fj:af dv:=[S "self",S "node",S "result"]
noncomputable def E8(sns:af aE):St->ag (MF×St):=
 aO (je (dp (cS .Is) (Nv 2 (iT 2 KL (gX (mH 0) (au 0)) (aJ (au 1) bG))) (eK .none)) (aO (LP 2 (gX (mH 0) (au 0)) (au 1) (cJ (HJ true (Ad sns)) (aJ (au 1) bG)))
 bF) bF)
 (aO (gA (au 2))
 bF)
theorem Pl{g:Gl}(hK:g.K=KK g.w.params){c:Cx g}(hc:c.comp=none)(hh:c.A.handled=none)(hr:c.room=13)(hN:c.names=Fj)(hF:c.gL=c.env)(hE:c.env=jm (S "TopologicalSorter._get_nodeinfo") (mt 6 1).2.2 c.L 80 (.ref 79) []):ja c (mt 6 1).2.1 (E8 g.sns):=by
 have v:=@eV _ _ _ _ hN hE;exact az (fZ (dM (dU .Is) (P4 2 hc (nm hN) (kd hE) (kK 2 (by decide) qa Bi u6 (fV (kD 0 (iC hK) rfl) (v 0) (ae hE)) rfl (aN (v 1) cm) Lc (mk hE))) nz) (az (RQ 2 hc (nm hN) (kd hE) (fV (kD 0 (iC hK) rfl) (v 0) (ae hE)) (v 1) (ig (kd hE) (Ca hK) (AJ hK) () (gG rfl (aN (v 1) cm)) (Lf (AF hK) rfl hc hh (rm hr) (JH hK)) (ce hE)) (Rh hE))
  bz) bz)
  (az (gk (v 2))
  bz)
noncomputable def qY(sns:af aE):=mZ 2 (E8 sns)
theorem B8{g:Gl}(hK:g.K=KK g.w.params):gy g 14 80 (qY g.sns):=gy.of 13 2 Fj [S "self",S "node"] (Od hK) (Cm hK) rfl ∅ rfl (λ_ _ vs X h=>by obtain⟨a,b,rfl⟩:=yC h;exact dr ()) ∅ ∅ rfl rfl rfl λc hc hh hr hN hF hE=>Pl hK hc hh hr hN hF hE
noncomputable abbrev P9:af dv:=[S "self",S "node",S "predecessors",S "nodeinfo",S "pred",S "pred_info"]
noncomputable def Dr(sns:af aE):St->ag (MF×St):=
 aO (ba 5 (jb (qY sns) (au 0) (aJ (au 4) bG)))
 (aO (kF (iT 0 fx (gX (sy 2) (au 5)) (aJ (au 1) bG)))
 bF)
noncomputable def P5(sns:af aE):St->ag (MF×St):=
 aO (je (dp (cS .IsNot) (gX (mH 1) (au 0)) (eK .none)) pz bF)
 (aO (ba 3 (jb (qY sns) (au 0) (aJ (au 1) bG)))
 (aO (Ig .Add (sy 1) (yF 1) (au 3) (cJ jc (aJ (au 2) bG)))
 (aO (mT 4 (rL (au 2)) (Dr sns))
 bF)))
theorem aeZ{g:Gl}(hK:g.K=KK g.w.params){c:Cx g}(hc:c.comp=none)(hh:c.A.handled=none)(hr:c.room=15)(hN:c.names=P9)(hE:c.env=jm (S "TopologicalSorter.add") (mt 6 2).2.2 c.L 87 (.ref 86) []):ja c (mt 6 2).2.1 (P5 g.sns):=by
 have v:=@eV _ _ _ _ hN hE;have z:=@sA _ _ _ _ hN hE hc;exact az (fZ (dM (dU .IsNot) (fV (kD 1 (dX hK) rfl) (v 0) (ae hE)) nz) nB bz)
  (az (z 3 (pH (Ct hK) na (v 0) (gG rfl (aN (v 1) cm)) ((B8 hK).at hc hh (rm hr)) (mk hE)))
  (az (Ft (qw 1 (dY hK)) (xE 1 (dY hK)) (v 3) (cB hE (pj hK) lS (aN (v 2) cm)))
  (az (mF 4 hc (nm hN) (kd hE) (sk hh (v 2)) (az (z 5 (pH (Ct hK) na (v 0) (gG rfl (aN (v 4) cm)) ((B8 hK).at hc hh (rm hr)) (mk hE)))
  (az (kY (kK 0 (by decide) eM gF gB (fV (qw 2 (mf hK)) (v 5) (ae hE)) rfl (aN (v 1) cm) jV (mk hE)) (ia hE) (sw hE))
  bz)) (fs hE))
  bz)))
noncomputable def BI(sns:af aE):=Pj 2 (P5 sns)
theorem JF{g:Gl}(hK:g.K=KK g.w.params):gy g 16 87 (BI g.sns):=gy.La 15 2 P9 [S "self",S "node"] (S "predecessors") (Yb hK) (Hw hK) rfl ∅ rfl (λvs rest h h9=>by obtain⟨a,b,rfl⟩:=yC h;rcases rest with _|⟨r0,_|⟨r1,_|⟨r2,_|⟨r3,_|⟨r4,_|⟨r5,_|⟨r6,_|⟨r7,_|⟨r8,_|⟨r9,rest⟩⟩⟩⟩⟩⟩⟩⟩⟩⟩<;>first|(exfalso;simp only[cU] at h9;omega)|exact⟨_,(),λD=>rfl⟩) ∅ ∅ rfl rfl rfl λc hc hh hr hN hE=>aeZ hK hc hh hr hN hE
noncomputable abbrev Fp:af dv:=[S "self",S "graph",S "node",S "predecessors"]
noncomputable def wu(sns:af aE):St->ag (MF×St):=
 aO (kF (jb (BI sns) (au 0) (aJ (au 2) (rT (au 3)))))
 bF
noncomputable def Ff(sns:af aE):St->ag (MF×St):=
 aO (iV (xD 0) (au 0) sv)
 (aO (iV (xD 1) (au 0) (eK .none))
 (aO (iV (xD 2) (au 0) (eK (.int 0)))
 (aO (iV (xD 3) (au 0) (eK (.int 0)))
 (aO (je (dp (cS .IsNot) (au 1) (eK .none)) (aO (EF 2 3 (au 1) (wu sns))
 bF) bF)
 bF))))
theorem Pp{g:Gl}(hK:g.K=KK g.w.params){c:Cx g}(hc:c.comp=none)(hh:c.A.handled=none)(hr:c.room=18)(hN:c.names=Fp)(hF:c.gL=c.env)(hE:c.env=jm (S "TopologicalSorter.__init__") (mt 6 0).2.2 c.L 73 (.ref 72) []):ja c (mt 6 0).2.1 (Ff g.sns):=by
 have v:=@eV _ _ _ _ hN hE;exact az (iQ (uY 0 (iC hK) rfl) (v 0) vK (sw hE))
  (az (iQ (uY 1 (dX hK) rfl) (v 0) nz (sw hE))
  (az (iQ (uY 2 (md hK) rfl) (v 0) cC (sw hE))
  (az (iQ (uY 3 (mX hK) rfl) (v 0) cC (sw hE))
  (az (fZ (dM (dU .IsNot) (v 1) nz) (az (Dz 2 3 hc hh (cY.cons (nm hN) (kd hE) (cY.cons (nm hN) (kd hE) cY.nil)) (v 1) (az (kY (zU (Kq hK) (Km hK) na hc (v 0) (wC (v 2) (v 3) rfl) (JF hK _ hc hh (rm hr)) (mb hE)) (ia hE) (sw hE))
  bz) (mk hE) (fs hE))
  bz) bz)
  bz))))
noncomputable def sV(sns:af aE):=mZ 2 (Ff sns)
theorem JJ{g:Gl}(hK:g.K=KK g.w.params):gy g 19 73 (sV g.sns):=gy.of 18 2 Fp [S "self",S "graph"] (Oh hK) (Cq hK) rfl ∅ rfl (λ_ _ vs X h=>by obtain⟨a,b,rfl⟩:=yC h;exact binds_K (T:=66) (o:={cls:=.type "tuple",data:=.seq #[.none]}) (items:= #[.none]) (n:=0) X rfl (gK (f:=λK=>K.lookup 66) hK) rfl rfl ()) ∅ ∅ rfl rfl rfl λc hc hh hr hN hF hE=>Pp hK hc hh hr hN hF hE
noncomputable abbrev Fh:af dv:=[S "self",S "n2i",S "stack",S "itstack",S "seen",S "node2stacki",S "node"]
noncomputable def kz(sns:af aE):St->ag (cj×St):=Aj (au 2)
noncomputable def jH(sns:af aE):St->ag (MF×St):=
 aO (tC 6 (fw (au 3) (s7 (eK (.int 1)))) (aO (Vn (au 5) (iT 0 OB (au 2) bG))
 (aO (kF (iT 0 OB (au 3) bG))
 bF)))
 bF
noncomputable def kX(sns:af aE):St->ag (cj×St):=Aj (eK (.bool true))
noncomputable def kA(sns:af aE):St->ag (MF×St):=
 aO (je (dp (Br true) (au 6) (au 4)) (aO (je (dp (Br true) (au 6) (au 5)) (aO (gA (bU bL (pM sns (au 2) (pU (aa (fw (au 5) (au 6)))) (pU none)) (eList (aJ (au 6) bG))))
 bF) bF)
 bF) (aO (kF (iT 3 KI (au 4) (aJ (au 6) bG)))
 (aO (kF (iT 0 fx (au 3) (aJ (B0 (cJ Cz (aJ (gX (sy 2) (fw (au 1) (au 6))) bG))) bG)))
 (aO (zP (au 5) (au 6) (cJ jc (aJ (au 2) bG)))
 (aO (kF (iT 0 fx (au 2) (aJ (au 6) bG)))
 bF)))))
 (aO (iA (kz sns) (jH sns) (aO A9
 bF) 1000)
 bF)
noncomputable def qt(sns:af aE):St->ag (MF×St):=
 aO (je (dp (Br true) (au 6) (au 4)) (aO Rf
 bF) bF)
 (aO (iA (kX sns) (kA sns) bF 1000)
 bF)
noncomputable def zW(sns:af aE):St->ag (MF×St):=
 aO (ba 1 (gX (mH 0) (au 0)))
 (aO (ba 2 (eList bG))
 (aO (ba 3 (eList bG))
 (aO (ba 4 (cJ QN bG))
 (aO (ba 5 sv)
 (aO (mT 6 (rL (au 1)) (qt sns))
 (aO (gA (eK .none))
 bF))))))
theorem Pk{g:Gl}(hK:g.K=KK g.w.params){c:Cx g}(hc:c.comp=none)(hh:c.A.handled=none)(hr:c.room=10)(hN:c.names=Fh)(hF:c.gL=c.env)(hE:c.env=jm (S "TopologicalSorter._find_cycle") (mt 6 8).2.2 c.L 127 (.ref 126) []):ja c (mt 6 8).2.1 (zW g.sns):=by
 have v:=@eV _ _ _ _ hN hE;have z:=@sA _ _ _ _ hN hE hc;exact az (z 1 (fV (kD 0 (iC hK) rfl) (v 0) (ae hE)))
  (az (z 2 (jG cm))
  (az (z 3 (jG cm))
  (az (z 4 (qT (kd hE) (Xa hK) () nn () rfl OM cm (ce hE)))
  (az (z 5 vK)
  (az (mF 6 hc (nm hN) (kd hE) (sk hh (v 1)) (az (fZ (dM Al (v 6) (v 4)) (az RO
  bz) bz)
  (az (Af 1000 (sR xM zT (bp hE λ_=>())) (az (fZ (dM Al (v 6) (v 4)) (az (fZ (dM Al (v 6) (v 5)) (az (gk (br Jb (zV (v 2) (Dv (fF (v 5) (v 6) rfl)) Du) (jG (aN (v 6) cm))))
  bz) bz)
  bz) (az (kY (kK 3 (by decide) F.plainAttrs_set F.slot_set_add EL (v 4) rfl (aN (v 6) cm) Ur (mk hE)) (ia hE) (sw hE))
  (az (kY (kK 0 (by decide) eM gF gB (v 3) rfl (aN (RF (cB hE (SO hK) OL (aN (fV (qw 2 (mf hK)) (fF (v 1) (v 6) rfl) (ae hE)) cm)) (ae hE)) cm) jV (mk hE)) (ia hE) (sw hE))
  (az (DA (v 5) (v 6) (cB hE (pj hK) lS (aN (v 2) cm)) (sw hE))
  (az (kY (kK 0 (by decide) eM gF gB (v 2) rfl (aN (v 6) cm) jV (mk hE)) (ia hE) (sw hE))
  bz)))))
  (az (Af 1000 (sR xM (v 2) (bp hE λ_=>())) (az (GP 6 hc hh hF (nm hN) (kd hE) (kd hE) (vh hK) (fF (v 3) (y8 cC) rfl) (ce hE) (sw hE) (λe=>az (WG (ku 5 (nm hN) (kd hE) ()) (kK 0 (by decide) eM Wh u7 (ku 2 (nm hN) (kd hE) ()) rfl cm Lg (mk hE)))
  (az (kY (kK 0 (by decide) eM Wh u7 (ku 3 (nm hN) (kd hE) ()) rfl cm Lg (mk hE)) (ia hE) (sw hE))
  bz)))
  bz) (az WE
  bz))
  bz)) bz)
  bz)) (fs hE))
  (az (gk nz)
  bz))))))
noncomputable def qX(sns:af aE):=mZ 1 (zW sns)
theorem B7{g:Gl}(hK:g.K=KK g.w.params):gy g 11 127 (qX g.sns):=gy.of 10 1 Fh [S "self"] (Oc hK) (Ck hK) rfl ∅ rfl (λ_ _ vs X h=>by obtain⟨a,rfl⟩:=AP h;exact dr ()) ∅ ∅ rfl rfl rfl λc hc hh hr hN hF hE=>Pk hK hc hh hr hN hF hE
noncomputable abbrev BF:af dv:=[S "self",S "result",S "n2i",S "node"]
noncomputable def tR(sns:af aE):St->ag (MF×St):=
 aO (iV (yF 1) (fw (au 2) (au 3)) (eK (.int (-1))))
 bF
noncomputable def Bz(sns:af aE):St->ag (MF×St):=
 aO (je (dp (cS .Is) (gX (mH 1) (au 0)) (eK .none)) pz bF)
 (aO (ba 1 (cJ uk (aJ (gX (mH 1) (au 0)) bG)))
 (aO (ba 2 (gX (mH 0) (au 0)))
 (aO (mT 3 (rL (au 1)) (tR sns))
 (aO (kF (iT 0 Ee (gX (mH 1) (au 0)) bG))
 (aO (Ig .Add (mH 2) (xD 2) (au 0) (cJ jc (aJ (au 1) bG)))
 (aO (gA (au 1))
 bF))))))
theorem LS{g:Gl}(hK:g.K=KK g.w.params){c:Cx g}(hc:c.comp=none)(hh:c.A.handled=none)(hr:c.room=10)(hN:c.names=BF)(hF:c.gL=c.env)(hE:c.env=jm (S "TopologicalSorter.get_ready") (mt 6 4).2.2 c.L 99 (.ref 98) []):ja c (mt 6 4).2.1 (Bz g.sns):=by
 have v:=@eV _ _ _ _ hN hE;have z:=@sA _ _ _ _ hN hE hc;exact az (fZ (dM (dU .Is) (fV (kD 1 (dX hK) rfl) (v 0) (ae hE)) nz) nB bz)
  (az (z 1 (qT (kd hE) (FW hK) () nn () rfl CI (aN (fV (kD 1 (dX hK) rfl) (v 0) (ae hE)) cm) (ce hE)))
  (az (z 2 (fV (kD 0 (iC hK) rfl) (v 0) (ae hE)))
  (az (mF 3 hc (nm hN) (kd hE) (sk hh (v 1)) (az (iQ (xE 1 (dY hK)) (fF (v 2) (v 3) rfl) (vL (kd hE) (uR hK) ()) (sw hE))
  bz) (fs hE))
  (az (kY (kK 0 (by decide) eM F.slot_list_clear yK (fV (kD 1 (dX hK) rfl) (v 0) (ae hE)) rfl cm Lb (mk hE)) (ia hE) (sw hE))
  (az (Ft (kD 2 (md hK) rfl) (uY 2 (md hK) rfl) (v 0) (cB hE (pj hK) lS (aN (v 1) cm)))
  (az (gk (v 1))
  bz))))))
noncomputable def mj(sns:af aE):=mZ 1 (Bz sns)
theorem zy{g:Gl}(hK:g.K=KK g.w.params):gy g 11 99 (mj g.sns):=gy.of 10 1 BF [S "self"] (Kj hK) (AH hK) rfl ∅ rfl (λ_ _ vs X h=>by obtain⟨a,rfl⟩:=AP h;exact dr ()) ∅ ∅ rfl rfl rfl λc hc hh hr hN hF hE=>LS hK hc hh hr hN hF hE
noncomputable abbrev Fl:af dv:=[S "self"]
noncomputable def Fb(sns:af aE):St->ag (MF×St):=
 aO (je (dp (cS .Is) (gX (mH 1) (au 0)) (eK .none)) pz bF)
 (aO (gA (eOr (dp (cS .Lt) (gX (mH 3) (au 0)) (gX (mH 2) (au 0))) (cJ KJ (aJ (gX (mH 1) (au 0)) bG))))
 bF)
theorem Pm{g:Gl}(hK:g.K=KK g.w.params){c:Cx g}(hc:c.comp=none)(hh:c.A.handled=none)(hr:c.room=10)(hN:c.names=Fl)(hF:c.gL=c.env)(hE:c.env=jm (S "TopologicalSorter.is_active") (mt 6 5).2.2 c.L 106 (.ref 105) []):ja c (mt 6 5).2.1 (Fb g.sns):=by
 have v:=@eV _ _ _ _ hN hE;exact az (fZ (dM (dU .Is) (fV (kD 1 (dX hK) rfl) (v 0) (ae hE)) nz) nB bz)
  (az (gk (Wz (E6 (dU .Lt) (fV (kD 3 (mX hK) rfl) (v 0) (ae hE)) (fV (kD 2 (md hK) rfl) (v 0) (ae hE))) (qT (kd hE) (g_bool hK) () nn () rfl OK (aN (fV (kD 1 (dX hK) rfl) (v 0) (ae hE)) cm) (ce hE))))
  bz)
noncomputable def vR(sns:af aE):=mZ 1 (Fb sns)
theorem JG{g:Gl}(hK:g.K=KK g.w.params):gy g 11 106 (vR g.sns):=gy.of 10 1 Fl [S "self"] (Oe hK) (Cn hK) rfl ∅ rfl (λ_ _ vs X h=>by obtain⟨a,rfl⟩:=AP h;exact dr ()) ∅ ∅ rfl rfl rfl λc hc hh hr hN hF hE=>Pm hK hc hh hr hN hF hE
noncomputable abbrev I1:af dv:=[S "self",S "nodes",S "n2i",S "node",S "nodeinfo",S "stat",S "successor",S "successor_info"]
noncomputable def vN(sns:af aE):St->ag (MF×St):=
 aO (ba 7 (fw (au 2) (au 6)))
 (aO (Ig .Sub (sy 1) (yF 1) (au 7) (eK (.int 1)))
 (aO (je (dp (cS .Eq) (gX (sy 1) (au 7)) (eK (.int 0))) (aO (kF (iT 0 fx (gX (mH 1) (au 0)) (aJ (au 6) bG)))
 bF) bF)
 bF))
noncomputable def zZ(sns:af aE):St->ag (MF×St):=
 aO (je (dp (cS .Is) (Nv 4 (iT 2 KL (au 2) (aJ (au 3) bG))) (eK .none)) pz bF)
 (aO (ba 5 (gX (sy 1) (au 4)))
 (aO (je (dp (cS .NotEq) (au 5) (eK (.int (-1)))) (aO (je (dp (cS .GtE) (au 5) (eK (.int 0))) pz (aO (je (dp (cS .Eq) (au 5) (eK (.int (-2)))) pz pz)
 bF))
 bF) bF)
 (aO (iV (yF 1) (au 4) (eK (.int (-2))))
 (aO (mT 6 (rL (gX (sy 2) (au 4))) (vN sns))
 (aO (Ig .Add (mH 3) (xD 3) (au 0) (eK (.int 1)))
 bF)))))
noncomputable def IU(sns:af aE):St->ag (MF×St):=
 aO (je (dp (cS .Is) (gX (mH 1) (au 0)) (eK .none)) pz bF)
 (aO (ba 2 (gX (mH 0) (au 0)))
 (aO (mT 3 (rL (au 1)) (zZ sns))
 bF))
theorem Vo{g:Gl}(hK:g.K=KK g.w.params){c:Cx g}(hc:c.comp=none)(hh:c.A.handled=none)(hr:c.room=10)(hN:c.names=I1)(hE:c.env=jm (S "TopologicalSorter.done") (mt 6 7).2.2 c.L 120 (.ref 119) []):ja c (mt 6 7).2.1 (IU g.sns):=by
 have v:=@eV _ _ _ _ hN hE;have z:=@sA _ _ _ _ hN hE hc;exact az (fZ (dM (dU .Is) (fV (kD 1 (dX hK) rfl) (v 0) (ae hE)) nz) nB bz)
  (az (z 2 (fV (kD 0 (iC hK) rfl) (v 0) (ae hE)))
  (az (mF 3 hc (nm hN) (kd hE) (sk hh (v 1)) (az (fZ (dM (dU .Is) (P4 4 hc (nm hN) (kd hE) (kK 2 (by decide) qa Bi u6 (v 2) rfl (aN (v 3) cm) Lc (mk hE))) nz) nB bz)
  (az (z 5 (fV (qw 1 (dY hK)) (v 4) (ae hE)))
  (az (fZ (dM (dU .NotEq) (v 5) (vL (kd hE) (uR hK) ())) (az (fZ (dM (dU .GtE) (v 5) cC) nB (az (fZ (dM (dU .Eq) (v 5) (vL (kd hE) (ti hK) ())) nB nB)
  bz))
  bz) bz)
  (az (iQ (xE 1 (dY hK)) (v 4) (vL (kd hE) (ti hK) ()) (sw hE))
  (az (mF 6 hc (nm hN) (kd hE) (sk hh (fV (qw 2 (mf hK)) (v 4) (ae hE))) (az (z 7 (fF (v 2) (v 6) rfl))
  (az (Ft (qw 1 (dY hK)) (xE 1 (dY hK)) (v 7) cC)
  (az (fZ (dM (dU .Eq) (fV (qw 1 (dY hK)) (v 7) (ae hE)) cC) (az (kY (kK 0 (by decide) eM gF gB (fV (kD 1 (dX hK) rfl) (v 0) (ae hE)) rfl (aN (v 6) cm) jV (mk hE)) (ia hE) (sw hE))
  bz) bz)
  bz))) (fs hE))
  (az (Ft (kD 3 (mX hK) rfl) (uY 3 (mX hK) rfl) (v 0) cC)
  bz)))))) (fs hE))
  bz))
noncomputable def Ac(sns:af aE):=Pj 1 (IU sns)
theorem Nx{g:Gl}(hK:g.K=KK g.w.params):gy g 11 120 (Ac g.sns):=gy.La 10 1 I1 [S "self"] (S "nodes") (TQ hK) (Ec hK) rfl ∅ rfl (λvs rest h h9=>by obtain⟨a,rfl⟩:=AP h;rcases rest with _|⟨r0,_|⟨r1,_|⟨r2,_|⟨r3,_|⟨r4,_|⟨r5,_|⟨r6,_|⟨r7,_|⟨r8,_|⟨r9,rest⟩⟩⟩⟩⟩⟩⟩⟩⟩⟩<;>first|(exfalso;simp only[cU] at h9;omega)|exact⟨_,(),λD=>rfl⟩) ∅ ∅ rfl rfl rfl λc hc hh hr hN hE=>Vo hK hc hh hr hN hE
noncomputable abbrev Ab:af dv:=[S "self",S "cycle"]
noncomputable def vO(sns:af aE):St->ag (cj×St):=dp (cS .Eq) (gX (sy 1) (au 0)) (eK (.int 0))
noncomputable def vQ(sns:af aE):St->ag (MV×St):=gX (sy 0) (au 0)
noncomputable def Dp(sns:af aE):St->ag (MF×St):=
 aO (je (dp (cS .IsNot) (gX (mH 1) (au 0)) (eK .none)) pz bF)
 (aO (iV (xD 1) (au 0) (iS iw none (Cf (gX (mH 0) (au 0))) (vO sns) (vQ sns)))
 (aO (ba 1 (jb (qX sns) (au 0) bG))
 (aO (je (Aj (au 1)) pz bF)
 bF)))
theorem Vp{g:Gl}(hK:g.K=KK g.w.params){c:Cx g}(hc:c.comp=none)(hh:c.A.handled=none)(hr:c.room=13)(hN:c.names=Ab)(hF:c.gL=c.env)(hE:c.env=jm (S "TopologicalSorter.prepare") (mt 6 3).2.2 c.L 92 (.ref 91) []):ja c (mt 6 3).2.1 (Dp g.sns):=by
 have v:=@eV _ _ _ _ hN hE;have z:=@sA _ _ _ _ hN hE hc;exact az (fZ (dM (dU .IsNot) (fV (kD 1 (dX hK) rfl) (v 0) (ae hE)) nz) nB bz)
  (az (iQ (uY 1 (dX hK) rfl) (v 0) (oN (cl:=[]) (tn:=[S "i"]) (cn:=[S "i"]) (cap:=none) hc hh ⟨rfl,∅,rfl,∅,∅,λj q=>nomatch q⟩ kZ (λ_ _ _ q=>by cases q;rfl) (.inl rfl) (cf hE) ∅ (fs hE) (IY hh (fV (kD 0 (iC hK) rfl) (v 0) (ae hE)) (mk hE)) (λc1 rW nE fJ=>by obtain⟨C1,fJ⟩:=fJ;exact fV (qw 0 (ks_node hK)) (ku 0 (nm nE) (kd fJ) ()) (ae fJ)) (λc1 rW nE fJ=>by obtain⟨C1,fJ⟩:=fJ;exact Fw (dM (dU .Eq) (fV (qw 1 (dY hK)) (ku 0 (nm nE) (kd fJ) ()) (ae fJ)) cC))) (sw hE))
  (az (z 1 (pH (Cs hK) na (v 0) zg ((B7 hK).at hc hh (rm hr)) (mk hE)))
  (az (fZ (sR xM (v 1) (bp hE λ_=>())) nB bz)
  bz)))
noncomputable def tV(sns:af aE):=mZ 1 (Dp sns)
theorem Ny{g:Gl}(hK:g.K=KK g.w.params):gy g 14 92 (tV g.sns):=gy.of 13 1 Ab [S "self"] (Kk hK) (xj hK) rfl ∅ rfl (λ_ _ vs X h=>by obtain⟨a,rfl⟩:=AP h;exact dr ()) ∅ ∅ rfl rfl rfl λc hc hh hr hN hF hE=>Vp hK hc hh hr hN hF hE
noncomputable def E7(sns:af aE):St->ag St:=
 LH (je (dp (cS .IsNot) (gX (mH 1) (au 0)) (eK .none)) pz bF)
 (LH (iV (xD 1) (au 0) (iS iw none (Cf (gX (mH 0) (au 0))) (vO sns) (vQ sns)))
 (LH (ba 1 (jb (qX sns) (au 0) bG))
 (rIf (Aj (au 1)) (au 1))))
theorem Py{g:Gl}(hK:g.K=KK g.w.params){c:Cx g}(hc:c.comp=none)(hh:c.A.handled=none)(hr:c.room=13)(hN:c.names=Ab)(hF:c.gL=c.env)(hE:c.env=jm (S "TopologicalSorter.prepare") (mt 6 3).2.2 c.L 92 (.ref 91) []):I2 c (mt 6 3).2.1 55 (E7 g.sns):=by
 have v:=@eV _ _ _ _ hN hE;have z:=@sA _ _ _ _ hN hE hc;exact Dw (fZ (dM (dU .IsNot) (fV (kD 1 (dX hK) rfl) (v 0) (ae hE)) nz) nB bz)
  (Dw (iQ (uY 1 (dX hK) rfl) (v 0) (oN (cl:=[]) (tn:=[S "i"]) (cn:=[S "i"]) (cap:=none) hc hh ⟨rfl,∅,rfl,∅,∅,λj q=>nomatch q⟩ kZ (λ_ _ _ q=>by cases q;rfl) (.inl rfl) (cf hE) ∅ (fs hE) (IY hh (fV (kD 0 (iC hK) rfl) (v 0) (ae hE)) (mk hE)) (λc1 rW nE fJ=>by obtain⟨C1,fJ⟩:=fJ;exact fV (qw 0 (ks_node hK)) (ku 0 (nm nE) (kd fJ) ()) (ae fJ)) (λc1 rW nE fJ=>by obtain⟨C1,fJ⟩:=fJ;exact Fw (dM (dU .Eq) (fV (qw 1 (dY hK)) (ku 0 (nm nE) (kd fJ) ()) (ae fJ)) cC))) (sw hE))
  (Dw (z 1 (pH (Cs hK) na (v 0) zg ((B7 hK).at hc hh (rm hr)) (mk hE)))
  (agt PySem.F.excBase_ValueError hh (kd hE) (th hK) (yz hK) () (sR xM (v 1) (bp hE λ_=>())) (v 1) rfl)))
noncomputable def wD(sns:af aE):=Vk 1 (E7 sns)
theorem Nz{g:Gl}(hK:g.K=KK g.w.params):FnX g 14 92 55 (wD g.sns):=FnX.of 13 1 Ab [S "self"] (Kk hK) (xj hK) rfl ∅ rfl (λ_ _ vs X h=>by obtain⟨a,rfl⟩:=AP h;exact dr ()) ∅ ∅ rfl rfl rfl λc hc hh hr hN hF hE=>Py hK hc hh hr hN hF hE
noncomputable abbrev Fo:af dv:=[S "script",S "numbers",S "sheet",S "name",S "figure",S "first",S "room",S "kind",S "needs"]
noncomputable def BB(sns:af aE):St->ag (MV×St):=bU (bS .Mod) (au 0) (eK (.int 1000000))
noncomputable def qs(sns:af aE):St->ag (MF×St):=
 aO (ba 4 (bU (bS .Add) (bU (bS .Mult) (fw (au 1) (au 3)) (eK (.int 60803))) (bU (bS .Mult) (au 3) (eK (.int 7919)))))
 (aO (ba 5 (Sn (dp (cS .Eq) (bU (bS .Mod) (cJ KP (aJ (au 1) bG)) (eK (.int 2))) (eK (.int 1))) (eK (.int 0)) (bU (bS .Add) (au 3) (eK (.int 1)))))
 (aO (ba 6 (cJ (iG .Gt) (aJ (eK (.int 1)) (aJ (bU (bS .Sub) (cJ jc (aJ (au 1) bG)) (au 5)) bG))))
 (aO (ba 7 (Sn (dp (cS .Eq) (au 3) (bU (bS .Sub) (cJ jc (aJ (au 1) bG)) (eK (.int 1)))) (eK (.int 0)) (bU (bS .Mod) (au 4) (eK (.int 4)))))
 (aO (ba 8 (eList (aJ (bU (bS .Add) (au 5) (bU (bS .Mod) (bU (bS .FloorDiv) (au 4) (eK (.int 4))) (au 6))) (aJ (bU (bS .Add) (au 5) (bU (bS .Mod) (bU (bS .FloorDiv) (bU (bS .FloorDiv) (au 4) (eK (.int 4))) (au 6)) (au 6))) bG))))
 (aO (je (dp (cS .Eq) (au 7) (eK (.int 0))) (aO (ba 8 (eList bG))
 bF) (aO (je (dp (cS .Eq) (bU (bS .Mod) (bU (bS .FloorDiv) (au 4) (eK (.int 400))) (eK (.int 3))) (eK (.int 0))) (aO (ba 8 (pM sns (au 8) (pU none) (pU (aa (eK (.int 1))))))
 bF) bF)
 bF))
 (aO (kF (iT 0 fx (au 2) (aJ (jz (aJ (au 7) (aJ (au 8) (aJ (au 4) bG)))) bG)))
 bF))))))
noncomputable def zX(sns:af aE):St->ag (MF×St):=
 aO (ba 1 (bU bL (iS iw none (rL (pM sns (au 0) (pU none) (pU (aa (eK (.int 7)))))) kH (BB sns)) (eList (aJ (eK (.int 6)) (aJ (eK (.int 0)) bG)))))
 (aO (ba 2 (eList bG))
 (aO (mT 3 (mI (cJ jc (aJ (au 1) bG))) (qs sns))
 (aO (gA (au 2))
 bF)))
theorem Po{g:Gl}(hK:g.K=KK g.w.params){c:Cx g}(hc:c.comp=none)(hh:c.A.handled=none)(hr:c.room=10)(hN:c.names=Fo)(hF:c.gL=c.env)(hE:c.env=jm (S "_law_sheet") (tp 19).2.2 c.L 195 (.ref 194) []):ja c (tp 19).2.1 (zX g.sns):=by
 have v:=@eV _ _ _ _ hN hE;have z:=@sA _ _ _ _ hN hE hc;exact az (z 1 (br Jb (oN (cl:=[]) (tn:=[S "number"]) (cn:=[S "number"]) (cap:=none) hc hh ⟨rfl,∅,rfl,∅,∅,λj q=>nomatch q⟩ kZ (λ_ _ _ q=>by cases q;rfl) (.inl rfl) (cf hE) ∅ (fs hE) (sk hh (zV (v 0) Du (Dv cC))) (λc1 rW nE fJ=>by obtain⟨C1,fJ⟩:=fJ;exact br (bu .Mod) (ku 0 (nm nE) (kd fJ) ()) cC) (λc1 rW nE fJ=>by obtain⟨C1,fJ⟩:=fJ;exact uI)) (jG (aN cC (aN cC cm)))))
  (az (z 2 (jG cm))
  (az (mF 3 hc (nm hN) (kd hE) (qV hh (kd hE) (ri hK) rfl (cB hE (pj hK) lS (aN (v 1) cm)) (ce hE)) (az (z 4 (br (bu .Add) (br (bu .Mult) (fF (v 1) (v 3) rfl) cC) (br (bu .Mult) (v 3) cC)))
  (az (z 5 (Wy (dM (dU .Eq) (br (bu .Mod) (cB hE (Xb hK) (Us hh) (aN (v 1) cm)) cC) cC) cC (br (bu .Add) (v 3) cC)))
  (az (z 6 (cB hE (w9 hK) (sF hh) (aN cC (aN (br (bu .Sub) (cB hE (pj hK) lS (aN (v 1) cm)) (v 5)) cm))))
  (az (z 7 (Wy (dM (dU .Eq) (v 3) (br (bu .Sub) (cB hE (pj hK) lS (aN (v 1) cm)) cC)) cC (br (bu .Mod) (v 4) cC)))
  (az (z 8 (jG (aN (br (bu .Add) (v 5) (br (bu .Mod) (br (bu .FloorDiv) (v 4) cC) (v 6))) (aN (br (bu .Add) (v 5) (br (bu .Mod) (br (bu .FloorDiv) (br (bu .FloorDiv) (v 4) cC) (v 6)) (v 6))) cm))))
  (az (fZ (dM (dU .Eq) (v 7) cC) (az (z 8 (jG cm))
  bz) (az (fZ (dM (dU .Eq) (br (bu .Mod) (br (bu .FloorDiv) (v 4) cC) cC) cC) (az (z 8 (zV (v 8) Du (Dv cC)))
  bz) bz)
  bz))
  (az (kY (kK 0 (by decide) eM gF gB (v 2) rfl (aN (ks (aN (v 7) (aN (v 8) (aN (v 4) cm)))) cm) jV (mk hE)) (ia hE) (sw hE))
  bz))))))) (fs hE))
  (az (gk (v 2))
  bz)))
noncomputable def Ae(sns:af aE):=mZ 1 (zX sns)
theorem JI{g:Gl}(hK:g.K=KK g.w.params):gy g 11 195 (Ae g.sns):=gy.of 10 1 Fo [S "script"] (Og hK) (Cp hK) rfl ∅ rfl (λ_ _ vs X h=>by obtain⟨a,rfl⟩:=AP h;exact dr ()) ∅ ∅ rfl rfl rfl λc hc hh hr hN hF hE=>Po hK hc hh hr hN hF hE
noncomputable abbrev BE:af dv:=[S "cell",S "known",S "kind",S "needs",S "figure"]
noncomputable def za(sns:af aE):St->ag (MV×St):=cJ (iG .Gt) (aJ (au 0) bG)
noncomputable def zc(sns:af aE):St->ag (MV×St):=cJ (iG .Lt) (aJ (au 0) bG)
noncomputable def oZ(sns:af aE):St->ag (MF×St):=
 aO (iO [2,3,4] (au 0))
 (aO (je (dp (cS .Eq) (au 2) (eK (.int 0))) (aO (gA (eList (aJ (bU (bS .Mod) (bU (bS .FloorDiv) (au 4) (eK (.int 4))) (eK (.int 17))) (aJ (bU (bS .Mod) (bU (bS .FloorDiv) (au 4) (eK (.int 68))) (eK (.int 17))) (aJ (bU (bS .Mod) (bU (bS .FloorDiv) (au 4) (eK (.int 1156))) (eK (.int 17))) bG)))))
 bF) bF)
 (aO (je (dp (cS .Eq) (bU (bS .Mod) (bU (bS .FloorDiv) (au 4) (eK (.int 400))) (eK (.int 3))) (eK (.int 1))) (aO (gA (iS iw none (Kb (fw (au 1) (fw (au 3) (eK (.int 0)))) (fw (au 1) (fw (au 3) (eK (.int 1))))) kH (za sns)))
 bF) bF)
 (aO (je (dp (cS .Eq) (bU (bS .Mod) (bU (bS .FloorDiv) (au 4) (eK (.int 400))) (eK (.int 3))) (eK (.int 2))) (aO (gA (iS iw none (Kb (fw (au 1) (fw (au 3) (eK (.int 0)))) (fw (au 1) (fw (au 3) (eK (.int 1))))) kH (zc sns)))
 bF) bF)
 (aO (gA (fw (au 1) (fw (au 3) (eK (.int 0)))))
 bF))))
theorem LQ{g:Gl}(hK:g.K=KK g.w.params){c:Cx g}(hc:c.comp=none)(hh:c.A.handled=none)(hr:c.room=10)(hN:c.names=BE)(hF:c.gL=c.env)(hE:c.env=jm (S "_law_before") (tp 20).2.2 c.L 200 (.ref 199) []):ja c (tp 20).2.1 (oZ g.sns):=by
 have v:=@eV _ _ _ _ hN hE;exact az (nC [2,3,4] [(S "kind",_),(S "needs",_),(S "figure",_)] hc hh (cY.cons (nm hN) (kd hE) (cY.cons (nm hN) (kd hE) (cY.cons (nm hN) (kd hE) cY.nil))) rfl (v 0) (ss hE) (Rh hE))
  (az (fZ (dM (dU .Eq) (v 2) cC) (az (gk (jG (aN (br (bu .Mod) (br (bu .FloorDiv) (v 4) cC) cC) (aN (br (bu .Mod) (br (bu .FloorDiv) (v 4) cC) cC) (aN (br (bu .Mod) (br (bu .FloorDiv) (v 4) cC) cC) cm)))))
  bz) bz)
  (az (fZ (dM (dU .Eq) (br (bu .Mod) (br (bu .FloorDiv) (v 4) cC) cC) cC) (az (gk (oN (cl:=[]) (tn:=[S "pair"]) (cn:=[S "pair"]) (cap:=none) hc hh ⟨rfl,∅,rfl,∅,∅,λj q=>nomatch q⟩ kZ (λ_ _ _ q=>by cases q;rfl) (.inr λ_ _=>rfl) (cf hE) ∅ (fs hE) (P7 hh (kd hE) (Qv hK) rfl rfl (fF (v 1) (fF (v 3) cC rfl) rfl) (fF (v 1) (fF (v 3) cC rfl) rfl) (ce hE)) (λc1 rW nE fJ=>by obtain⟨C1,fJ⟩:=fJ;exact cB fJ (w9 hK) (sF (rW.symm▸hh)) (aN (ku 0 (nm nE) (kd fJ) ()) cm)) (λc1 rW nE fJ=>by obtain⟨C1,fJ⟩:=fJ;exact uI)))
  bz) bz)
  (az (fZ (dM (dU .Eq) (br (bu .Mod) (br (bu .FloorDiv) (v 4) cC) cC) cC) (az (gk (oN (cl:=[]) (tn:=[S "pair"]) (cn:=[S "pair"]) (cap:=none) hc hh ⟨rfl,∅,rfl,∅,∅,λj q=>nomatch q⟩ kZ (λ_ _ _ q=>by cases q;rfl) (.inr λ_ _=>rfl) (cf hE) ∅ (fs hE) (P7 hh (kd hE) (Qv hK) rfl rfl (fF (v 1) (fF (v 3) cC rfl) rfl) (fF (v 1) (fF (v 3) cC rfl) rfl) (ce hE)) (λc1 rW nE fJ=>by obtain⟨C1,fJ⟩:=fJ;exact cB fJ (Cb hK) (xu (rW.symm▸hh)) (aN (ku 0 (nm nE) (kd fJ) ()) cm)) (λc1 rW nE fJ=>by obtain⟨C1,fJ⟩:=fJ;exact uI)))
  bz) bz)
  (az (gk (fF (v 1) (fF (v 3) cC rfl) rfl))
  bz))))
noncomputable def jI(sns:af aE):=mZ 2 (oZ sns)
theorem zx{g:Gl}(hK:g.K=KK g.w.params):gy g 11 200 (jI g.sns):=gy.of 10 2 BE [S "cell",S "known"] (Ki hK) (AG hK) rfl ∅ rfl (λ_ _ vs X h=>by obtain⟨a,b,rfl⟩:=yC h;exact dr ()) ∅ ∅ rfl rfl rfl λc hc hh hr hN hF hE=>LQ hK hc hh hr hN hF hE
noncomputable abbrev Fq:af dv:=[S "cell",S "known",S "luma",S "ends",S "colour",S "step"]
noncomputable def qr(sns:af aE):St->ag (MF×St):=
 aO (ba 4 (eList (aJ (bU (bS .Sub) (jK 3) (fw (au 4) (eK (.int 1)))) (aJ (bU (bS .Sub) (jK 3) (fw (au 4) (eK (.int 2)))) (aJ (bU (bS .Sub) (jK 3) (fw (au 4) (eK (.int 0)))) bG)))))
 bF
noncomputable def BC(sns:af aE):St->ag (MV×St):=bU (bS .Sub) (bU (bS .Add) (au 0) (eK (.int 16))) (jK 1)
noncomputable def BD(sns:af aE):St->ag (MV×St):=bU (bS .FloorDiv) (bU (bS .Add) (bU (bS .Mult) (cJ (iG .Lt) (aJ (cJ (iG .Gt) (aJ (bU (bS .Sub) (bU (bS .Mult) (eK (.int 2)) (jK 1)) (bU (bS .Mult) (eK (.int 100)) (au 0))) (aJ (eK (.int 0)) bG))) (aJ (eK (.int 1600)) bG))) (eK (.int 10))) (eK (.int 505))) (eK (.int 1000))
noncomputable def qU(sns:af aE):St->ag (MF×St):=
 aO (ba 4 (cJ (jI sns) (aJ (au 0) (aJ (au 1) bG))))
 (aO (mw 3 (bU (bS .Add) (cJ (iG .Lt) (aJ (au 4) bG)) (cJ (iG .Gt) (aJ (au 4) bG))))
 (aO (je (dp (cS .Eq) (fw (au 0) (eK (.int 0))) (eK (.int 1))) (aO (mT 5 (mI (bU (bS .Add) (eK (.int 1)) (bU (bS .Mod) (bU (bS .FloorDiv) (fw (au 0) (eK (.int 2))) (eK (.int 1200))) (eK (.int 5))))) (qr sns))
 bF) (aO (je (dp (cS .Eq) (fw (au 0) (eK (.int 0))) (eK (.int 2))) (aO (ba 4 (iS iw (aa 3) (rL (au 4)) kH (BC sns)))
 bF) (aO (je (dp (cS .Eq) (fw (au 0) (eK (.int 0))) (eK (.int 3))) (aO (mw 2 (bU (bS .Add) (bU (bS .Add) (bU (bS .Mult) (eK (.int 30)) (fw (au 4) (eK (.int 0)))) (bU (bS .Mult) (eK (.int 59)) (fw (au 4) (eK (.int 1))))) (bU (bS .Mult) (eK (.int 11)) (fw (au 4) (eK (.int 2))))))
 (aO (ba 4 (iS iw (aa 2) (rL (au 4)) kH (BD sns)))
 bF)) bF)
 bF))
 bF))
 (aO (gA (au 4))
 bF)))
theorem Pq{g:Gl}(hK:g.K=KK g.w.params){c:Cx g}(hc:c.comp=none)(hh:c.A.handled=none)(hr:c.room=12)(hN:c.names=Fq)(hE:c.env=jm (S "_law_whole") (tp 21).2.2 c.L 205 (.ref 204) [(S "luma",c.L+1+1),(S "ends",c.L+1)]):ja c (tp 21).2.1 (qU g.sns):=by
 have v:=@eV _ _ _ _ hN hE;have u:=@eVc _ _ _ _ hN hE;have z:=@sA _ _ _ _ hN hE hc;exact az (z 4 (ig (kd hE) (rV hK) (zD hK) () (gG rfl (aN (v 0) (aN (v 1) cm))) ((zx hK).at hc hh (rm hr)) (ce hE)))
  (az (o8 3 (nm hN) (kd hE) (br (bu .Add) (cB hE (Cb hK) (xu hh) (aN (v 4) cm)) (cB hE (w9 hK) (sF hh) (aN (v 4) cm))) (sw hE))
  (az (fZ (dM (dU .Eq) (fF (v 0) cC rfl) cC) (az (mF 5 hc (nm hN) (kd hE) (qV hh (kd hE) (ri hK) rfl (br (bu .Add) cC (br (bu .Mod) (br (bu .FloorDiv) (fF (v 0) cC rfl) cC) cC)) (ce hE)) (az (z 4 (jG (aN (br (bu .Sub) (u 3) (fF (v 4) cC rfl)) (aN (br (bu .Sub) (u 3) (fF (v 4) cC rfl)) (aN (br (bu .Sub) (u 3) (fF (v 4) cC rfl)) cm)))))
  bz) (fs hE))
  bz) (az (fZ (dM (dU .Eq) (fF (v 0) cC rfl) cC) (az (sW 4 (cl:=[(S "ends",c.L+1)]) (tn:=[S "part"]) (cn:=[S "part",S "ends"]) (cap:=aa 3) hc hh (nm hN) (kd hE) ⟨rfl,∅,rfl,∅,∅,λj q=>by cases q;exact⟨S "ends",(nm hN),rfl,.inl (by rw[hE];kernel_rfl),(λz=>by rw[kd hE (k:=.cell) ()] at z;cases z),ck hE ()⟩⟩ kZ (λ_ _ _ q=>by cases q;rfl) (.inl rfl) (cf hE) ∅ (fs hE) (swt hE) (sk hh (v 4)) (λc1 rW nE fJ=>by obtain⟨C1,fJ⟩:=fJ;rw[hE] at fJ;exact br (bu .Sub) (br (bu .Add) (ku 0 (nm nE) (kd fJ) ()) cC) (tQ 1 (nm nE) (kd fJ) ())) (λc1 rW nE fJ=>by obtain⟨C1,fJ⟩:=fJ;rw[hE] at fJ;exact uI))
  bz) (az (fZ (dM (dU .Eq) (fF (v 0) cC rfl) cC) (az (o8 2 (nm hN) (kd hE) (br (bu .Add) (br (bu .Add) (br (bu .Mult) cC (fF (v 4) cC rfl)) (br (bu .Mult) cC (fF (v 4) cC rfl))) (br (bu .Mult) cC (fF (v 4) cC rfl))) (sw hE))
  (az (sW 4 (cl:=[(S "luma",c.L+1+1)]) (tn:=[S "part"]) (cn:=[S "part",S "luma"]) (cap:=aa 2) hc hh (nm hN) (kd hE) ⟨rfl,∅,rfl,∅,∅,λj q=>by cases q;exact⟨S "luma",(nm hN),rfl,.inl (by rw[hE];kernel_rfl),(λz=>by rw[kd hE (k:=.cell) ()] at z;cases z),ck hE ()⟩⟩ kZ (λ_ _ _ q=>by cases q;rfl) (.inl rfl) (cf hE) ∅ (fs hE) (swt hE) (sk hh (v 4)) (λc1 rW nE fJ=>by obtain⟨C1,fJ⟩:=fJ;rw[hE] at fJ;exact br (bu .FloorDiv) (br (bu .Add) (br (bu .Mult) (cB fJ (Cb hK) (xu (rW.symm▸hh)) (aN (cB fJ (w9 hK) (sF (rW.symm▸hh)) (aN (br (bu .Sub) (br (bu .Mult) cC (tQ 1 (nm nE) (kd fJ) ())) (br (bu .Mult) cC (ku 0 (nm nE) (kd fJ) ()))) (aN cC cm))) (aN cC cm))) cC) cC) cC) (λc1 rW nE fJ=>by obtain⟨C1,fJ⟩:=fJ;rw[hE] at fJ;exact uI))
  bz)) bz)
  bz))
  bz))
  (az (gk (v 4))
  bz)))
noncomputable def pJ(sns:af aE):=runC 2 (qU sns)
theorem JL{g:Gl}(hK:g.K=KK g.w.params):gy g 13 205 (pJ g.sns):=gy.Gf 12 2 Fq [S "cell",S "known"] (S "luma") (S "ends") (k_whole hK) (Cr hK) rfl ∅ rfl (λ_ _ vs _ h=>by obtain⟨a,b,rfl⟩:=yC h;exact dr ()) ∅ (λ_=>by rfl) () () nn rfl rfl rfl λc hc hh hr hN hE=>Pq hK hc hh hr hN hE
noncomputable abbrev Qb:af dv:=[S "sheet",S "ahead",S "known",S "rounds",S "turn",S "fresh",S "name"]
noncomputable def zY(sns:af aE):St->ag (cj×St):=dp (Br false) (au 0) (jK 1)
noncomputable def z0(sns:af aE):St->ag (MV×St):=au 0
noncomputable def tS(sns:af aE):St->ag (cj×St):=dp (Br true) (au 0) (jK 1)
noncomputable def tU(sns:af aE):St->ag (MV×St):=iT 1 AU (jK 1) (aJ (au 0) bG)
noncomputable def wy(sns:af aE):St->ag (MF×St):=
 aO (je (Ai (dp (Br false) (au 6) (jK 2)) (dp (cD true) (iS iw (aa 2) (rL (fw (fw (au 0) (au 6)) (eK (.int 1)))) (zY sns) (z0 sns)) (eList bG))) (aO (kF (iT 0 fx (au 5) (aJ (jz (aJ (cJ (iG .Gt) (aJ (bU bL (eList (aJ (s7 (eK (.int 1))) bG)) (iS iw (aa 1) (rL (fw (fw (au 0) (au 6)) (eK (.int 1)))) (tS sns) (tU sns))) bG)) (aJ (au 6) bG))) bG)))
 bF) bF)
 bF
noncomputable def z9(sns:af aE):St->ag (MV×St):=au 1
noncomputable def Dt(sns:af aE):St->ag (MF×St):=
 aO (zP (jK 2) (au 6) (cJ (pJ sns) (aJ (fw (au 0) (au 6)) (aJ (jK 2) bG))))
 bF
noncomputable def Aa(sns:af aE):St->ag (MF×St):=
 aO (ba 5 (eList bG))
 (aO (mT 6 (mI (cJ jc (aJ (au 0) bG))) (wy sns))
 (aO (je (dp (cD false) (au 5) (eList bG)) (aO (mw 1 (cJ uk (aJ (iS (mh 2) none (rL (cJ pO (aJ (au 5) bG))) kH (z9 sns)) bG)))
 (aO (kF (iT 0 fx (au 3) (aJ (jK 1) bG)))
 (aO (mT 6 (rL (jK 1)) (Dt sns))
 bF))) bF)
 bF))
noncomputable def IV(sns:af aE):St->ag (MF×St):=
 aO (mw 2 sv)
 (aO (ba 3 (eList bG))
 (aO (mw 1 (jz bG))
 (aO (mT 4 (mI (cJ jc (aJ (au 0) bG))) (Aa sns))
 (aO (gA (jz (aJ (jK 2) (aJ (au 3) bG))))
 bF))))
theorem ae1{g:Gl}(hK:g.K=KK g.w.params){c:Cx g}(hc:c.comp=none)(hh:c.A.handled=none)(hr:c.room=14)(hN:c.names=Qb)(hE:c.env=jm (S "_law_due") (tp 22).2.2 c.L 210 (.ref 209) [(S "ahead",c.L+1+1),(S "known",c.L+1)]):ja c (tp 22).2.1 (IV g.sns):=by
 have v:=@eV _ _ _ _ hN hE;have u:=@eVc _ _ _ _ hN hE;have z:=@sA _ _ _ _ hN hE hc;exact az (o8 2 (nm hN) (kd hE) vK (sw hE))
  (az (z 3 (jG cm))
  (az (o8 1 (nm hN) (kd hE) (ks cm) (sw hE))
  (az (mF 4 hc (nm hN) (kd hE) (qV hh (kd hE) (ri hK) rfl (cB hE (pj hK) lS (aN (v 0) cm)) (ce hE)) (az (z 5 (jG cm))
  (az (mF 6 hc (nm hN) (kd hE) (qV hh (kd hE) (ri hK) rfl (cB hE (pj hK) lS (aN (v 0) cm)) (ce hE)) (az (fZ (P1 (dM zq (v 6) (u 2)) (dM (FD (rm hr)) (oN (cl:=[(S "known",c.L+1)]) (tn:=[S "need"]) (cn:=[S "need",S "known"]) (cap:=aa 2) hc hh ⟨rfl,∅,rfl,∅,∅,λj q=>by cases q;exact⟨S "known",(nm hN),rfl,.inl (by rw[hE];kernel_rfl),(λz=>by rw[kd hE (k:=.cell) ()] at z;cases z),ck hE ()⟩⟩ kZ (λ_ _ _ q=>by cases q;rfl) (.inl rfl) (cf hE) ∅ (fs hE) (sk hh (fF (fF (v 0) (v 6) rfl) cC rfl)) (λc1 rW nE fJ=>by obtain⟨C1,fJ⟩:=fJ;rw[hE] at fJ;exact ku 0 (nm nE) (kd fJ) ()) (λc1 rW nE fJ=>by obtain⟨C1,fJ⟩:=fJ;rw[hE] at fJ;exact Fw (dM zq (ku 0 (nm nE) (kd fJ) ()) (tQ 1 (nm nE) (kd fJ) ())))) (jG cm))) (az (kY (kK 0 (by decide) eM gF gB (v 5) rfl (aN (ks (aN (cB hE (w9 hK) (sF hh) (aN (br Jb (jG (aN (y8 cC) cm)) (oN (cl:=[(S "ahead",c.L+1+1)]) (tn:=[S "need"]) (cn:=[S "need",S "ahead"]) (cap:=aa 1) hc hh ⟨rfl,∅,rfl,∅,∅,λj q=>by cases q;exact⟨S "ahead",(nm hN),rfl,.inl (by rw[hE];kernel_rfl),(λz=>by rw[kd hE (k:=.cell) ()] at z;cases z),ck hE ()⟩⟩ kZ (λ_ _ _ q=>by cases q;rfl) (.inl rfl) (cf hE) ∅ (fs hE) (sk hh (fF (fF (v 0) (v 6) rfl) cC rfl)) (λc1 rW nE fJ=>by obtain⟨C1,fJ⟩:=fJ;rw[hE] at fJ;exact kK 1 (by decide) F.plainAttrs_tuple PH xN (tQ 1 (nm nE) (kd fJ) ()) rfl (aN (ku 0 (nm nE) (kd fJ) ()) cm) Ld (mk fJ)) (λc1 rW nE fJ=>by obtain⟨C1,fJ⟩:=fJ;rw[hE] at fJ;exact Fw (dM Al (ku 0 (nm nE) (kd fJ) ()) (tQ 1 (nm nE) (kd fJ) ()))))) cm)) (aN (v 6) cm))) cm) jV (mk hE)) (ia hE) (sw hE))
  bz) bz)
  bz) (fs hE))
  (az (fZ (dM (FE (rm hr)) (v 5) (jG cm)) (az (o8 1 (nm hN) (kd hE) (qT (kd hE) (FW hK) () nn () rfl CI (aN (oN (cl:=[]) (tn:=[S "late",S "name"]) (cn:=[S "late",S "name"]) (cap:=none) hc hh ⟨rfl,∅,rfl,∅,∅,λj q=>nomatch q⟩ (BN [(S "late",_),(S "name",_)] rfl) (λ_ _ _ q=>uZ q) (.inl rfl) (cf hE) ∅ (fs hE) (sk hh (cB hE (JM hK) HP (aN (v 5) cm))) (λc1 rW nE fJ=>by obtain⟨C1,fJ⟩:=fJ;exact ku 1 (nm nE) (kd fJ) ()) (λc1 rW nE fJ=>by obtain⟨C1,fJ⟩:=fJ;exact uI)) cm) (ce hE)) (sw hE))
  (az (kY (kK 0 (by decide) eM gF gB (v 3) rfl (aN (u 1) cm) jV (mk hE)) (ia hE) (sw hE))
  (az (mF 6 hc (nm hN) (kd hE) (sk hh (u 1)) (az (DA (u 2) (v 6) (ig (kd hE) (As hK) (Ku hK) () (gG rfl (aN (fF (v 0) (v 6) rfl) (aN (u 2) cm))) ((JL hK).at hc hh (rm hr)) (ce hE)) (sw hE))
  bz) (fs hE))
  bz))) bz)
  bz))) (fs hE))
  (az (gk (ks (aN (u 2) (aN (v 3) cm))))
  bz))))
noncomputable def zd(sns:af aE):=runC 1 (IV sns)
theorem SE{g:Gl}(hK:g.K=KK g.w.params):gy g 15 210 (zd g.sns):=gy.Gf 14 1 Qb [S "sheet"] (S "ahead") (S "known") (Yd hK) (Hy hK) rfl ∅ rfl (λ_ _ vs _ h=>by obtain⟨a,rfl⟩:=AP h;exact dr ()) ∅ (λ_=>by rfl) () () nn rfl rfl rfl λc hc hh hr hN hE=>ae1 hK hc hh hr hN hE
noncomputable abbrev Qa:af dv:=[S "cell",S "known",S "colour",S "red",S "green",S "blue",S "hue",S "share",S "value",S "told",S "light",S "luma",S "warm",S "cool"]
noncomputable def wq(sns:af aE):St->ag (MV×St):=bU (bS .Div) (au 0) (eK (.int 16))
noncomputable def wx(sns:af aE):St->ag (MV×St):=cJ Oz (aJ (bU (bS .Add) (bU (bS .Mult) (au 0) (eK (.int 16))) (eK (.bO 4602723855168920617))) bG)
noncomputable def y9(sns:af aE):St->ag (MF×St):=
 aO (ba 2 (cJ (jI sns) (aJ (au 0) (aJ (au 1) bG))))
 (aO (iO [3,4,5] (iS iw none (rL (au 2)) kH (wq sns)))
 (aO (je (dp (cS .Eq) (fw (au 0) (eK (.int 0))) (eK (.int 0))) (aO (gA (au 2))
 bF) bF)
 (aO (je (dp (cS .Eq) (fw (au 0) (eK (.int 0))) (eK (.int 1))) (aO (iO [6,7,8] (cJ (ze sns) (aJ (au 3) (aJ (au 4) (aJ (au 5) bG)))))
 (aO (ba 9 (cJ (wA sns) (aJ (bU (bS .Add) (au 6) (bU (bS .Div) (bU (bS .Add) (eK (.int 1)) (bU (bS .Mod) (bU (bS .FloorDiv) (fw (au 0) (eK (.int 2))) (eK (.int 1200))) (eK (.int 5)))) (eK (.int 6)))) (aJ (au 7) (aJ (au 8) bG)))))
 bF)) (aO (je (dp (cS .Eq) (fw (au 0) (eK (.int 0))) (eK (.int 2))) (aO (iO [6,10,7] (cJ (zf sns) (aJ (au 3) (aJ (au 4) (aJ (au 5) bG)))))
 (aO (ba 9 (cJ (wB sns) (aJ (au 6) (aJ (bU (bS .Sub) (eK (.int 1)) (au 10)) (aJ (au 7) bG)))))
 bF)) (aO (iO [11,12,13] (cJ (BJ sns) (aJ (au 3) (aJ (au 4) (aJ (au 5) bG)))))
 (aO (ba 9 (cJ (BK sns) (aJ (au 11) (aJ (s7 (au 12)) (aJ (s7 (au 13)) bG)))))
 bF)))
 bF))
 (aO (gA (iS iw none (rL (au 9)) kH (wx sns)))
 bF))))
theorem ae0{g:Gl}(hK:g.K=KK g.w.params){c:Cx g}(hc:c.comp=none)(hh:c.A.handled=none)(hr:c.room=14)(hN:c.names=Qa)(hF:c.gL=c.env)(hE:c.env=jm (S "_law_by_the_module") (tp 23).2.2 c.L 215 (.ref 214) []):ja c (tp 23).2.1 (y9 g.sns):=by
 have v:=@eV _ _ _ _ hN hE;have z:=@sA _ _ _ _ hN hE hc;exact az (z 2 (ig (kd hE) (rV hK) (zD hK) () (gG rfl (aN (v 0) (aN (v 1) cm))) ((zx hK).at hc hh (rm hr)) (ce hE)))
  (az (nC [3,4,5] [(S "red",_),(S "green",_),(S "blue",_)] hc hh (cY.cons (nm hN) (kd hE) (cY.cons (nm hN) (kd hE) (cY.cons (nm hN) (kd hE) cY.nil))) rfl (oN (cl:=[]) (tn:=[S "part"]) (cn:=[S "part"]) (cap:=none) hc hh ⟨rfl,∅,rfl,∅,∅,λj q=>nomatch q⟩ kZ (λ_ _ _ q=>by cases q;rfl) (.inl rfl) (cf hE) ∅ (fs hE) (sk hh (v 2)) (λc1 rW nE fJ=>by obtain⟨C1,fJ⟩:=fJ;exact br (bu .Div) (ku 0 (nm nE) (kd fJ) ()) cC) (λc1 rW nE fJ=>by obtain⟨C1,fJ⟩:=fJ;exact uI)) (ss hE) (Rh hE))
  (az (fZ (dM (dU .Eq) (fF (v 0) cC rfl) cC) (az (gk (v 2))
  bz) bz)
  (az (fZ (dM (dU .Eq) (fF (v 0) cC rfl) cC) (az (nC [6,7,8] [(S "hue",_),(S "share",_),(S "value",_)] hc hh (cY.cons (nm hN) (kd hE) (cY.cons (nm hN) (kd hE) (cY.cons (nm hN) (kd hE) cY.nil))) rfl (ig (kd hE) (Ax hK) (TZ hK) () (gG rfl (aN (v 3) (aN (v 4) (aN (v 5) cm)))) ((SH hK).at hc hh (rm hr)) (ce hE)) (ss hE) (Rh hE))
  (az (z 9 (ig (kd hE) (Av hK) (TX hK) () (gG rfl (aN (br (bu .Add) (v 6) (br (bu .Div) (br (bu .Add) cC (br (bu .Mod) (br (bu .FloorDiv) (fF (v 0) cC rfl) cC) cC)) cC)) (aN (v 7) (aN (v 8) cm)))) ((SF hK).at hc hh (rm hr)) (ce hE)))
  bz)) (az (fZ (dM (dU .Eq) (fF (v 0) cC rfl) cC) (az (nC [6,10,7] [(S "hue",_),(S "light",_),(S "share",_)] hc hh (cY.cons (nm hN) (kd hE) (cY.cons (nm hN) (kd hE) (cY.cons (nm hN) (kd hE) cY.nil))) rfl (ig (kd hE) (Aw hK) (T6 hK) () (gG rfl (aN (v 3) (aN (v 4) (aN (v 5) cm)))) ((SJ hK).at hc hh (rm hr)) (ce hE)) (ss hE) (Rh hE))
  (az (z 9 (ig (kd hE) (Au hK) (TY hK) () (gG rfl (aN (v 6) (aN (br (bu .Sub) cC (v 10)) (aN (v 7) cm)))) ((SG hK).at hc hh (rm hr)) (ce hE)))
  bz)) (az (nC [11,12,13] [(S "luma",_),(S "warm",_),(S "cool",_)] hc hh (cY.cons (nm hN) (kd hE) (cY.cons (nm hN) (kd hE) (cY.cons (nm hN) (kd hE) cY.nil))) rfl (ig (kd hE) (Ay hK) (T7 hK) () (gG rfl (aN (v 3) (aN (v 4) (aN (v 5) cm)))) ((SK hK).at hc hh (rm hr)) (ce hE)) (ss hE) (Rh hE))
  (az (z 9 (ig (kd hE) (Az hK) (T8 hK) () (gG rfl (aN (v 11) (aN (y8 (v 12)) (aN (y8 (v 13)) cm)))) ((SM hK).at hc hh (rm hr)) (ce hE)))
  bz)))
  bz))
  (az (gk (oN (cl:=[]) (tn:=[S "part"]) (cn:=[S "part"]) (cap:=none) hc hh ⟨rfl,∅,rfl,∅,∅,λj q=>nomatch q⟩ kZ (λ_ _ _ q=>by cases q;rfl) (.inl rfl) (cf hE) ∅ (fs hE) (sk hh (v 9)) (λc1 rW nE fJ=>by obtain⟨C1,fJ⟩:=fJ;exact qT (kd fJ) (Qu hK) () nn () rfl Le (aN (br (bu .Add) (br (bu .Mult) (ku 0 (nm nE) (kd fJ) ()) cC) dW) cm) (ce fJ)) (λc1 rW nE fJ=>by obtain⟨C1,fJ⟩:=fJ;exact uI)))
  bz))))
noncomputable def wz(sns:af aE):=mZ 2 (y9 sns)
theorem SD{g:Gl}(hK:g.K=KK g.w.params):gy g 15 215 (wz g.sns):=gy.of 14 2 Qa [S "cell",S "known"] (Yc hK) (Hx hK) rfl ∅ rfl (λ_ _ vs X h=>by obtain⟨a,b,rfl⟩:=yC h;exact dr ()) ∅ ∅ rfl rfl rfl λc hc hh hr hN hF hE=>ae0 hK hc hh hr hN hF hE
noncomputable abbrev BH:af dv:=[S "plan",S "sheet",S "given",S "paints",S "name"]
noncomputable def zb(sns:af aE):St->ag (MF×St):=
 aO (zP (au 3) (au 4) (cJ (wz sns) (aJ (fw (au 1) (au 4)) (aJ (au 3) bG))))
 bF
noncomputable def qW(sns:af aE):St->ag (cj×St):=Ai (Aj (jb (vR sns) (au 0) bG)) (dp (cS .Lt) (cJ jc (aJ (au 2) bG)) (eK (.int 10)))
noncomputable def tT(sns:af aE):St->ag (MF×St):=
 aO (kF (iT 0 fx (au 2) (aJ (jb (mj sns) (au 0) bG) bG)))
 (aO (mT 4 (rL (fw (au 2) (s7 (eK (.int 1))))) (zb sns))
 (aO (kF (jb (Ac sns) (au 0) (rT (fw (au 2) (s7 (eK (.int 1)))))))
 bF))
noncomputable def wj(sns:af aE):St->ag (MF×St):=
 aO (ba 2 (eList bG))
 (aO (ba 3 sv)
 (aO (iA (qW sns) (tT sns) bF 1000)
 (aO (gA (jz (aJ (au 2) (aJ (au 3) bG))))
 bF)))
theorem LV{g:Gl}(hK:g.K=KK g.w.params){c:Cx g}(hc:c.comp=none)(hh:c.A.handled=none)(hr:c.room=17)(hN:c.names=BH)(hF:c.gL=c.env)(hE:c.env=jm (S "_law_worked") (tp 24).2.2 c.L 222 (.ref 221) []):ja c (tp 24).2.1 (wj g.sns):=by
 have v:=@eV _ _ _ _ hN hE;have z:=@sA _ _ _ _ hN hE hc;exact az (z 2 (jG cm))
  (az (z 3 vK)
  (az (Af 1000 (P1 (sR xM (pH (Kr hK) na (v 0) zg ((JG hK).at hc hh (rm hr)) (mk hE)) (bp hE λ_=>())) (dM (dU .Lt) (cB hE (pj hK) lS (aN (v 2) cm)) cC)) (az (kY (kK 0 (by decide) eM gF gB (v 2) rfl (aN (pH (zC hK) na (v 0) zg ((zy hK).at hc hh (rm hr)) (mk hE)) cm) jV (mk hE)) (ia hE) (sw hE))
  (az (mF 4 hc (nm hN) (kd hE) (sk hh (fF (v 2) (y8 cC) rfl)) (az (DA (v 3) (v 4) (ig (kd hE) (qv hK) (TU hK) () (gG rfl (aN (fF (v 1) (v 4) rfl) (aN (v 3) cm))) ((SD hK).at hc hh (rm hr)) (ce hE)) (sw hE))
  bz) (fs hE))
  (az (kY (zU (Oj hK) (Oi hK) na hc (v 0) (RV (fF (v 2) (y8 cC) rfl)) (Nx hK _ hc hh (rm hr)) (mb hE)) (ia hE) (sw hE))
  bz))) bz)
  (az (gk (ks (aN (v 2) (aN (v 3) cm))))
  bz)))
noncomputable def o7(sns:af aE):=mZ 2 (wj sns)
theorem Hj{g:Gl}(hK:g.K=KK g.w.params):gy g 18 222 (o7 g.sns):=gy.of 17 2 BH [S "plan",S "sheet"] (Kl hK) (AI hK) rfl ∅ rfl (λ_ _ vs X h=>by obtain⟨a,b,rfl⟩:=yC h;exact dr ()) ∅ ∅ rfl rfl rfl λc hc hh hr hN hF hE=>LV hK hc hh hr hN hF hE
noncomputable abbrev Qe:af dv:=[S "script",S "cells",S "sorter",S "later",S "stopped",S "rounds_told",S "paints_told",S "paints_due",S "rounds_due"]
noncomputable def Ds(sns:af aE):St->ag (MF×St):=
 aO (kF (jb (BI sns) (au 2) (aJ (au 3) (rT (fw (fw (au 1) (au 3)) (eK (.int 1)))))))
 bF
noncomputable def P6(sns:af aE):St->ag (MF×St):=
 aO (ba 1 (cJ (Ae sns) (aJ (au 0) bG)))
 (aO (ba 2 (cJ (HJ false (sV sns)) (aJ (rh none (mI (cJ jc (aJ (au 1) bG))) (au 0) (eList bG)) bG)))
 (aO (mT 3 (mI (cJ jc (aJ (au 1) bG))) (Ds sns))
 (aO (ba 4 (eK (.bool false)))
 (aO (zQ (tV sns) (wD sns) (au 2) (aO (ba 4 (eK (.bool true)))
 bF))
 (aO (iO [5,6] (cJ (o7 sns) (aJ (au 2) (aJ (au 1) bG))))
 (aO (iO [7,8] (cJ (zd sns) (aJ (au 1) bG)))
 (aO (je (VW (dp (cD false) (au 5) (au 8)) (dp qZ (au 6) (au 7))) (aO (gA (eK (.bool false)))
 bF) bF)
 (aO (gA (s8 (Ai (dp (cS .Eq) (au 4) (s8 (dp (cS .Lt) (cJ jc (aJ (au 7) bG)) (cJ jc (aJ (au 1) bG))))) (dp (cD true) (jb (mj sns) (au 2) bG) (jz bG)))))
 bF))))))))
theorem ae4{g:Gl}(hK:g.K=KK g.w.params){c:Cx g}(hc:c.comp=none)(hh:c.A.handled=none)(hr:c.room=22)(hN:c.names=Qe)(hF:c.gL=c.env)(hE:c.env=jm (S "law") (tp 25).2.2 c.L 227 (.ref 226) []):ja c (tp 25).2.1 (P6 g.sns):=by
 have v:=@eV _ _ _ _ hN hE;have z:=@sA _ _ _ _ hN hE hc;exact az (z 1 (ig (kd hE) (Ar hK) (Ks hK) () (gG rfl (aN (v 0) cm)) ((JI hK).at hc hh (rm hr)) (ce hE)))
  (az (z 2 (ig (kd hE) (rG hK) (qC hK) () (gG rfl (aN (Dm (cl:=[]) (cn:=[S "place"]) (cap:=none) hc hh ⟨rfl,∅,rfl,∅,∅,λj q=>nomatch q⟩ (cf hE) ∅ (fs hE) (qV hh (kd hE) (ri hK) rfl (cB hE (pj hK) lS (aN (v 1) cm)) (ce hE)) (λc1 rW nE fJ=>by obtain⟨C1,fJ⟩:=fJ;exact ku 0 (nm nE) (kd fJ) ()) (λc1 rW nE fJ=>by obtain⟨C1,fJ⟩:=fJ;exact jG cm) (de hE ())) cm)) (Lf (qB hK) rfl hc hh (rm hr) (JJ hK)) (ce hE)))
  (az (mF 3 hc (nm hN) (kd hE) (qV hh (kd hE) (ri hK) rfl (cB hE (pj hK) lS (aN (v 1) cm)) (ce hE)) (az (kY (zU (Kq hK) (Km hK) na hc (v 2) (wC (v 3) (fF (fF (v 1) (v 3) rfl) cC rfl) rfl) (JF hK _ hc hh (rm hr)) (mb hE)) (ia hE) (sw hE))
  bz) (fs hE))
  (az (z 4 zT)
  (az (RT hc hh hF (Ol hK) na (kd hE) (th hK) () (yx hK) (v 2) (Ny hK _ hc hh (rm hr)) (Nz hK _ hc hh (rm hr)) (mk hE) (ia hE) (sw hE) (λe=>az (BM 4 hc (nm hN) (kd hE) zT (sw hE))
  bz))
  (az (nC [5,6] [(S "rounds_told",_),(S "paints_told",_)] hc hh (cY.cons (nm hN) (kd hE) (cY.cons (nm hN) (kd hE) cY.nil)) rfl (ig (kd hE) (yv hK) (HG hK) () (gG rfl (aN (v 2) (aN (v 1) cm))) ((Hj hK).at hc hh (rm hr)) (ce hE)) (ss hE) (Rh hE))
  (az (nC [7,8] [(S "paints_due",_),(S "rounds_due",_)] hc hh (cY.cons (nm hN) (kd hE) (cY.cons (nm hN) (kd hE) cY.nil)) rfl (ig (kd hE) (DZ hK) (TV hK) () (gG rfl (aN (v 1) cm)) ((SE hK).at hc hh (rm hr)) (ce hE)) (ss hE) (Rh hE))
  (az (fZ (ago (dM (FE (rm hr)) (v 5) (v 8)) (dM (DK (rm hr)) (v 6) (v 7))) (az (gk zT)
  bz) bz)
  (az (gk (Wx (E6 (dU .Eq) (v 4) (E6 (dU .Lt) (cB hE (pj hK) lS (aN (v 7) cm)) (cB hE (pj hK) lS (aN (v 1) cm)))) (E6 (FD (rm hr)) (pH (zC hK) na (v 2) zg ((zy hK).at hc hh (rm hr)) (mk hE)) (ks cm))))
  bz))))))))
noncomputable def Fs(sns:af aE):=mZ 1 (P6 sns)
theorem Kw{prog:kp}{w:wc}{bC:aD}{p:kp}{loose:af dv}{KQ:ExcName->ag aB}{mg mb:dv->ag aB}{a:aX}{vs:af aB}{ns:af aE}(KX:(KK w.params).In bC.heap)(T:Top p loose KQ mg mb bC.heap)
  (hL:bC.heap.IsList a vs.toArray) (hI:IntsAre vs ns) {R:xW->aD->Prop} {H':af av} (plain:Fs ns [.old] []=aa (.bool true,H'))
  (k:∀s',(∀b o,bC.heap.get? b=aa o->s'.heap.get? b=aa o)->s'.os=bC.os->s'.gens=bC.gens->R (.ok (.ret (.bool true))) s'):
  oj (model prog w) Mu (.call (.ref 227) ⟨[.ref a],[]⟩) R bC:=by
 let g:Gl:=⟨prog,w,KK w.params,p,loose,KQ,mg,mb,a,vs,ns⟩
 have hK:g.K=KK g.w.params:=rfl;have ho:=Yg (g:=g) hK;refine afJ (fd:=fnX (S "law") (S "law") (tp 25).1 (tp 25).2.1 (tp 25).2.2 [] .none .none .none (.str (S "law_mj0284_01") 485) none (.ref 226) .none) (body:=(tp 25).2.1) (binds:=[(S "script",.ref a)]) (by decide) (KX _ _ ho) rfl T.nolimit (E3 KX (HB (g:=g) hK)) rfl (dr ()) ∅ (λy hy=>by cases bT.mp hy;kernel_rfl) (λh₁ D6 p6=>?_) () () ()
 let env:ux:=jm (S "law") (tp 25).2.2 bC.heap.objs.size 227 (.ref 226) []
 let c:Cx g:=
  {A₀:=Mu
   A:=Mu.deeper env
   base:=bC.heap
   h₀:=bC.heap
   outer:=[]
   gL:=env
   env:=env
   L:=bC.heap.objs.size
   room:=22
   names:=Qe
   comp:=none
   gens:=bC.gens
   os:=bC.os
   XB:=KX
   TB:=T
   SB:=hL
   SI:=hI
   hA:=Dh rfl
   hf:=rfl
   MC:=()
   ek:=()
   eg:=rfl
   eb:=rfl
   hd:=by show Mu.depth+1+22<E5;decide
   hu:=by show Mu.units+3+8*22<cLine;decide
   nd:=∅}
 have R₀:Rel c [] [] ⟨[],λi=>[MV.old][i]?⟩ {bC with heap:=h₁,toks:=bC.toks+1}:=by
  refine⟨bC.heap,_,_,[],⟨⟨below_caller _,ktsDicts_nil,tI⟩,⟨D6,p6,cL _⟩,λp hp=>(nomatch hp),eB,λp hp=>(nomatch hp),eB,λa ha=>(nomatch ha),rfl,rfl,λi o e=>(by cases e),λi d vs e=>(by cases e),rfl,rfl⟩,⟨rfl,rfl⟩,?_⟩;intro i mv e;cases i with
  |zero=>cases e;exact⟨S "script",rfl,.inl ⟨(),.ref a,rfl,rfl⟩⟩
  |succ i=>cases e
 have S':=ae4 hK (c:=c) rfl rfl rfl rfl rfl rfl;unfold Fs mZ at plain;rw[aP (show [MV.old].length=1 from rfl)] at plain;refine ea plain ?_;clear plain;intro m st ql plain;refine Rg plain ?_;clear plain;intro hv hH;subst hH;refine S' _ _ st ql [] [] _ R₀ _ _ λd7 r' s' _ R' e=>?_;cases m with
 |ret v=>
  have hv:v=.bool true:=hv;subst hv;refine cv e λv' cP vv=>?_;clear e;subst cP;cases vv
  obtain⟨J8,m',pT,xr,hh,_,_⟩:=id R';exact k s' R'.base hh.os hh.gens
 |_=>exact nomatch hv
end fG
local macro_rules | `(tactic| fail) => `(tactic| ((with_reducible show fG.bV _ _ _ _ = _); first | exact rfl | assumption))
namespace fG
open PySem PySem.W
theorem YM{α:Sort _}{β:Sort _}{A B C D E F G I:α->β->Prop}{P:Prop}(h:∃x y,A x y/\B x y/\C x y/\D x y/\E x y/\F x y/\G x y/\I x y)(k:∀x y,A x y->B x y->C x y->D x y->E x y->F x y->G x y->I x y->P):P:=h.elim λx h=>h.elim λy q=>k x y q.1 q.2.1 q.2.2.1 q.2.2.2.1 q.2.2.2.2.1 q.2.2.2.2.2.1 q.2.2.2.2.2.2.1 q.2.2.2.2.2.2.2
section
variable{H H1 H2 H3:af av}{l l1 l2 l3:ah->ag MV}{v v1 v2 a b:MV}{vs:af MV}{f f':St->ag (MV×St)}{fs:St->ag (af MV×St)}{t t':St->ag (cj×St)}{s s' k:St->ag (MF×St)}{R:ag (MF×St)}{i j:ah}{x y:aW}{c:cj}
theorem YH{α β γ:Type}{o o':ag (α×β)}{F:α->β->ag γ}{r:ag γ}(h:o=o')(k:ob o' F=r):ob o F=r:=h▸k
theorem zI{α β δ γ:Type}{o:ag ((α×β)×δ)}{F:α->β->δ->ag γ}{r:ag γ}{a:α}{b:β}{s:δ}(h:o=aa ((a,b),s))(k:F a b s=r):YI o F=r:=cV h k
theorem cY0{chk tf cap l ft fe n}{H:af av}(h:chk H=true):iR chk tf cap l ft fe n [] H=aa H:=aP h
theorem lH{γ:Type}{i:ah}{F:ah->ag γ}{r:ag γ}(k:F i=r):vX (.ref i) F=r:=k
theorem sb{γ:Type}{i:aE}{F:aE->ag γ}{r:ag γ}(k:F i=r):AW (.int i) F=r:=k
theorem yp{γ:Type}{i:ah}{F:ah->ag γ}{r:ag γ}(k:F i=r):a1 [.ref i] F=r:=k
theorem RY{γ:Type}{i:ah}{x:MV}{F:ah->MV->ag γ}{r:ag γ}(k:F i x=r):a2 [.ref i,x] F=r:=k
theorem I4{γ:Type}{i:ah}{x:aE}{F:ah->aE->ag γ}{r:ag γ}(k:F i x=r):WM [.ref i,.int x] F=r:=k
theorem lg{n fb}(hl:vs.length=n)(h:fb ⟨H,λi=>vs[i]?⟩=aa (.ret v,⟨H1,l1⟩)):mZ n fb vs H=aa (v,H1):=(aP hl).trans (cV h rfl)
theorem fO(h:f ⟨H,l⟩=aa (v,⟨H1,l1⟩))(h2:k ⟨H1,bV l1 i v⟩=R):aO (ba i f) k ⟨H,l⟩=R:=cV (cV h rfl) h2
theorem fR(h:f ⟨H,l⟩=aa (v,⟨H1,l1⟩)):aO (gA f) k ⟨H,l⟩=aa (.ret v,⟨H1,l1⟩):=cV (cV h rfl) rfl
theorem ke(h:f ⟨H,l⟩=aa (v,⟨H1,l1⟩))(h2:k ⟨H1,l1⟩=R):aO (kF f) k ⟨H,l⟩=R:=cV (cV h rfl) h2
theorem gz{s1 s2:St->ag (MF×St)}{st:St}(h:aO s1 (aO s2 k) st=R):aO (aO s1 s2) k st=R:=by
 rw[<-h];unfold aO;cases s1 st with
 |none=>rfl
 |some p=>obtain⟨m,q⟩:=p;cases m<;>rfl
theorem fS{st:St}(h:k st=R):aO bF k st=R:=h
theorem kB(h:t ⟨H,l⟩=aa (c,⟨H1,l1⟩))(hc:c=true)(h2:aO s k ⟨H1,l1⟩=R):aO (je t s s') k ⟨H,l⟩=R:=by subst hc;exact YH (cV h rfl) h2
theorem iY(h:t ⟨H,l⟩=aa (c,⟨H1,l1⟩))(hc:c=false)(h2:aO s' k ⟨H1,l1⟩=R):aO (je t s s') k ⟨H,l⟩=R:=by subst hc;exact YH (cV h rfl) h2
theorem Nq(h:t ⟨H,l⟩=aa (c,⟨H,l⟩))(h1:s ⟨H,l⟩=aa (.next,⟨H,bV l i (.bO x)⟩))(h2:s' ⟨H,l⟩=aa (.next,⟨H,bV l i (.bO y)⟩))(h3:k ⟨H,bV l i (.bO (if c=true then x else y))⟩=R):aO (je t s s') k ⟨H,l⟩=R:=by cases c;exact cV (cV h h2) h3;exact cV (cV h h1) h3
theorem agO(h:t ⟨H,l⟩=aa (c,⟨H,l⟩))(h1:f ⟨H,l⟩=aa (.bO x,⟨H,l⟩))(h2:k ⟨H,l⟩=aa (.ret (.bO y),⟨H,l⟩)):aO (je t (aO (gA f) bF) bF) k ⟨H,l⟩=aa (.ret (.bO (if c=true then x else y)),⟨H,l⟩):=by cases c;exact cV (cV h rfl) h2;exact cV (cV h (show aO (gA f) bF ⟨H,l⟩=aa (.ret (.bO x),⟨H,l⟩) from cV (cV h1 rfl) rfl)) rfl
theorem aF(h:l i=aa v):au i ⟨H,l⟩=aa (v,⟨H,l⟩):=eJ h rfl
theorem er:bV l i v i=aa v:=aP rfl
theorem kg{r}(h:l j=r)(hn:afA j i=false):bV l i v j=r:=(aZ λq=>by rw[q] at hn;exact ej ((Nat.beq_refl i).symm.trans hn) (by decide)).trans h
theorem aT{st:St}:eK v st=aa (v,st):=rfl
theorem cF{bf}(h:f ⟨H,l⟩=aa (a,⟨H1,l1⟩))(h2:f' ⟨H1,l1⟩=aa (b,⟨H2,l2⟩))(h3:bf a b H2=aa (v,H3)):bU bf f f' ⟨H,l⟩=aa (v,⟨H3,l2⟩):=cV h (cV h2 (cV h3 rfl))
theorem ki{op}(h:G6 op a b=aa v):bS op a b H=aa (v,H):=eJ h rfl
theorem FK(h:cG y=false):G6 .Div (.bO x) (.bO y)=aa (.bO (bk x y)):=aP h
theorem FP(h:cG y=false):G6 .Mod (.bO x) (.bO y)=aa (.bO (jN x y).snd):=aP h
theorem Sr{n:aE}(h:dD (cu n)=false):G6 .Sub (.bO x) (.int n)=aa (.bO (aL x (cu n))):=aP h
theorem DS{n:aE}(h:dD (cu n)=false):G6 .Mult (.bO x) (.int n)=aa (.bO (bJ x (cu n))):=aP h
theorem Ss{n:aE}(h:dD (cu n)=false):G6 .Sub (.int n) (.bO x)=aa (.bO (aL (cu n) x)):=aP h
theorem cg{cf}(h:f ⟨H,l⟩=aa (a,⟨H1,l1⟩))(h2:f' ⟨H1,l1⟩=aa (b,⟨H2,l2⟩))(h3:cf a b H2=aa c):dp cf f f' ⟨H,l⟩=aa (c,⟨H2,l2⟩):=cV h (cV h2 (eJ h3 rfl))
theorem cI{bf}(h:fs ⟨H,l⟩=aa (vs,⟨H1,l1⟩))(h2:bf vs H1=aa (v,H2)):cJ bf fs ⟨H,l⟩=aa (v,⟨H2,l1⟩):=cV h (cV h2 rfl)
theorem bB(h:f ⟨H,l⟩=aa (v,⟨H1,l1⟩))(h2:fs ⟨H1,l1⟩=aa (vs,⟨H2,l2⟩)):aJ f fs ⟨H,l⟩=aa (v::vs,⟨H2,l2⟩):=cV h (cV h2 rfl)
theorem jv(h:fs ⟨H,l⟩=aa (vs,⟨H1,l1⟩))(h2:afB vs.length 100=true):jz fs ⟨H,l⟩=aa (.ref H1.length,⟨H1++[.tup vs],l1⟩):=cV h (aP (dZ h2))
theorem jq(h:fs ⟨H,l⟩=aa (vs,⟨H1,l1⟩))(h2:afB vs.length 100=true):eList fs ⟨H,l⟩=aa (.ref H1.length,⟨H1++[.list vs],l1⟩):=cV h (aP (dZ h2))
theorem wX{op}{d:MV}(h:bestOf op [a,b,d]=aa v):iG op [a,b,d] H=aa (v,H):=by show ot (bestOf op [a,b,d]) (λr=>aa (r,H))=_;exact eJ h rfl
theorem wW{op}(h:bestOf op [a,b]=aa v):iG op [a,b] H=aa (v,H):=by show ot (bestOf op [a,b]) (λr=>aa (r,H))=_;exact eJ h rfl
theorem FO{sg m e n}(h:jM x=.fin sg m e)(h2:iB sg m e=n):Oz [.bO x] H=aa (.int n,H):=by show ob (Ul (jM x)) (λsg p=>aa (MV.int (iB sg p.1 p.2),H))=_;exact cV (bI Ul h) (bI (λq=>aa (MV.int q,H)) h2)
theorem uM{m:ah}{z w u:MV}(h:f ⟨H,l⟩=aa (v,⟨H1,l1⟩))(h2:mh 3 v H1=aa [z,w,u])(h3:k ⟨H1,bV (bV (bV l1 i z) j w) m u⟩=R):aO (iO [i,j,m] f) k ⟨H,l⟩=R:=cV (cV h (eJ h2 rfl)) h3
noncomputable def aoX(o:av)(n:ah):ag (af MV):=ot o.sq λxs=>if xs.length=n then aa xs else none
theorem w6{n:ah}{o xs}(h:H[i]?=aa o)(h2:aoX o n=aa xs):mh n (.ref i) H=aa xs:=lH (eJ h h2)
theorem WY(h:f ⟨H,l⟩=aa (.bO x,⟨H1,l1⟩)):s7 f ⟨H,l⟩=aa (.bO (i8 x),⟨H1,l1⟩):=cV h rfl
theorem BZ{n:aE}(h:f ⟨H,l⟩=aa (.int n,⟨H1,l1⟩)):s7 f ⟨H,l⟩=aa (.int (-n),⟨H1,l1⟩):=cV h rfl
theorem FL{a b:aE}(h0:(b==0)=false)(h:dD (mQ a b)=false):G6 .Div (.int a) (.int b)=aa (.bO (mQ a b)):=aP ⟨by simpa using h0,h⟩
noncomputable abbrev tj:=Xc
theorem gq{o:av}{n:aE}(h:H[i]?=aa o)(h2:tj o n=aa v):ND (.ref i) (.int n) H=aa v:=lH (sb (eJ h h2))
theorem d5(h:f ⟨H,l⟩=aa (a,⟨H1,l1⟩))(h2:f' ⟨H1,l1⟩=aa (b,⟨H2,l2⟩))(h3:ND a b H2=aa v):fw f f' ⟨H,l⟩=aa (v,⟨H2,l2⟩):=cV h (cV h2 (eJ h3 rfl))
theorem gY{o:av}:(H++[o])[H.length]?=aa o:=List.getElem?_concat_length
theorem jj{T:af av}{o:av}(h:H[i]?=aa o):(H++T)[i]?=aa o:=by rw[aA (gM h)];exact h
theorem wL{o:av}{ys}(h:H[i]?=aa o)(hy:GF o=aa ys):hU i o H=true:=vf h
theorem wN{chk cap fe ys}{xs:af MV}(hc:chk (H++[.list xs])=true)(he:fe ⟨H++[.list xs],dH [v] cap l⟩=aa (a,⟨H++[.list xs],l1⟩))(hl:lZ xs.length 1000=true):iR chk iw cap l kH fe H.length (.val v::ys) (H++[.list xs])=iR chk iw cap l kH fe H.length ys (H++[.list (xs++[a])]):=by
 have hm:fx [.ref H.length,a] (H++[.list xs])=aa (.none,H++[.list (xs++[a])]):=RY (jd gY rfl ((aP (show xs.length<1000 from dZ hl)).trans (bI (λq=>aa (MV.none,q)) (by rw[rD _ _ (cL _),qQ];rfl))))
 show(if chk (H++[.list xs])=true then ob (fe ⟨H++[.list xs],dH [v] cap l⟩) (λv ed=>ob (fx [.ref H.length,v] ed.H) λ_ H'=>iR chk iw cap l kH fe H.length ys H') else none)=_;rw[aP hc];exact cV he (cV hm rfl)
theorem ud{cap fe}{o:av}{x y z p q r:MV}(hi:f ⟨H,l⟩=aa (.ref i,⟨H1,l1⟩))(ho:H1[i]?=aa o)(hy:GF o=aa [.val x,.val y,.val z])(h1:∀X,fe ⟨H1++[.list X],dH [x] cap l1⟩=aa (p,⟨H1++[.list X],dH [x] cap l1⟩))(h2:∀X,fe ⟨H1++[.list X],dH [y] cap l1⟩=aa (q,⟨H1++[.list X],dH [y] cap l1⟩))(h3:∀X,fe ⟨H1++[.list X],dH [z] cap l1⟩=aa (r,⟨H1++[.list X],dH [z] cap l1⟩)):
  iS iw cap (rL f) kH fe ⟨H,l⟩=aa (.ref H1.length,⟨H1++[.list [p,q,r]],l1⟩):=by
 have hk:∀xs,hU i o (H1++[.list xs])=true:=λxs=>wL (jj ho) hy;have hf:rL f ⟨H,l⟩=aa (([.val x,.val y,.val z],hU i o),⟨H1,l1⟩):=nM hi (eJ ho (eJ hy rfl));exact zI hf (eJ ((wN (hk _) (h1 _) rfl).trans ((wN (hk _) (h2 _) rfl).trans ((wN (hk _) (h3 _) rfl).trans (cY0 (hk _))))) rfl)
theorem mG{n:ah}(h:l i=aa (.ref n))(h2:H[n]?=aa (.cell (aa v))):jK i ⟨H,l⟩=aa (v,⟨H,l⟩):=eJ h (lH (jd h2 rfl rfl))
theorem wV{n:ah}{w:ag MV}(h:f ⟨H,l⟩=aa (v,⟨H1,l1⟩))(h1:l1 i=aa (.ref n))(h2:H1[n]?=aa (.cell w))(h3:H1.set n (.cell (aa v))=H2)(h4:k ⟨H2,l1⟩=R):aO (mw i f) k ⟨H,l⟩=R:=cV (cV h (eJ h1 (lH (jd h2 rfl rfl)))) (by show k ⟨_,l1⟩=R;rw[h3];exact h4)
theorem B2{n fb}(hl:vs.length=n)(h:fb ⟨H++[.cell none,.cell none],λi=>if i<n then vs[i]? else if i=n then aa (.ref H.length) else if i=n+1 then aa (.ref (H.length+1)) else none⟩=aa (.ret v,⟨H1,l1⟩)):runC n fb vs H=aa (v,H1):=by unfold runC;rw[aP hl,bq];exact cV h rfl
theorem wZ{op xs}(h:H[i]?=aa (.list xs))(h2:bestOf op xs=aa v):iG op [.ref i] H=aa (v,H):=by show og av.sq H[i]? (λxs=>ot (bestOf op xs) λr=>aa (r,H))=_;exact jd h rfl (eJ h2 rfl)
theorem Sm{op xs}(h:H[i]?=aa (.tup xs))(h2:bestOf op xs=aa v):iG op [.ref i] H=aa (v,H):=by show og av.sq H[i]? (λxs=>ot (bestOf op xs) λr=>aa (r,H))=_;exact jd h rfl (eJ h2 rfl)
theorem zv{a b:aE}(h:lZ a.natAbs 18446744073709551616=true):G6 .Mult (.int a) (.int b)=aa (.int (a*b)):=aP (dZ h)
theorem vg{fi fb ys chk}(h:fi ⟨H,l⟩=aa ((ys,chk),⟨H1,l1⟩))(h2:ph chk i fb ys ⟨H1,l1⟩=aa (.next,⟨H2,l2⟩))(h3:k ⟨H2,l2⟩=R):aO (mT i fi fb) k ⟨H,l⟩=R:=cV (zI h h2) h3
theorem ue{n:aE}(h:f ⟨H,l⟩=aa (.int n,⟨H1,l1⟩))(h2:0<=n/\n<=1000):mI f ⟨H,l⟩=aa ((hY n.toNat,λ_=>true),⟨H1,l1⟩):=cV h (sb (aP h2))
theorem Bh{op chk cap ys}{T:af av}{xs:af MV}(hc:chk (H++(.list xs::T))=true)(hb:bestOf op [a,b]=aa v)(hl:lZ xs.length 1000=true):
  iR chk iw cap l kH (cJ (iG op) (aJ (au 0) bG)) H.length (.pair a b::ys) (H++(.list xs::T))=iR chk iw cap l kH (cJ (iG op) (aJ (au 0) bG)) H.length ys (H++(.list (xs++[v])::(T++[.tup [a,b]]))):=by
 have he:cJ (iG op) (aJ (au 0) bG) ⟨(H++(.list xs::T))++[.tup [a,b]],dH [.ref (H++(.list xs::T)).length] cap l⟩=aa (v,⟨(H++(.list xs::T))++[.tup [a,b]],dH [.ref (H++(.list xs::T)).length] cap l⟩):=cI (bB (aF rfl) rfl) (Sm gY hb);have hg:((H++(av.list xs::T))++[av.tup [a,b]])[H.length]?=aa (.list xs):=by simp
 have hm:fx [.ref H.length,v] ((H++(av.list xs::T))++[av.tup [a,b]])=aa (.none,H++(.list (xs++[v])::(T++[.tup [a,b]]))):=RY (jd hg rfl ((aP (show xs.length<1000 from dZ hl)).trans (bI (λq=>aa (MV.none,q)) (by rw[bq,rD _ _ (cL _),qQ];rfl))))
 show(if chk (H++(.list xs::T))=true then ob (cJ (iG op) (aJ (au 0) bG) ⟨(H++(.list xs::T))++[.tup [a,b]],dH [.ref (H++(.list xs::T)).length] cap l⟩) (λv ed=>ob (fx [.ref H.length,v] ed.H) λ_ H'=>iR chk iw cap l kH (cJ (iG op) (aJ (au 0) bG)) H.length ys H') else none)=_;rw[aP hc];exact cV he (cV hm rfl)
theorem Qp{op cap}{x y z x' y' z' p q r:MV}{f f':St->ag (MV×St)}(i1:f ⟨H,l⟩=aa (.ref i,⟨H,l⟩))(i2:f' ⟨H,l⟩=aa (.ref j,⟨H,l⟩))(hi:H[i]?=aa (.list [x,y,z]))(hj:H[j]?=aa (.list [x',y',z']))(h1:bestOf op [x,x']=aa p)(h2:bestOf op [y,y']=aa q)(h3:bestOf op [z,z']=aa r):
  iS iw cap (Kb f f') kH (cJ (iG op) (aJ (au 0) bG)) ⟨H,l⟩=aa (.ref H.length,⟨H++[.list [p,q,r],.tup [x,x'],.tup [y,y'],.tup [z,z']],l⟩):=by
 have hk:∀X,Jl i j [x,y,z] [x',y',z'] (H++X)=true:=λX=>vf ⟨jj hi,jj hj⟩;have hf:Kb f f' ⟨H,l⟩=aa (([.pair x x',.pair y y',.pair z z'],Jl i j [x,y,z] [x',y',z']),⟨H,l⟩):=nM i1 (nM i2 (jd hi rfl (jd hj rfl (aP ⟨rfl,EW _⟩))));exact zI hf (eJ ((Bh (hk _) h1 rfl).trans ((Bh (hk _) h2 rfl).trans ((Bh (hk _) h3 rfl).trans (cY0 (hk _))))) rfl)
theorem fW{gf}(h:f ⟨H,l⟩=aa (a,⟨H1,l1⟩))(h2:gf a H1=aa v):gX gf f ⟨H,l⟩=aa (v,⟨H1,l1⟩):=cV h (eJ h2 rfl)
theorem jZ{d n:ah}{as}(h:H[i]?=aa (.inst d))(h2:H[d]?=aa (.attrs as))(h3:as[n]?=aa v):mH n (.ref i) H=aa v:=lH (jd h rfl (jd h2 rfl h3))
theorem p5{d n:ah}{as}(h:H[i]?=aa (.node d as))(h3:as[n]?=aa (aa v)):sy n (.ref i) H=aa v:=lH (vp h rfl (eJ h3 rfl))
theorem oO{sf fo fv}(h:fv ⟨H,l⟩=aa (v,⟨H1,l1⟩))(h2:fo ⟨H1,l1⟩=aa (a,⟨H2,l2⟩))(h3:sf a v H2=aa H3)(h4:k ⟨H3,l2⟩=R):aO (iV sf fo fv) k ⟨H,l⟩=R:=cV (cV h (cV h2 (eJ h3 rfl))) h4
theorem uX{d n:ah}{as as'}(h:H[i]?=aa (.inst d))(h2:H[d]?=aa (.attrs as))(h3:tD as n v=aa as')(h4:H.set d (.attrs as')=H1):xD n (.ref i) v H=aa H1:=lH (jd h rfl (jd h2 rfl (eJ h3 (bI aa h4))))
theorem tE{d n:ah}{as}(h:H[i]?=aa (.node d as))(h2:lZ n 3=true)(h4:H.set i (.node d (rA as n v))=H1):yF n (.ref i) v H=aa H1:=lH (vp h rfl ((aP (show n<3 from dZ h2)).trans (bI aa h4)))
theorem Hg{op gf sf fo fv}{w u:MV}(h:fo ⟨H,l⟩=aa (a,⟨H1,l1⟩))(h2:gf a H1=aa w)(h3:fv ⟨H1,l1⟩=aa (b,⟨H2,l2⟩))(h4:X9 op w b=aa u)(h5:sf a u H2=aa H3)(h6:k ⟨H3,l2⟩=R):aO (Ig op gf sf fo fv) k ⟨H,l⟩=R:=cV (cV h (eJ h2 (cV h3 (eJ h4 (eJ h5 rfl))))) h6
theorem gS{tg bf}{o:av}(h:f ⟨H,l⟩=aa (.ref i,⟨H1,l1⟩))(h2:H1[i]?=aa o)(h3:afA o.tag tg=true)(h4:fs ⟨H1,l1⟩=aa (vs,⟨H2,l2⟩))(h5:bf (.ref i::vs) H2=aa (v,H3)):iT tg bf f fs ⟨H,l⟩=aa (v,⟨H3,l2⟩):=nM h (eJ h2 ((aP (rP h3)).trans (cV h4 (cV h5 rfl))))
theorem k9{bf}{d:ah}{as}(h:f ⟨H,l⟩=aa (.ref i,⟨H1,l1⟩))(h2:H1[i]?=aa (.inst d))(h3:H1[d]?=aa (.attrs as))(h4:fs ⟨H1,l1⟩=aa (vs,⟨H2,l2⟩))(h5:bf (.ref i::vs) H2=aa (v,H3)):jb bf f fs ⟨H,l⟩=aa (v,⟨H3,l2⟩):=nM h (jd h2 rfl (jd h3 rfl (cV h4 (cV h5 rfl))))
theorem qF{xs}(h:H[i]?=aa (.list xs))(h2:lZ xs.length 1000=true)(h3:H.set i (.list (xs++[v]))=H1):fx [.ref i,v] H=aa (.none,H1):=RY (jd h rfl ((aP (show xs.length<1000 from dZ h2)).trans (bI (λq=>aa (MV.none,q)) h3)))
theorem KN{n:aE}{es ep}(h:H[i]?=aa (.dict es ep))(h2:(es.lookup n).getD .none=v):KL [.ref i,.int n] H=aa (v,H):=I4 (vp h rfl (bI (λq=>aa (q,H)) h2))
theorem Jz(h:f ⟨H,l⟩=aa (v,⟨H1,l1⟩)):Nv i f ⟨H,l⟩=aa (v,⟨H1,bV l1 i v⟩):=cV h rfl
theorem DT{fo fi fv}(h:fv ⟨H,l⟩=aa (v,⟨H1,l1⟩))(h2:fo ⟨H1,l1⟩=aa (a,⟨H2,l2⟩))(h3:fi ⟨H2,l2⟩=aa (b,⟨H3,l3⟩)){H4}(h4:vt a b v H3=aa H4)(h5:k ⟨H4,l3⟩=R):aO (zP fo fi fv) k ⟨H,l⟩=R:=cV (cV h (cV h2 (cV h3 (eJ h4 rfl)))) h5
theorem CS{n:aE}{es ep}(h:H[i]?=aa (.dict es ep))(h2:lZ es.length 1000=true)(h3:H.set i (ub es ep n v)=H1):vt (.ref i) (.int n) v H=aa H1:=lH (sb (vp h rfl ((aP (show es.length<1000 from dZ h2)).trans (bI aa h3))))
theorem FQ(h:f ⟨H,l⟩=aa (a,⟨H1,l1⟩))(h2:tru a H1=aa c):Aj f ⟨H,l⟩=aa (c,⟨H1,l1⟩):=cV h (eJ h2 rfl)
theorem afl{xs}(h:H[i]?=aa (.list xs)):tru (.ref i) H=aa (!xs.isEmpty):=by show og av.ls H[i]? (λxs=>aa (!xs.isEmpty))=_;exact jd h rfl rfl
theorem QO{xs}(h:H[i]?=aa (.list xs)):uk [.ref i] H=aa (.ref H.length,H++[.tup xs]):=yp (jd h rfl rfl)
theorem tw{xs}(h:H[i]?=aa (.list xs)):jc [.ref i] H=aa (.int (xs.length:ah),H):=yp (eJ h (eJ (a:=xs.length) rfl rfl))
theorem KO{xs}(h:H[i]?=aa (.tup xs)):jc [.ref i] H=aa (.int (xs.length:ah),H):=yp (eJ h (eJ (a:=xs.length) rfl rfl))
theorem Ox{xs}(h:H[i]?=aa (.list xs))(h2:H.set i (.list [])=H1):Ee [.ref i] H=aa (.none,H1):=yp (jd h rfl (bI (λq=>aa (MV.none,q)) h2))
theorem Fy(h:t ⟨H,l⟩=aa (true,⟨H1,l1⟩)){r}(h2:t' ⟨H1,l1⟩=r):Ai t t' ⟨H,l⟩=r:=cV h h2
theorem xf{o:av}{ys}(h:f ⟨H,l⟩=aa (.ref i,⟨H1,l1⟩))(h2:H1[i]?=aa o)(h3:GF o=aa ys):rL f ⟨H,l⟩=aa ((ys,hU i o),⟨H1,l1⟩):=nM h (eJ h2 (eJ h3 rfl))
theorem Jw{n fb}(hl:vs.length=n)(h:fb ⟨H,λi=>vs[i]?⟩=aa (.next,⟨H1,l1⟩)):mZ n fb vs H=aa (.none,H1):=(aP hl).trans (cV h rfl)
theorem eG{st:St}:bG st=aa ([],st):=rfl
theorem agP{c':cj}(h:t ⟨H,l⟩=aa (c,⟨H1,l1⟩))(h2:f ⟨H1,l1⟩=aa (.bool c',⟨H1,l1⟩)):eOr t f ⟨H,l⟩=aa (.bool (c||c'),⟨H1,l1⟩):=by cases c;exact cV h h2;exact cV h rfl
theorem Uc{xs}(h:H[i]?=aa (.list xs)):KJ [.ref i] H=aa (.bool (!xs.isEmpty),H):=yp (jd h rfl rfl)
theorem Jx{n fb m}(hl:n<=vs.length/\vs.length<=n+9)(h:fb ⟨H++[.tup (vs.drop n)],λi=>if i<n then vs[i]? else if i=n then aa (.ref H.length) else none⟩=aa (m,⟨H1,l1⟩)):Pj n fb vs H=aa (m.rv,H1):=(aP hl).trans (cV h rfl)
theorem Sp{fo fi fv}(h:fv ⟨H,l⟩=aa (v,⟨H1,l1⟩))(h2:fo ⟨H1,l1⟩=aa (a,⟨H2,l2⟩))(h3:fi ⟨H2,l2⟩=aa (b,⟨H3,l3⟩)){H4}(h4:vt a b v H3=aa H4)(h5:k ⟨H4,bV l3 i v⟩=R):aO (LP i fo fi fv) k ⟨H,l⟩=R:=cV (cV h (cV h2 (cV h3 (eJ h4 rfl)))) h5
theorem YB{node fi}(h:fi (.ref (H.length+1)::vs) (H++[.attrs []]++[Ef node H.length])=aa (.none,H1)):HJ node fi vs H=aa (.ref (H.length+1),H1):=cV h rfl
theorem Np{n i':ah}{es ep fb}(h:f ⟨H,l⟩=aa (.ref n,⟨H1,l1⟩))(h2:H1[n]?=aa (.dict es ep))(h3:uO (hU n (.dict es ep)) i i' fb es ⟨H1,l1⟩=aa (.next,⟨H2,l2⟩))(h4:k ⟨H2,l2⟩=R):aO (EF i i' f fb) k ⟨H,l⟩=R:=cV (nM h (vp h2 rfl h3)) h4
theorem W2{fo fs}{b' t' c' n:ah}{xs:af MV}(h:fo ⟨H,l⟩=aa (.ref b',⟨H1,l1⟩))(hb:H1[b']?=aa (.bound t'))(ht:H1[t']?=aa (.iter c' n))(hs:H1[c']?=aa (.list xs))(hw:xs[n]?=aa v):tC i fo fs ⟨H,l⟩=aa (.brk,⟨H1.set t' (.iter c' (n+1)),bV l1 i v⟩):=nM h (jd hb rfl (vp ht rfl (jd hs rfl (by show @ji MV (λ_=>ag (MF×St)) _ _ xs[n]?=_;rw[hw]))))
theorem WZ{fo fs}{b' t' c' n:ah}{xs:af MV}(h:fo ⟨H,l⟩=aa (.ref b',⟨H1,l1⟩))(hb:H1[b']?=aa (.bound t'))(ht:H1[t']?=aa (.iter c' n))(hs:H1[c']?=aa (.list xs))(hw:xs[n]?=none):tC i fo fs ⟨H,l⟩=fs ⟨H1.set t' .dead,l1⟩:=nM h (jd hb rfl (vp ht rfl (jd hs rfl (by show @ji MV (λ_=>ag (MF×St)) _ _ xs[n]?=_;rw[hw]))))
theorem WX{fo fi}(h:fo ⟨H,l⟩=aa (a,⟨H1,l1⟩))(h2:fi ⟨H1,l1⟩=aa (b,⟨H2,l2⟩))(h3:Nh a b H2=aa H3)(h4:k ⟨H3,l2⟩=R):aO (Vn fo fi) k ⟨H,l⟩=R:=cV (cV h (cV h2 (eJ h3 rfl))) h4
theorem WV{n:aE}{es ep}(h:H[i]?=aa (.dict es ep))(h2:es.lookup n=aa v)(h3:H.set i (.dict (es.filter λkv=>decide (kv.1≠n)) (ep+1))=H1):Nh (.ref i) (.int n) H=aa H1:=lH (sb (vp h rfl (eJ h2 (bI aa h3))))
theorem QM{xs}(h:H[i]?=aa (.list xs))(h2:xs.getLast?=aa v)(h3:H.set i (.list xs.dropLast)=H1):OB [.ref i] H=aa (v,H1):=yp (jd h rfl (eJ h2 (bI (λq=>aa (v,q)) h3)))
theorem agJ{w n}{xs:af aE}(h:H[i]?=aa (.set xs)):Br w (.int n) (.ref i) H=aa (xs.contains n==w):=sb (lH (eJ h (eJ (a:=xs.contains n) rfl rfl)))
theorem Sa{w n es ep}(h:H[i]?=aa (.dict es ep)):Br w (.int n) (.ref i) H=aa ((es.lookup n).isSome==w):=sb (lH (eJ h (eJ (a:=(es.lookup n).isSome) rfl rfl)))
theorem An{sns fl fu lo hi xs}(h:f ⟨H,l⟩=aa (a,⟨H1,l1⟩))(h2:fl ⟨H1,l1⟩=aa (lo,⟨H2,l2⟩))(h3:fu ⟨H2,l2⟩=aa (hi,⟨H3,l3⟩))(h4:sliceOf sns a H3=aa xs):pM sns f fl fu ⟨H,l⟩=aa (.ref H3.length,⟨H3++[.list (wO xs lo hi)],l3⟩):=cV h (cV h2 (cV h3 (eJ h4 rfl)))
theorem LZ{sns xs}(h:H[i]?=aa (.list xs)):sliceOf sns (.ref i) H=aa xs:=by show og av.ls H[i]? aa=_;exact jd h rfl rfl
theorem Uu{n:aE}(h:f ⟨H,l⟩=aa (.int n,⟨H1,l1⟩)):pU (aa f) ⟨H,l⟩=aa (aa n,⟨H1,l1⟩):=by show ob (f ⟨H,l⟩) (λv bZ=>AW v λi=>aa (aa i,bZ))=_;exact cV h rfl
theorem bLR{xs ys}(h:H[i]?=aa (.list xs))(h2:H[j]?=aa (.list ys))(h3:afB (xs.length+ys.length) 1000=true):bL (.ref i) (.ref j) H=aa (.ref H.length,H++[.list (xs++ys)]):=lH (lH (jd h rfl (jd h2 rfl (aP (dZ h3)))))
theorem uK{γ:Type}{x y z:γ}(e:x=z):bc true x y=z:=e
theorem rO{m}{st st1:St}{r}(h:s st=aa (m,st1))(h2:m.nx (k st1) (aa (m,st1))=r):aO s k st=r:=cV h h2
theorem TH{st st1:St}{r}(h:t st=aa (true,st1))(h2:s st1=r):je t s s' st=r:=cV h h2
theorem N7{st st1:St}{r}(h:t st=aa (false,st1))(h2:s' st1=r):je t s s' st=r:=cV h h2
theorem TG{es ep}(h:f ⟨H,l⟩=aa (.ref i,⟨H1,l1⟩))(h2:H1[i]?=aa (.dict es ep)):Cf f ⟨H,l⟩=aa ((es.map λx=> .val x.2,hU i (.dict es ep)),⟨H1,l1⟩):=nM h (vp h2 rfl rfl)
theorem ah9{α β γ:Type}{o:ag (α×β)}{F:α->β->ag γ}(h:o=none):ob o F=none:=h▸rfl
theorem Vi{f':St->ag St}{st st1:St}{r}(h:s st=aa (.next,st1))(h2:f' st1=r):LH s f' st=r:=cV h h2
theorem Vj{n fb}(hl:vs.length=n)(h:fb ⟨H,λi=>vs[i]?⟩=none):mZ n fb vs H=none:=(aP hl).trans (ah9 h)
theorem Vl{n fb}(hl:vs.length=n)(h:fb ⟨H,λi=>vs[i]?⟩=aa ⟨H1,l1⟩):Vk n fb vs H=aa H1:=(aP hl).trans (eJ h rfl)
theorem aeV{st st1 MG:St}(h:t st=aa (true,st1))(h2:f st1=aa (v,MG)):rIf t f st=aa MG:=cV h (uK (cV h2 rfl))
theorem Yw{xs is}(h:H[i]?=aa (.list xs))(h2:intsOf xs=aa is):KP [.ref i] H=aa (.int is.sum,H):=yp (jd h rfl (eJ h2 rfl))
theorem QG{st st1:St}{r}(h:t st=aa (true,st1))(h2:f st1=r):Sn t f f' st=r:=cV h h2
theorem QF{st st1:St}{r}(h:t st=aa (false,st1))(h2:f' st1=r):Sn t f f' st=r:=cV h h2
theorem BY{a b:aE}(h:b≠0):G6 .Mod (.int a) (.int b)=aa (.int (a.fmod b)):=aP h
theorem DQ{a b:aE}(h:b≠0)(h2:b.natAbs<1073741824):G6 .FloorDiv (.int a) (.int b)=aa (.int (a.fdiv b)):=aP ⟨h,h2⟩
theorem eD0:sv ⟨H,l⟩=aa (.ref H.length,⟨H++[.dict [] 0],l⟩):=rfl
theorem Ud{xs}(h:H[i]?=aa (.list xs)):Cz [.ref i] H=aa (.ref H.length,H++[.iter i 0]):=yp (jd h rfl rfl)
theorem Yu{n:aE}{xs}(h:H[i]?=aa (.set xs))(h2:lZ xs.length 1000=true)(h3:H.set i (.set (if xs.contains n then xs else n::xs))=H1):KI [.ref i,.int n] H=aa (.none,H1):=I4 (jd h rfl ((aP (show xs.length<1000 from dZ h2)).trans (bI (λq=>aa (MV.none,q)) h3)))
theorem So{j n:ah}(h:f ⟨H,l⟩=aa (.ref i,⟨H1,l1⟩))(h2:H1[i]?=aa (.iter j n)):B0 f ⟨H,l⟩=aa (.ref H1.length,⟨H1++[.bound i],l1⟩):=nM h (vp h2 rfl rfl)
theorem Sq{xs}(h:f ⟨H,l⟩=aa (.ref i,⟨H1,l1⟩))(h2:H1[i]?=aa (.tup xs)):rT f ⟨H,l⟩=aa (xs,⟨H1,l1⟩):=nM h (jd h2 rfl rfl)
theorem Jy{xs}(h:f ⟨H,l⟩=aa (.ref i,⟨H1,l1⟩))(h2:H1[i]?=aa (.list xs)):rT f ⟨H,l⟩=aa (xs,⟨H1,l1⟩):=nM h (jd h2 rfl rfl)
theorem fC{o:av}(e:H.set i o=H1)(h:j≠i):H1[j]?=H[j]?:=e▸aC h.symm
theorem rp{o:av}(e:H.set i o=H1)(h:i<H.length):H1[i]?=aa o:=e▸bh h
theorem nG{o:av}(e:H.set i o=H1):H1.length=H.length:=e▸PN
theorem Hp{X:af av}{o:av}(e:H++X=H1)(h:H[i]?=aa o):H1[i]?=aa o:=e▸jj h
theorem vU{o:av}(e:H++[o]=H1):H1.length=H.length+1:=e▸cK
theorem NM{o o':av}(e:H++[o,o']=H1):H1.length=H.length+2:=e▸cK
theorem D3{o:av}(e:H++[o]=H1):H1[H.length]?=aa o:=e▸gY
theorem S4{o o':av}(e:H++[o,o']=H1):H1[H.length+1]?=aa o':=by rw[<-e,aY (aga _)];show [o,o'][H.length+1-H.length]?=_;rw[gR];rfl
theorem w5{tf cap fi ft fe ys chk}(h:fi ⟨H,l⟩=aa ((ys,chk),⟨H1,l1⟩))(h2:iR chk tf cap l1 ft fe H1.length ys (H1++[.list []])=aa H2):iS tf cap fi ft fe ⟨H,l⟩=aa (.ref H1.length,⟨H2,l1⟩):=zI h (eJ h2 rfl)
end
theorem kC{chk:af av->cj}{i:ah}{body:St->ag (MF×St)}(v3:ah->St->Prop):∀(ys:af lM)(k:ah)(st:St),v3 k st->
  (∀(j:ah) y st,ys[j]?=aa y->v3 (k+j) st->chk st.H=true/\∃bZ fl,body ⟨y.heap st.H,bV st.l i (y.get st.H)⟩=aa (fl,bZ)/\(fl=.next\/fl=.cont)/\v3 (k+j+1) bZ)->
  (∀st,v3 (k+ys.length) st->chk st.H=true)->∃bZ,ph chk i body ys st=aa (.next,bZ)/\v3 (k+ys.length) bZ:=by
 intro ys
 induction ys with
 |nil=>exactλk st h _ he=>⟨st,aP (he st h),h⟩
 |cons y ys ih=>
  intro k st h hs he;have e:k+(y::ys).length=k+1+ys.length:=by rw[cU];exact vr
  rw[e] at he⊢;refine dQ (hs 0 y st rfl h) λhc eX=>?_;refine eu eX λbZ fl hb hf h'=>?_;clear eX;refine cv (ih (k+1) bZ h' (λj z st hj hI=>by
   have e:k+(j+1)=k+1+j:=by exact vr
   have:=hs (j+1) z st hj (by rw[e];exact hI);rw[e] at this;exact this) he) λVu e Iz=>⟨Vu,?_,Iz⟩
  show(if chk st.H=true then p9 (ph chk i body ys) (body ⟨y.heap st.H,bV st.l i (y.get st.H)⟩) else none)=_;rw[aP hc];exact cV hb (hf.elim (λq=>by rw[q];exact e) λq=>by rw[q];exact e)
theorem Hb{chk:af av->cj}{tf cap l ft fe n}(v3:ah->af av->Prop):∀(ys:af lM)(k:ah)(H:af av),v3 k H->
  (∀(j:ah) y H,ys[j]?=aa y->v3 (k+j) H->chk H=true/\∃vs b cH,tf (y.get H) (y.heap H)=aa vs/\ft ⟨y.heap H,dH vs cap l⟩=aa (b,cH)/\
   (b=false->v3 (k+j+1) cH.H)/\(b=true->∃v ed r H',fe cH=aa (v,ed)/\fx [.ref n,v] ed.H=aa (r,H')/\v3 (k+j+1) H'))->
  (∀H,v3 (k+ys.length) H->chk H=true)->∃H',iR chk tf cap l ft fe n ys H=aa H'/\v3 (k+ys.length) H':=by
 intro ys
 induction ys with
 |nil=>exactλk H h _ he=>⟨H,aP (he H h),h⟩
 |cons y ys ih=>
  intro k H h hs he;have e:k+(y::ys).length=k+1+ys.length:=by rw[cU];exact vr
  rw[e] at he⊢;refine dQ (hs 0 y H rfl h) λhc eX=>?_;refine CJ eX λvs b cH h1 h2 h3 h4=>?_;clear eX;have again:=λwm(hI:v3 (k+1) wm)=>ih (k+1) wm hI (λj z st hj hI=>by
   have e:k+(j+1)=k+1+j:=by exact vr
   have:=hs (j+1) z st hj (by rw[e];exact hI);rw[e] at this;exact this) he
  have key:∀{wm},bc b (ob (fe cH) λv ed=>ob (fx [.ref n,v] ed.H) λ_ H'=>iR chk tf cap l ft fe n ys H') (iR chk tf cap l ft fe n ys cH.H)=iR chk tf cap l ft fe n ys wm->v3 (k+1) wm->∃H',iR chk tf cap l ft fe n (y::ys) H=aa H'/\v3 (k+1+ys.length) H':=λ{wm} q hI=>(again wm hI).elim λH' r=>⟨H',(aP (show chk H=true from hc)).trans (eJ h1 (cV h2 (q.trans r.1))),r.2⟩
  cases b with
  |false=>exact key rfl (h3 rfl)
  |true=>exact aii (h4 rfl) λv ed r H' h5 h6 h7=>key (uK (cV h5 (cV h6 rfl))) h7
theorem gtI(a b:aE):(if ua .Gt (.int b) (.int a)=aa true then MV.int b else .int a)=.int (max a b):=by
 show(if aa (decide (a<b))=aa true then MV.int b else .int a)=_;by_cases h:a<b
 ·rw[cM h,aP rfl,PJ (vA h)]
 ·rw[dO h,aZ (by decide),Rt (qN.mp h)]
theorem ltI(a b:aE):(if ua .Lt (.int b) (.int a)=aa true then MV.int b else .int a)=.int (min a b):=by
 show(if aa (decide (b<a))=aa true then MV.int b else .int a)=_;by_cases h:b<a
 ·rw[cM h,aP rfl,PK (vA h)]
 ·rw[dO h,aZ (by decide),Ru (qN.mp h)]
theorem max2(a b:aE):bestOf .Gt [.int a,.int b]=aa (.int (max a b)):=bI aa (gtI a b)
theorem min2(a b:aE):bestOf .Lt [.int a,.int b]=aa (.int (min a b)):=bI aa (ltI a b)
theorem ahn(a b d:aE):bestOf .Gt [.int a,.int b,.int d]=aa (.int (max (max a b) d)):=by show aa (best .Gt (if ua .Gt (.int b) (.int a)=aa true then MV.int b else .int a) [.int d])=_;rw[gtI];exact bI aa (gtI _ d)
theorem aho(a b d:aE):bestOf .Lt [.int a,.int b,.int d]=aa (.int (min (min a b) d)):=by show aa (best .Lt (if ua .Lt (.int b) (.int a)=aa true then MV.int b else .int a) [.int d])=_;rw[ltI];exact bI aa (ltI _ d)
theorem ne0{k:aE}(h:k≠0):(k==0)=false:=ef.mpr h
theorem app{H:af av}{i:ah}{o:av}(h:H[i]?=aa o):∀T,(H++T)[i]?=aa o:=λT=>bj ⟨T,rfl⟩ h
theorem M3{sns:af aE}{H:af av}{ci nd kd:ah}{fig:aE}(h1:H[ci]?=aa (.tup [.int 0,.ref nd,.int fig])):
  jI sns [.ref ci,.ref kd] H=aa (.ref H.length,H++[.list [.int ((fig.fdiv 4).fmod 17),.int ((fig.fdiv 68).fmod 17),.int ((fig.fdiv 1156).fmod 17)]]):=by
 apply lg rfl;delta oZ
 repeat' first|fail|(with_reducible first|(show _=_;assumption)|apply fR|apply gz|apply aF|apply aT|apply cF|apply ki|apply cg|apply bB|apply jq|apply uM|apply w6)|((with_reducible apply kB);(focus repeat' first|fail|(with_reducible first|(show _=_;assumption)|apply bB|apply aF|apply aT|apply cF|apply ki|apply cg)|exact rfl);first|assumption|rfl)|(intro _)|exact rfl
theorem GY{sns:af aE}{H:af av}{ci nd kd x y ep:ah}{kind fig p q a b d a' b' d':aE}{es:af (aE×MV)}(h1:H[ci]?=aa (.tup [.int kind,.ref nd,.int fig]))(h2:H[nd]?=aa (.list [.int p,.int q]))(h3:H[kd]?=aa (.dict es ep))
  (hk:kind≠0) (hf:(fig.fdiv 400).fmod 3=1) (hp:es.lookup p=aa (.ref x)) (hx:H[x]?=aa (.list [.int a,.int b,.int d])) (hq:es.lookup q=aa (.ref y)) (hy:H[y]?=aa (.list [.int a',.int b',.int d'])):
  jI sns [.ref ci,.ref kd] H=aa (.ref H.length,H++[.list [.int (max a a'),.int (max b b'),.int (max d d')],.tup [.int a,.int a'],.tup [.int b,.int b'],.tup [.int d,.int d']]):=by
 have k0:=ne0 hk;have f1:((fig.fdiv 400).fmod 3==1)=true:=by rw[hf];rfl
 have V7:tj (.dict es ep) p=aa (.ref x):=hp;have hq':tj (.dict es ep) q=aa (.ref y):=hq;apply lg rfl;delta oZ za
 repeat' first|fail|(with_reducible first|(show _=_;assumption)|apply max2|apply fR|apply fS|apply gz|apply aF|apply aT|apply cF|apply ki|apply cg|apply uM|apply w6|apply d5|apply gq|apply Qp)|((with_reducible apply kB);(focus repeat' first|fail|(with_reducible first|(show _=_;assumption)|apply aF|apply aT|apply cF|apply ki|apply cg|apply d5|apply gq)|exact rfl);first|assumption|rfl)|((with_reducible apply iY);(focus repeat' first|fail|(with_reducible first|(show _=_;assumption)|apply aF|apply aT|apply cF|apply ki|apply cg|apply d5|apply gq)|exact rfl);first|assumption|rfl)|(intro _)|exact rfl
theorem GZ{sns:af aE}{H:af av}{ci nd kd x y ep:ah}{kind fig p q a b d a' b' d':aE}{es:af (aE×MV)}(h1:H[ci]?=aa (.tup [.int kind,.ref nd,.int fig]))(h2:H[nd]?=aa (.list [.int p,.int q]))(h3:H[kd]?=aa (.dict es ep))
  (hk:kind≠0) (hf:(fig.fdiv 400).fmod 3=2) (hp:es.lookup p=aa (.ref x)) (hx:H[x]?=aa (.list [.int a,.int b,.int d])) (hq:es.lookup q=aa (.ref y)) (hy:H[y]?=aa (.list [.int a',.int b',.int d'])):
  jI sns [.ref ci,.ref kd] H=aa (.ref H.length,H++[.list [.int (min a a'),.int (min b b'),.int (min d d')],.tup [.int a,.int a'],.tup [.int b,.int b'],.tup [.int d,.int d']]):=by
 have k0:=ne0 hk;have f1:((fig.fdiv 400).fmod 3==1)=false:=by rw[hf];rfl
 have f2:((fig.fdiv 400).fmod 3==2)=true:=by rw[hf];rfl
 have V7:tj (.dict es ep) p=aa (.ref x):=hp;have hq':tj (.dict es ep) q=aa (.ref y):=hq;apply lg rfl;delta oZ zc
 repeat' first|fail|(with_reducible first|(show _=_;assumption)|apply min2|apply fR|apply fS|apply gz|apply aF|apply aT|apply cF|apply ki|apply cg|apply uM|apply w6|apply d5|apply gq|apply Qp)|((with_reducible apply kB);(focus repeat' first|fail|(with_reducible first|(show _=_;assumption)|apply aF|apply aT|apply cF|apply ki|apply cg|apply d5|apply gq)|exact rfl);first|assumption|rfl)|((with_reducible apply iY);(focus repeat' first|fail|(with_reducible first|(show _=_;assumption)|apply aF|apply aT|apply cF|apply ki|apply cg|apply d5|apply gq)|exact rfl);first|assumption|rfl)|(intro _)|exact rfl
theorem G0{sns:af aE}{H:af av}{ci nd kd x ep:ah}{kind fig p:aE}{rest:af MV}{es:af (aE×MV)}(h1:H[ci]?=aa (.tup [.int kind,.ref nd,.int fig]))(h2:H[nd]?=aa (.list (.int p::rest)))(h3:H[kd]?=aa (.dict es ep))
  (hk:kind≠0) (hf:(fig.fdiv 400).fmod 3=0) (hp:es.lookup p=aa (.ref x)):
  jI sns [.ref ci,.ref kd] H=aa (.ref x,H):=by
 have k0:=ne0 hk;have f1:((fig.fdiv 400).fmod 3==1)=false:=by rw[hf];rfl
 have f2:((fig.fdiv 400).fmod 3==2)=false:=by rw[hf];rfl
 have V7:tj (.dict es ep) p=aa (.ref x):=hp;apply lg rfl;delta oZ
 repeat' first|fail|(with_reducible first|(show _=_;assumption)|apply fR|apply fS|apply aF|apply aT|apply cF|apply ki|apply cg|apply uM|apply w6|apply d5|apply gq)|((with_reducible apply iY);(focus repeat' first|fail|(with_reducible first|(show _=_;assumption)|apply aF|apply aT|apply cF|apply ki|apply cg|apply d5|apply gq)|exact rfl);first|assumption|rfl)|(intro _)|exact rfl
set_option genInjectivity false in structure l9 where
 a:aE
 b:aE
 d:aE
noncomputable def l9.ends(t:l9):aE:=min t.a (min t.b t.d)+max t.a (max t.b t.d)
noncomputable def Vh(e:aE)(t:l9):l9:=⟨e-t.b,e-t.d,e-t.a⟩
noncomputable def nS(e:aE):ah->l9->l9
 |0,t=>t
 |n+1,t=>Vh e (nS e n t)
noncomputable def G9(l x:aE):aE:=(min (max (2*l-100*x) 0) 1600*10+505).fdiv 1000
noncomputable def mM(kind fig:aE)(t:l9):l9:=
 if kind=1 then nS t.ends (1+(fig.fdiv 1200).fmod 5).toNat t
 else if kind=2 then⟨t.a+16-t.ends,t.b+16-t.ends,t.d+16-t.ends⟩
 else if kind=3 then⟨G9 (30*t.a+59*t.b+11*t.d) t.a,G9 (30*t.a+59*t.b+11*t.d) t.b,G9 (30*t.a+59*t.b+11*t.d) t.d⟩
 else t
noncomputable abbrev l9.ob(t:l9):av:=.list [.int t.a,.int t.b,.int t.d]
theorem lU{m j:ah}{y:lM}(h:(hY m)[j]?=aa y):y=.val (.int (j:ah))/\j<m:=by
 unfold hY at h;rw[b9] at h;obtain⟨hl,e⟩:=bR.mp (show(cO m)[j]?=aa j by
  cases q:(cO m)[j]? with
  |none=>rw[q] at h;cases h
  |some z=>obtain⟨a,b⟩:=bR.mp q;simp at b;rw[b])
 rw[ao hl] at h;simp at h hl;exact⟨h.symm,hl⟩
theorem lV(m:ah):(hY m).length=m:=by simp[hY]
theorem LO(sns:af aE)(m:ah)(st:St){k y:ah}{e:aE}{t:l9}(h3:st.l 3=aa (.ref k))(hk:st.H[k]?=aa (.cell (aa (.int e))))(h4:st.l 4=aa (.ref y))(hy:st.H[y]?=aa t.ob):
  ∃y' T bZ,ph (λ_=>true) 5 (qr sns) (hY m) st=aa (.next,bZ)/\bZ.H=st.H++T/\bZ.l 4=aa (.ref y')/\bZ.H[y']?=aa (nS e m t).ob/\(0<m->st.H.length<=y'):=by
 obtain⟨bZ,e1,e2⟩:=kC (chk:=λ_=>true) (i:=5) (body:=qr sns) (λj s=>s.l 3=aa (.ref k)/\∃T y',s.H=st.H++T/\s.l 4=aa (.ref y')/\s.H[y']?=aa (nS e j t).ob/\(0<j->st.H.length<=y')) (hY m) 0 st
  ⟨h3,[],y,by simp,h4,hy,λq=>by exact ajE q⟩ (λj yy s hj hI=>by
   refine dQ (lU hj) λcP V4=>?_;subst cP;obtain⟨a3,T,y',aH,a4,ay,_⟩:=hI;obtain⟨H',l'⟩:=s;simp only at a3 aH a4 ay;subst aH;have MB:=app hk T;rw[cw] at ay;have hi:∀v,[MV.int (e-(nS e j t).b),MV.int (e-(nS e j t).d),MV.int (e-(nS e j t).a)]=v->v=v:=λ_ _=>rfl;refine⟨rfl,⟨st.H++(T++[(nS e (j+1) t).ob]),bV (bV l' 5 (.int (j:ah))) 4 (.ref (st.H++T).length)⟩,.next,?_,.inl rfl,?_⟩
   ·show qr sns ⟨st.H++T,bV l' 5 (.int (j:ah))⟩=_
    rw[<-bq];delta qr;repeat' first|fail|(with_reducible first|(show _=_;assumption)|apply fO|apply aF|apply aT|apply cF|apply ki|apply bB|apply jq|apply d5|apply gq|apply mG)|(intro _)|exact rfl
   ·refine⟨a3,T++[(nS e (j+1) t).ob],(st.H++T).length,rfl,rfl,?_,λ_=>by simp⟩
    rw[<-bq,show 0+j+1=j+1 by exact pV];simp) (λ_ _=>rfl)
 refine dQ e2 λb3 eX=>?_;clear e2;refine xv eX λT y' bH b4 b5 b6=>?_;clear eX;rw[cw,lV] at b5 b6;exact⟨y',T,bZ,e1,bH,b4,b5,b6⟩
section
variable{H T:af av}{a b w:av}
theorem cg0:(H++a::b::T)[H.length]?=aa a:=by simp
theorem cg1:(H++a::b::T)[H.length+1]?=aa b:=by simp[aY]
theorem cs0:(H++a::b::T).set H.length w=H++w::b::T:=by simp[nu]
theorem cs1:(H++a::b::T).set (H.length+1) w=H++a::w::T:=by simp[nu]
theorem WO{o:av}:aa (MV.ref (H++a::b::T).length,(H++a::b::T)++[o])=aa (MV.ref (H.length+(T.length+1+1)),H++a::b::(T++[o])):=by simp
theorem Nu(t:l9):bestOf .Lt [.int t.a,.int t.b,.int t.d]=aa (.int (min t.a (min t.b t.d))):=by rw[aho,Wo]
theorem Nt(t:l9):bestOf .Gt [.int t.a,.int t.b,.int t.d]=aa (.int (max t.a (max t.b t.d))):=by rw[ahn,Wn]
theorem FN(t:l9):G6 .Add (.int (min t.a (min t.b t.d))) (.int (max t.a (max t.b t.d)))=aa (.int t.ends):=rfl
end
section
variable{sns:af aE}{H T:af av}{ci nd kd x:ah}{fig:aE}{t:l9}
 (hb:jI sns [.ref ci,.ref kd] (H++[.cell none,.cell none])=aa (.ref x,H++ .cell none:: .cell none::T)) (hx:∀o1 o2 T',(H++o1::o2::(T++T'))[x]?=aa t.ob)
include hb hx
theorem VF(h1:H[ci]?=aa (.tup [.int 2,.ref nd,.int fig])):∃y H',pJ sns [.ref ci,.ref kd] H=aa (.ref y,H++H')/\(H++H')[y]?=aa (mM 2 fig t).ob/\H.length<=y:=by
 have q0:∀o1 o2,(H++o1::o2::T)[x]?=aa (.list [.int t.a,.int t.b,.int t.d]):=λo1 o2=>by simpa using hx o1 o2 []
 refine⟨H.length+(T.length+1+1),.cell none:: .cell (aa (.int t.ends))::(T++[(mM 2 fig t).ob]),?_,?_,by exact ad4⟩
 ·apply jD
  ·apply B2 (n:=2) rfl
   delta qU BC
   repeat' first|fail|(with_reducible first|(show _=_;assumption)|apply q0|apply Nu|apply Nt|apply FN|apply cg1|apply cs1|apply fO|apply fR|apply fS|apply gz|apply aF|apply aT|apply cF|apply ki|apply cg|apply cI|apply bB|apply d5|apply gq|apply jj|apply ud|apply mG|apply wV|apply wZ)|((with_reducible apply kB);(focus repeat' first|fail|(with_reducible first|(show _=_;assumption)|apply cI|apply bB|apply aF|apply aT|apply cF|apply ki|apply cg|apply d5|apply gq|apply jj)|exact rfl);first|assumption|rfl)|((with_reducible apply iY);(focus repeat' first|fail|(with_reducible first|(show _=_;assumption)|apply cI|apply bB|apply aF|apply aT|apply cF|apply ki|apply cg|apply d5|apply gq|apply jj)|exact rfl);first|assumption|rfl)|(intro _)|exact rfl
  ·exact WO
 ·simp[aY]
theorem VG(h1:H[ci]?=aa (.tup [.int 3,.ref nd,.int fig])):∃y H',pJ sns [.ref ci,.ref kd] H=aa (.ref y,H++H')/\(H++H')[y]?=aa (mM 3 fig t).ob/\H.length<=y:=by
 have q0:∀o1 o2,(H++o1::o2::T)[x]?=aa (.list [.int t.a,.int t.b,.int t.d]):=λo1 o2=>by simpa using hx o1 o2 []
 refine⟨H.length+(T.length+1+1),.cell (aa (.int (30*t.a+59*t.b+11*t.d))):: .cell (aa (.int t.ends))::(T++[(mM 3 fig t).ob]),?_,?_,by exact ad4⟩
 ·have hm:∀y:aE,lZ (min (max y 0) 1600).natAbs 18446744073709551616=true:=λy=>cA (show(min (max y 0) 1600).natAbs<18446744073709551616 by exact abk)
  apply jD
  ·apply B2 (n:=2) rfl
   delta qU BD
   repeat' first|fail|(with_reducible first|(show _=_;assumption)|apply q0|apply Nu|apply Nt|apply FN|apply cg0|apply cg1|apply cs0|apply cs1|apply max2|apply min2|apply hm|apply fO|apply fR|apply fS|apply gz|apply aF|apply aT|apply cF|apply ki|apply cg|apply cI|apply bB|apply d5|apply gq|apply jj|apply ud|apply mG|apply wV|apply wZ|apply zv|apply wW)|((with_reducible apply kB);(focus repeat' first|fail|(with_reducible first|(show _=_;assumption)|apply cI|apply bB|apply aF|apply aT|apply cF|apply ki|apply cg|apply d5|apply gq|apply jj)|exact rfl);first|assumption|rfl)|((with_reducible apply iY);(focus repeat' first|fail|(with_reducible first|(show _=_;assumption)|apply cI|apply bB|apply aF|apply aT|apply cF|apply ki|apply cg|apply d5|apply gq|apply jj)|exact rfl);first|assumption|rfl)|(intro _)|exact rfl
  ·exact WO
 ·simp[aY]
theorem VD(hxl:H.length<=x)(h1:H[ci]?=aa (.tup [.int 0,.ref nd,.int fig])):∃y H',pJ sns [.ref ci,.ref kd] H=aa (.ref y,H++H')/\(H++H')[y]?=aa (mM 0 fig t).ob/\H.length<=y:=by
 have q0:∀o1 o2,(H++o1::o2::T)[x]?=aa (.list [.int t.a,.int t.b,.int t.d]):=λo1 o2=>by simpa using hx o1 o2 []
 refine⟨x,.cell none:: .cell (aa (.int t.ends))::T,?_,q0 _ _,hxl⟩;apply B2 (n:=2) rfl;delta qU
 repeat' first|fail|(with_reducible first|(show _=_;assumption)|apply q0|apply Nu|apply Nt|apply FN|apply cg0|apply cg1|apply cs0|apply cs1|apply fO|apply fR|apply fS|apply gz|apply aF|apply aT|apply cF|apply ki|apply cg|apply cI|apply bB|apply d5|apply gq|apply jj|apply wV|apply wZ)|((with_reducible apply iY);(focus repeat' first|fail|(with_reducible first|(show _=_;assumption)|apply cI|apply bB|apply aF|apply aT|apply cF|apply ki|apply cg|apply d5|apply gq|apply jj)|exact rfl);first|assumption|rfl)|(intro _)|exact rfl
theorem VE(h1:H[ci]?=aa (.tup [.int 1,.ref nd,.int fig])):∃y H',pJ sns [.ref ci,.ref kd] H=aa (.ref y,H++H')/\(H++H')[y]?=aa (mM 1 fig t).ob/\H.length<=y:=by
 have Df:=app h1;have V8:∀o1 o2,(H++o1::o2::T)[x]?=aa t.ob:=λo1 o2=>by simpa using hx o1 o2 []
 have hm:0<=(fig.fdiv 1200).fmod 5/\(fig.fdiv 1200).fmod 5<5:=⟨dw _ (by decide),eU _ (by decide)⟩;have V6:0<=1+(fig.fdiv 1200).fmod 5/\1+(fig.fdiv 1200).fmod 5<=1000:=by exact q24 hm
 refine aie (LO sns (1+(fig.fdiv 1200).fmod 5).toNat ⟨H++ .cell none:: .cell (aa (.int t.ends))::T,bV (λi=>if i<2 then [MV.ref ci,MV.ref kd][i]? else if i=2 then aa (MV.ref H.length) else if i=2+1 then aa (MV.ref (H.length+1)) else none) 4 (MV.ref x)⟩ (k:=H.length+1) (e:=t.ends) (y:=x) (t:=t)
  rfl (by simp) rfl (V8 _ _)) λy' T' bZ e eH e4 ey el=>?_
 refine⟨y',.cell none:: .cell (aa (.int t.ends))::(T++T'),?_,?_,by have:=el (q41 hm:);simp at this;exact akO this⟩
 ·obtain⟨H'',l''⟩:=bZ
  rw[show H++ .cell none:: .cell (aa (.int t.ends))::(T++T')=H'' by simp at eH;rw[eH]];have e4:l'' 4=aa (.ref y'):=e4;have q0:=V8;apply B2 (n:=2) rfl;delta qU
  repeat' first|fail|(with_reducible first|(show _=_;assumption)|apply q0|apply Nu|apply Nt|apply FN|apply cg0|apply cg1|apply cs0|apply cs1|apply V6|apply fO|apply fR|apply fS|apply gz|apply aF|apply aT|apply cF|apply ki|apply cg|apply cI|apply bB|apply d5|apply gq|apply jj|apply wV|apply wZ|apply vg|apply ue)|((with_reducible apply kB);(focus repeat' first|fail|(with_reducible first|(show _=_;assumption)|apply cI|apply bB|apply aF|apply aT|apply cF|apply ki|apply cg|apply d5|apply gq|apply jj)|exact rfl);first|assumption|rfl)|(intro _)|exact rfl
 ·rw[show H++ .cell none:: .cell (aa (.int t.ends))::(T++T')=bZ.H by rw[eH];simp]
  rw[ey];simp[mM]
end
end fG
namespace fG
open PySem PySem.W
noncomputable def fl(a:aE):aW:=mQ a 16
noncomputable def l9.inR(t:l9):Prop:=(0<=t.a/\t.a<=16)/\(0<=t.b/\t.b<=16)/\(0<=t.d/\t.d<=16)
theorem Sx:∀a:Fin 17,dD (mQ ((a.val:ah):aE) 16)=false:=∅
theorem kI{a:aE}(h:0<=a/\a<=16):dD (mQ a 16)=false:=by have:=Sx ⟨a.toNat,by exact q26 h⟩;rwa[show((a.toNat:ah):aE)=a by exact q44 h] at this
theorem Pu:∀a:Fin 5,dD (mQ (1+(a.val:ah):aE) 6)=false:=∅
theorem xH{a:aE}(h:0<=a/\a<5):dD (mQ (1+a) 6)=false:=by have:=Pu ⟨a.toNat,by exact abb h⟩;rwa[show((a.toNat:ah):aE)=a by exact q42 h] at this
noncomputable def wk(x:aW)(n:aE):Prop:=∃sg m e,jM (bP (bJ x (cu 16)) 4602723855168920617)=.fin sg m e/\iB sg m e=n
noncomputable def GO(x y z:aW)(t:l9):Prop:=wk x t.a/\wk y t.b/\wk z t.d
noncomputable def Told(kind fig:aE)(t t':l9):Prop:=∀sns:af aE,
 (kind=1->∃h s v x y z,(∀H,ze sns [.bO (fl t.a),.bO (fl t.b),.bO (fl t.d)] H=aa (.ref H.length,H++[.tup [.bO h,.bO s,.bO v]]))/\
  (∀H,wA sns [.bO (bP h (mQ (1+(fig.fdiv 1200).fmod 5) 6)),.bO s,.bO v] H=aa (.ref H.length,H++[.tup [.bO x,.bO y,.bO z]]))/\GO x y z t')/\
 (kind=2->∃h l s x y z,(∀H,zf sns [.bO (fl t.a),.bO (fl t.b),.bO (fl t.d)] H=aa (.ref H.length,H++[.tup [.bO h,.bO l,.bO s]]))/\
  (∀H,wB sns [.bO h,.bO (aL (cu 1) l),.bO s] H=aa (.ref H.length,H++[.tup [.bO x,.bO y,.bO z]]))/\GO x y z t')/\
 (kind=3->∃u i q x y z,(∀H,BJ sns [.bO (fl t.a),.bO (fl t.b),.bO (fl t.d)] H=aa (.ref H.length,H++[.tup [.bO u,.bO i,.bO q]]))/\
  (∀H,BK sns [.bO u,.bO (i8 i),.bO (i8 q)] H=aa (.ref H.length,H++[.tup [.bO x,.bO y,.bO z]]))/\GO x y z t')
theorem SP(H T:af av)(a b d o:av):(H++(T++[a,b,d,o]))[H.length+(T.length+1+1+1)]?=aa o:=by rw[aY (O5:),gR,aY (ajy:),show T.length+1+1+1-T.length=3 by exact ajn];rfl
theorem RZ{H T:af av}{A B C D:av}:aa (MV.ref ((((H++T)++[A])++[B])++[C]).length,((((H++T)++[A])++[B])++[C])++[D])=aa (MV.ref (H.length+(T.length+1+1+1)),H++(T++[A,B,C,D])):=by simp
section
variable{sns:af aE}{H T:af av}{ci nd kd x:ah}{fig:aE}{t t':l9}(hr:t.inR)
 (hb:jI sns [.ref ci,.ref kd] H=aa (.ref x,H++T)) (hx:∀T',(H++(T++T'))[x]?=aa t.ob)
include hb hx hr
theorem agC(hxl:H.length<=x)(h1:H[ci]?=aa (.tup [.int 0,.ref nd,.int fig])):∃y H',wz sns [.ref ci,.ref kd] H=aa (.ref y,H++H')/\(H++H')[y]?=aa t.ob/\H.length<=y:=by
 have V8:(H++T)[x]?=aa (.list [.int t.a,.int t.b,.int t.d]):=by simpa using hx []
 have a1:=kI hr.1;have a2:=kI hr.2.1;have a3:=kI hr.2.2;refine⟨x,T++[.list [.bO (fl t.a),.bO (fl t.b),.bO (fl t.d)]],?_,hx _,hxl⟩;apply jD
 ·apply lg rfl
  delta y9 wq wx
  repeat' first|fail|(with_reducible first|(show _=_;assumption)|apply fO|apply fR|apply gz|apply aF|apply aT|apply cF|apply ki|apply cg|apply cI|apply bB|apply uM|apply w6|apply FL|apply d5|apply gq|apply gY|apply jj|apply ud)|((with_reducible apply kB);(focus repeat' first|fail|(with_reducible first|(show _=_;assumption)|apply cI|apply bB|apply aF|apply aT|apply cF|apply ki|apply cg|apply d5|apply gq|apply gY|apply jj)|exact rfl);first|assumption|rfl)|(intro _)|exact rfl
 ·exact bI (λq=>aa (MV.ref x,q)) (bq H T _)
theorem agD(h1:H[ci]?=aa (.tup [.int 1,.ref nd,.int fig]))(ht:Told 1 fig t t'):∃y H',wz sns [.ref ci,.ref kd] H=aa (.ref y,H++H')/\(H++H')[y]?=aa t'.ob/\H.length<=y:=by
 have V8:(H++T)[x]?=aa (.list [.int t.a,.int t.b,.int t.d]):=by simpa using hx []
 have a1:=kI hr.1;have a2:=kI hr.2.1;have a3:=kI hr.2.2;have hm:=xH (a:=(fig.fdiv 1200).fmod 5) ⟨dw _ (by decide),eU _ (by decide)⟩;obtain⟨h,s,v,p,q,r,k1,k2,⟨_,_,_,f1,g1⟩,⟨_,_,_,f2,g2⟩,⟨_,_,_,f3,g3⟩⟩:=(ht sns).1 rfl;have i16:dD (cu 16)=false:=∅;have i1:dD (cu 1)=false:=∅;refine⟨H.length+(T.length+1+1+1),T++[.list [.bO (fl t.a),.bO (fl t.b),.bO (fl t.d)],.tup [.bO h,.bO s,.bO v],.tup [.bO p,.bO q,.bO r],t'.ob],?_,SP ..,by exact O5⟩;unfold fl at k1;apply jD
 ·apply lg rfl
  delta y9 wq wx
  repeat' first|fail|(with_reducible first|(show _=_;assumption)|apply k1|apply k2|apply fO|apply fR|apply fS|apply gz|apply aF|apply aT|apply cF|apply ki|apply DS|apply cg|apply cI|apply bB|apply FO|apply uM|apply w6|apply FL|apply d5|apply gq|apply gY|apply jj|apply ud)|((with_reducible apply kB);(focus repeat' first|fail|(with_reducible first|(show _=_;assumption)|apply cI|apply bB|apply aF|apply aT|apply cF|apply ki|apply cg|apply d5|apply gq|apply gY|apply jj)|exact rfl);first|assumption|rfl)|((with_reducible apply iY);(focus repeat' first|fail|(with_reducible first|(show _=_;assumption)|apply cI|apply bB|apply aF|apply aT|apply cF|apply ki|apply cg|apply d5|apply gq|apply gY|apply jj)|exact rfl);first|assumption|rfl)|(intro _)|exact rfl
 ·exact RZ ..
theorem agE(h1:H[ci]?=aa (.tup [.int 2,.ref nd,.int fig]))(ht:Told 2 fig t t'):∃y H',wz sns [.ref ci,.ref kd] H=aa (.ref y,H++H')/\(H++H')[y]?=aa t'.ob/\H.length<=y:=by
 have V8:(H++T)[x]?=aa (.list [.int t.a,.int t.b,.int t.d]):=by simpa using hx []
 have a1:=kI hr.1;have a2:=kI hr.2.1;have a3:=kI hr.2.2;have hm:=xH (a:=(fig.fdiv 1200).fmod 5) ⟨dw _ (by decide),eU _ (by decide)⟩;obtain⟨h,s,v,p,q,r,k1,k2,⟨_,_,_,f1,g1⟩,⟨_,_,_,f2,g2⟩,⟨_,_,_,f3,g3⟩⟩:=(ht sns).2.1 rfl;have i16:dD (cu 16)=false:=∅;have i1:dD (cu 1)=false:=∅;refine⟨H.length+(T.length+1+1+1),T++[.list [.bO (fl t.a),.bO (fl t.b),.bO (fl t.d)],.tup [.bO h,.bO s,.bO v],.tup [.bO p,.bO q,.bO r],t'.ob],?_,SP ..,by exact O5⟩;unfold fl at k1;apply jD
 ·apply lg rfl
  delta y9 wq wx
  repeat' first|fail|(with_reducible first|(show _=_;assumption)|apply k1|apply k2|apply fO|apply fR|apply fS|apply gz|apply aF|apply aT|apply cF|apply ki|apply DS|apply Ss|apply cg|apply cI|apply bB|apply FO|apply uM|apply w6|apply FL|apply d5|apply gq|apply gY|apply jj|apply ud)|((with_reducible apply kB);(focus repeat' first|fail|(with_reducible first|(show _=_;assumption)|apply cI|apply bB|apply aF|apply aT|apply cF|apply ki|apply cg|apply d5|apply gq|apply gY|apply jj)|exact rfl);first|assumption|rfl)|((with_reducible apply iY);(focus repeat' first|fail|(with_reducible first|(show _=_;assumption)|apply cI|apply bB|apply aF|apply aT|apply cF|apply ki|apply cg|apply d5|apply gq|apply gY|apply jj)|exact rfl);first|assumption|rfl)|(intro _)|exact rfl
 ·exact RZ ..
theorem agF(h1:H[ci]?=aa (.tup [.int 3,.ref nd,.int fig]))(ht:Told 3 fig t t'):∃y H',wz sns [.ref ci,.ref kd] H=aa (.ref y,H++H')/\(H++H')[y]?=aa t'.ob/\H.length<=y:=by
 have V8:(H++T)[x]?=aa (.list [.int t.a,.int t.b,.int t.d]):=by simpa using hx []
 have a1:=kI hr.1;have a2:=kI hr.2.1;have a3:=kI hr.2.2;have hm:=xH (a:=(fig.fdiv 1200).fmod 5) ⟨dw _ (by decide),eU _ (by decide)⟩;obtain⟨h,s,v,p,q,r,k1,k2,⟨_,_,_,f1,g1⟩,⟨_,_,_,f2,g2⟩,⟨_,_,_,f3,g3⟩⟩:=(ht sns).2.2 rfl;have i16:dD (cu 16)=false:=∅;have i1:dD (cu 1)=false:=∅;refine⟨H.length+(T.length+1+1+1),T++[.list [.bO (fl t.a),.bO (fl t.b),.bO (fl t.d)],.tup [.bO h,.bO s,.bO v],.tup [.bO p,.bO q,.bO r],t'.ob],?_,SP ..,by exact O5⟩;unfold fl at k1;apply jD
 ·apply lg rfl
  delta y9 wq wx
  repeat' first|fail|(with_reducible first|(show _=_;assumption)|apply k1|apply k2|apply fO|apply fR|apply fS|apply gz|apply aF|apply aT|apply cF|apply ki|apply DS|apply cg|apply cI|apply bB|apply FO|apply uM|apply w6|apply WY|apply FL|apply d5|apply gq|apply gY|apply jj|apply ud)|((with_reducible apply iY);(focus repeat' first|fail|(with_reducible first|(show _=_;assumption)|apply cI|apply bB|apply aF|apply aT|apply cF|apply ki|apply cg|apply d5|apply gq|apply gY|apply jj)|exact rfl);first|assumption|rfl)|(intro _)|exact rfl
 ·exact RZ ..
end
set_option genInjectivity false in structure Lay where
 si:ah
 ai:ah
 di:ah
 nd:ah->ah
 dd:ah->ah
 sc:ah->ah
noncomputable def qG(y:Lay)(n:ah):af (aE×MV):=(cO n).map λi:ah=>((i:aE),MV.ref (y.nd i))
noncomputable abbrev fK(y:Lay)(i:ah)(v:aE):av:=.node (y.dd i) [aa (.int (i:ah)),aa (.int v),aa (.ref (y.sc i))]
set_option genInjectivity false in structure SA(H:af av)(y:Lay)(n:ah)(np:ah->aE)(su:ah->af ah)(rd:MV)(ps fi:aE)(ep:ah):Prop where
 inst:H[y.si]?=aa (.inst y.ai)
 attr:H[y.ai]?=aa (.attrs [.ref y.di,rd,.int ps,.int fi])
 dict:H[y.di]?=aa (.dict (qG y n) ep)
 node:∀i,i<n->H[y.nd i]?=aa (fK y i (np i))
 succ:∀i,i<n->H[y.sc i]?=aa (.list ((su i).map λj:ah=> .int (j:ah)))
 inj:∀i j,i<n->j<n->y.sc i=y.sc j->i=j
noncomputable def Own(y:Lay)(n k:ah):Prop:=k=y.si\/k=y.ai\/k=y.di\/∃i,i<n/\(k=y.nd i\/k=y.sc i)
theorem lP(y:Lay){i n:ah}(h:i<n):(qG y n).lookup (i:aE)=aa (.ref (y.nd i)):=by
 unfold qG;have key:∀(l:af ah),i∈l->(l.map λi:ah=>((i:aE),MV.ref (y.nd i))).lookup (i:aE)=aa (.ref (y.nd i)):=by
  intro l
  induction l with
  |nil=>intro h;cases h
  |cons a l ih=>
   intro h;rw[bX,mD];by_cases e:i=a
   ·subst e;simp
   ·have:((i:aE)==(a:aE))=false:=by rw[ef];exact UO e
    rw[this];exact ih ((bE.mp h).resolve_left e)
 exact key _ (eP.mpr h)
section
variable{H H':af av}{y:Lay}{n:ah}{np:ah->aE}{su:ah->af ah}{rd:MV}{ps fi:aE}{ep:ah}
theorem SA.of(S:SA H y n np su rd ps fi ep)(h:∀k,Own y n k->H'[k]?=H[k]?):SA H' y n np su rd ps fi ep:=
 ⟨(h _ (.inl rfl)).trans S.inst,(h _ (.inr (.inl rfl))).trans S.attr,(h _ (.inr (.inr (.inl rfl)))).trans S.dict,λi hi=>(h _ (.inr (.inr (.inr ⟨i,hi,.inl rfl⟩)))).trans (S.node i hi),
  λi hi=>(h _ (.inr (.inr (.inr ⟨i,hi,.inr rfl⟩)))).trans (S.succ i hi),S.inj⟩
theorem SA.there(S:SA H y n np su rd ps fi ep){k:ah}(h:Own y n k):∃o,H[k]?=aa o:=by
 rcases h with rfl|rfl|rfl|⟨i,hi,rfl|rfl⟩
 ·exact⟨_,S.inst⟩
 ·exact⟨_,S.attr⟩
 ·exact⟨_,S.dict⟩
 ·exact⟨_,S.node i hi⟩
 ·exact⟨_,S.succ i hi⟩
theorem SA.app(S:SA H y n np su rd ps fi ep)(T:af av):SA (H++T) y n np su rd ps fi ep:=S.of λk hk=>by obtain⟨o,e⟩:=S.there hk;rw[e];exact fG.app e T
theorem SA.LW(S:SA H y n np su rd ps fi ep){j:ah}{o:av}(hj:¬Own y n j):SA (H.set j o) y n np su rd ps fi ep:=S.of λk hk=>aC λe=>by subst e;exact hj hk
theorem SA.ahr(S:SA H y n np su rd ps fi ep){i j:ah}(hi:i<n)(hj:j<n)(e:y.nd i=y.nd j):i=j:=by have a:=S.node i hi;have b:=S.node j hj;rw[e,b] at a;simp at a;exact acW a
theorem SA.CR(S:SA H y n np su rd ps fi ep){s:ah}(hs:s<n)(v:aE):SA (H.set (y.nd s) (fK y s v)) y n (λk=>if k=s then v else np k) su rd ps fi ep:=by
 have hl:=(gM (S.node s hs));have ne:∀{k:ah}{o:av},H[k]?=aa o->o.tag≠6->(H.set (y.nd s) (fK y s v))[k]?=aa o:=λ{k o} h ht=>by
  rewrite [aC (λe=>?_)] at ⊢
  ·exact h
  ·have:=S.node s hs
   rw[e,h] at this;cases this;exact ht rfl
 refine⟨ne S.inst (by simp[av.tag]),ne S.attr (by simp[av.tag]),ne S.dict (by simp[av.tag]),λi hi=>?_,λi hi=>ne (S.succ i hi) (by simp[av.tag]),S.inj⟩;by_cases e:i=s
 ·subst e
  rw[bh hl];simp
 ·rw[aC λq=>e (S.ahr hs hi q).symm,aZ e]
  exact S.node i hi
theorem SA.setAttr(S:SA H y n np su rd ps fi ep)(rd':MV)(OY W9:aE):SA (H.set y.ai (.attrs [.ref y.di,rd',.int OY,.int W9])) y n np su rd' OY W9 ep:=by
 have hl:=(gM S.attr);have ne:∀{k:ah}{o:av},H[k]?=aa o->o.tag≠5->(H.set y.ai (.attrs [.ref y.di,rd',.int OY,.int W9]))[k]?=aa o:=λ{k o} h ht=>by
  rewrite [aC (λe=>?_)] at ⊢
  ·exact h
  ·have:=S.attr
   rw[e,h] at this;cases this;exact ht rfl
 exact⟨ne S.inst (by simp[av.tag]),bh hl,ne S.dict (by simp[av.tag]),λi hi=>ne (S.node i hi) (by simp[av.tag]),λi hi=>ne (S.succ i hi) (by simp[av.tag]),S.inj⟩
theorem SA.YJ(S:SA H y n np su rd ps fi ep){rl:ah}{xs:af MV}(uh:H[rl]?=aa (.list xs))(hR:∀i,i<n->rl≠y.sc i):¬Own y n rl:=by
 rintro(e|e|e|⟨i,hi,e|e⟩)
 ·rw[e,S.inst] at uh;cases uh
 ·rw[e,S.attr] at uh;cases uh
 ·rw[e,S.dict] at uh;cases uh
 ·rw[e,S.node i hi] at uh;cases uh
 ·exact hR i hi e
theorem SA.afb(S:SA H y n np su rd ps fi ep){s:ah}(hs:s<n)(l:af ah):SA (H.set (y.sc s) (.list (l.map λj:ah=> .int (j:ah)))) y n np (λk=>if k=s then l else su k) rd ps fi ep:=by
 have hl:=(gM (S.succ s hs));have ne:∀{k:ah}{o:av},H[k]?=aa o->o.tag≠0->(H.set (y.sc s) (.list (l.map λj:ah=> .int (j:ah))))[k]?=aa o:=λ{k o} h ht=>by
  rewrite [aC (λe=>?_)] at ⊢
  ·exact h
  ·have:=S.succ s hs
   rw[e,h] at this;cases this;exact ht rfl
 refine⟨ne S.inst (by simp[av.tag]),ne S.attr (by simp[av.tag]),ne S.dict (by simp[av.tag]),λi hi=>ne (S.node i hi) (by simp[av.tag]),λi hi=>?_,S.inj⟩;by_cases e:i=s
 ·subst e
  rw[bh hl];simp
 ·rw[aC λq=>e (S.inj s i hs hi q).symm,aZ e]
  exact S.succ i hi
end
noncomputable abbrev bD(l:af ah):af MV:=l.map λj:ah=> .int (j:ah)
noncomputable def hJ(y:Lay)(n rl:ah)(H H':af av):Prop:=H.length<=H'.length/\∀k,k<H.length->¬Own y n k->k≠rl->H'[k]?=H[k]?
theorem hJ.refl{y n rl H}:hJ y n rl H H:=⟨cL _,λ_ _ _ _=>rfl⟩
theorem hJ.trans{y n rl H wm WB}(a:hJ y n rl H wm)(b:hJ y n rl wm WB):hJ y n rl H WB:=⟨fA a.1 b.1,λk h1 h2 h3=>(b.2 k (fE h1 a.1) h2 h3).trans (a.2 k h1 h2 h3)⟩
theorem hJ.set{y n rl H}{j:ah}{o:av}(hj:Own y n j\/j=rl):hJ y n rl H (H.set j o):=⟨by simp,λk _ h2 h3=>aC λe=>by subst e;exact hj.elim h2 h3⟩
theorem hJ.app{y n rl H}(T:af av):hJ y n rl H (H++T):=⟨by simp,λk h _ _=>aA h⟩
section
variable{y:Lay}{n rl:ah}{np:ah->aE}{su:ah->af ah}{ps fi:aE}{ep:ah}{Ph:af ah}
noncomputable def jJ(np:ah->aE)(s:ah):ah->aE:=λk=>if k=s then np s-1 else np k
noncomputable def wR(np:ah->aE)(Ph:af ah)(s:ah):af ah:=if np s-1=0 then Ph++[s] else Ph
theorem Si(sns:af aE){st:St}{s:ah}(S:SA st.H y n np su (.ref rl) ps fi ep)(uh:st.H[rl]?=aa (.list (bD Ph)))(hR:∀i,i<n->rl≠y.sc i)(h0:st.l 0=aa (.ref y.si))(h2:st.l 2=aa (.ref y.di))(h6:st.l 6=aa (.int (s:ah)))(hs:s<n)(hlen:Ph.length<1000):
  ∃H',vN sns st=aa (.next,⟨H',bV st.l 7 (.ref (y.nd s))⟩)/\SA H' y n (jJ np s) su (.ref rl) ps fi ep/\H'[rl]?=aa (.list (bD (wR np Ph s)))/\hJ y n rl st.H H':=by
 obtain⟨H,l⟩:=st;simp only at S uh h0 h2 h6;unfold jJ wR;generalize hv:np s-1=v;have S1:=S.CR hs v;have XR:y.nd s≠rl:=λe=>by have:=S.node s hs;rw[e,uh] at this;cases this
 have XQ:=S.YJ uh hR;have N2:(H.set (y.nd s) (fK y s v))[rl]?=aa (.list (bD Ph)):=by rw[aC XR];exact uh
 have n1:=S1.node s hs;rw[aP rfl] at n1;by_cases hz:v=0
 ·refine⟨(H.set (y.nd s) (fK y s v)).set rl (.list (bD (Ph++[s]))),?_,S1.LW XQ,?_,?_⟩
  ·exact fO (d5 (aF h2) (aF h6) (gq S.dict (lP y hs))) (Hg (aF er) (p5 (S.node s hs) rfl) aT rfl (tE (S.node s hs) rfl (by rw[hv];rfl)) (kB (cg (fW (aF er) (p5 n1 rfl)) aT rfl) (xY.mpr hz)
    (gz (ke (gS (fW (aF h0) (jZ S1.inst S1.attr rfl)) N2 rfl (bB (aF h6) eG) (qF N2 (cA (show(bD Ph).length<1000 by rw[bD,a8];exact hlen)) (by rw[bD,bD,d4];rfl))) rfl))))
  ·rw[aP hz,bh (gM N2)]
  ·exact(hJ.set (.inl (.inr (.inr (.inr ⟨s,hs,.inl rfl⟩))))).trans (hJ.set (.inr rfl))
 ·refine⟨H.set (y.nd s) (fK y s v),?_,S1,?_,?_⟩
  ·exact fO (d5 (aF h2) (aF h6) (gq S.dict (lP y hs))) (Hg (aF er) (p5 (S.node s hs) rfl) aT rfl (tE (S.node s hs) rfl (by rw[hv];rfl)) (iY (cg (fW (aF er) (p5 n1 rfl)) aT rfl) (ef.mpr hz) rfl))
  ·rw[aZ hz];exact N2
  ·exact hJ.set (.inl (.inr (.inr (.inr ⟨s,hs,.inl rfl⟩))))
end
end fG
namespace fG
open PySem PySem.W
set_option genInjectivity false in structure AS where
 np:ah->aE
 rd:af ah
 fi:aE
noncomputable def AS.dec(a:AS)(s:ah):AS:=⟨jJ a.np s,wR a.np a.rd s,a.fi⟩
noncomputable def AS.mark(a:AS)(v:ah)(x:aE):AS:=⟨λk=>if k=v then x else a.np k,a.rd,a.fi⟩
noncomputable def AS.tick(a:AS):AS:=⟨a.np,a.rd,a.fi+1⟩
noncomputable def AS.one(su:ah->af ah)(a:AS)(v:ah):AS:=((su v).foldl AS.dec (a.mark v (-2))).tick
noncomputable def AS.done(su:ah->af ah)(a:AS)(vs:af ah):AS:=vs.foldl (AS.one su) a
theorem qK{l:af ah}{j:ah}{y:lM}(h:((bD l).map lM.val)[j]?=aa y):∃s,l[j]?=aa s/\y=.val (.int (s:ah)):=by
 rw[b9,b9] at h;cases q:l[j]? with
 |none=>rw[q] at h;cases h
 |some s=>rw[q] at h;cases h;exact⟨s,rfl,rfl⟩
theorem take_snoc{α:Type}{l:af α}{j:ah}{s:α}(h:l[j]?=aa s):l.take (j+1)=l.take j++[s]:=by rw[List.take_add_one,h];rfl
theorem Nf(a:AS):∀(l:af ah),(l.foldl AS.dec a).rd.length<=a.rd.length+l.length:=by
 intro l
 induction l generalizing a with
 |nil=>simp
 |cons s l ih=>
  rw[jx];have:=ih (a.dec s);have h2:(a.dec s).rd.length<=a.rd.length+1:=by show(wR a.np a.rd s).length<=_;unfold wR;split<;>simp
  simp only[cU];exact alM this h2
theorem kc{l:ah}{o:av}{H:af av}:hU l o H=true↔H[l]?=aa o:=⟨yt,vf⟩
section
variable{y:Lay}{n rl:ah}{su:ah->af ah}{ps:aE}{ep:ah}
set_option genInjectivity false in structure SS(H:af av)(y:Lay)(n rl:ah)(su:ah->af ah)(a:AS)(ps:aE)(ep:ah):Prop where
 S:SA H y n a.np su (.ref rl) ps a.fi ep
 R:H[rl]?=aa (.list (bD a.rd))
 off:∀i,i<n->rl≠y.sc i
theorem SS.app{H:af av}{a:AS}(h:SS H y n rl su a ps ep)(T:af av):SS (H++T) y n rl su a ps ep:=⟨h.S.app T,fG.app h.R T,h.off⟩
theorem Ng(sns:af aE){st:St}{a:AS}{v:ah}(h:SS st.H y n rl su a ps ep)(hv:v<n)(h0:st.l 0=aa (.ref y.si))(h2:st.l 2=aa (.ref y.di))(FZ:∀s∈su v,s<n)(hlen:a.rd.length+(su v).length<1000):
  ∃bZ,ph (hU (y.sc v) (.list (bD (su v)))) 6 (vN sns) ((bD (su v)).map .val) st=aa (.next,bZ)/\SS bZ.H y n rl su ((su v).foldl AS.dec a) ps ep/\hJ y n rl st.H bZ.H/\∀k,k≠6->k≠7->bZ.l k=st.l k:=by
 obtain⟨bZ,e1,e2⟩:=kC (chk:=hU (y.sc v) (.list (bD (su v)))) (i:=6) (body:=vN sns)
  (λj s=>SS s.H y n rl su (((su v).take j).foldl AS.dec a) ps ep/\hJ y n rl st.H s.H/\∀k,k≠6->k≠7->s.l k=st.l k) ((bD (su v)).map .val) 0 st
  ⟨by simpa using h,hJ.refl,λ_ _ _=>rfl⟩ (λj yy s hj hI=>by
   refine cv (qK hj) λz hz cP=>?_;subst cP;refine fD hI λa1 a2 a3=>?_;clear hI;rw[cw] at a1;refine⟨kc.mpr (a1.S.succ v hv),?_⟩;have F2:=FZ z (aM hz);have hl:=Nf a ((su v).take j);have ug:=(gM hz);obtain⟨H',b1,b2,b3,b4⟩:=Si sns (st:=⟨s.H,bV s.l 6 (.int (z:ah))⟩) (s:=z) a1.S a1.R a1.off (by simp[bV,a3,h0]) (by simp[bV,a3,h2]) rfl F2 (by rw[ij] at hl;exact acU hlen hl);refine⟨_,.next,b1,.inl rfl,?_,a2.trans b4,λk k6 k7=>?_⟩
   ·rw[show 0+j+1=j+1 by exact pV,take_snoc hz,iI]
    exact⟨b2,b3,a1.off⟩
   ·show bV (bV s.l 6 _) 7 _ k=_
    simp[bV,k6,k7,a3]) (λs hI=>kc.mpr (hI.1.S.succ v hv))
 refine fD e2 λc1 c2 c3=>?_;clear e2;refine⟨bZ,e1,?_,c2,c3⟩;have:((bD (su v)).map lM.val).length=(su v).length:=by simp
 rw[cw,this,ip] at c1;exact c1
theorem Ut(sns:af aE){st:St}{a:AS}{v:ah}(h:SS st.H y n rl su a ps ep)(hv:v<n)(hn:a.np v=-1)(h0:st.l 0=aa (.ref y.si))(h2:st.l 2=aa (.ref y.di))(h3:st.l 3=aa (.int (v:ah)))(FZ:∀s∈su v,s<n)(hlen:a.rd.length+(su v).length<1000):
  ∃bZ,zZ sns st=aa (.next,bZ)/\SS bZ.H y n rl su (a.one su v) ps ep/\hJ y n rl st.H bZ.H/\bZ.l 0=st.l 0/\bZ.l 1=st.l 1/\bZ.l 2=st.l 2:=by
 obtain⟨H,l⟩:=st;simp only at h h0 h2 h3;have S1:=h.S.CR hv (-2);have n1:=S1.node v hv;rw[aP rfl] at n1;have XR:y.nd v≠rl:=λe=>by have:=h.S.node v hv;rw[e,h.R] at this;cases this
 have h1:SS (H.set (y.nd v) (fK y v (-2))) y n rl su (a.mark v (-2)) ps ep:=⟨S1,by rw[aC XR];exact h.R,h.off⟩;refine lT (Ng sns (st:=⟨H.set (y.nd v) (fK y v (-2)),bV (bV l 4 (.ref (y.nd v))) 5 (.int (-1))⟩) h1 hv h0 h2 FZ hlen) λbZ e1 e2 e3 e4=>?_;obtain⟨H',l'⟩:=bZ;simp only at e2 e3 e4;have su':=S1.succ v hv;refine⟨⟨H'.set y.ai (.attrs [.ref y.di,.ref rl,.int ps,.int (((su v).foldl AS.dec (a.mark v (-2))).fi+1)]),l'⟩,?_,⟨e2.S.setAttr _ _ _,?_,h.off⟩,?_,?_,?_,?_⟩
 ·have rJ:=h.S.node v hv
  rw[hn] at rJ;have l0:=e4 0 (by decide) (by decide);have gd:KL [.ref y.di,.int (v:ah)] H=aa (.ref (y.nd v),H):=KN h.S.dict (by rw[lP y hv];rfl);have it:rL (gX (sy 2) (au 4)) ⟨H.set (y.nd v) (fK y v (-2)),bV (bV l 4 (.ref (y.nd v))) 5 (.int (-1))⟩=aa (((bD (su v)).map .val,hU (y.sc v) (.list (bD (su v)))),⟨H.set (y.nd v) (fK y v (-2)),bV (bV l 4 (.ref (y.nd v))) 5 (.int (-1))⟩):=xf (fW (aF rfl) (p5 n1 rfl)) su' rfl
  exact iY (cg (Jz (gS (aF h2) h.S.dict rfl (bB (aF h3) eG) gd)) aT rfl) rfl (fO (fW (aF er) (p5 rJ rfl)) (iY (cg (aF er) aT rfl) rfl (oO aT (aF rfl) (tE rJ rfl rfl) (vg it e1
   (Hg (aF (l0.trans h0)) (jZ e2.S.inst e2.S.attr rfl) aT rfl (uX e2.S.inst e2.S.attr rfl rfl) rfl)))))
 ·rw[aC λe=>by have:=e2.S.attr;rw[e,e2.R] at this;cases this]
  exact e2.R
 ·exact((hJ.set (.inl (.inr (.inr (.inr ⟨v,hv,.inl rfl⟩))))).trans e3).trans (hJ.set (.inl (.inr (.inl rfl))))
 ·show l' 0=l 0
  rw[e4 0 (by decide) (by decide)];simp[bV]
 ·show l' 1=l 1
  rw[e4 1 (by decide) (by decide)];simp[bV]
 ·show l' 2=l 2
  rw[e4 2 (by decide) (by decide)];simp[bV]
end
end fG
namespace fG
open PySem PySem.W
section
variable{y:Lay}{n rl:ah}{su:ah->af ah}{ps:aE}{ep:ah}{H:af av}{a:AS}
theorem Kd(sns:af aE)(h:SS H y n rl su a ps ep):vR sns [.ref y.si] H=aa (.bool (decide (a.fi<ps)||!a.rd.isEmpty),H):=by
 have e:(bD a.rd).isEmpty=a.rd.isEmpty:=by cases a.rd<;>rfl
 rw[<-e];exact lg rfl (iY (cg (fW (aF rfl) (jZ h.S.inst h.S.attr rfl)) aT rfl) rfl (fS (fR (agP (cg (fW (aF rfl) (jZ h.S.inst h.S.attr rfl)) (fW (aF rfl) (jZ h.S.inst h.S.attr rfl)) rfl) (cI (bB (fW (aF rfl) (jZ h.S.inst h.S.attr rfl)) eG) (Uc h.R))))))
theorem Nk(sns:af aE)(h:SS H y n rl su a ps ep)(vs:af ah)(Ht:∀v∈vs,v<n)(h9:vs.length<=9)(D7:∀(k:ah) v,vs[k]?=aa v->(a.done su (vs.take k)).np v=-1/\(a.done su (vs.take k)).rd.length+(su v).length<1000)
  (FZ:∀v,v<n->∀s∈su v,s<n):∃H',Ac sns (.ref y.si::bD vs) H=aa (.none,H')/\SS H' y n rl su (a.done su vs) ps ep/\hJ y n rl H H':=by
 have h1:=h.app [.tup (bD vs)];have hT:(H++[.tup (bD vs)])[H.length]?=aa (.tup (bD vs)):=by simp
 have SY:¬Own y n H.length:=λq=>by refine dA (h.S.there q) λo e=>?_;have:=(gM e);exact UA this
 have Xl:H.length≠rl:=λe=>by have:=(gM h.R);exact Lw e this
 have rZ:∀H',hJ y n rl (H++[.tup (bD vs)]) H'->H'[H.length]?=aa (.tup (bD vs)):=λH' u=>(u.2 _ (by simp) SY Xl).trans hT;obtain⟨bZ,e1,e2⟩:=kC (chk:=hU H.length (.tup (bD vs))) (i:=3) (body:=zZ sns)
  (λj s=>SS s.H y n rl su (a.done su (vs.take j)) ps ep/\hJ y n rl (H++[.tup (bD vs)]) s.H/\s.l 0=aa (.ref y.si)/\s.l 1=aa (.ref H.length)/\s.l 2=aa (.ref y.di)) ((bD vs).map .val) 0
  ⟨H++[.tup (bD vs)],bV (λi=>if i<1 then(MV.ref y.si::bD vs)[i]? else if i=1 then aa (MV.ref H.length) else none) 2 (.ref y.di)⟩
  ⟨by simpa[AS.done] using h1,hJ.refl,rfl,rfl,rfl⟩ (λj yy s hj hI=>by
   refine cv (qK hj) λz hz cP=>?_;subst cP;refine El hI λa1 a2 a3 a4 a5=>?_;clear hI;rw[cw] at a1;refine⟨kc.mpr (rZ _ a2),?_⟩;obtain⟨o1,o2⟩:=D7 j z hz;obtain⟨s',b1,b2,b3,b4,b5,b6⟩:=Ut sns (st:=⟨s.H,bV s.l 3 (.int (z:ah))⟩) a1 (Ht z (aM hz)) o1 a3 a5 rfl (FZ z (Ht z (aM hz))) o2;refine⟨s',.next,b1,.inl rfl,?_,a2.trans b3,?_,?_,?_⟩
   ·rw[show 0+j+1=j+1 by exact pV,take_snoc hz]
    show SS s'.H y n rl su ((vs.take j++[z]).foldl (AS.one su) a) ps ep;rw[iI];exact b2
   ·rw[b4];simp[bV,a3]
   ·rw[b5];simp[bV,a4]
   ·rw[b6];simp[bV,a5]) (λs hI=>kc.mpr (rZ _ hI.2.1))
 refine El e2 λc1 c2 c3 c4 c5=>?_;clear e2;have hlen:((bD vs).map lM.val).length=vs.length:=by simp
 rw[cw,hlen,ip] at c1;refine⟨bZ.H,?_,c1,(hJ.app _).trans c2⟩;have hw:1<=vs.length+1/\vs.length+1<=1+9:=by exact aj8 h9
 exact Jx (m:=.next) (by rw[cU,bD,a8];exact hw) (iY (cg (fW (aF rfl) (jZ h1.S.inst h1.S.attr rfl)) aT rfl) rfl (fS (fO (fW (aF rfl) (jZ h1.S.inst h1.S.attr rfl)) (vg (xf (aF rfl) hT rfl) e1 rfl))))
theorem CK(a:AS):∀(l:af ah),(l.foldl (λa v=>AS.mark a v (-1)) a).rd=a.rd/\(l.foldl (λa v=>AS.mark a v (-1)) a).fi=a.fi
 |[]=>⟨rfl,rfl⟩
 |v::l=>CK (a.mark v (-1)) l
noncomputable def AS.out(a:AS):AS:=⟨(a.rd.foldl (λa v=>AS.mark a v (-1)) a).np,[],a.fi⟩
theorem zA(sns:af aE)(h:SS H y n rl su a ps ep)(Ht:∀v∈a.rd,v<n):∃H',mj sns [.ref y.si] H=aa (.ref H.length,H')/\SS H' y n rl su a.out (ps+a.rd.length) ep/\hJ y n rl H H'/\H'[H.length]?=aa (.tup (bD a.rd))/\H.length<H'.length:=by
 have h1:=h.app [.tup (bD a.rd)];have hT:(H++[.tup (bD a.rd)])[H.length]?=aa (.tup (bD a.rd)):=by simp
 have SY:¬Own y n H.length:=λq=>by refine dA (h.S.there q) λo e=>?_;have:=(gM e);exact UA this
 have Xl:H.length≠rl:=λe=>by have:=(gM h.R);exact Lw e this
 have rZ:∀H',hJ y n rl (H++[.tup (bD a.rd)]) H'->H'[H.length]?=aa (.tup (bD a.rd)):=λH' u=>(u.2 _ (by simp) SY Xl).trans hT;refine cv (kC (chk:=hU H.length (.tup (bD a.rd))) (i:=3) (body:=tR sns)
  (λj s=>SS s.H y n rl su ((a.rd.take j).foldl (λa v=>AS.mark a v (-1)) a) ps ep/\hJ y n rl (H++[.tup (bD a.rd)]) s.H/\s.l 0=aa (.ref y.si)/\s.l 1=aa (.ref H.length)/\s.l 2=aa (.ref y.di)) ((bD a.rd).map .val) 0
  ⟨H++[.tup (bD a.rd)],bV (bV (λi=>[MV.ref y.si][i]?) 1 (.ref H.length)) 2 (.ref y.di)⟩
  ⟨by simpa using h1,hJ.refl,rfl,rfl,rfl⟩ (λj yy s hj hI=>by
   obtain⟨z,hz,rfl⟩:=qK hj;obtain⟨a1,a2,a3,a4,a5⟩:=hI;rw[cw] at a1;obtain⟨H',l'⟩:=s;simp only at a1 a2 a3 a4 a5;have F2:=Ht z (aM hz);have XR:y.nd z≠rl:=λe=>by have:=a1.S.node z F2;rw[e,a1.R] at this;cases this
   refine⟨kc.mpr (rZ _ a2),⟨H'.set (y.nd z) (fK y z (-1)),bV l' 3 (.int (z:ah))⟩,.next,?_,.inl rfl,?_,a2.trans (hJ.set (.inl (.inr (.inr (.inr ⟨z,F2,.inl rfl⟩))))),?_,?_,?_⟩
   ·show tR sns ⟨H',bV l' 3 (.int (z:ah))⟩=_
    exact oO aT (d5 (aF a5) (aF er) (gq a1.S.dict (lP y F2))) (tE (a1.S.node z F2) rfl rfl) rfl
   ·rw[show 0+j+1=j+1 by exact pV,take_snoc hz,iI]
    exact⟨a1.S.CR F2 (-1),by show(H'.set _ _)[rl]?=_;rw[aC XR];exact a1.R,a1.off⟩
   ·simp[bV,a3]
   ·simp[bV,a4]
   ·simp[bV,a5]) (λs hI=>kc.mpr (rZ _ hI.2.1))) λbZ e1 e2=>?_
 refine El e2 λc1 c2 c3 c4 c5=>?_;clear e2;have hlen:((bD a.rd).map lM.val).length=a.rd.length:=by simp
 rw[cw,hlen,ip] at c1;obtain⟨H',l'⟩:=bZ;simp only at c1 c2 c3 c4 c5;have XQ:=c1.S.YJ c1.R c1.off;have hR:=(gM c1.R);have S2:=c1.S.LW (o:=.list []) XQ;have hra:rl≠y.ai:=λe=>by have:=c1.S.attr;rw[<-e,c1.R] at this;cases this
 have kT:=rZ _ (c2.trans (hJ.set (o:=.list []) (.inr rfl)));have f:=(CK a a.rd).2;rw[f] at S2;refine⟨(H'.set rl (.list [])).set y.ai (.attrs [.ref y.di,.ref rl,.int (ps+a.rd.length),.int a.fi]),?_,⟨S2.setAttr _ _ _,?_,c1.off⟩,((hJ.app _).trans c2).trans ((hJ.set (.inr rfl)).trans (hJ.set (.inl (.inr (.inl rfl))))),?_,?_⟩
 ·have r1:=h1.R
  have i2:=S2.inst;have t2:=S2.attr;have c1i:=c1.S.inst;have c1a:=c1.S.attr;rw[f] at c1a;have c1R:=c1.R;have hp:X9 .Add (.int ps) (.int ((bD a.rd).length:ah))=aa (.int (ps+(a.rd.length:ah))):=by rw[bD,a8];rfl
  exact lg rfl (iY (cg (fW (aF rfl) (jZ h.S.inst h.S.attr rfl)) aT rfl) rfl (fS (fO (cI (bB (fW (aF rfl) (jZ h.S.inst h.S.attr rfl)) eG) (QO h.R)) (fO (fW (aF rfl) (jZ h1.S.inst h1.S.attr rfl)) (vg (xf (aF rfl) hT rfl) e1
   (ke (gS (fW (aF c3) (jZ c1i c1a rfl)) c1R rfl eG (Ox c1R rfl)) (Hg (aF c3) (jZ i2 t2 rfl) (cI (bB (aF c4) eG) (KO kT)) hp (uX i2 t2 rfl rfl) (fR (aF c4)))))))))
 ·rw[aC hra.symm,bh hR];rfl
 ·rw[aC (λe=>SY (.inr (.inl e.symm)))]
  exact kT
 ·have:=c2.1
  simp at this⊢;exact Et this
end
theorem KW(y:Lay)(n:ah):(qG y n).lookup (n:aE)=none:=by unfold qG;rw[qg];intro p hp;obtain⟨i,hi,rfl⟩:=aU.mp hp;have:=eP.mp hi;simp;exact akf this
theorem OD(y:Lay)(n:ah):((qG y n).any λkv=>decide (kv.1=(n:aE)))=false:=by rw[jP];intro p hp;obtain⟨i,hi,rfl⟩:=aU.mp hp;have:=eP.mp hi;simp;exact adU this
theorem OE(y:Lay)(n:ah):(qG y n).length=n:=by simp[qG]
theorem KY(y:Lay)(n:ah):qG y (n+1)=qG y n++[((n:aE),.ref (y.nd n))]:=by simp[qG,kS]
theorem HL{y y':Lay}{n:ah}(h:∀i,i<n->y'.nd i=y.nd i):qG y' n=qG y n:=by unfold qG;apply kJ;intro i hi;rw[h i (eP.mp hi)]
theorem K7(sns:af aE){H:af av}{d k i:ah}(h:H[k]?=aa (.node d [])):Ad sns [.ref k,.int (i:ah)] H=aa (.none,(H++[av.list []]).set k (.node d [aa (.int (i:ah)),aa (.int 0),aa (.ref H.length)])):=by
 have hl:=(gM h);have h2:∀o,(H.set k o)[k]?=aa o:=λo=>bh hl;have h3:∀o o',(H.set k o).set k o'=H.set k o':=λo o'=>by simp
 have h4:∀o T,(H.set k o++T)[k]?=aa o:=λo T=>app (h2 o) T;have h5:∀o,(H++[av.list []]).set k o=H.set k o++[av.list []]:=λo=>by rw[nu,aP hl]
 have h6:∀o o' T,(H.set k o++T).set k o'=H.set k o'++T:=λo o' T=>by rw[nu,aP (by simpa using hl),h3]
 have e3:∀o l,eList bG ⟨H.set k o,l⟩=aa (.ref H.length,⟨H.set k o++[.list []],l⟩):=λo l=>(jq eG rfl).trans (by rw[PN]);rw[h5];exact Jw rfl (oO (aF rfl) (aF rfl) (tE h rfl rfl) (oO aT (aF rfl) (tE (h2 _) rfl (h3 _ _)) (oO (e3 _ _) (aF rfl) (tE (h4 _ _) rfl (h6 _ _ _)) rfl)))
section
variable{y:Lay}{n:ah}{np:ah->aE}{su:ah->af ah}{rd:MV}{ps fi:aE}{ep:ah}{H:af av}
theorem zz(sns:af aE)(S:SA H y n np su rd ps fi ep){i:ah}(hi:i<n):qY sns [.ref y.si,.int (i:ah)] H=aa (.ref (y.nd i),H):=by exact lg rfl (iY (cg (Jz (gS (fW (aF rfl) (jZ S.inst S.attr rfl)) S.dict rfl (bB (aF rfl) eG) (KN (v:=.ref (y.nd i)) S.dict (by rw[lP y hi];rfl)))) aT rfl) rfl (fS (fR (aF rfl))))
noncomputable def Lay.grow(y:Lay)(n k:ah):Lay:=⟨y.si,y.ai,y.di,λi=>if i=n then k+1 else y.nd i,λi=>if i=n then k else y.dd i,λi=>if i=n then k+2 else y.sc i⟩
theorem Hn(sns:af aE)(S:SA H y n np su rd ps fi ep)(hn:n<1000):∃H',qY sns [.ref y.si,.int (n:ah)] H=aa (.ref (H.length+1),H')/\
  SA H' (y.grow n H.length) (n+1) (λk=>if k=n then 0 else np k) (λk=>if k=n then [] else su k) rd ps fi (ep+1)/\H'.length=H.length+3/\∀k,k<H.length->k≠y.di->H'[k]?=H[k]?:=by
 have Xy:=(gM S.dict);refine⟨(H++[av.attrs [],fK (y.grow n H.length) n 0,av.list []]).set y.di (.dict (qG (y.grow n H.length) (n+1)) (ep+1)),?_,?_,by simp,?_⟩
 ·have e:(qG (y.grow n H.length) (n+1))=qG y n++[((n:aE),.ref (H.length+1))]:=by
   rw[KY,HL (y:=y) (λi hi=>by simp[Lay.grow];exact alJ hi)];simp[Lay.grow]
  have a1:=λT=>app S.inst T;have a2:=λT=>app S.attr T;have a3:=λT=>app S.dict T;have ni:=K7 sns (H:=H++[av.attrs [],.node H.length []]) (d:=H.length) (k:=H.length+1) (i:=n) (by simp);simp at ni;have e2:fK (y.grow n H.length) n 0=av.node H.length [aa (.int (n:ah)),aa (.int 0),aa (.ref (H.length+2))]:=by simp[fK,Lay.grow]
  rw[e,e2];exact lg rfl (kB (cg (Jz (gS (fW (aF rfl) (jZ S.inst S.attr rfl)) S.dict rfl (bB (aF rfl) eG) (KN (v:=.none) S.dict (by rw[KW];rfl)))) aT rfl) rfl (gz (Sp (cI (bB (aF rfl) eG) (YB (by rw[bq];exact ni))) (fW (aF rfl) (jZ (a1 _) (a2 _) rfl)) (aF rfl)
   (CS (a3 _) (cA (show(qG y n).length<1000 by rw[OE];exact hn)) (by rw[ub,OD];rfl)) (fS (fR (aF rfl))))))
 ·have ne:∀{k:ah}{o:av},(H++[av.attrs [],fK (y.grow n H.length) n 0,av.list []])[k]?=aa o->o.tag≠2->((H++[av.attrs [],fK (y.grow n H.length) n 0,av.list []]).set y.di (.dict (qG (y.grow n H.length) (n+1)) (ep+1)))[k]?=aa o:=λ{k o} h ht=>by
   rewrite [aC (λe=>?_)] at ⊢
   ·exact h
   ·have:=app S.dict [av.attrs [],fK (y.grow n H.length) n 0,av.list []]
    rw[e,h] at this;cases this;exact ht rfl
  refine⟨ne (app S.inst _) (by simp[av.tag]),ne (app S.attr _) (by simp[av.tag]),?_,λi hi=>?_,λi hi=>?_,λi j hi hj e=>?_⟩
  ·show(_:af av)[y.di]?=_
   exact bh (by simp;exact Ez Xy)
  ·by_cases q:i=n
   ·subst q
    refine ne ?_ (by simp[av.tag]);simp[Lay.grow]
   ·refine ne ?_ (by simp[av.tag])
    have:=app (S.node i (xx hi q:)) [av.attrs [],fK (y.grow n H.length) n 0,av.list []];rw[show(y.grow n H.length).nd i=y.nd i by simp[Lay.grow,q],aZ q,show fK (y.grow n H.length) i (np i)=fK y i (np i) by simp[fK,Lay.grow,q]];exact this
  ·by_cases q:i=n
   ·subst q
    refine ne ?_ (by simp[av.tag]);simp[Lay.grow]
   ·refine ne ?_ (by simp[av.tag])
    have:=app (S.succ i (xx hi q:)) [av.attrs [],fK (y.grow n H.length) n 0,av.list []];rw[show(y.grow n H.length).sc i=y.sc i by simp[Lay.grow,q],aZ q];exact this
  ·have bound:∀i,i<n->y.sc i<H.length:=λi hi=>(gM (S.succ i hi))
   simp only[Lay.grow] at e;by_cases q:i=n<;>by_cases q':j=n
   ·exact ak0 q q'
   ·rw[aP q,aZ q'] at e;have:=bound j (xx hj q':);exact al8 e this
   ·rw[aZ q,aP q'] at e;have:=bound i (xx hi q:);exact ama e this
   ·rw[aZ q,aZ q'] at e;exact S.inj i j (xx hi q:) (xx hj q':) e
 ·intro k hk hd
  rw[aC hd.symm,aA hk]
end
theorem Hk{chk:af av->cj}{i i':ah}{body:St->ag (MF×St)}(v3:ah->St->Prop):∀(es:af (aE×MV))(k:ah)(st:St),v3 k st->
  (∀(j:ah) e st,es[j]?=aa e->v3 (k+j) st->chk st.H=true/\∃bZ,body {st with l:=qJ st.l [i,i'] [.int e.1,e.2]}=aa (.next,bZ)/\v3 (k+j+1) bZ)->
  (∀st,v3 (k+es.length) st->chk st.H=true)->∃bZ,uO chk i i' body es st=aa (.next,bZ)/\v3 (k+es.length) bZ:=by
 intro es
 induction es with
 |nil=>exactλk st h _ he=>⟨st,aP (he st h),h⟩
 |cons e es ih=>
  intro k st h hs he;have hl:k+(e::es).length=k+1+es.length:=by rw[cU];exact vr
  rw[hl] at he⊢;refine dQ (hs 0 e st rfl h) λhc eX=>?_;refine cv eX λbZ hb h'=>?_;clear eX;refine cv (ih (k+1) bZ h' (λj z st hj hI=>by
   have e:k+(j+1)=k+1+j:=by exact vr
   have:=hs (j+1) z st hj (by rw[e];exact hI);rw[e] at this;exact this) he) λVu q Iz=>⟨Vu,?_,Iz⟩
  show(if chk st.H=true then p9 (uO chk i i' body es) (body {st with l:=qJ st.l [i,i'] [.int e.1,e.2]}) else none)=_;rw[aP hc];exact cV hb q
section
variable{y:Lay}{n:ah}{np:ah->aE}{su:ah->af ah}{rd:MV}{ps fi:aE}{ep:ah}{H:af av}
theorem SA.congr(S:SA H y n np su rd ps fi ep){Uk:ah->aE}{su':ah->af ah}(h1:∀i,i<n->Uk i=np i)(h2:∀i,i<n->su' i=su i):SA H y n Uk su' rd ps fi ep:=⟨S.inst,S.attr,S.dict,λi hi=>by rw[h1 i hi];exact S.node i hi,λi hi=>by rw[h2 i hi];exact S.succ i hi,S.inj⟩
theorem MW(sns:af aE)(S:SA H y n np su .none ps fi ep)(hn:n<1000):∃H' y',BI sns [.ref y.si,.int (n:ah)] H=aa (.none,H')/\SA H' y' (n+1) (λk=>if k=n then 0 else np k) (λk=>if k=n then [] else su k) .none ps fi (ep+1)/\
  y'.si=y.si/\y'.ai=y.ai/\y'.di=y.di/\H.length<=H'.length/\(∀k,k<H.length->k≠y.di->H'[k]?=H[k]?)/\∀k,Own y' (n+1) k->Own y n k\/H.length<=k:=by
 have S1:=S.app [.tup []];refine lT (Hn sns S1 hn) λH2 e1 S2 hlen hfr=>?_;have n2:=S2.node n (HV:);rw[aP rfl] at n2;have S3:=S2.CR (s:=n) (HV:) 0;have m9:(y.grow n (H++[av.tup []]).length).nd n=H.length+1+1:=by simp[Lay.grow]
 rw[m9] at n2 S3;have hT:H2[H.length]?=aa (.tup []):=by rw[hfr H.length (by simp) (λe=>by have:=(gM S.dict);exact Lw e this)];simp
 have hT':(H2.set (H.length+1+1) (fK (y.grow n (H++[av.tup []]).length) n 0))[H.length]?=aa (.tup []):=by rw[aC (ajo:)];exact hT
 refine⟨H2.set (H.length+1+1) (fK (y.grow n (H++[av.tup []]).length) n 0),_,?_,S3.congr (λi hi=>?_) (λi hi=>rfl),rfl,rfl,rfl,?_,?_,?_⟩
 ·have e1':qY sns [.ref y.si,.int (n:ah)] (H++[av.tup []])=aa (.ref (H.length+1+1),H2):=e1.trans (by rw[cK];rfl)
  exact Jx (m:=.next) ⟨cL 2,d8 2 9⟩ (iY (cg (fW (aF rfl) (jZ S1.inst S1.attr rfl)) aT rfl) rfl (fS (fO (k9 (aF rfl) S1.inst S1.attr (bB (aF rfl) eG) e1') (Hg (aF er) (p5 n2 rfl) (cI (bB (aF rfl) eG) (KO hT)) rfl
   (tE (H1:=H2.set (H.length+1+1) (fK (y.grow n (H++[av.tup []]).length) n 0)) n2 rfl rfl) (vg (xf (aF rfl) hT' rfl) (aP (vf hT')) rfl)))))
 ·by_cases q:i=n<;>simp[q]
 ·simp at hlen⊢;exact ale hlen
 ·intro k hk hd
  rw[aC (ake hk:),hfr k (by simp;exact HZ hk) hd,aA hk]
 ·rintro k (e|e|e|⟨i,hi,e|e⟩)
  ·exact .inl (.inl e)
  ·exact .inl (.inr (.inl e))
  ·exact .inl (.inr (.inr (.inl e)))
  ·by_cases q:i=n
   ·right;rw[e];simp[Lay.grow,q];exact ajx
   ·left;refine .inr (.inr (.inr ⟨i,by exact xx hi q,.inl ?_⟩));rw[e];simp[Lay.grow,q]
  ·by_cases q:i=n
   ·right;rw[e];simp[Lay.grow,q];exact ad3
   ·left;refine .inr (.inr (.inr ⟨i,by exact xx hi q,.inr ?_⟩));rw[e];simp[Lay.grow,q]
noncomputable def tY(su:ah->af ah)(j:ah)(ps:af ah):ah->af ah:=ps.foldl (λsu p k=>if k=p then su p++[j] else su k) su
theorem BP(j:ah):∀(ps:af ah)(su:ah->af ah)(k:ah),(tY su j ps k).length<=(su k).length+ps.length
 |[],su,k=>by simp[tY]
 |p::ps,su,k=>by
  have:=BP j ps (λk=>if k=p then su p++[j] else su k) k;show(tY (λk=>if k=p then su p++[j] else su k) j ps k).length<=_;by_cases e:k=p
  ·subst e;simp at this⊢;exact UQ this
  ·simp[e] at this⊢;exact ak5 this
theorem MY(sns:af aE)(S:SA H y n np su .none ps fi ep){j:ah}(hj:j<n)(gZ:af ah)(hp:∀p∈gZ,p<n)(h9:gZ.length<=9)(hl:∀p,p<n->(su p).length+gZ.length<1000):
  ∃H',BI sns (.ref y.si:: .int (j:ah)::bD gZ) H=aa (.none,H')/\SA H' y n (λk=>if k=j then np j+gZ.length else np k) (tY su j gZ) .none ps fi ep/\hJ y n y.si H H':=by
 have S1:=S.app [av.tup (bD gZ)];have S2:=S1.CR hj (np j+gZ.length);have SY:¬Own y n H.length:=λq=>by refine dA (S.there q) λo e=>?_;have:=(gM e);exact UA this
 have Xl:H.length≠y.si:=λe=>SY (.inl e);have hT:(H++[av.tup (bD gZ)])[H.length]?=aa (.tup (bD gZ)):=by simp
 have rZ:∀H',hJ y n y.si (H++[av.tup (bD gZ)]) H'->H'[H.length]?=aa (.tup (bD gZ)):=λH' u=>(u.2 _ (by simp) SY Xl).trans hT;have U2:hJ y n y.si (H++[av.tup (bD gZ)]) ((H++[av.tup (bD gZ)]).set (y.nd j) (fK y j (np j+gZ.length))):=hJ.set (.inl (.inr (.inr (.inr ⟨j,hj,.inl rfl⟩))));refine cv (kC (chk:=hU H.length (.tup (bD gZ))) (i:=4) (body:=Dr sns)
  (λi s=>SA s.H y n (λk=>if k=j then np j+gZ.length else np k) (tY su j (gZ.take i)) .none ps fi ep/\hJ y n y.si (H++[av.tup (bD gZ)]) s.H/\s.l 0=aa (.ref y.si)/\s.l 1=aa (.int (j:ah))) ((bD gZ).map .val) 0
  ⟨(H++[av.tup (bD gZ)]).set (y.nd j) (fK y j (np j+gZ.length)),bV (λi=>if i<2 then(MV.ref y.si::MV.int (j:ah)::bD gZ)[i]? else if i=2 then aa (MV.ref H.length) else none) 3 (.ref (y.nd j))⟩
  ⟨by simpa[tY] using S2,U2,rfl,rfl⟩ (λi yy s hi hI=>by
   obtain⟨z,hz,rfl⟩:=qK hi;obtain⟨a1,a2,a3,a4⟩:=hI;rw[cw] at a1;obtain⟨H',l'⟩:=s;simp only at a1 a2 a3 a4;have F2:=hp z (aM hz);have hsz:=a1.succ z F2;have hlen:=BP j (gZ.take i) su z;have hlz:=hl z F2;have NU:=(gM hz);have hb:(tY su j (gZ.take i) z).length<1000:=by rw[ij] at hlen;exact acR hlen hlz
   refine⟨kc.mpr (rZ _ a2),⟨H'.set (y.sc z) (.list (bD (tY su j (gZ.take i) z++[j]))),bV (bV l' 4 (.int (z:ah))) 5 (.ref (y.nd z))⟩,.next,?_,.inl rfl,?_,a2.trans (hJ.set (.inl (.inr (.inr (.inr ⟨z,F2,.inr rfl⟩))))),?_,?_⟩
   ·show Dr sns ⟨H',bV l' 4 (.int (z:ah))⟩=_
    exact fO (k9 (aF a3) a1.inst a1.attr (bB (aF er) eG) (zz sns a1 F2)) (ke (gS (fW (aF er) (p5 (a1.node z F2) rfl)) hsz rfl (bB (aF a4) eG) (qF hsz (cA (show(List.map _ _).length<1000 by rw[a8];exact hb)) (by rw[bD,d4];rfl))) rfl)
   ·rw[show 0+i+1=i+1 by exact pV,take_snoc hz]
    have:=a1.afb F2 (tY su j (gZ.take i) z++[j]);refine this.congr (λ_ _=>rfl) (λk hk=>?_);show(gZ.take i++[z]).foldl _ su k=_;rw[iI];rfl
   ·simp[bV,a3]
   ·simp[bV,a4]) (λs hI=>kc.mpr (rZ _ hI.2.1))) λbZ e1 e2=>?_
 refine oS e2 λc1 c2 c3 c4=>?_;clear e2;have hlen:((bD gZ).map lM.val).length=gZ.length:=by simp
 rw[cw,hlen,ip] at c1;refine⟨bZ.H,?_,c1,(hJ.app _).trans c2⟩;have NZ:=S1.node j hj;have g1:=zz sns S1 hj;have hT2:=rZ _ U2;have hpl:X9 .Add (.int (np j)) (.int ((bD gZ).length:ah))=aa (.int (np j+(gZ.length:ah))):=by rw[bD,a8];rfl
 exact Jx (m:=.next) (by rw[cU,cU,bD,a8];exact⟨Rw 2 _,Nat.add_comm 2 9▸Nat.add_le_add_right h9 2⟩) (iY (cg (fW (aF rfl) (jZ S1.inst S1.attr rfl)) aT rfl) rfl (fS (fO (k9 (aF rfl) S1.inst S1.attr (bB (aF rfl) eG) g1) (Hg (aF er) (p5 NZ rfl) (cI (bB (aF rfl) eG) (KO hT)) hpl (tE NZ rfl rfl) (vg (xf (aF rfl) hT2 rfl) e1 rfl)))))
end
theorem Ha{chk:af av->cj}{cap l fk fv n}(v3:ah->af av->Prop):∀(ys:af lM)(k:ah)(H:af av),v3 k H->
  (∀(j:ah) y H,ys[j]?=aa y->v3 (k+j) H->chk H=true/\∃kv cH vv ed H',fk ⟨y.heap H,dH [y.get H] cap l⟩=aa (kv,cH)/\fv cH=aa (vv,ed)/\vt (.ref n) kv vv ed.H=aa H'/\v3 (k+j+1) H')->
  (∀H,v3 (k+ys.length) H->chk H=true)->∃H',s6 chk cap l fk fv n ys H=aa H'/\v3 (k+ys.length) H':=by
 intro ys
 induction ys with
 |nil=>exactλk H h _ he=>⟨H,aP (he H h),h⟩
 |cons y ys ih=>
  intro k H h hs he;have e:k+(y::ys).length=k+1+ys.length:=by rw[cU];exact vr
  rw[e] at he⊢;refine dQ (hs 0 y H rfl h) λhc eX=>?_;refine OU eX λkv cH vv ed H' h1 h2 h3 h4=>?_;clear eX;refine(ih (k+1) H' h4 (λj z st hj hI=>by
   have e:k+(j+1)=k+1+j:=by exact vr
   have:=hs (j+1) z st hj (by rw[e];exact hI);rw[e] at this;exact this) he).elim λG r=>⟨G,(aP (show chk H=true from hc)).trans (cV h1 (cV h2 (eJ h3 r.1))),r.2⟩
noncomputable def qu(d m:ah):af (aE×MV):=(cO m).map λi:ah=>((i:aE),MV.ref (d+1+i))
theorem Jq(d m:ah):((qu d m).any λkv=>decide (kv.1=(m:aE)))=false:=by rw[jP];intro p hp;obtain⟨i,hi,rfl⟩:=aU.mp hp;have:=eP.mp hi;simp;exact adU this
theorem Jr(d m:ah):(qu d m).length=m:=by simp[qu]
theorem He(d m:ah):qu d (m+1)=qu d m++[((m:aE),.ref (d+1+m))]:=by simp[qu,kS]
theorem Js(H:af av)(l:ah->ag MV)(m:ah)(hm:m<=999):
  s6 (λ_=>true) none l (au 0) (eList bG) H.length (hY m) (H++[.dict [] 0])=aa (H++ .dict (qu H.length m) m::eC m (.list [])):=by
 obtain⟨H',e1,e2⟩:=Ha (chk:=λ_=>true) (cap:=none) (l:=l) (fk:=au 0) (fv:=eList bG) (n:=H.length) (λj G=>G=H++ .dict (qu H.length j) j::eC j (.list [])) (hY m) 0 (H++[.dict [] 0]) (by simp[qu])
  (λj yy G hj hI=>by obtain⟨rfl,V4⟩:=lU hj;rw[cw] at hI;subst hI;refine⟨rfl,.int (j:ah),_,_,_,H++ .dict (qu H.length (j+1)) (j+1)::eC (j+1) (.list []),rfl,rfl,?_,by rw[show 0+j+1=j+1 by exact pV]⟩;show vt (.ref H.length) (.int (j:ah)) (.ref (H++av.dict (qu H.length j) j::eC j (av.list [])).length) ((H++av.dict (qu H.length j) j::eC j (av.list []))++[av.list []])=_;refine CS (es:=qu H.length j) (ep:=j) (by simp) (cA (show(qu H.length j).length<1000 by rw[Jr];exact ako hm V4)) ?_;rw[ub,Jq];simp[He,List.replicate_succ',nu];exact vr) (λ_ _=>rfl)
 rw[cw,lV] at e2;rw[e1,e2]
set_option genInjectivity false in structure agv(H:af av)(si ai:ah)(j:ah)(s:St):Prop where
 y:∃(y:Lay)(ep:ah),SA s.H y j (λ_=>0) (λ_=>[]) .none 0 0 ep/\y.si=si/\y.ai=ai/\y.di=H.length/\∀k,Own y j k->k=si\/k=ai\/H.length<=k
 len:H.length<=s.H.length
 keep:∀k,k<H.length->k≠ai->s.H[k]?=H[k]?
 l0:s.l 0=aa (.ref si)
theorem L2(sns:af aE){H:af av}{si ai g n ep0:ah}{e:ah->ah}(h1:H[si]?=aa (.inst ai))(h2:H[ai]?=aa (.attrs []))(h3:H[g]?=aa (.dict ((cO n).map λi:ah=>((i:aE),MV.ref (e i))) ep0))(h4:∀i,i<n->H[e i]?=aa (.list []))
  (hn:n<1000):∃H' y ep,sV sns [.ref si,.ref g] H=aa (.none,H')/\SA H' y n (λ_=>0) (λ_=>[]) .none 0 0 ep/\y.si=si/\H.length<=H'.length/\(∀k,k<H.length->k≠ai->H'[k]?=H[k]?)/\∀k,Own y n k->k=si\/k=ai\/H.length<=k:=by
 have V2:=(gM h2);have hai:si≠ai:=λq=>by rw[q,h2] at h1;cases h1
 have hag:g≠ai:=λq=>by rw[q,h2] at h3;cases h3
 have hae:∀i,i<n->e i≠ai:=λi hi q=>by have:=h4 i hi;rw[q,h2] at this;cases this
 generalize hG:(H++[av.dict [] 0]).set ai (.attrs [.ref H.length,.none,.int 0,.int 0])=G;have kG:∀k,k<H.length->k≠ai->G[k]?=H[k]?:=λk hk hka=>by rw[<-hG,aC hka.symm,aA hk]
 have lG:G.length=H.length+1:=by rw[<-hG];simp
 have S0:SA G ⟨si,ai,H.length,λ_=>0,λ_=>0,λ_=>0⟩ 0 (λ_=>0) (λ_=>[]) .none 0 0 0:=by
  refine⟨?_,?_,?_,λi hi=>ej hi (jC _),λi hi=>ej hi (jC _),λi j hi=>ej hi (jC _)⟩
  ·rw[kG si (gM h1) hai];exact h1
  ·rw[<-hG];exact bh (by simp;exact HZ V2)
  ·rw[<-hG]
   show((H++[av.dict [] 0]).set ai _)[H.length]?=_;rw[aC (Eu V2:)];simp[qG]
 refine cv (Hk (chk:=hU g (.dict ((cO n).map λi:ah=>((i:aE),MV.ref (e i))) ep0)) (i:=2) (i':=3) (body:=wu sns)
  (agv H si ai) ((cO n).map λi:ah=>((i:aE),MV.ref (e i))) 0
  ⟨G,λi=>[MV.ref si,MV.ref g][i]?⟩ ⟨⟨_,_,S0,rfl,rfl,rfl,λk hk=>by
   rcases hk with q|q|q|⟨i,hi,_⟩
   ·exact .inl q
   ·exact .inr (.inl q)
   ·exact .inr (.inr (by rw[q];exact cL _))
   ·exact acZ hi⟩,by rw[lG];exact HX,kG,rfl⟩ (λj ee s hj hI=>by
   have b1:=hI.len;have b2:=hI.keep;have b3:=hI.l0;refine HS hI.y λy ep a1 a2 a3 a4 a5=>?_;clear hI;rw[cw] at a1 a5;have rj:j<n:=by have:=(gM hj);simpa using this
   have hee:ee=((j:aE),MV.ref (e j)):=by rw[b9,g7 rj] at hj;cases hj;rfl
   subst hee;have hel:=(gM (h4 j rj));have hej:s.H[e j]?=aa (.list []):=by rw[b2 (e j) hel (hae j rj)];exact h4 j rj
   refine⟨kc.mpr (by rw[b2 g (gM h3) hag];exact h3),?_⟩;obtain⟨H',y',c1,c2,c3,c4,c5,c6,c7,c8⟩:=MW sns a1 (H8 hn rj:);rw[a2] at c1;refine⟨⟨H',qJ s.l [2,3] [.int (j:ah),.ref (e j)]⟩,?_,⟨⟨y',ep+1,?_,c3.trans a2,c4.trans a3,c5.trans a4,λk hk=>?_⟩,fA b1 c6,λk hk hka=>?_,?_⟩⟩
   ·have i1:=a1.inst
    rw[a2] at i1;have i2:=a1.attr;show wu sns ⟨s.H,qJ s.l [2,3] [.int (j:ah),.ref (e j)]⟩=_;exact ke (k9 (aF b3) i1 i2 (bB (aF rfl) (Jy (aF rfl) hej)) c1) rfl
   ·rw[show 0+j+1=j+1 by exact pV]
    exact c2.congr (λi hi=>by split<;>rfl) (λi hi=>by split<;>rfl)
   ·rw[show 0+j+1=j+1 by exact pV] at hk
    rcases c8 k hk with q|q
    ·exact a5 k q
    ·exact .inr (.inr (fA b1 q))
   ·rw[c7 k (fE hk b1) (by rw[a4];exact Eu hk)]
    exact b2 k hk hka
   ·simp[qJ,bV,b3]) (λs hI=>kc.mpr (by rw[hI.keep g (gM h3) hag];exact h3))) λbZ e1 e2=>?_
 have b1:=e2.len;have b2:=e2.keep;have b3:=e2.l0;refine HS e2.y λy ep a1 a2 a3 a4 a5=>?_;clear e2;rw[cw,a8,fq] at a1 a5;refine⟨bZ.H,y,ep,?_,a1,a2,b1,b2,a5⟩;have q1:=λT=>app h1 T;have q2:=λT=>app h2 T;have s1:∀o,((H++[av.dict [] 0]).set ai o)[si]?=aa (.inst ai):=λo=>by rw[aC hai.symm];exact q1 _
 have s2:∀o,((H++[av.dict [] 0]).set ai o)[ai]?=aa o:=λo=>bh (by simp;exact HZ V2);have s3:∀o o',((H++[av.dict [] 0]).set ai o).set ai o'=(H++[av.dict [] 0]).set ai o':=λo o'=>by simp
 have s4:=kG g (gM h3) hag;rw[h3] at s4;exact Jw rfl (oO eD0 (aF rfl) (uX (q1 _) (q2 _) rfl rfl) (oO aT (aF rfl) (uX (s1 _) (s2 _) rfl (s3 _ _)) (oO aT (aF rfl) (uX (s1 _) (s2 _) rfl (s3 _ _)) (oO aT (aF rfl) (uX (s1 _) (s2 _) rfl ((s3 _ _).trans hG)) (kB (cg (aF rfl) aT rfl) rfl (gz (Np (aF rfl) s4 e1 rfl)))))))
end fG
namespace fG
open PySem PySem.W
section
variable(su:ah->af ah)
noncomputable def o5(fin:af ah):ag ah->af (ah×ah)->Prop
 |_,[]=>True
 |ab,(u,i)::rest=>i<=(su u).length/\(∀k w,k<i->(su u)[k]?=aa w->w∈fin\/(ab=aa w/\k+1=i))/\(∀w,ab=aa w->w∈su u)/\o5 fin (aa u) rest
noncomputable def qp(fin:af ah):Prop:=∀a u b,fin=a++u::b->∀w∈su u,w∈b
noncomputable def Ring(n:ah):Prop:=∃C:af ah,C≠[]/\∀c∈C,c<n/\∃p∈C,c∈su p
variable{su}
theorem o5.ring{fin:af ah}{v:ah}:∀(gv:af (ah×ah))(a:ah),o5 su fin (aa a) gv->v∈gv.map (·.1)->∃C:af ah,(∀c∈C,c∈gv.map (·.1))/\v∈C/\(∃p∈C,a∈su p)/\∀c∈C,c≠v->∃p∈C,c∈su p
 |[],a,_,h=>by cases h
 |(u,i)::rest,a,⟨h1,h2,h3,h4⟩,h=>by
  by_cases e:u=v
  ·subst e
   exact⟨[u],λc hc=>by rw[bT.mp hc];simp,by simp,⟨u,by simp,h3 a rfl⟩,λc hc rK=>ej (bT.mp hc) rK⟩
  ·have hv:v∈rest.map (·.1):=by
    rcases bE.mp h with q|q
    ·exact ej q.symm e
    ·exact q
   obtain⟨C,c1,c2,⟨p,p1,p2⟩,c4⟩:=o5.ring rest u h4 hv;refine⟨u::C,λc hc=>?_,.tail _ c2,⟨u,.head _,h3 a rfl⟩,λc hc rK=>?_⟩
   ·rcases bE.mp hc with rfl|q
    ·simp
    ·exact .tail _ (c1 c q)
   ·rcases bE.mp hc with rfl|q
    ·exact⟨p,.tail _ p1,p2⟩
    ·obtain⟨p',q1,q2⟩:=c4 c q rK
     exact⟨p',.tail _ q1,q2⟩
theorem o5.mono{fin te:af ah}(hf:∀w∈fin,w∈te):∀{ab:ag ah}{gv:af (ah×ah)},o5 su fin ab gv->o5 su te ab gv
 |_,[],_=>trivial
 |ab,(u,i)::rest,⟨h1,h2,h3,h4⟩=>⟨h1,λk w hk hw=>(h2 k w hk hw).imp (hf w) id,h3,o5.mono hf h4⟩
theorem o5.settle{fin:af ah}{v:ah}(hv:v∈fin):∀{gv:af (ah×ah)},o5 su fin (aa v) gv->o5 su fin none gv
 |[],_=>trivial
 |(u,i)::rest,⟨h1,h2,h3,h4⟩=>⟨h1,λk w hk hw=> .inl ((h2 k w hk hw).elim id λ⟨e,_⟩=>by cases e;exact hv),λw q=>(by cases q),h4⟩
set_option genInjectivity false in structure DI(n:ah)(seen:af ah)(gv:af (ah×ah))(fin:af ah)(ab:ag ah):Prop where
 good:o5 su fin ab gv
 sn:∀x,x∈seen↔x∈gv.map (·.1)\/x∈fin
 nd:(gv.map (·.1)).Nodup
 off:∀x∈gv.map (·.1),x∉fin
 ord:qp su fin
 lt:∀x∈seen,x<n
 snd:seen.Nodup
theorem qp.cons{fin:af ah}(h:qp su fin){u:ah}(hu:∀w∈su u,w∈fin):qp su (u::fin):=by
 intro a x b e w hw;cases a with
 |nil=>cases e;exact hu w hw
 |cons z a=>
  rw[qb] at e;cases e
  exact h a x b rfl w hw
theorem DI.pop{n:ah}{seen:af ah}{u i:ah}{rest:af (ah×ah)}{fin:af ah}(h:DI (su:=su) n seen ((u,i)::rest) fin none)(hi:(su u).length<=i):DI (su:=su) n seen rest (u::fin) none:=by
 obtain⟨⟨g1,g2,g3,g4⟩,h2,h3,h4,h5,h6,h7⟩:=h;rw[bX,cQ] at h3;have hu:∀w∈su u,w∈fin:=λw hw=>by obtain⟨k,hk,rfl⟩:=dm hw;exact(g2 k _ (O7 hi hk:) (ao hk)).elim id λ⟨q,_⟩=>by cases q
 refine⟨(g4.mono λw hw=> .tail _ hw).settle (.head _),λx=>?_,h3.2,λx hx hf=>?_,h5.cons hu,h6,h7⟩
 ·rw[h2 x,bX,bE,bE]
  constructor
  ·rintro((q|q)|q)
   ·exact .inr (.inl q)
   ·exact .inl q
   ·exact .inr (.inr q)
  ·rintro(q|q|q)
   ·exact .inl (.inr q)
   ·exact .inl (.inl q)
   ·exact .inr q
 ·rcases bE.mp hf with rfl|q
  ·exact h3.1 hx
  ·exact h4 x (.tail _ hx) q
theorem DI.next{n:ah}{seen:af ah}{u i w:ah}{rest:af (ah×ah)}{fin:af ah}(h:DI (su:=su) n seen ((u,i)::rest) fin none)(hw:(su u)[i]?=aa w):DI (su:=su) n seen ((u,i+1)::rest) fin (aa w):=by
 obtain⟨⟨g1,g2,g3,g4⟩,h2,h3,h4,h5,h6,h7⟩:=h;refine⟨⟨(gM hw),λk x hk hx=>?_,λx q=>by cases q;exact aM hw,g4⟩,h2,h3,h4,h5,h6,h7⟩;by_cases e:k=i
 ·subst e;rw[hw] at hx;cases hx;exact .inr ⟨rfl,rfl⟩
 ·exact .inl ((g2 k x (xx hk e:) hx).elim id λ⟨q,_⟩=>by cases q)
theorem DI.push{n:ah}{seen:af ah}{v:ah}{gv:af (ah×ah)}{fin:af ah}(h:DI (su:=su) n seen gv fin (aa v))(hv:v∉seen)(hn:v<n):DI (su:=su) n (v::seen) ((v,0)::gv) fin none:=by
 have D6:v∉gv.map (·.1)/\v∉fin:=⟨λq=>hv ((h.sn v).mpr (.inl q)),λq=>hv ((h.sn v).mpr (.inr q))⟩;refine⟨⟨jn _,λk w hk=>by lia,λw q=>(by cases q),h.good⟩,λx=>?_,?_,λx hx=>?_,h.ord,λx hx=>?_,cQ.mpr ⟨hv,h.snd⟩⟩
 ·rw[bE,h.sn x,bX,bE,or_assoc]
 ·rw[bX,cQ];exact⟨D6.1,h.nd⟩
 ·rcases bE.mp hx with rfl|q
  ·exact D6.2
  ·exact h.off x q
 ·rcases bE.mp hx with rfl|q
  ·exact hn
  ·exact h.lt x q
theorem DI.old{n:ah}{seen:af ah}{v:ah}{gv:af (ah×ah)}{fin:af ah}(h:DI (su:=su) n seen gv fin (aa v))(hv:v∈seen)(hs:v∉gv.map (·.1)):DI (su:=su) n seen gv fin none:=⟨h.good.settle (((h.sn v).mp hv).resolve_left hs),h.sn,h.nd,h.off,h.ord,h.lt,h.snd⟩
theorem DI.found{n:ah}{seen:af ah}{v:ah}{gv:af (ah×ah)}{fin:af ah}(h:DI (su:=su) n seen gv fin (aa v))(hs:v∈gv.map (·.1)):Ring su n:=by
 obtain⟨C,c1,c2,⟨p,p1,p2⟩,c4⟩:=o5.ring gv v h.good hs;refine⟨C,(λe=>by rw[e] at c2;cases c2),λc hc=>⟨h.lt c ((h.sn c).mpr (.inl (c1 c hc))),?_⟩⟩
 by_cases e:c=v
 ·subst e;exact⟨p,p1,p2⟩
 ·exact c4 c hc e
end
noncomputable def yd(us:af ah):af (aE×MV):=us.zipIdx.map λp=>((p.1:aE),MV.int (p.2:ah))
theorem xp(A:af ah)(u:ah):yd (A++[u])=yd A++[((u:aE),.int (A.length:ah))]:=by simp[yd,List.zipIdx_append]
theorem AV{A:af ah}{p:aE×MV}(h:p∈yd A):∃x∈A,p.1=(x:aE):=by refine cv (aU.mp h) λq hq cP=>?_;subst cP;exact⟨q.1,List.fst_mem_of_mem_zipIdx hq,rfl⟩
theorem CA{A:af ah}{v:ah}(h:v∉A):(yd A).lookup (v:aE)=none:=by rw[qg];intro p hp;refine cv (AV hp) λx hx e=>?_;rw[e];have:v≠x:=λq=>h (q▸hx);simp;exact adW this
theorem OF{A:af ah}{v:ah}(h:v∉A):((yd A).any λkv=>decide (kv.1=(v:aE)))=false:=by rw[jP];intro p hp;refine cv (AV hp) λx hx e=>?_;rw[e];have:v≠x:=λq=>h (q▸hx);simp;exact UM this
theorem OG(A:af ah):(yd A).length=A.length:=by simp[yd]
theorem OH{A:af ah}{u:ah}(h:u∉A):(yd (A++[u])).lookup (u:aE)=aa (.int (A.length:ah)):=by rw[xp,II,CA h];simp
theorem Eg{A:af ah}{u:ah}(h:u∉A):((yd (A++[u])).filter λkv=>decide (kv.1≠(u:aE)))=yd A:=by
 rw[xp,oK];have:(yd A).filter (λkv=>decide (kv.1≠(u:aE)))=yd A:=by rw[sO];intro p hp;refine cv (AV hp) λx hx e=>?_;rw[e];have:u≠x:=λq=>h (q▸hx);simp;exact UM this
 rw[this];simp
theorem CB{A:af ah}{v:ah}(h:v∈A):∃p:ah,(yd A).lookup (v:aE)=aa (.int (p:ah)):=by
 have key:∀(A:af ah)(k:ah),v∈A->∃p:ah,((A.zipIdx k).map λp=>((p.1:aE),MV.int (p.2:ah))).lookup (v:aE)=aa (.int (p:ah)):=by
  intro A
  induction A with
  |nil=>intro k h;cases h
  |cons a A ih=>
   intro k h;rw[List.zipIdx_cons,bX,mD];by_cases e:v=a
   ·subst e;exact⟨k,by simp⟩
   ·have:((v:aE)==(a:aE))=false:=by rw[ef];exact UO e
    rw[this];exact ih (k+1) ((bE.mp h).resolve_left e)
 exact key A 0 h
theorem tv(A:af MV)(x:MV):idx (A++[x]) (-1)=aa x:=by
 unfold idx;rw[aZ (by decide),aP (by simp;exact YV)];have:((-1:aE)+((A++[x]).length:ah)).toNat=A.length:=by simp;exact abT
 rw[this];simp
noncomputable abbrev HN(l:af ah):af aE:=l.map λx:ah=>(x:aE)
theorem oR{l:af ah}{v:ah}:(HN l).contains (v:aE)=decide (v∈l):=by
 rw[Bool.eq_iff_iff];simp only[gp,aU,decide_eq_true_eq];constructor
 ·rintro⟨x,hx,e⟩;have:x=v:=by exact aa4 e
  exact this▸hx
 ·intro h;exact⟨v,h,rfl⟩
set_option genInjectivity false in structure DH(H0 H:af av)(l:ah->ag MV)(y:Lay)(gv ts:af (ah×ah))(seen:af ah):Prop where
 len:H0.length+4<=H.length
 keep:∀k,k<H0.length->H[k]?=H0[k]?
 l1:l 1=aa (.ref y.di)
 l2:l 2=aa (.ref H0.length)
 l3:l 3=aa (.ref (H0.length+1))
 l4:l 4=aa (.ref (H0.length+2))
 l5:l 5=aa (.ref (H0.length+3))
 st:H[H0.length]?=aa (.list (bD (gv.map (·.1)).reverse))
 it:H[H0.length+1]?=aa (.list ((ts.map λp=>MV.ref p.2).reverse))
 CX:ts.length=gv.length
 its:∀(p:ah) u i t b,gv[p]?=aa (u,i)->ts[p]?=aa (t,b)->H[b]?=aa (.bound t)/\H[t]?=aa (.iter (y.sc u) i)
 td:(ts.map (·.1)).Nodup
 tl:∀p∈ts,H0.length+4<=p.1/\H0.length+4<=p.2
 sn:H[H0.length+2]?=aa (.set (HN seen))
 dk:∃ep,H[H0.length+3]?=aa (.dict (yd (gv.map (·.1)).reverse) ep)
section
variable{H0 H:af av}{l:ah->ag MV}{y:Lay}{gv ts:af (ah×ah)}{seen:af ah}{su:ah->af ah}{u i t b:ah}
theorem DH.l6(D:DH H0 H l y gv ts seen)(v:MV):DH H0 H (bV l 6 v) y gv ts seen:=⟨D.len,D.keep,by first|rfl|exact D.l1|repeat' first|(with_reducible first|(show _=_;assumption)|apply D.l1|apply er|apply kg)|rfl,by first|rfl|exact D.l2|repeat' first|(with_reducible first|(show _=_;assumption)|apply D.l2|apply er|apply kg)|rfl,by first|rfl|exact D.l3|repeat' first|(with_reducible first|(show _=_;assumption)|apply D.l3|apply er|apply kg)|rfl,by first|rfl|exact D.l4|repeat' first|(with_reducible first|(show _=_;assumption)|apply D.l4|apply er|apply kg)|rfl,by first|rfl|exact D.l5|repeat' first|(with_reducible first|(show _=_;assumption)|apply D.l5|apply er|apply kg)|rfl,D.st,D.it,D.CX,D.its,D.td,D.tl,D.sn,D.dk⟩
theorem HM(sns:af aE)(D:DH H0 H l y ((u,i)::gv) ((t,b)::ts) seen)(QC:H0[y.sc u]?=aa (.list (bD (su u)))){w:ah}(hw:(su u)[i]?=aa w):
  jH sns ⟨H,l⟩=aa (.brk,⟨H.set t (.iter (y.sc u) (i+1)),bV l 6 (.int (w:ah))⟩)/\DH H0 (H.set t (.iter (y.sc u) (i+1))) (bV l 6 (.int (w:ah))) y ((u,i+1)::gv) ((t,b)::ts) seen:=by
 refine dQ (D.its 0 u i t b rfl rfl) λhb ht=>?_;refine dQ (D.tl (t,b) (.head _)) λIF tl2=>?_;have hl:=(gM ht);have hs:H[y.sc u]?=aa (.list (bD (su u))):=by rw[D.keep _ (gM QC)];exact QC
 have hit:=D.it;simp only[bX,gO] at hit;have TF:(bD (su u))[i]?=aa (.int (w:ah)):=by rw[b9,hw];rfl
 simp only at IF tl2;constructor
 ·exact rO (W2 (d5 (aF D.l3) (BZ (n:=1) aT) (gq hit (tv _ _))) hb ht hs TF) rfl
 ·have off:∀k,k<H0.length+4->(H.set t (.iter (y.sc u) (i+1)))[k]?=H[k]?:=λk hk=>aC (alV IF hk:)
  refine⟨by simpa using D.len,λk hk=>(off k (Ez hk:)).trans (D.keep k hk),by first|rfl|exact D.l1|repeat' first|(with_reducible first|(show _=_;assumption)|apply D.l1|apply er|apply kg)|rfl,by first|rfl|exact D.l2|repeat' first|(with_reducible first|(show _=_;assumption)|apply D.l2|apply er|apply kg)|rfl,by first|rfl|exact D.l3|repeat' first|(with_reducible first|(show _=_;assumption)|apply D.l3|apply er|apply kg)|rfl,by first|rfl|exact D.l4|repeat' first|(with_reducible first|(show _=_;assumption)|apply D.l4|apply er|apply kg)|rfl,by first|rfl|exact D.l5|repeat' first|(with_reducible first|(show _=_;assumption)|apply D.l5|apply er|apply kg)|rfl,
   (off _ (ajw:)).trans D.st,(off _ (ajq:)).trans D.it,D.CX,λp u' i' t' b' h1 h2=>?_,D.td,D.tl,(off _ (ajs:)).trans D.sn,let⟨ep,e⟩:=D.dk;⟨ep,(off _ (aju:)).trans e⟩⟩
  cases p with
  |zero=>
   cases h1;cases h2
   exact⟨by rw[aC (λe=>by subst e;rw[hb] at ht;cases ht)];exact hb,bh hl⟩
  |succ p=>
   refine dQ (D.its (p+1) u' i' t' b' h1 h2) λq1 q2=>?_;have rK:t≠t':=λe=>by have nd:=D.td;rw[bX,cQ] at nd;exact nd.1 (by rw[e];exact aU.mpr ⟨(t',b'),aM h2,rfl⟩)
   exact⟨by rw[aC (λe=>by subst e;rw[q1] at ht;cases ht)];exact q1,by rw[aC rK];exact q2⟩
theorem Ln(sns:af aE)(D:DH H0 H l y ((u,i)::gv) ((t,b)::ts) seen)(QC:H0[y.sc u]?=aa (.list (bD (su u))))(hw:(su u).length<=i)(hu:u∉gv.map (·.1)):
  ∃H',jH sns ⟨H,l⟩=aa (.next,⟨H',l⟩)/\DH H0 H' l y gv ts seen:=by
 refine dQ (D.its 0 u i t b rfl rfl) λhb ht=>?_;refine dQ (D.tl (t,b) (.head _)) λIF tl2=>?_;have hl:=(gM ht);have hs:H[y.sc u]?=aa (.list (bD (su u))):=by rw[D.keep _ (gM QC)];exact QC
 have hit:=D.it;simp only[bX,gO] at hit;have ql:=D.st;simp only[bD,bX,gO,d4,Dk] at ql;have TF:(bD (su u))[i]?=none:=by rw[fj];simpa using hw
 refine dA D.dk λep hdk=>?_;simp only[bX,gO] at hdk;have hu':u∉(gv.map (·.1)).reverse:=by simpa using hu
 have hlen:=D.len;simp only at IF tl2;refine⟨(((H.set t .dead).set H0.length (.list (bD (gv.map (·.1)).reverse))).set (H0.length+3) (.dict (yd (gv.map (·.1)).reverse) (ep+1))).set (H0.length+1) (.list ((ts.map λp=>MV.ref p.2).reverse)),?_,?_⟩
 ·have a1:(H.set t .dead)[H0.length]?=aa (.list (bD (gv.map (·.1)).reverse++[.int (u:ah)])):=by rw[aC (Ew IF:)];exact ql
  have a2:((H.set t .dead).set H0.length (.list (bD (gv.map (·.1)).reverse)))[H0.length+3]?=aa (.dict (yd ((gv.map (·.1)).reverse++[u])) ep):=by rw[aC (O2:),aC (Ex IF:)];exact hdk
  have a3:(((H.set t .dead).set H0.length (.list (bD (gv.map (·.1)).reverse))).set (H0.length+3) (.dict (yd (gv.map (·.1)).reverse) (ep+1)))[H0.length+1]?=aa (.list ((ts.map λp=>MV.ref p.2).reverse++[.ref b])):=by rw[aC (aa1:),aC (HW:),aC (Ly IF:)];exact hit
  exact rO ((WZ (d5 (aF D.l3) (BZ (n:=1) aT) (gq hit (tv _ _))) hb ht hs TF).trans (WX (aF D.l5) (gS (aF D.l2) a1 rfl eG (QM a1 GL (by rw[GJ]))) (WV a2 (OH hu') (by rw[Eg hu'])) (ke (gS (aF D.l3) a3 rfl eG (QM a3 GL (by rw[GJ]))) rfl))) rfl
 ·have off:∀k,k≠t->k≠H0.length->k≠H0.length+3->k≠H0.length+1->((((H.set t .dead).set H0.length (.list (bD (gv.map (·.1)).reverse))).set (H0.length+3) (.dict (yd (gv.map (·.1)).reverse) (ep+1))).set (H0.length+1) (.list ((ts.map λp=>MV.ref p.2).reverse)))[k]?=H[k]?:=λk k1 k2 k3 k4=>by
   rw[aC k4.symm,aC k3.symm,aC k2.symm,aC k1.symm]
  have nd:=D.td;rw[bX,cQ] at nd;refine⟨by simpa using D.len,λk hk=>(off k (alW IF hk:) (Eu hk:) (A3 hk:) (adS hk:)).trans (D.keep k hk),D.l1,D.l2,D.l3,D.l4,D.l5,?_,?_,by simpa using D.CX,λp u' i' t' b' h1 h2=>?_,nd.2,λp hp=>D.tl p (.tail _ hp),(off _ (ajN IF:) (aaZ:) (UE:) (ajt:)).trans D.sn,⟨ep+1,?_⟩⟩
  ·rw[aC (UC:),aC (aa0:)];exact bh (by simp;exact alH IF hl)
  ·exact bh (by simp;exact akM IF hl)
  ·refine dQ (D.its (p+1) u' i' t' b' h1 h2) λq1 q2=>?_
   refine dQ (D.tl (t',b') (.tail _ (aM h2))) λr1 r2=>?_;simp only at r1 r2;have rK:t'≠t:=λe=>nd.1 (by rw[<-e];exact aU.mpr ⟨(t',b'),aM h2,rfl⟩);exact⟨(off b' (λe=>by subst e;rw[q1] at ht;cases ht) (Ew r2:) (Ex r2:) (Ly r2:)).trans q1,(off t' rK (Ew r1:) (Ex r1:) (Ly r1:)).trans q2⟩
  ·rw[aC (UD:)];exact bh (by simp;exact akN IF hl)
end
end fG
namespace fG
open PySem PySem.W
noncomputable def ny(sns:af aE):St->ag (MF×St):=
 je (dp (Br true) (au 6) (au 4)) (aO (je (dp (Br true) (au 6) (au 5)) (aO (gA (bU bL (pM sns (au 2) (pU (aa (fw (au 5) (au 6)))) (pU none)) (eList (aJ (au 6) bG))))
 bF) bF)
 bF) (aO (kF (iT 3 KI (au 4) (aJ (au 6) bG)))
 (aO (kF (iT 0 fx (au 3) (aJ (B0 (cJ Cz (aJ (gX (sy 2) (fw (au 1) (au 6))) bG))) bG)))
 (aO (zP (au 5) (au 6) (cJ jc (aJ (au 2) bG)))
 (aO (kF (iT 0 fx (au 2) (aJ (au 6) bG)))
 bF))))
theorem I0(sns:af aE):kA sns=aO (ny sns) (aO (iA (kz sns) (jH sns) (aO A9 bF) 1000) bF):=rfl
section
variable{H0 H:af av}{l:ah->ag MV}{y:Lay}{gv ts:af (ah×ah)}{seen:af ah}{su:ah->af ah}{n:ah}{np:ah->aE}{rd:MV}{ps fi:aE}{ep v:ah}
theorem Ba(D:DH H0 H l y gv ts seen)(h6:l 6=aa (.int (v:ah))):dp (Br true) (au 6) (au 4) ⟨H,l⟩=aa (decide (v∈seen),⟨H,l⟩):=by have q:=cg (aF h6) (aF D.l4) (agJ (w:=true) (n:=(v:aE)) D.sn);rw[oR,beq_true] at q;exact q
theorem Ri(D:DH H0 H l y gv ts seen)(h6:l 6=aa (.int (v:ah))):dp (Br true) (au 6) (au 5) ⟨H,l⟩=aa (decide (v∈gv.map (·.1)),⟨H,l⟩):=by
 obtain⟨e,hd⟩:=D.dk;have q:=cg (aF h6) (aF D.l5) (Sa (w:=true) (n:=(v:aE)) hd);rw[beq_true] at q;refine q.trans (bI (λb=>aa (b,(⟨H,l⟩:St))) ?_);clear q;by_cases q:v∈gv.map (·.1)
 ·obtain⟨p,hp⟩:=CB (A:=(gv.map (·.1)).reverse) (v:=v) (by simpa using q)
  rw[hp,cM q];rfl
 ·rewrite [CA (A:=(gv.map (·.1)).reverse) (v:=v) (by simpa using q)] at ⊢;rw[dO q];rfl
theorem Lh(sns:af aE)(D:DH H0 H l y gv ts seen)(h6:l 6=aa (.int (v:ah)))(hv:v∈seen)(hs:v∉gv.map (·.1)):ny sns ⟨H,l⟩=aa (.next,⟨H,l⟩):=by have s:=Ba D h6;have k:=Ri D h6;rw[cM hv] at s;rw[dO hs] at k;exact TH s (iY k rfl rfl)
theorem Ie(sns:af aE)(D:DH H0 H l y gv ts seen)(h6:l 6=aa (.int (v:ah)))(hv:v∈seen)(hs:v∈gv.map (·.1))(hlen:gv.length<900):
  ∃H' xs,ny sns ⟨H,l⟩=aa (.ret (.ref (H.length+2)),⟨H',l⟩)/\H'[H.length+2]?=aa (.list xs)/\xs≠[]/\H<+:H':=by
 refine dA D.dk λe hd=>?_;have yc:v∈(gv.map (·.1)).reverse:=by simpa using hs
 refine dA (CB yc) λp hp=>?_;have c:(HN seen).contains (v:aE)=true:=by rw[oR];simpa using hv
 have ql:=D.st;generalize hC:wO (bD (gv.map (·.1)).reverse) (aa (p:aE)) none=C;have hCl:C.length<=900:=by rw[<-hC];unfold wO;simp;exact acV hlen
 clear c;generalize bD (gv.map (·.1)).reverse=X at ql hC;refine⟨H++[.list C,.list [.int (v:ah)],.list (C++[.int (v:ah)])],C++[.int (v:ah)],?_,by simp,by simp,List.prefix_append _ _⟩;have hC2:C.length+1<=1000:=by exact ajd hCl
 have e1:bU bL (pM sns (au 2) (pU (aa (fw (au 5) (au 6)))) (pU none)) (eList (aJ (au 6) bG)) ⟨H,l⟩=aa (.ref (H.length+2),⟨H++[.list C,.list [.int (v:ah)],.list (C++[.int (v:ah)])],l⟩):=by have s:=An (sns:=sns) (f:=au 2) (fl:=pU (aa (fw (au 5) (au 6)))) (fu:=pU none) (aF D.l2) (Uu (d5 (aF D.l5) (aF h6) (gq hd hp))) rfl (LZ ql);rw[hC] at s;exact(cF s (jq (bB (aF h6) eG) rfl) (bLR (jj gY) gY (cA (show C.length+1<=1000 from hC2)))).trans (by simp)
 have s:=Ba D h6;have k:=Ri D h6;rw[cM hv] at s;rw[cM hs] at k;exact TH s (kB k rfl (gz (fR e1)))
theorem HT(sns:af aE)(S:SA H0 y n np su rd ps fi ep)(D:DH H0 H l y gv ts seen)(h6:l 6=aa (.int (v:ah)))(hv:v∉seen)(J7:v<n)(hs:v∉gv.map (·.1))(b1:seen.length<1000)(b2:gv.length<1000):
  ∃H',ny sns ⟨H,l⟩=aa (.next,⟨H',l⟩)/\DH H0 H' l y ((v,0)::gv) ((H.length,H.length+1)::ts) (v::seen):=by
 refine dA D.dk λe hd=>?_;have yc:v∉(gv.map (·.1)).reverse:=by simpa using hs
 have c:(HN seen).contains (v:aE)=false:=by rw[oR];simpa using hv
 have hlen:=D.len;have k1:H[y.di]?=aa (.dict (qG y n) ep):=(D.keep _ (gM S.dict)).trans S.dict;have k2:H[y.nd v]?=aa (fK y v (np v)):=(D.keep _ (gM (S.node v J7))).trans (S.node v J7);have k3:H[y.sc v]?=aa (.list (bD (su v))):=(D.keep _ (gM (S.succ v J7))).trans (S.succ v J7);have lt1:=(gM S.dict);have lt2:=(gM (S.node v J7));have lt3:=(gM (S.succ v J7));have m9:yd ((gv.map (·.1)).reverse++[v])=yd (gv.map (·.1)).reverse++[((v:aE),.int (gv.length:ah))]:=by rw[xp,sP,a8]
 generalize Qw:H.set (H0.length+2) (.set ((v:aE)::HN seen))=G1;generalize Xj:G1++[av.iter (y.sc v) 0]=Ga;generalize Xk:Ga++[av.bound H.length]=Gb;generalize SV:Gb.set (H0.length+1) (.list ((ts.map λp=>MV.ref p.2).reverse++[MV.ref (H.length+1)]))=G2;generalize NJ:G2.set (H0.length+3) (.dict (yd ((gv.map (·.1)).reverse++[v])) (e+1))=G3;generalize NK:G3.set H0.length (.list (bD (gv.map (·.1)).reverse++[.int (v:ah)]))=G4;have g1l:G1.length=H.length:=nG Qw;have gal:Ga.length=H.length+1:=(vU Xj).trans (bI (· +1) g1l);have gbl:Gb.length=H.length+2:=(vU Xk).trans (bI (· +1) gal);have g2l:G2.length=H.length+2:=(nG SV).trans gbl;have g3l:G3.length=H.length+2:=(nG NJ).trans g2l;have g4l:G4.length=H.length+2:=(nG NK).trans g3l;have gb:∀{k:ah}{o:av},G1[k]?=aa o->Gb[k]?=aa o:=λh=>Hp Xk (Hp Xj h);have gi:Ga[H.length]?=aa (.iter (y.sc v) 0):=g1l▸D3 Xj;have gn:Gb[H.length+1]?=aa (.bound H.length):=gal▸D3 Xk;have g2:∀{k:ah}{o:av},H[k]?=aa o->k≠H0.length+2->k≠H0.length+1->G2[k]?=aa o:=λh k2 k1=>(fC SV k1).trans (gb ((fC Qw k2).trans h));have i1:G1[H0.length+1]?=aa (.list ((ts.map λp=>MV.ref p.2).reverse)):=(fC Qw (O0:)).trans D.it;have i4:G3[H0.length]?=aa (.list (bD (gv.map (·.1)).reverse)):=(fC NJ (O2:)).trans (g2 D.st (O1:) (HW:));have lr:(gv.map (·.1)).reverse.length=gv.length:=by rw[sP,a8]
 refine⟨G4,?_,?_⟩
 ·have bl:∀{α:Type}{xs:af α},xs.length<1000->lZ xs.length 1000=true:=λh=>cA h
  have a1:iT 3 KI (au 4) (aJ (au 6) bG) ⟨H,l⟩=aa (.none,⟨G1,l⟩):=gS (aF D.l4) D.sn rfl (bB (aF h6) eG) (Yu D.sn (bl (by rw[HN,a8];exact b1)) (by rw[c];exact Qw));have a2:iT 0 fx (au 3) (aJ (B0 (cJ Cz (aJ (gX (sy 2) (fw (au 1) (au 6))) bG))) bG) ⟨G1,l⟩=aa (.none,⟨G2,l⟩):=
   gS (aF D.l3) i1 rfl (bB (So (cI (bB (fW (d5 (aF D.l1) (aF h6) (gq ((fC Qw (A3 lt1:)).trans k1) (lP y J7))) (p5 ((fC Qw (A3 lt2:)).trans k2) rfl)) eG) (Ud ((fC Qw (A3 lt3:)).trans k3))) (g1l▸Xj▸gi)) eG)
    (by rw[Xj,g1l,gal,Xk];exact qF (gb i1) (bl (by rw[sP,a8,D.CX];exact b2)) SV)
  have a3:vt (.ref (H0.length+3)) (.int (v:ah)) (.int (gv.length:ah)) G2=aa G3:=CS (g2 hd (aa2:) (aa1:)) (bl (by rw[OG,lr];exact b2)) (by rw[ub,OF yc,<-NJ,m9];rfl);have hl:cJ jc (aJ (au 2) bG) ⟨G2,l⟩=aa (.int (gv.length:ah),⟨G2,l⟩):=by have q:=cI (bB (aF D.l2) eG) (tw (g2 D.st (O1:) (HW:)));rw[bD,a8,lr] at q;exact q
  have st:=Ba D h6;rw[dO hv] at st;exact N7 st<|ke a1 (ke a2 (DT hl (aF D.l5) (aF h6) a3 (ke (gS (aF D.l2) i4 rfl (bB (aF h6) eG) (qF i4 (bl (by rw[bD,a8,lr];exact b2)) NK)) rfl)))
 ·have f:∀{k:ah}{o:av},H[k]?=aa o->k≠H0.length->k≠H0.length+1->k≠H0.length+2->k≠H0.length+3->G4[k]?=aa o:=λh k0 k1 k2 k3=>(fC NK k0).trans ((fC NJ k3).trans (g2 h k2 k1))
  have fL:G4[H.length]?=aa (.iter (y.sc v) 0):=(fC NK (oM (ajP hlen:))).trans ((fC NJ (Ex hlen:)).trans ((fC SV (oM (ajL hlen:))).trans (Hp Xk gi)));have fB:G4[H.length+1]?=aa (.bound H.length):=(fC NK (oM (akR hlen:))).trans ((fC NJ (akc hlen:)).trans ((fC SV (oM (ajM hlen:))).trans gn));have old:∀p∈ts,p.1<H.length/\p.2<H.length:=λp hp=>by
   obtain⟨j,hj,e⟩:=dm hp;have hj2:j<gv.length:=by rw[<-D.CX];exact hj
   obtain⟨t,b⟩:=p;refine dQ (D.its j (gv[j]).1 (gv[j]).2 t b (by rw[ao hj2]) (by rw[ao hj,e])) λz1 z2=>?_;exact⟨(gM z2),(gM z1)⟩
  refine⟨by rw[g4l];exact fA hlen (d8 _ _),λk hk=>?_,D.l1,D.l2,D.l3,D.l4,D.l5,?_,?_,by rw[cU,cU,D.CX],λp u' i' t' b' h1 h2=>?_,?_,λp hp=>?_,?_,⟨e+1,?_⟩⟩
  ·have ho:=ao (by exact UU hlen hk:k<H.length)
   exact(f ho (Eu hk:) (adS hk:) (A3 hk:) (A3 hk:)).trans (ho.symm.trans (D.keep k hk))
  ·refine(rp NK (akL hlen g3l:)).trans ?_
   rw[bX,gO];exact bI (λq=>aa (av.list q)) (d4 (f:=λj:ah=>MV.int (j:ah)) (l₁:=(gv.map (·.1)).reverse) (l₂:=[v])).symm
  ·refine(fC NK (oM (HW:))).trans ((fC NJ (UD:)).trans ((rp SV (by rw[gbl];exact fE (fE (Nat.lt_add_of_pos_right (n:=H0.length+1) (k:=3) (by decide)) hlen) (d8 _ _))).trans ?_))
   rw[bX,gO]
  ·cases p with
   |zero=>cases h1;cases h2;exact⟨fB,fL⟩
   |succ p=>refine dQ (D.its p u' i' t' b' h1 h2) λz1 z2=>?_;refine dQ (old _ (aM (show ts[p]?=aa (t',b') from h2))) λw1 w2=>?_;refine dQ (D.tl _ (aM (show ts[p]?=aa (t',b') from h2))) λx1 x2=>?_;simp only at w1 w2 x1 x2;exact⟨f z1 (Ew x2:) (Ly x2:) (UL x2:) (Ex x2:),f z2 (Ew x1:) (Ly x1:) (UL x1:) (Ex x1:)⟩
  ·rw[bX,cQ]
   refine⟨λq=>?_,D.td⟩;refine cv (aU.mp q) λp hp e=>?_;have:=(old p hp).1;simp only at e;exact aj1 e this
  ·rcases bE.mp hp with rfl|q
   ·exact⟨hlen,by simp only;exact akQ hlen⟩
   ·exact D.tl p q
  ·refine(fC NK (oM (O1:))).trans ((fC NJ (UE:)).trans ((fC SV (oM (O0:))).trans (gb ((rp Qw (UK hlen:)).trans ?_))))
   rfl
  ·refine(fC NK (oM (O2:))).trans ((rp NJ (akK hlen g2l:)).trans ?_)
   rw[bX,gO]
end
theorem Hm{chk:af av->cj}{i:ah}{body:St->ag (MF×St)}(v3:ah->St->Prop)(Out:MV->St->Prop):∀(ys:af lM)(k:ah)(st:St),v3 k st->
  (∀(j:ah) y st,ys[j]?=aa y->v3 (k+j) st->chk st.H=true/\((∃bZ fl,body ⟨y.heap st.H,bV st.l i (y.get st.H)⟩=aa (fl,bZ)/\(fl=.next\/fl=.cont)/\v3 (k+j+1) bZ)\/∃v bZ,body ⟨y.heap st.H,bV st.l i (y.get st.H)⟩=aa (.ret v,bZ)/\Out v bZ))->
  (∀st,v3 (k+ys.length) st->chk st.H=true)->(∃bZ,ph chk i body ys st=aa (.next,bZ)/\v3 (k+ys.length) bZ)\/∃v bZ,ph chk i body ys st=aa (.ret v,bZ)/\Out v bZ:=by
 intro ys
 induction ys with
 |nil=>exactλk st h _ he=> .inl ⟨st,aP (he st h),h⟩
 |cons y ys ih=>
  intro k st h hs he;have e:k+(y::ys).length=k+1+ys.length:=by rw[cU];exact vr
  rw[e] at he⊢;refine dQ (hs 0 y st rfl h) λhc q=>?_;have go:∀{o r},body ⟨y.heap st.H,bV st.l i (y.get st.H)⟩=o->p9 (ph chk i body ys) o=r->ph chk i body (y::ys) st=r:=λ{o r} h1 h2=>(aP (show chk st.H=true from hc)).trans (h1▸h2);rcases q with⟨bZ,fl,hb,hf,h'⟩|⟨v,bZ,hb,hf⟩
  ·have:=ih (k+1) bZ h' (λj z st hj hI=>by
    have e:k+(j+1)=k+1+j:=by exact vr
    have:=hs (j+1) z st hj (by rw[e];exact hI);rw[e] at this;exact this) he
   have t:p9 (ph chk i body ys) (aa (fl,bZ))=ph chk i body ys bZ:=hf.elim (λq=>by rw[q];rfl) λq=>by rw[q];rfl
   exact this.imp (λ⟨s,a,b⟩=>⟨s,go hb (t.trans a),b⟩) λ⟨v,s,a,b⟩=>⟨v,s,go hb (t.trans a),b⟩
  ·exact .inr ⟨v,bZ,go hb rfl,hf⟩
section
variable{H0 H:af av}{l:ah->ag MV}{y:Lay}{su:ah->af ah}{n:ah}{np:ah->aE}{rd:MV}{ps fi:aE}{ep v:ah}
noncomputable def rest(su:ah->af ah):af (ah×ah)->ah
 |[]=>0
 |(u,i)::s=>((su u).length-i)+rest su s
theorem DI.afk{seen:af ah}{u i:ah}{gv:af (ah×ah)}{fin:af ah}{ab:ag ah}(h:DI (su:=su) n seen ((u,i)::gv) fin ab):u<n:=h.lt u ((h.sn u).mpr (.inl (by simp)))
theorem GA(sns:af aE){gv ts:af (ah×ah)}{seen:af ah}(D:DH H0 H l y gv ts seen):kz sns ⟨H,l⟩=aa (!gv.isEmpty,⟨H,l⟩):=by exact(FQ (aF D.l2) (afl D.st)).trans (by cases gv with |nil=>rfl|cons a s=>simp)
inductive InR(sns:af aE)(H0:af av)(y:Lay)(su:ah->af ah)(n:ah)(seen:af ah)(m:ah)(l:ah->ag MV)(r:ag (MF×St)):Prop where
 |go (H':af av) (l':ah->ag MV) (Vv ts':af (ah×ah)) (te:af ah) (w:ah) (e:r=aa (.next,⟨H',l'⟩)) (D:DH H0 H' l' y Vv ts' seen) (h6:l' 6=aa (.int (w:ah))) (I:DI (su:=su) n seen Vv te (aa w)) (hw:w<n) (hr:rest su Vv+1<=m)
 |stop (H':af av) (te:af ah) (e:r=aa (.brk,⟨H',l⟩)) (D:DH H0 H' l y [] [] seen) (I:DI (su:=su) n seen [] te none)
theorem PD{sns:af aE}{f:ah}{st bZ:St}(h:kz sns st=aa (true,st))(e:jH sns st=aa (.brk,bZ)):iA (kz sns) (jH sns) (aO A9 bF) (f+1) st=aa (.next,bZ):=ly.trans (cV h (uK (cV e rfl)))
theorem Cg(sns:af aE)(S:SA H0 y n np su rd ps fi ep)(FZ:∀u,u<n->∀w∈su u,w<n){seen:af ah}:∀(gv ts:af (ah×ah))(H:af av)(l:ah->ag MV)(fin:af ah)(f:ah),DH H0 H l y gv ts seen->DI (su:=su) n seen gv fin none->gv.length<f->
  InR sns H0 y su n seen (rest su gv) l (iA (kz sns) (jH sns) (aO A9 bF) f ⟨H,l⟩):=by
 intro gv
 induction gv with
 |nil=>intro ts H l fin f D I hf;refine dA (yi (by exact ad0 hf:f≠0)) λf cP=>?_;subst cP;have ht:ts=[]:=xV D.CX;subst ht;refine .stop H fin ?_ D I;have t:=GA sns D;simp only[List.isEmpty_nil,Bool.not_true] at t;exact ly.trans (cV t rfl)
 |cons p gv ih=>
  intro ts H l fin f D I hf;obtain⟨u,i⟩:=p;refine dA (yi (by exact ad0 hf:f≠0)) λf cP=>?_;subst cP;have hun:=I.afk;cases ts with
  |nil=>exact ej D.CX (by simp)
  |cons a ts=>
  obtain⟨t,b⟩:=a;have tt:=GA sns D;simp only[List.isEmpty_cons,Bool.not_false] at tt;have QC:=S.succ u hun;cases hw:(su u)[i]? with
  |some w=>refine dQ (HM sns D QC hw) λe1 e2=>?_;refine .go _ _ _ _ fin w (PD tt e1) e2 rfl (I.next hw) (FZ u hun w (aM hw)) ?_;have:=(gM hw);simp only[rest];exact ak9 this
  |none=>
   have hi:=fj.mp hw;have m9:=I.nd;rw[bX,cQ] at m9;refine cv (Ln sns D QC hi m9.1) λH' e1 e2=>?_;have ih:=ih ts H' l (u::fin) f e2 (I.pop hi) (by simp at hf;exact ach hf);have e:iA (kz sns) (jH sns) (aO A9 bF) (f+1) ⟨H,l⟩=iA (kz sns) (jH sns) (aO A9 bF) f ⟨H',l⟩:=ly.trans (cV tt (uK (cV e1 rfl)));rw[e];cases ih with
   |go H2 l2 L0 ts2 fin2 w a1 a2 a3 a4 a5 a6=>exact .go H2 l2 L0 ts2 fin2 w a1 a2 a3 a4 a5 (by simp only[rest];exact alF a6)
   |stop H2 fin2 a1 a2 a3=>exact .stop H2 fin2 a1 a2 a3
theorem lj{seen:af ah}(h:seen.Nodup)(hl:∀x∈seen,x<n):seen.length<=n:=by have:=h.length_le_of_subset (l₂:=cO n) λx hx=>eP.mpr (hl x hx);simpa using this
theorem Gz{seen:af ah}{gv:af (ah×ah)}{fin:af ah}{ab:ag ah}(h:DI (su:=su) n seen gv fin ab):gv.length<=n:=by have:=lj (n:=n) h.nd λx hx=>h.lt x ((h.sn x).mpr (.inl hx));simpa using this
inductive RJ(H0:af av)(y:Lay)(su:ah->af ah)(n:ah)(seen:af ah)(v:ah)(r:ag (MF×St)):Prop where
 |fin (bZ:St) (te sd:af ah) (e:r=aa (.next,bZ)) (D:DH H0 bZ.H bZ.l y [] [] sd) (I:DI (su:=su) n sd [] te none) (h:∀x∈seen,x∈sd) (hv:v∈sd)
 |ring (bZ:St) (rr:ah) (xs:af MV) (e:r=aa (.ret (.ref rr),bZ)) (hl:H0.length<=bZ.H.length) (hk:∀k,k<H0.length->bZ.H[k]?=H0[k]?) (hx:bZ.H[rr]?=aa (.list xs)) (hn:xs≠[]) (hR:Ring su n)
theorem GD{sns:af aE}{f:ah}{st st1 MG:St}(e1:ny sns st=aa (.next,st1))(a1:iA (kz sns) (jH sns) (aO A9 bF) 1000 st1=aa (.next,MG)):iA (kX sns) (kA sns) bF (f+1) st=iA (kX sns) (kA sns) bF f MG:=by have l4:kA sns st=aa (.next,MG):=(PX (I0 sns) st).trans (rO e1 (rO a1 rfl));exact ly.trans (cV (show kX sns st=aa (true,st) from rfl) (uK (cV l4 rfl)))
theorem L7{sns:af aE}{f:ah}{st st1 MG:St}(e1:ny sns st=aa (.next,st1))(a1:iA (kz sns) (jH sns) (aO A9 bF) 1000 st1=aa (.brk,MG)):iA (kX sns) (kA sns) bF (f+1) st=aa (.next,MG):=by have l4:kA sns st=aa (.brk,MG):=(PX (I0 sns) st).trans (rO e1 (rO a1 rfl));exact ly.trans (cV (show kX sns st=aa (true,st) from rfl) (uK (cV l4 rfl)))
theorem VH{sns:af aE}{f:ah}{st st1:St}{v:MV}(e1:ny sns st=aa (.ret v,st1)):iA (kX sns) (kA sns) bF (f+1) st=aa (.ret v,st1):=by have l4:kA sns st=aa (.ret v,st1):=(PX (I0 sns) st).trans (rO e1 rfl);exact ly.trans (cV (show kX sns st=aa (true,st) from rfl) (uK (cV l4 rfl)))
theorem RJ.more{seen:af ah}{v v' w:ah}{r r':ag (MF×St)}(h:RJ H0 y su n seen w r)(e:r'=r)(hv:v∈seen):RJ H0 y su n seen v r':=by
 subst e;cases h with
 |fin bZ te sd e D I h _=>exact .fin bZ te sd e D I h (h v hv)
 |ring bZ rr xs e a b c d q=>exact .ring bZ rr xs e a b c d q
theorem RJ.cut{seen:af ah}{v v' w:ah}{r r':ag (MF×St)}(h:RJ H0 y su n (v::seen) w r)(e:r'=r):RJ H0 y su n seen v r':=by
 subst e;cases h with
 |fin bZ te sd e D I h _=>exact .fin bZ te sd e D I (λx hx=>h x (.tail _ hx)) (h v (.head _))
 |ring bZ rr xs e a b c d q=>exact .ring bZ rr xs e a b c d q
theorem Lj(sns:af aE)(S:SA H0 y n np su rd ps fi ep)(FZ:∀u,u<n->∀w∈su u,w<n)(hb:∀u,u<n->(su u).length<=100)(hn:n<=9)(f:ah):∀(gv ts:af (ah×ah))(seen:af ah)(H:af av)(l:ah->ag MV)(fin:af ah)(v:ah),DH H0 H l y gv ts seen->l 6=aa (.int (v:ah))->DI (su:=su) n seen gv fin (aa v)->v<n->
  (n-seen.length)*101+rest su gv<f->RJ H0 y su n seen v (iA (kX sns) (kA sns) bF f ⟨H,l⟩):=by
 induction f with
 |zero=>intro _ _ _ _ _ _ _ _ _ _ _ hf;exact ej hf (jC _)
 |succ f ih=>
  intro gv ts seen H l fin v D h6 I J7 hf;have N4:=lj I.snd I.lt;have ma:=Gz I;by_cases hv:v∈seen
  ·by_cases hs:v∈gv.map (·.1)
   ·refine xv (Ie sns D h6 hv hs (akn hn ma:)) λH' xs e1 e2 e3 e4=>?_
    refine .ring ⟨H',l⟩ (H.length+2) xs (VH e1) ?_ ?_ e2 e3 (I.found hs)
    ·have:=e4.length_le;have:=D.len;show _<=H'.length;exact al0 (by assumption) this
    ·intro k hk
     have h1:=D.len;rw[<-D.keep k hk];refine dA e4 λT cP=>?_;clear e4;subst cP;exact aA (alK hk h1:)
   ·have e1:=Lh sns D h6 hv hs
    have J:=I.old hv hs;cases Cg sns S FZ gv ts H l fin 1000 D J (UN hn ma:) with
    |go H2 l2 L0 ts2 fin2 w a1 a2 a3 a4 a5 a6=>exact(ih L0 ts2 seen H2 l2 fin2 w a2 a3 a4 a5 (acX hf a6:)).more (v':=v) (GD e1 a1) hv
    |stop H2 fin2 a1 a2 a3=>exact .fin ⟨H2,l⟩ fin2 seen (L7 e1 a1) a2 a3 (λ_ h=>h) hv
  ·have hs:v∉gv.map (·.1):=λq=>hv ((I.sn v).mpr (.inl q))
   refine cv (HT sns S D h6 hv J7 hs (UN hn N4:) (UN hn ma:)) λH' e1 e2=>?_;have J:=I.push hv J7;have XX:=lj J.snd J.lt;have XJ:=Gz J;have hbv:=hb v J7;simp only[cU] at XX XJ;cases Cg sns S FZ ((v,0)::gv) _ H' l fin 1000 e2 J (by simp only[cU];exact akj hn XJ) with
   |go H2 l2 L0 ts2 fin2 w a1 a2 a3 a4 a5 a6=>exact(ih L0 ts2 (v::seen) H2 l2 fin2 w a2 a3 a4 a5 (by simp only[rest,cU] at a6⊢;exact ac1 hf XX hbv a6)).cut (v':=v) (GD e1 a1)
   |stop H2 fin2 a1 a2 a3=>exact .fin ⟨H2,l⟩ fin2 (v::seen) (L7 e1 a1) a2 a3 (λ_ h=> .tail _ h) (.head _)
theorem DI.any{seen fin:af ah}{ab ab':ag ah}(h:DI (su:=su) n seen [] fin ab):DI (su:=su) n seen [] fin ab':=⟨trivial,h.sn,h.nd,h.off,h.ord,h.lt,h.snd⟩
theorem NT{X:af av}(k:ah):(H++X)[H.length+k]?=X[k]?:=by rw[aY (d8 _ _),gR]
noncomputable abbrev W7(H0:af av):af av:=H0++[.list [],.list [],.set [],.dict [] 0]
noncomputable abbrev W8(H0:af av)(y:Lay):ah->ag MV:=bV (bV (bV (bV (bV (λi=>[MV.ref y.si][i]?) 1 (.ref y.di)) 2 (.ref H0.length)) 3 (.ref (H0.length+1))) 4 (.ref (H0.length+2))) 5 (.ref (H0.length+3))
theorem dh0:DH H0 (W7 H0) (W8 H0 y) y [] [] []:=⟨vC (by rw[cK];rfl),λk hk=>aA hk,rfl,rfl,rfl,rfl,rfl,NT 0,NT 1,rfl,λp u i t b h1=>ej h1 (by simp),eB,λp hp=>(nomatch hp),NT 2,⟨0,NT 3⟩⟩
theorem di0:DI (su:=su) n [] [] [] none:=⟨trivial,λx=>⟨λh=>(nomatch h),λh=>h.elim (λh=>(nomatch h)) λh=>(nomatch h)⟩,eB,λx h=>(nomatch h),λa u b e=>ej e (by cases a<;>exact nofun),λx h=>(nomatch h),eB⟩
theorem JB(sns:af aE)(S:SA H0 y n np su rd ps fi ep){m:MF}{st:St}(e:ph (hU y.di (.dict (qG y n) ep)) 6 (qt sns) ((qG y n).map λx=>lM.val (.int x.1)) ⟨W7 H0,W8 H0 y⟩=aa (m,st)):zW sns ⟨H0,λi=>[MV.ref y.si][i]?⟩=m.nx (aa (.ret .none,st)) (aa (m,st)):=by
 have a:∀(X:af av)(o:av)(l:ah->ag MV),aa (MV.ref (H0++X).length,(⟨(H0++X)++[o],l⟩:St))=aa (.ref (H0.length+X.length),⟨H0++(X++[o]),l⟩):=λX o l=>by rw[cK,bq]
 have it:rL (au 1) ⟨W7 H0,W8 H0 y⟩=aa (((qG y n).map λx=>lM.val (.int x.1),hU y.di (.dict (qG y n) ep)),⟨W7 H0,W8 H0 y⟩):=xf (aF rfl) (app S.dict _) rfl;exact fO (fW (aF rfl) (jZ S.inst S.attr rfl)) (fO (jq eG rfl) (fO ((jq eG rfl).trans (a [.list []] _ _)) (fO ((cI (v:=.ref (H0++[av.list [],.list []]).length) (H2:=(H0++[av.list [],.list []])++[.set []]) eG rfl).trans (a [.list [],.list []] _ _)) (fO (eD0.trans (a ([.list [],.list []]++[.set []]) _ _)) (rO (zI it e) rfl)))))
theorem JE(sns:af aE)(S:SA H0 y n np su rd ps fi ep)(FZ:∀u,u<n->∀w∈su u,w<n)(hb:∀u,u<n->(su u).length<=100)(hn:n<=9):
  (∃H' fin,qX sns [.ref y.si] H0=aa (.none,H')/\H0.length<=H'.length/\(∀k,k<H0.length->H'[k]?=H0[k]?)/\(∀i,i<n->i∈fin)/\qp su fin)\/
  ∃H' r xs,qX sns [.ref y.si] H0=aa (.ref r,H')/\H0.length<=H'.length/\(∀k,k<H0.length->H'[k]?=H0[k]?)/\H'[r]?=aa (.list xs)/\xs≠[]/\Ring su n:=by
 have lt1:=(gM S.dict);have chk:∀st:St,(∀k,k<H0.length->st.H[k]?=H0[k]?)->hU y.di (.dict (qG y n) ep) st.H=true:=λst h=>kc.mpr ((h _ lt1).trans S.dict);have base:=Hm (chk:=hU y.di (.dict (qG y n) ep)) (i:=6) (body:=qt sns)
  (λk st=>∃seen fin,DH H0 st.H st.l y [] [] seen/\DI (su:=su) n seen [] fin none/\∀i,i<k->i∈seen)
  (λv st=>∃r xs,v=.ref r/\H0.length<=st.H.length/\(∀k,k<H0.length->st.H[k]?=H0[k]?)/\st.H[r]?=aa (.list xs)/\xs≠[]/\Ring su n)
  ((qG y n).map λx=>lM.val (.int x.1)) 0 ⟨W7 H0,W8 H0 y⟩ ⟨[],[],dh0,di0,λi hi=>ej hi (jC _)⟩
  (λj yy st hj hI=>by
   refine eu hI λseen fin D I lO=>?_;clear hI;rw[cw] at lO;have rj:j<n:=by have:=(gM hj);simpa[qG] using this
   have hyy:yy=.val (.int (j:ah)):=by rw[b9,qG,b9,g7 rj] at hj;cases hj;rfl
   subst hyy;obtain⟨H,l⟩:=st;simp only at D;refine⟨chk _ D.keep,?_⟩;have D1:=D.l6 (.int (j:ah));have h6:bV l 6 (.int (j:ah)) 6=aa (.int (j:ah)):=rfl;have ts:=Ba D1 h6;show(∃bZ fl,qt sns ⟨H,bV l 6 (.int (j:ah))⟩=aa (fl,bZ)/\_)\/∃v bZ,qt sns ⟨H,bV l 6 (.int (j:ah))⟩=aa (.ret v,bZ)/\_;by_cases hv:j∈seen
   ·left
    refine⟨⟨H,bV l 6 (.int (j:ah))⟩,.cont,?_,.inr rfl,seen,fin,D1,I,λi hi=>?_⟩
    ·rw[cM hv] at ts;exact rO (TH ts rfl) rfl
    ·by_cases e:i=j
     ·subst e;exact hv
     ·exact lO i (HY hi e:)
   ·have N4:=lj I.snd I.lt
    have:=Lj sns S FZ hb hn 1000 [] [] seen H _ fin j D1 h6 I.any rj (by simp only[rest];exact aj3 hn);cases this with
    |fin bZ te sd b1 b2 b3 b4 b5=>
     left;refine⟨bZ,.next,?_,.inl rfl,sd,te,b2,b3,λi hi=>?_⟩
     ·rw[dO hv] at ts;exact rO (N7 ts rfl) (rO b1 rfl)
     ·by_cases e:i=j
      ·subst e;exact b5
      ·exact b4 i (lO i (HY hi e:))
    |ring bZ r xs b1 b2 b3 b4 b5 b6=>right;refine⟨.ref r,bZ,?_,r,xs,rfl,b2,b3,b4,b5,b6⟩;rw[dO hv] at ts;exact rO (N7 ts rfl) (rO b1 rfl))
  (λst hI=>let⟨_,_,D,_⟩:=hI;chk st D.keep)
 rcases base with⟨bZ,e1,seen,fin,D,I,lO⟩|⟨v,bZ,e1,r,xs,rfl,b2,b3,b4,b5,b6⟩
 ·left
  rw[a8,qG,a8,fq,cw] at lO;refine⟨bZ.H,fin,?_,by have:=D.len;exact Ey this,D.keep,λi hi=>?_,I.ord⟩
  ·exact lg rfl (JB sns S e1)
  ·simpa using(I.sn i).mp (lO i hi)
 ·right
  refine⟨bZ.H,r,xs,?_,b2,b3,b4,b5,b6⟩;exact lg rfl (JB sns S e1)
end
theorem zr{α:Type}{chk:af av->cj}{tf cap l ft fe}(H:af av)(h:α->MV)(g:α->cj)(e:α->MV)(ys:af α)
  (hs:∀a∈ys,∀xs:af MV,∃vs,tf (h a) (H++[.list xs])=aa vs/\ft ⟨H++[.list xs],dH vs cap l⟩=aa (g a,⟨H++[.list xs],dH vs cap l⟩)/\(g a=true->∃l',fe ⟨H++[.list xs],dH vs cap l⟩=aa (e a,⟨H++[.list xs],l'⟩)))
  (hc:∀xs:af MV,chk (H++[.list xs])=true) (hl:ys.length<=1000):iR chk tf cap l ft fe H.length (ys.map λa=> .val (h a)) (H++[.list []])=aa (H++[.list ((ys.filter g).map e)]):=by
 obtain⟨H',e1,e2⟩:=Hb (chk:=chk) (tf:=tf) (cap:=cap) (l:=l) (ft:=ft) (fe:=fe) (n:=H.length) (λj G=>G=H++[.list (((ys.take j).filter g).map e)]) (ys.map λa=> .val (h a)) 0 (H++[.list []]) rfl
  (λj yy G hj hI=>by
   rw[cw] at hI;subst hI;rw[b9] at hj;cases q:ys[j]? with
   |none=>rw[q] at hj;exact lR hj
   |some v=>
    rw[q] at hj;cases hj
    refine⟨hc _,?_⟩;obtain⟨vs,a1,a2,a3⟩:=hs v (aM q) (((ys.take j).filter g).map e);have e2:(ys.take (0+j+1)).filter g=(ys.take j).filter g++[v].filter g:=by rw[show 0+j+1=j+1 by exact pV,take_snoc q,oK]
    rw[e2];refine⟨vs,g v,_,a1,a2,λhg=>?_,λhg=>?_⟩
    ·simp[hg]
    ·obtain⟨l',a4⟩:=a3 hg
     have QA:=(gM q);have NS:((ys.take j).filter g).length<1000:=by have:=jE g (ys.take j);rw[ij] at this;exact ali hl QA this
     exact⟨e v,_,.none,H++[.list (((ys.take j).filter g).map e++[e v])],a4,qF gY (cA (show(List.map e _).length<1000 by rw[a8];exact NS)) (by simp),by simp[hg]⟩) (λG hI=>by rw[hI];exact hc _)
 rw[cw,a8,ip] at e2;rw[e1,e2]
theorem sr{chk:af av->cj}{tf cap l ft fe}(H:af av)(g:MV->cj)(e:MV->MV)(ys:af MV)
  (hs:∀v∈ys,∀xs:af MV,∃vs,tf v (H++[.list xs])=aa vs/\ft ⟨H++[.list xs],dH vs cap l⟩=aa (g v,⟨H++[.list xs],dH vs cap l⟩)/\(g v=true->∃l',fe ⟨H++[.list xs],dH vs cap l⟩=aa (e v,⟨H++[.list xs],l'⟩)))
  (hc:∀xs:af MV,chk (H++[.list xs])=true) (hl:ys.length<=1000):iR chk tf cap l ft fe H.length (ys.map .val) (H++[.list []])=aa (H++[.list ((ys.filter g).map e)]):=zr H (λv=>v) g e ys hs hc hl
noncomputable def Gs(np:ah->aE)(n:ah):af ah:=(cO n).filter λi=>np i==0
section
variable{H:af av}{y:Lay}{su:ah->af ah}{n:ah}{np:ah->aE}{ps fi:aE}{ep:ah}
theorem Lo(sns:af aE)(S:SA H y n np su .none ps fi ep)(hn:n<=9)(l:ah->ag MV):
  iR (hU y.di (.dict (qG y n) ep)) iw none l (vO sns) (vQ sns) H.length ((qG y n).map λx=>lM.val x.2) (H++[.list []])=aa (H++[.list (bD (Gs np n))]):=by
 have XD:∀i,i<n->∀T,(H++T)[y.nd i]?=aa (fK y i (np i)):=λi hi T=>app (S.node i hi) T;rw[show((qG y n).map λx=>lM.val x.2)=(cO n).map λi=>lM.val (.ref (y.nd i)) by rw[qG,iJ];rfl];exact zr H (λi:ah=>MV.ref (y.nd i)) (λi=>np i==0) (λi:ah=>MV.int (i:ah)) (cO n) (λi hi xs=>by
   have hi:=eP.mp hi;exact⟨[.ref (y.nd i)],rfl,cg (fW (aF rfl) (p5 (XD i hi _) rfl)) aT rfl,λ_=>⟨_,fW (aF rfl) (p5 (XD i hi _) rfl)⟩⟩)
  (λxs=>kc.mpr (app S.dict _)) (by rw[fq];exact vq hn)
theorem OX(sns:af aE)(S:SA H y n np su .none ps fi ep)(FZ:∀u,u<n->∀w∈su u,w<n)(hb:∀u,u<n->(su u).length<=100)(hn:n<=9):
  ∃H',SS H' y n H.length su ⟨np,Gs np n,fi⟩ ps ep/\hJ y n H.length H H'/\
   ((tV sns [.ref y.si] H=aa (.none,H')/\∃fin,(∀i,i<n->i∈fin)/\qp su fin)\/(tV sns [.ref y.si] H=none/\wD sns [.ref y.si] H=aa H'/\Ring su n)):=by
 have S1:=S.app [.list (bD (Gs np n))];have S2:=S1.setAttr (.ref H.length) ps fi;have hra:H.length≠y.ai:=λe=>by have:=(gM S.attr);exact Lw e this
 have hR:((H++[av.list (bD (Gs np n))]).set y.ai (.attrs [.ref y.di,.ref H.length,.int ps,.int fi]))[H.length]?=aa (.list (bD (Gs np n))):=by rw[aC hra.symm];simp
 have Tr:∀i,i<n->H.length≠y.sc i:=λi hi e=>by have:=(gM (S.succ i hi));exact Lw e this
 have U:hJ y n H.length H ((H++[av.list (bD (Gs np n))]).set y.ai (.attrs [.ref y.di,.ref H.length,.int ps,.int fi])):=(hJ.app _).trans (hJ.set (.inl (.inr (.inl rfl))));have fin:∀H',(H.length+1<=H'.length)->(∀k,k<H.length+1->H'[k]?=((H++[av.list (bD (Gs np n))]).set y.ai (.attrs [.ref y.di,.ref H.length,.int ps,.int fi]))[k]?)->SS H' y n H.length su ⟨np,Gs np n,fi⟩ ps ep/\hJ y n H.length H H':=λH' hl hk=>by refine⟨⟨S2.of λk ho=>hk k ?_,(hk _ (HV:)).trans hR,Tr⟩,U.trans ⟨by simpa using hl,λk eY _ _=>hk k (by simpa using eY)⟩⟩;refine dA (S2.there ho) λo e=>?_;have:=(gM e);simpa using this
 have pc:=Lo sns S hn;have i2:=S2.inst;have t2:=S2.attr;have ec:∀l:ah->ag MV,l 0=aa (.ref y.si)->iS iw none (Cf (gX (mH 0) (au 0))) (vO sns) (vQ sns) ⟨H,l⟩=aa (.ref H.length,⟨H++[.list (bD (Gs np n))],l⟩):=λl h0=>w5 (TG (fW (aF h0) (jZ S.inst S.attr rfl)) S.dict) (pc l);have run:∀{v H'}{R:ag (MF×St)},qX sns [.ref y.si] ((H++[av.list (bD (Gs np n))]).set y.ai (.attrs [.ref y.di,.ref H.length,.int ps,.int fi]))=aa (v,H')->aO (je (Aj (au 1)) pz bF) bF ⟨H',bV (λi=>[MV.ref y.si][i]?) 1 v⟩=R->Dp sns ⟨H,λi=>[MV.ref y.si][i]?⟩=R:=λe1 e2=>iY (cg (fW (aF rfl) (jZ S.inst S.attr rfl)) aT rfl) rfl (fS (oO (ec _ rfl) (aF rfl) (uX S1.inst S1.attr rfl rfl) (fO (k9 (aF rfl) i2 t2 eG e1) e2)))
 rcases JE sns S2 FZ hb hn with⟨H',W9,e1,e2,e3,e4,e5⟩|⟨H',r,xs,e1,e2,e3,e4,e5,e6⟩
 ·simp at e2
  exact⟨H',(fin H' e2 λk hk=>e3 k (by simpa using hk)).1,(fin H' e2 λk hk=>e3 k (by simpa using hk)).2,.inl ⟨Jw rfl (run e1 (iY (FQ (aF er) rfl) rfl rfl)),W9,e4,e5⟩⟩
 ·simp at e2
  obtain⟨x,xs,rfl⟩:∃x xs',xs=x::xs':=by
   cases xs with
   |nil=>exact ej rfl e5
   |cons x xs=>exact⟨x,xs,rfl⟩
  have t:=FQ (l:=bV (λi=>[MV.ref y.si][i]?) 1 (.ref r)) (aF (i:=1) er) (afl e4);exact⟨H',(fin H' e2 λk hk=>e3 k (by simpa using hk)).1,(fin H' e2 λk hk=>e3 k (by simpa using hk)).2,.inr ⟨Vj rfl (run e1 (kB t rfl rfl)),
   Vl rfl (Vi (N7 (cg (fW (aF rfl) (jZ S.inst S.attr rfl)) aT rfl) rfl) (Vi (cV (ec _ rfl) (cV (aF rfl) (eJ (uX S1.inst S1.attr rfl rfl) rfl))) (Vi (cV (k9 (aF rfl) i2 t2 eG e1) rfl) (aeV t (aF er))))),e6⟩⟩
end
noncomputable def Bu(ns:af aE):af aE:=(ns.take 7).map (·.fmod 1000000)++[6,0]
section
variable(ms:af aE)
noncomputable def lh(j:ah):aE:=ms.getD j 0*60803+j*7919
noncomputable def sE(j:ah):aE:=if ms.sum.fmod 2=1 then 0 else j+1
noncomputable def ou(j:ah):aE:=max 1 (ms.length-sE ms j)
noncomputable def kdOf(j:ah):aE:=if(j:aE)=ms.length-1 then 0 else(lh ms j).fmod 4
noncomputable def vn(j:ah):aE:=sE ms j+((lh ms j).fdiv 4).fmod (ou ms j)
noncomputable def yE(j:ah):aE:=sE ms j+(((lh ms j).fdiv 4).fdiv (ou ms j)).fmod (ou ms j)
noncomputable def mK(j:ah):af ah:=if kdOf ms j=0 then [] else if((lh ms j).fdiv 400).fmod 3=0 then [(vn ms j).toNat] else [(vn ms j).toNat,(yE ms j).toNat]
variable{ms}
theorem QR(j:ah):0<=vn ms j:=by
 have h1:0<=sE ms j:=by unfold sE;split<;>(first|exact Ls|exact Lu)
 have h2:0<ou ms j:=by unfold ou;exact UG
 have:=dw ((lh ms j).fdiv 4) h2;unfold vn;exact q46 h1 this
theorem QS(j:ah):0<=yE ms j:=by
 have h1:0<=sE ms j:=by unfold sE;split<;>(first|exact Ls|exact Lu)
 have h2:0<ou ms j:=by unfold ou;exact UG
 have:=dw (((lh ms j).fdiv 4).fdiv (ou ms j)) h2;unfold yE;exact q46 h1 this
theorem QJ{j:ah}(h:j+1<ms.length)(k:aE):sE ms j+k.fmod (ou ms j)<ms.length:=by
 have h1:sE ms j+1<=ms.length:=by unfold sE;split<;>(first|exact acm h|exact ace h)
 have h2:ou ms j=ms.length-sE ms j:=by unfold ou;exact ab2 h1
 have:=eU k (show 0<ou ms j by exact abD h1 h2);exact aio h2 this
theorem F9{j:ah}(hj:j<ms.length):∀p∈mK ms j,p<ms.length:=by
 intro p hp;unfold mK at hp;split at hp
 ·cases hp
 ·rename_i hk
  have h1:j+1<ms.length:=by
   unfold kdOf at hk;split at hk
   ·exact ej rfl hk
   ·exact ajU hj (by assumption)
  have a1:vn ms j<ms.length:=QJ h1 _;have a2:yE ms j<ms.length:=QJ h1 _;have b1:=QR (ms:=ms) j;have b2:=QS (ms:=ms) j;split at hp<;>simp at hp<;>(first|exact acu a1 b1 hp|exact acv a1 a2 b2 hp)
theorem CD(j:ah):(mK ms j).length<=2:=by
 unfold mK;split
 ·simp
 ·split<;>simp
theorem TR(j:ah):0<=kdOf ms j/\kdOf ms j<=3:=by
 unfold kdOf;split
 ·exact aa5
 ·have:=dw (lh ms j) (show(0:aE)<4 by decide)
  have:=eU (lh ms j) (show(0:aE)<4 by decide);exact q30 (by assumption) this
end
set_option genInjectivity false in structure pK(H:af av)(sh n:ah)(rw nl:ah->ah)(kd fig:ah->aE)(need:ah->af ah):Prop where
 row:H[sh]?=aa (.list ((cO n).map λi=> .ref (rw i)))
 tup:∀i,i<n->H[rw i]?=aa (.tup [.int (kd i),.ref (nl i),.int (fig i)])
 nd:∀i,i<n->H[nl i]?=aa (.list (bD (need i)))
theorem Eb(ms:af aE):(∀m∈ms,m.natAbs<1000000000)->intsOf (ms.map MV.int)=aa ms:=by
 induction ms with
 |nil=>exactλ_=>rfl
 |cons m ms ih=>exactλh=>sb (eJ (ih λx hx=>h x (.tail _ hx)) (aP (h m (.head _))))
section
variable{ms:af aE}{H:af av}{l:ah->ag MV}{m s j:ah}(hm:H[m]?=aa (.list (ms.map MV.int)))(l1:l 1=aa (.ref m))(l3:l 3=aa (.int (j:ah)))
include hm l1 l3
theorem sh5(hb:∀m∈ms,m.natAbs<1000000000):Sn (dp (cS .Eq) (bU (bS .Mod) (cJ KP (aJ (au 1) bG)) (eK (.int 2))) (eK (.int 1))) (eK (.int 0)) (bU (bS .Add) (au 3) (eK (.int 1))) ⟨H,l⟩=aa (.int (sE ms j),⟨H,l⟩):=by
 have t:dp (cS .Eq) (bU (bS .Mod) (cJ KP (aJ (au 1) bG)) (eK (.int 2))) (eK (.int 1)) ⟨H,l⟩=aa (ms.sum.fmod 2==1,⟨H,l⟩):=cg (cF (cI (bB (aF l1) eG) (Yw hm (Eb ms hb))) aT (ki (BY (by decide)))) aT rfl;unfold sE;by_cases hp:ms.sum.fmod 2=1
 ·rw[xY.mpr hp] at t
  rw[aP hp];exact QG t aT
 ·rw[ef.mpr hp] at t
  rw[aZ hp];exact QF t (cF (aF l3) aT rfl)
omit l1 l3 in
theorem Yy:jc [.ref m] H=aa (.int (ms.length:ah),H):=(tw hm).trans (by rw[a8])
theorem sh7(l4:l 4=aa (.int (lh ms j))):Sn (dp (cS .Eq) (au 3) (bU (bS .Sub) (cJ jc (aJ (au 1) bG)) (eK (.int 1)))) (eK (.int 0)) (bU (bS .Mod) (au 4) (eK (.int 4))) ⟨H,l⟩=aa (.int (kdOf ms j),⟨H,l⟩):=by
 have t:dp (cS .Eq) (au 3) (bU (bS .Sub) (cJ jc (aJ (au 1) bG)) (eK (.int 1))) ⟨H,l⟩=aa ((j:aE)==ms.length-1,⟨H,l⟩):=cg (aF l3) (cF (cI (bB (aF l1) eG) (Yy hm)) aT rfl) rfl;unfold kdOf;by_cases hp:(j:aE)=ms.length-1
 ·rw[xY.mpr hp] at t
  rw[aP hp];exact QG t aT
 ·rw[ef.mpr hp] at t
  rw[aZ hp];exact QF t (cF (aF l4) aT (ki (BY (by decide))))
theorem afd(sns:af aE){rw nl:ah->ah}(hb:∀m∈ms,m.natAbs<1000000000)(hj:j<ms.length)(Tg:ms.length<=100)(l2:l 2=aa (.ref s))(hs:H[s]?=aa (.list ((cO j).map λi=> .ref (rw i))))(Th:m≠s):
  ∃T nt nn l',qs sns ⟨H,l⟩=aa (.next,⟨(H++T).set s (.list ((cO j).map (λi=> .ref (rw i))++[.ref nt])),l'⟩)/\l' 1=l 1/\l' 2=l 2/\(H++T)[nt]?=aa (.tup [.int (kdOf ms j),.ref nn,.int (lh ms j)])/\(H++T)[nn]?=aa (.list (bD (mK ms j)))/\H.length<=nt/\H.length<=nn:=by
 have hx:ms[j]?=aa (ms.getD j 0):=by simp[ao hj]
 have hxb:=hb _ (aM hx);have h4:bU (bS .Add) (bU (bS .Mult) (fw (au 1) (au 3)) (eK (.int 60803))) (bU (bS .Mult) (au 3) (eK (.int 7919))) ⟨H,l⟩=aa (.int (lh ms j),⟨H,l⟩):=by
  have q1:(ms.map MV.int)[j]?=aa (.int (ms.getD j 0)):=by rw[b9,hx];rfl
  have q2:(ms.getD j 0).natAbs<18446744073709551616:=by exact abh hxb
  have q3:j<18446744073709551616:=by exact ajT hj Tg
  have q4:tj (.list (ms.map MV.int)) (j:ah)=aa (.int (ms.getD j 0)):=by show idx (ms.map MV.int) (j:ah)=_;rw[idx,aP (dE _),fY];exact q1
  have q5:lZ (ms.getD j 0).natAbs 18446744073709551616=true:=cA q2;have q6:lZ ((j:ah):aE).natAbs 18446744073709551616=true:=cA q3;exact cF (cF (d5 (aF l1) (aF l3) (gq hm q4)) aT (ki (zv q5))) (cF (aF l3) aT (ki (zv q6))) rfl
 generalize hf:lh ms j=f at h4;have e5:=sh5 (j:=j) (l:=bV l 4 (.int f)) hm l1 l3 hb;have h5s:∀x,bV (bV l 4 (.int f)) 5 (.int x) 1=aa (.ref m)/\bV (bV l 4 (.int f)) 5 (.int x) 5=aa (.int x):=λx=>⟨l1,rfl⟩;generalize Tf:sE ms j=lo at e5;have e6:cJ (iG .Gt) (aJ (eK (.int 1)) (aJ (bU (bS .Sub) (cJ jc (aJ (au 1) bG)) (au 5)) bG)) ⟨H,bV (bV l 4 (.int f)) 5 (.int lo)⟩=aa (.int (ou ms j),⟨H,bV (bV l 4 (.int f)) 5 (.int lo)⟩):=by rw[ou,Tf];exact cI (bB aT (bB (cF (cI (bB (aF (h5s lo).1) eG) (Yy hm)) (aF (h5s lo).2) rfl) eG)) (wW (max2 _ _))
 have XZ:0<ou ms j:=by unfold ou;exact UG
 have agY:0<=lo:=by rw[<-Tf];unfold sE;split<;>(first|exact Ls|exact Lu)
 have aha:ou ms j<=100:=by unfold ou;rw[Tf];exact ab1 Tg agY
 have d1:vn ms j=lo+(f.fdiv 4).fmod (ou ms j):=by rw[vn,hf,Tf]
 have d2:yE ms j=lo+((f.fdiv 4).fdiv (ou ms j)).fmod (ou ms j):=by rw[yE,hf,Tf]
 generalize ou ms j=sp at *;have e7:=sh7 (j:=j) (l:=bV (bV (bV l 4 (.int f)) 5 (.int lo)) 6 (.int sp)) hm l1 l3 (by simp[bV,hf]);have hsp:sp≠0:=by exact q22 XZ
 have ag9:sp.natAbs<1073741824:=by exact aa8 XZ aha
 have nd:mK ms j=if kdOf ms j=0 then [] else if(f.fdiv 400).fmod 3=0 then [(vn ms j).toNat] else [(vn ms j).toNat,(yE ms j).toNat]:=by rw[mK,hf]
 have c1:(((vn ms j).toNat:ah):aE)=vn ms j:=n4 (QR j);have c2:(((yE ms j).toNat:ah):aE)=yE ms j:=n4 (QS j);generalize vn ms j=n1 at *;generalize yE ms j=n2 at *;generalize kdOf ms j=kd at *;have e8:eList (aJ (bU (bS .Add) (au 5) (bU (bS .Mod) (bU (bS .FloorDiv) (au 4) (eK (.int 4))) (au 6))) (aJ (bU (bS .Add) (au 5) (bU (bS .Mod) (bU (bS .FloorDiv) (bU (bS .FloorDiv) (au 4) (eK (.int 4))) (au 6)) (au 6))) bG)) ⟨H,bV (bV (bV (bV l 4 (.int f)) 5 (.int lo)) 6 (.int sp)) 7 (.int kd)⟩=aa (.ref H.length,⟨H++[.list [.int n1,.int n2]],bV (bV (bV (bV l 4 (.int f)) 5 (.int lo)) 6 (.int sp)) 7 (.int kd)⟩):=by rw[d1,d2];exact jq (bB (cF (aF rfl) (cF (cF (aF rfl) aT (ki (DQ (by decide) (by decide)))) (aF rfl) (ki (BY hsp))) rfl) (bB (cF (aF rfl) (cF (cF (cF (aF rfl) aT (ki (DQ (by decide) (by decide)))) (aF rfl) (ki (DQ hsp ag9))) (aF rfl) (ki (BY hsp))) rfl) eG)) rfl
 have QA:j<1000:=by exact ajS hj Tg
 have yc:=app hs;have Xr:lZ ((cO j).map λi=>MV.ref (rw i)).length 1000=true:=cA (show _<1000 by rw[a8,fq];exact QA);have start:qs sns ⟨H,l⟩=aO (je (dp (cS .Eq) (au 7) (eK (.int 0))) (aO (ba 8 (eList bG)) bF) (aO (je (dp (cS .Eq) (bU (bS .Mod) (bU (bS .FloorDiv) (au 4) (eK (.int 400))) (eK (.int 3))) (eK (.int 0))) (aO (ba 8 (pM sns (au 8) (pU none) (pU (aa (eK (.int 1)))))) bF) bF) bF))
   (aO (kF (iT 0 fx (au 2) (aJ (jz (aJ (au 7) (aJ (au 8) (aJ (au 4) bG)))) bG))) bF) ⟨H++[.list [.int n1,.int n2]],bV (bV (bV (bV (bV l 4 (.int f)) 5 (.int lo)) 6 (.int sp)) 7 (.int kd)) 8 (.ref H.length)⟩:=by
  exact fO h4 (fO e5 (fO e6 (fO e7 (fO e8 rfl))))
 rw[start];have N3:∀(T:af av) o,(H++T).set s o=H.set s o++T:=λT o=>by rw[List.set_append_left];exact(gM hs)
 by_cases hk:kd=0
 ·have MB:(kd==0)=true:=by simp[hk]
  refine⟨[.list [.int n1,.int n2],.list [],.tup [.int kd,.ref (H.length+1),.int f]],H.length+2,H.length+1,bV (bV (bV (bV (bV (bV l 4 (.int f)) 5 (.int lo)) 6 (.int sp)) 7 (.int kd)) 8 (.ref H.length)) 8 (.ref (H.length+1)),?_,rfl,rfl,by simp,by rw[nd,aP hk];simp,by exact ad6,by exact HX⟩;apply jD
  ·repeat' first|fail|(with_reducible first|(show _=_;assumption)|apply hs|apply fO|apply fS|apply gz|apply ke|apply aF|apply aT|apply cF|apply ki|apply cg|apply cI|apply bB|apply jv|apply jq|apply d5|apply gq|apply gY|apply jj|apply zv|apply wW|apply gS|apply qF)|((with_reducible apply kB);(focus repeat' first|fail|(with_reducible first|(show _=_;assumption)|apply gS|apply cI|apply bB|apply aF|apply aT|apply cF|apply ki|apply cg|apply d5|apply gq|apply gY|apply jj)|exact rfl);first|assumption|rfl)|((with_reducible apply iY);(focus repeat' first|fail|(with_reducible first|(show _=_;assumption)|apply gS|apply cI|apply bB|apply aF|apply aT|apply cF|apply ki|apply cg|apply d5|apply gq|apply gY|apply jj)|exact rfl);first|assumption|rfl)|(intro _)|exact rfl
  ·simp only[bq,cK];rfl
 ·have MB:(kd==0)=false:=by simp[hk]
  by_cases hc:(f.fdiv 400).fmod 3=0
  ·have S5:((f.fdiv 400).fmod 3==0)=true:=by simp[hc]
   refine⟨[.list [.int n1,.int n2],.list [.int n1],.tup [.int kd,.ref (H.length+1),.int f]],H.length+2,H.length+1,bV (bV (bV (bV (bV (bV l 4 (.int f)) 5 (.int lo)) 6 (.int sp)) 7 (.int kd)) 8 (.ref H.length)) 8 (.ref (H.length+1)),?_,rfl,rfl,by simp,by rw[nd,aZ hk,aP hc];simp[bD,c1],by exact ad6,by exact HX⟩;apply jD
   ·repeat' first|fail|(with_reducible first|(show _=_;assumption)|apply hs|apply An|apply Uu|apply LZ|apply fO|apply fS|apply gz|apply ke|apply aF|apply aT|apply cF|apply ki|apply cg|apply cI|apply bB|apply jv|apply jq|apply d5|apply gq|apply gY|apply jj|apply zv|apply wW|apply gS|apply qF)|((with_reducible apply kB);(focus repeat' first|fail|(with_reducible first|(show _=_;assumption)|apply gS|apply cI|apply bB|apply aF|apply aT|apply cF|apply ki|apply cg|apply d5|apply gq|apply gY|apply jj)|exact rfl);first|assumption|rfl)|((with_reducible apply iY);(focus repeat' first|fail|(with_reducible first|(show _=_;assumption)|apply gS|apply cI|apply bB|apply aF|apply aT|apply cF|apply ki|apply cg|apply d5|apply gq|apply gY|apply jj)|exact rfl);first|assumption|rfl)|(intro _)|exact rfl
   ·simp only[bq,cK];rfl
  ·have S5:((f.fdiv 400).fmod 3==0)=false:=by simp[hc]
   refine⟨[.list [.int n1,.int n2],.tup [.int kd,.ref H.length,.int f]],H.length+1,H.length,bV (bV (bV (bV (bV l 4 (.int f)) 5 (.int lo)) 6 (.int sp)) 7 (.int kd)) 8 (.ref H.length),?_,rfl,rfl,by simp,by rw[nd,aZ hk,aZ hc];simp[bD,c1,c2],by exact HX,by exact aa3⟩;apply jD
   ·repeat' first|fail|(with_reducible first|(show _=_;assumption)|apply hs|apply fO|apply fS|apply gz|apply ke|apply aF|apply aT|apply cF|apply ki|apply cg|apply cI|apply bB|apply jv|apply jq|apply d5|apply gq|apply gY|apply jj|apply zv|apply wW|apply gS|apply qF)|((with_reducible apply kB);(focus repeat' first|fail|(with_reducible first|(show _=_;assumption)|apply gS|apply cI|apply bB|apply aF|apply aT|apply cF|apply ki|apply cg|apply d5|apply gq|apply gY|apply jj)|exact rfl);first|assumption|rfl)|((with_reducible apply iY);(focus repeat' first|fail|(with_reducible first|(show _=_;assumption)|apply gS|apply cI|apply bB|apply aF|apply aT|apply cF|apply ki|apply cg|apply d5|apply gq|apply gY|apply jj)|exact rfl);first|assumption|rfl)|(intro _)|exact rfl
   ·simp only[bq,cK];rfl
end
end fG
namespace fG
open PySem PySem.W
theorem F6(ns:af aE):2<=(Bu ns).length/\(Bu ns).length<=9:=by simp[Bu];exact akE
theorem OA(ns:af aE):∀m∈Bu ns,0<=m/\m<1000000:=by
 intro m hm;unfold Bu at hm;rw[bK] at hm;rcases hm with h|h
 ·refine cv (aU.mp h) λx _ cP=>?_;subst cP
  exact⟨dw _ (by decide),eU _ (by decide)⟩
 ·simp at h;exact abg h
theorem Vs(sns:af aE){ms:af aE}{H:af av}{l:ah->ag MV}{m s:ah}(hm:H[m]?=aa (.list (ms.map MV.int)))(l1:l 1=aa (.ref m))(l2:l 2=aa (.ref s))(hs:H[s]?=aa (.list []))(Th:m≠s)
  (hb:∀m∈ms,m.natAbs<1000000000) (Tg:ms.length<=100):∃bZ rw nl,ph (λ_=>true) 3 (qs sns) (hY ms.length) ⟨H,l⟩=aa (.next,bZ)/\bZ.l 2=aa (.ref s)/\pK bZ.H s ms.length rw nl (kdOf ms) (lh ms) (mK ms):=by
 refine cv (kC (chk:=λ_=>true) (i:=3) (body:=qs sns)
  (λj st=>st.l 1=aa (.ref m)/\st.l 2=aa (.ref s)/\st.H[m]?=aa (.list (ms.map MV.int))/\∃rw nl,pK st.H s j rw nl (kdOf ms) (lh ms) (mK ms)/\∀i,i<j->nl i≠s) (hY ms.length) 0 ⟨H,l⟩
  ⟨l1,l2,hm,λ_=>0,λ_=>0,⟨by simpa using hs,λi hi=>ej hi (jC _),λi hi=>ej hi (jC _)⟩,λi hi=>by exact acn hi⟩ (λj yy st hj hI=>by
   obtain⟨rfl,V4⟩:=lU hj;obtain⟨a1,a2,a3,rw,nl,⟨b1,b2,b3⟩,b4⟩:=hI;rw[cw] at b1 b2 b3 b4;obtain⟨H,l⟩:=st;simp only at a1 a2 a3 b1 b2 b3;obtain⟨T,nt,nn,l',c1,c2,c3,c4,c5,c6,c7⟩:=afd (nl:=nl) (l:=bV l 3 (.int (j:ah))) a3 a1 rfl sns hb V4 Tg a2 b1 Th;have N4:=(gM b1);have ne:∀{k:ah}{o o':av},(H++T)[k]?=aa o->k≠s->((H++T).set s o')[k]?=aa o:=λh hk=>by rw[aC hk.symm];exact h
   refine⟨rfl,_,.next,c1,.inl rfl,?_,?_,?_,λi=>if i=j then nt else rw i,λi=>if i=j then nn else nl i,⟨?_,λi hi=>?_,λi hi=>?_⟩,λi hi=>?_⟩
   ·show l' 1=_;rw[c2];simp[bV,a1]
   ·show l' 2=_;rw[c3];simp[bV,a2]
   ·exact ne (app a3 T) Th
   ·show((H++T).set s _)[s]?=_
    rw[bh (by simp;exact Ez N4),show 0+j+1=j+1 by exact pV,kS,d4];have:(cO j).map (λi=>MV.ref (if i=j then nt else rw i))=(cO j).map λi=>MV.ref (rw i):=by apply kJ;intro i hi;rw[aZ (by have:=eP.mp hi;exact ajZ this)]
    rw[this];simp
   ·by_cases e:i=j
    ·subst e;simp only[kU];exact ne c4 (UT c6 N4:)
    ·simp only[aZ e]
     have:=b2 i (HY hi e:);exact ne (app this T) (λq=>by rw[q,b1] at this;cases this)
   ·by_cases e:i=j
    ·subst e;simp only[kU];exact ne c5 (UT c7 N4:)
    ·simp only[aZ e]
     exact ne (app (b3 i (HY hi e:)) T) (b4 i (HY hi e:))
   ·by_cases e:i=j
    ·subst e;simp only[kU];exact UT c7 N4
    ·simp only[aZ e];exact b4 i (HY hi e:)) (λ_ _=>rfl)) λbZ e1 e2=>?_
 refine oS e2 λa1 a2 a3 eX=>?_;clear e2;refine uq eX λrw nl b b4=>?_;clear eX;rw[cw,lV] at b;exact⟨bZ,rw,nl,e1,a2,b⟩
theorem LY(ns:af aE)(h:ns.length<=63):∃H' sh rw nl,Ae ns [.old] []=aa (.ref sh,H')/\pK H' sh (Bu ns).length rw nl (kdOf (Bu ns)) (lh (Bu ns)) (mK (Bu ns)):=by
 have hl:=F6 ns;have agW:wO (HQ ns) none (aa 7)=(ns.take 7).map MV.int:=by unfold wO kms_lo kms_hi HQ;simp[List.map_take]
 have hc:=sr (chk:=hU 0 (.list ((ns.take 7).map MV.int))) (tf:=iw) (cap:=none) (l:=λi=>[MV.old][i]?) (ft:=kH) (fe:=BB ns) [.list ((ns.take 7).map MV.int)] (λ_=>true) (λv=>match v with |.int x=> .int (x.fmod 1000000)|_=> .none) ((ns.take 7).map MV.int)
  (λv hv xs=>by refine cv (aU.mp hv) λx _ cP=>?_;subst cP;refine⟨[.int x],rfl,rfl,λ_=>⟨dH [.int x] none λi=>[MV.old][i]?,?_⟩⟩;exact cF (aF rfl) aT (ki (BY (by decide))))
  (λxs=>kc.mpr rfl) (by simp;exact ajz)
 have Tg:((((ns.take 7).map MV.int).filter λ_=>true).map λv=>match v with |.int x=> .int (x.fmod 1000000)|_=> .none)=((ns.take 7).map (·.fmod 1000000)).map MV.int:=by rw[sO.mpr (λ_ _=>rfl),iJ,iJ];rfl
 rw[Tg] at hc;refine YO (Vs ns (ms:=Bu ns) (H:=[.list ((ns.take 7).map MV.int),.list (((ns.take 7).map (·.fmod 1000000)).map MV.int),.list [.int 6,.int 0],.list ((Bu ns).map MV.int),.list []]) (l:=bV (bV (λi=>[MV.old][i]?) 1 (.ref 3)) 2 (.ref 4)) (m:=3) (s:=4) rfl rfl rfl rfl (by decide)
  (λm hm=>by have:=OA ns m hm;exact aba this) (aiC hl:)) λbZ rw nl e1 e2 e3=>?_
 refine⟨bZ.H,4,rw,nl,?_,e3⟩;have Xd:ns.length<=1000:=by exact aja h
 have hmm:((ns.take 7).map (·.fmod 1000000)).map MV.int++[.int 6,.int 0]=(Bu ns).map MV.int:=by simp[Bu]
 have eY:(((ns.take 7).map (·.fmod 1000000)).map MV.int).length+2<=1000:=by simp;exact abY
 have hs:pM ns (au 0) (pU none) (pU (aa (eK (.int 7)))) ⟨[],λi=>[MV.old][i]?⟩=aa (.ref 0,⟨[.list ((ns.take 7).map MV.int)],λi=>[MV.old][i]?⟩):=(An (aF rfl) rfl (Uu aT) (show sliceOf ns .old []=aa (HQ ns) from aP Xd)).trans (by rw[agW];rfl);have hb:bL (.ref 1) (.ref 2) [.list ((ns.take 7).map MV.int),.list (((ns.take 7).map (·.fmod 1000000)).map MV.int),.list [.int 6,.int 0]]=aa (.ref 3,[.list ((ns.take 7).map MV.int),.list (((ns.take 7).map (·.fmod 1000000)).map MV.int),.list [.int 6,.int 0],.list ((Bu ns).map MV.int)]):=(bLR rfl rfl (cA eY)).trans (by rw[hmm];rfl);have hn:0<=(((Bu ns).map MV.int).length:aE)/\(((Bu ns).map MV.int).length:aE)<=1000:=by rw[a8];exact⟨dE _,aiB hl⟩
 have hy:hY (((Bu ns).map MV.int).length:aE).toNat=hY (Bu ns).length:=by rw[a8];rfl
 refine lg rfl (l1:=bZ.l) ?_;delta zX;exact fO (cF (w5 (xf hs rfl rfl) hc) (jq (bB aT (bB aT eG)) rfl) hb) (fO (jq eG rfl) (vg (ue (cI (bB (aF rfl) eG) (tw rfl)) hn) (hy▸e1) (fR (aF e2))))
theorem sX(j:ah):∀(ps:af ah)(su:ah->af ah)(k:ah),tY su j ps k=su k++eC (ps.count k) j
 |[],su,k=>by simp[tY]
 |p::ps,su,k=>by
  show tY (λk=>if k=p then su p++[j] else su k) j ps k=_;rw[sX j ps];by_cases e:k=p
  ·subst e
   simp[qO,List.replicate_succ]
  ·have:(p==k)=false:=by simp;exactλq=>e q.symm
   simp[qO,e,this]
noncomputable def iz(n:ah)(need:ah->af ah)(k:ah):af ah:=(cO n).flatMap λj=>eC ((need j).count k) j
theorem rB(n:ah)(need:ah->af ah)(k:ah):iz (n+1) need k=tY (iz n need) n (need n) k:=by rw[sX,iz,kS,List.flatMap_append];simp[iz]
theorem lp{n:ah}{need:ah->af ah}{k w:ah}:w∈iz n need k↔w<n/\k∈need w:=by
 simp only[iz,v7,IJ,eP];constructor
 ·rintro⟨a,h1,h2,rfl⟩
  exact⟨h1,tL.mp (Mo h2)⟩
 ·rintro⟨h1,h2⟩;exact⟨w,h1,vG (tL.mpr h2),rfl⟩
theorem xJ(n:ah)(need:ah->af ah)(h:∀j,(need j).length<=2)(k:ah):(iz n need k).length<=2*n:=by
 induction n with
 |zero=>simp[iz]
 |succ n ih=>rw[rB,sX];have:=h n;have:=List.count_le_length (a:=k) (l:=need n);simp;exact alL ih (by assumption) this
theorem Jh(sns:af aE){H:af av}{l:ah->ag MV}{sh n:ah}{rw nl:ah->ah}{kd fig:ah->aE}{need:ah->af ah}(hS:pK H sh n rw nl kd fig need)(hn:n<=9)(jk:∀j,j<n->∀p∈need j,p<n)(hlen:∀j,(need j).length<=2)(l1:l 1=aa (.ref sh))(K:St->ag (MF×St)):
  ∃H' y ep l',aO (ba 2 (cJ (HJ false (sV sns)) (aJ (rh none (mI (cJ jc (aJ (au 1) bG))) (au 0) (eList bG)) bG))) (aO (mT 3 (mI (cJ jc (aJ (au 1) bG))) (Ds sns)) K) ⟨H,l⟩=K ⟨H',l'⟩/\
   l' 1=l 1/\l' 2=aa (.ref y.si)/\SA H' y n (λi=>((need i).length:ah)) (iz n need) .none 0 0 ep/\H.length<=H'.length/\(∀k,k<H.length->H'[k]?=H[k]?)/\∀k,Own y n k->H.length<=k:=by
 have hr:=hS.row;have NZ:(n:aE)<=1000:=by exact UB hn
 have dc:=Js H l n (ajc hn:);have hG:(H++av.dict (qu H.length n) n::eC n (av.list [])).length=H.length+n+1:=by simp;exact ad1
 refine aif (L2 sns (H:=(H++av.dict (qu H.length n) n::eC n (av.list []))++[av.attrs [],av.inst (H.length+n+1)]) (si:=H.length+n+2) (ai:=H.length+n+1) (g:=H.length) (n:=n) (ep0:=n) (e:=λi=>H.length+1+i)
  (by rw[aY (by rw[hG];exact akA),hG,show H.length+n+2-(H.length+n+1)=1 by exact akB];rfl) (by rw[aY (by rw[hG];exact akz),hG,qQ];rfl) (by rw[bq,aY (aa3:),qQ];rfl)
  (λi hi=>by rw[bq,aY (ad3:),show H.length+1+i-H.length=i+1 by exact acs,qb,qf,aA (by simpa using hi),Dd,aP hi]) (ajb hn:)) λH2 y ep t1 t2 t3 t4 t5 t6=>?_
 have a2:cJ (HJ false (sV sns)) (aJ (rh none (mI (cJ jc (aJ (au 1) bG))) (au 0) (eList bG)) bG) ⟨H,l⟩=aa (.ref y.si,⟨H2,l⟩):=by
  have hm:jc [.ref sh] H=aa (.int (n:ah),H):=by rw[tw hr,a8,fq]
  have t8:y.si=(H++av.dict (qu H.length n) n::eC n (av.list [])).length+1:=by rw[hG];exact t3
  rw[t8];exact cI (bB (zI (ue (cI (bB (aF l1) eG) hm) ⟨dE _,NZ⟩) (eJ dc rfl)) eG) (YB (by rw[hG,bq];exact t1))
 have l2:H.length<=H2.length:=by simp at t4;exact ael t4
 have k2:∀k,k<H.length->H2[k]?=H[k]?:=λk hk=>by rw[t5 k (by simp;exact alI hk) (akV hk:),bq,aA hk]
 have o2:∀k,Own y n k->H.length<=k:=λk hk=>by
  rcases t6 k hk with q|q|q
  ·exact alR q
  ·exact alf q
  ·simp at q;exact ael q
 have Rd:=(gM hr);obtain⟨bZ,e1,e2⟩:=kC (chk:=λ_=>true) (i:=3) (body:=Ds sns)
  (λj st=>st.l 1=aa (.ref sh)/\st.l 2=aa (.ref y.si)/\SA st.H y n (λi=>if i<j then((need i).length:ah) else 0) (iz j need) .none 0 0 ep/\H.length<=st.H.length/\∀k,k<H.length->st.H[k]?=H[k]?) (hY n) 0 ⟨H2,bV l 2 (.ref y.si)⟩
  ⟨l1,rfl,t2.congr (λi hi=>by simp) (λi hi=>by simp[iz]),l2,k2⟩ (λj yy st hj hI=>by
   refine dQ (lU hj) λcP rj=>?_;subst cP;obtain⟨b1,b2,b3,b4,b5⟩:=hI;rw[cw] at b3;obtain⟨G,l'⟩:=st;simp only at b1 b2 b3 b4 b5;obtain⟨H',c1,c2,c3⟩:=MY sns b3 rj (need j) (jk j rj) (by have:=hlen j;exact ai8 this) (λp hp=>by have:=hlen j;have:=xJ j need hlen p;exact alZ hn rj (by assumption) this);refine⟨rfl,⟨H',bV l' 3 (.int (j:ah))⟩,.next,?_,.inl rfl,by first|rfl|exact b1|repeat' first|(with_reducible first|(show _=_;assumption)|apply b1|apply er|apply kg)|rfl,by first|rfl|exact b2|repeat' first|(with_reducible first|(show _=_;assumption)|apply b2|apply er|apply kg)|rfl,?_,fA b4 c3.1,λk hk=>?_⟩
   ·have r1:=(b5 sh Rd).trans hr
    have r2:=(b5 _ (gM (hS.tup j rj))).trans (hS.tup j rj);have r3:=(b5 _ (gM (hS.nd j rj))).trans (hS.nd j rj);have c5:((cO n).map λi=>MV.ref (rw i))[j]?=aa (.ref (rw j)):=by rw[b9,g7 rj];rfl
    have c7:idx ((cO n).map λi=>MV.ref (rw i)) (j:ah)=aa (.ref (rw j)):=by rw[idx,aP (dE _),fY];exact c5
    exact ke (k9 (aF (by first|rfl|exact b2|repeat' first|(with_reducible first|(show _=_;assumption)|apply b2|apply er|apply kg)|rfl)) b3.inst b3.attr (bB (aF er) (Jy (d5 (d5 (aF (by first|rfl|exact b1|repeat' first|(with_reducible first|(show _=_;assumption)|apply b1|apply er|apply kg)|rfl)) (aF er) (gq r1 c7)) aT (gq r2 rfl)) r3)) c1) rfl
   ·refine c2.congr (λi hi=>?_) (λi hi=>?_)
    ·rw[show 0+j+1=j+1 by exact pV]
     by_cases e:i=j
     ·subst e;simp
     ·by_cases q:i<j
      ·simp[e,q,show i<j+1 by exact HZ q]
      ·simp[e,q,show¬i<j+1 by exact akt e q]
    ·rw[show 0+j+1=j+1 by exact pV];exact rB j need i
   ·rw[c3.2 k (fE hk b4) (λq=>by have:=o2 k q;exact adE hk this) (λq=>by have:=o2 y.si (.inl rfl);exact al6 t3 hk q)]
    exact b5 k hk) (λ_ _=>rfl)
 refine El e2 λb1 b2 b3 b4 b5=>?_;clear e2;rw[cw,lV] at b3;refine⟨bZ.H,y,ep,bZ.l,?_,b1.trans l1.symm,b2,b3.congr (λi hi=>by simp[hi]) (λi hi=>rfl),b4,b5,o2⟩;have r1:H2[sh]?=_:=(k2 sh Rd).trans hr;have q:=cI (bB (aF (l:=bV l 2 (.ref y.si)) (by first|rfl|exact l1|repeat' first|(with_reducible first|(show _=_;assumption)|apply l1|apply er|apply kg)|rfl)) eG) (tw r1)
 rw[a8,fq] at q;exact fO a2 (vg (ue q ⟨dE _,NZ⟩) e1 rfl)
noncomputable def ur(kind fig:aE)(need:af ah)(col:ah->l9):l9:=
 if kind=0 then⟨(fig.fdiv 4).fmod 17,(fig.fdiv 68).fmod 17,(fig.fdiv 1156).fmod 17⟩
 else match need with
  |[p,q]=>if(fig.fdiv 400).fmod 3=1 then⟨max (col p).a (col q).a,max (col p).b (col q).b,max (col p).d (col q).d⟩ else⟨min (col p).a (col q).a,min (col p).b (col q).b,min (col p).d (col q).d⟩
  |p::_=>col p
  |[]=>⟨0,0,0⟩
noncomputable def Shape(kind fig:aE)(need:af ah):Prop:=(0<=kind/\kind<=3)/\(kind≠0->(∃p,need=[p]/\(fig.fdiv 400).fmod 3=0)\/∃p q,need=[p,q]/\((fig.fdiv 400).fmod 3=1\/(fig.fdiv 400).fmod 3=2))
theorem Eh(ms:af aE)(j:ah):Shape (kdOf ms j) (lh ms j) (mK ms j):=by
 refine⟨TR j,λhk=>?_⟩;unfold mK;rw[aZ hk];by_cases hc:((lh ms j).fdiv 400).fmod 3=0
 ·rw[aP hc];exact .inl ⟨_,rfl,hc⟩
 ·rw[aZ hc]
  have:=dw ((lh ms j).fdiv 400) (show(0:aE)<3 by decide);have:=eU ((lh ms j).fdiv 400) (show(0:aE)<3 by decide);exact .inr ⟨_,_,rfl,by lia⟩
theorem mx2{a b c:aE}(h:0<=a/\a<=c)(h':0<=b/\b<=c):0<=max a b/\max a b<=c:=⟨fX h.1 (yM ..),Mk.mpr ⟨h.2,h'.2⟩⟩
theorem mn2{a b c:aE}(h:0<=a/\a<=c)(h':0<=b/\b<=c):0<=min a b/\min a b<=c:=⟨Mj.mpr ⟨h.1,h'.1⟩,fX (rC ..) h.2⟩
theorem Gi{kind fig:aE}{need:af ah}{col:ah->l9}(hs:Shape kind fig need)(h:∀p∈need,(col p).inR):(ur kind fig need col).inR:=by
 unfold ur;split
 ·have k:=λx:aE=>(⟨dw x (by decide),Int.le_of_lt_add_one (eU x (by decide))⟩:0<=x.fmod 17/\x.fmod 17<=16)
  exact⟨k _,k _,k _⟩
 ·rename_i hk
  rcases hs.2 hk with⟨p,rfl,_⟩|⟨p,q,rfl,_⟩
  ·exact h p (.head _)
  ·have u:=h p (.head _)
   have v:=h q (.tail _ (.head _));simp only;split
   ·exact⟨mx2 u.1 v.1,mx2 u.2.1 v.2.1,mx2 u.2.2 v.2.2⟩
   ·exact⟨mn2 u.1 v.1,mn2 u.2.1 v.2.1,mn2 u.2.2 v.2.2⟩
theorem Nw(a b d:aE):(min a (min b d)<=a/\a<=max a (max b d))/\(min a (min b d)<=b/\b<=max a (max b d))/\(min a (min b d)<=d/\d<=max a (max b d)):=⟨⟨rC ..,yM ..⟩,⟨fX (qi ..) (rC ..),fX (yM ..) (xS ..)⟩,fX (qi ..) (qi ..),fX (xS ..) (xS ..)⟩
theorem Gw(lo hi:aE):∀(n:ah)(t:l9),(lo<=t.a/\t.a<=hi)/\(lo<=t.b/\t.b<=hi)/\(lo<=t.d/\t.d<=hi)->(lo<=(nS (lo+hi) n t).a/\(nS (lo+hi) n t).a<=hi)/\(lo<=(nS (lo+hi) n t).b/\(nS (lo+hi) n t).b<=hi)/\(lo<=(nS (lo+hi) n t).d/\(nS (lo+hi) n t).d<=hi)
 |0,t,h=>h
 |n+1,t,h=>by have:=Gw lo hi n t h;simp only[nS,Vh];exact abz this
theorem xQ{kind fig:aE}{t:l9}(h:t.inR):(mM kind fig t).inR:=by
 have e:=Nw t.a t.b t.d;have z1:0<=min t.a (min t.b t.d):=Mj.mpr ⟨h.1.1,Mj.mpr ⟨h.2.1.1,h.2.2.1⟩⟩;have z2:max t.a (max t.b t.d)<=16:=Mk.mpr ⟨h.1.2,Mk.mpr ⟨h.2.1.2,h.2.2.2⟩⟩;unfold mM l9.ends;generalize min t.a (min t.b t.d)=lo at *;generalize max t.a (max t.b t.d)=hi at *;split
 ·have r:=Gw lo hi (1+(fig.fdiv 1200).fmod 5).toNat t e
  exact⟨⟨fX z1 r.1.1,fX r.1.2 z2⟩,⟨fX z1 r.2.1.1,fX r.2.1.2 z2⟩,fX z1 r.2.2.1,fX r.2.2.2 z2⟩
 ·split
  ·have k:∀x:aE,lo<=x/\x<=hi->0<=x+16-(lo+hi)/\x+16-(lo+hi)<=16:=λx hx=>by clear e;exact abr z1 z2 hx
   exact⟨k _ e.1,k _ e.2.1,k _ e.2.2⟩
  ·split
   ·have c:∀l x:aE,0<=G9 l x/\G9 l x<=16:=λl x=>by
     unfold G9;generalize hz:min (max (2*l-100*x) 0) 1600=z;have h1:0<=z/\z<=1600:=by exact abp hz
     have:=oV (z*10+505) (show(0:aE)<=1000 by decide);lia
    exact⟨c _ _,c _ _,c _ _⟩
   ·exact h
set_option genInjectivity false in structure KD(H:af av)(kd:ah)(m8:af ah)(cx:ah->ah)(col:ah->l9):Prop where
 d:∃ep,H[kd]?=aa (.dict (m8.map λi:ah=>((i:aE),MV.ref (cx i))) ep)
 c:∀i∈m8,H[cx i]?=aa (col i).ob
theorem wU{m8:af ah}{cx:ah->ah}{i:ah}(h:i∈m8):(m8.map λi:ah=>((i:aE),MV.ref (cx i))).lookup (i:aE)=aa (.ref (cx i)):=by
 induction m8 with
 |nil=>cases h
 |cons a l ih=>
  rw[bX,mD];by_cases e:i=a
  ·subst e;simp
  ·have:((i:aE)==(a:aE))=false:=by rw[ef];exact UO e
   rw[this];exact ih ((bE.mp h).resolve_left e)
theorem Sk{m8:af ah}{cx:ah->ah}{i:ah}(h:i∉m8):(m8.map λi:ah=>((i:aE),MV.ref (cx i))).lookup (i:aE)=none:=by rw[qg];intro p hp;refine cv (aU.mp hp) λx hx cP=>?_;subst cP;have:i≠x:=λq=>h (q▸hx);simp;exact adW this
section
variable{sns:af aE}{H:af av}{ci nd kd:ah}{kind fig:aE}{need m8:af ah}{cx:ah->ah}{col:ah->l9}
theorem zj(h1:H[ci]?=aa (.tup [.int kind,.ref nd,.int fig]))(h2:H[nd]?=aa (.list (bD need)))(K:KD H kd m8 cx col)(hs:Shape kind fig need)(hd:∀p∈need,p∈m8)(X:af av):
  ∃x T,jI sns [.ref ci,.ref kd] (H++X)=aa (.ref x,(H++X)++T)/\((x<H.length/\H[x]?=aa (ur kind fig need col).ob)\/(x=(H++X).length/\T[0]?=aa (ur kind fig need col).ob))/\(kind=0->(H++X).length<=x):=by
 refine dA K.d λep k1=>?_;have Df:=app h1 X;have NH:=app h2 X;have k1':=app k1 X;by_cases hk:kind=0
 ·subst hk
  exact⟨_,_,M3 Df,.inr ⟨rfl,by simp[ur]⟩,λ_=>cL _⟩
 ·rcases hs.2 hk with⟨p,rfl,hf⟩|⟨p,q,rfl,hf⟩
  ·have hp:=hd p (by simp)
   refine⟨cx p,[],by simpa using G0 Df NH k1' hk hf (wU hp),.inl ⟨(gM (K.c p hp)),?_⟩,λq=>ej q hk⟩;rw[K.c p hp];simp[ur,hk]
  ·have hp:=hd p (by simp)
   have hq:=hd q (by simp);rcases hf with hf|hf
   ·exact⟨_,_,GY Df NH k1' hk hf (wU hp) (app (K.c p hp) X) (wU hq) (app (K.c q hq) X),.inr ⟨rfl,by simp[ur,hk,hf]⟩,λq=>ej q hk⟩
   ·exact⟨_,_,GZ Df NH k1' hk hf (wU hp) (app (K.c p hp) X) (wU hq) (app (K.c q hq) X),.inr ⟨rfl,by simp[ur,hk,hf]⟩,λq=>ej q hk⟩
theorem kinds(h:0<=kind/\kind<=3):kind=0\/kind=1\/kind=2\/kind=3:=by exact abd h
theorem L6(sns:af aE)(h1:H[ci]?=aa (.tup [.int kind,.ref nd,.int fig]))(h2:H[nd]?=aa (.list (bD need)))(K:KD H kd m8 cx col)(hs:Shape kind fig need)(hd:∀p∈need,p∈m8):
  ∃y H',pJ sns [.ref ci,.ref kd] H=aa (.ref y,H++H')/\(H++H')[y]?=aa (mM kind fig (ur kind fig need col)).ob/\H.length<=y:=by
 refine eu (zj (sns:=sns) h1 h2 K hs hd [.cell none,.cell none]) λx T hb hx h0=>?_;have oQ:jI sns [.ref ci,.ref kd] (H++[.cell none,.cell none])=aa (.ref x,H++ .cell none:: .cell none::T):=by rw[hb];simp
 have rY:∀o1 o2 T',(H++o1::o2::(T++T'))[x]?=aa (ur kind fig need col).ob:=λo1 o2 T'=>by
  rcases hx with⟨q,e⟩|⟨rfl,e⟩
  ·rw[aA q];exact e
  ·have hT:=(gM e)
   rw[aY (by simp),show(H++[av.cell none,av.cell none]).length-H.length=2 by simp,qf,qf,aA hT];exact e
 rcases kinds hs.1 with rfl|rfl|rfl|rfl
 ·exact VD oQ rY (by have:=h0 rfl;simp at this;exact Ey this) h1
 ·exact VE oQ rY h1
 ·exact VF oQ rY h1
 ·exact VG oQ rY h1
theorem R9(sns:af aE)(hT:∀kind fig t,t.inR->Told kind fig t (mM kind fig t))(h1:H[ci]?=aa (.tup [.int kind,.ref nd,.int fig]))(h2:H[nd]?=aa (.list (bD need)))(K:KD H kd m8 cx col)(hs:Shape kind fig need)(hd:∀p∈need,p∈m8)(hR:∀p∈need,(col p).inR):
  ∃y H',wz sns [.ref ci,.ref kd] H=aa (.ref y,H++H')/\(H++H')[y]?=aa (mM kind fig (ur kind fig need col)).ob/\H.length<=y:=by
 refine eu (zj (sns:=sns) h1 h2 K hs hd []) λx T hb hx h0=>?_;rw[kR] at hb hx h0;have rY:∀T',(H++(T++T'))[x]?=aa (ur kind fig need col).ob:=λT'=>by
  rcases hx with⟨q,e⟩|⟨rfl,e⟩
  ·rw[aA q];exact e
  ·have hT:=(gM e)
   rw[aY (by simp),qQ,aA hT];exact e
 have hr:=Gi hs hR;rcases kinds hs.1 with rfl|rfl|rfl|rfl
 ·have:=agC hr hb rY (h0 rfl) h1
  simpa[mM] using this
 ·exact agD hr hb rY h1 (hT _ _ _ hr)
 ·exact agE hr hb rY h1 (hT _ _ _ hr)
 ·exact agF hr hb rY h1 (hT _ _ _ hr)
end
end fG
namespace fG
open PySem PySem.W
section
variable(n:ah)(need:ah->af ah)
noncomputable def g8(K:af ah):af ah:=(cO n).filter λs=>!K.contains s&&(need s).all λp=>K.contains p
noncomputable def jr(last nd:af ah):aE:=((nd.filter λp=>last.contains p).map λp=>((last.idxOf p:ah):aE)).foldl max (-1)
noncomputable def key(last:af ah)(s:ah):aE:=jr last (need s)*1000+s
noncomputable def kE(K last:af ah):af ah:=(g8 n need K).mergeSort λx y=>decide (key need last x<=key need last y)
noncomputable def pI(K last r:af ah):Prop:=r.Perm (g8 n need K)/\r.Pairwise λx y=>key need last x<key need last y
variable{n need}
theorem ll{K:af ah}{s:ah}:s∈g8 n need K↔s<n/\s∉K/\∀p∈need s,p∈K:=by simp[g8,jy]
theorem pL(K:af ah):(g8 n need K).Nodup:=xT _ v8
theorem pI.uniq{K last r r':af ah}(h:pI n need K last r)(h':pI n need K last r'):r=r':=xU (λa b _ _ h1 h2=>by exact akF h1 h2) h.2 h'.2 (h.1.trans h'.1.symm)
theorem nK(hn:n<=1000)(K last:af ah):pI n need K last (kE n need K last):=by refine⟨iZ ..,?_⟩;have h1:=De (le:=λx y=>decide (key need last x<=key need last y)) (λa b c h1 h2=>by simp at h1 h2⊢;exact q73 h1 h2) (λa b=>by simp;exact q67) (g8 n need K);have h2:((g8 n need K).mergeSort λx y=>decide (key need last x<=key need last y)).Nodup:=(iZ ..).nodup_iff.mpr (pL K);have h3:=h1.and h2;refine m7 (λ{a b} ha hb h=>?_) h3;have JQ:=(ll.mp ((iZ ..).subset ha)).1;have oQ:=(ll.mp ((iZ ..).subset hb)).1;refine dQ h λq1 q2=>?_;clear h;simp at q1;unfold key at q1⊢;lia
theorem pI.nodup{K last r:af ah}(h:pI n need K last r):r.Nodup:=h.1.nodup_iff.mpr (pL K)
theorem pI.mem{K last r:af ah}(h:pI n need K last r){s:ah}:s∈r↔s<n/\s∉K/\∀p∈need s,p∈K:=h.1.mem_iff.trans ll
end
noncomputable def hits(np:ah->aE):af (ah×ah)->af (ah×ah)
 |[]=>[]
 |(i,s)::E=>if np s-1=0 then(i,s)::hits (jJ np s) E else hits (jJ np s) E
noncomputable def cnt(s:ah)(E:af (ah×ah)):ah:=(E.map (·.2)).count s
theorem cnt_cons(s:ah)(x:ah×ah)(E:af (ah×ah)):cnt s (x::E)=cnt s E+if x.2=s then 1 else 0:=by simp[cnt,qO]
theorem cnt_append(s:ah)(A B:af (ah×ah)):cnt s (A++B)=cnt s A+cnt s B:=by simp[cnt,Ml]
theorem qz:∀(E:af (ah×ah))(np:ah->aE),(hits np E).Sublist E
 |[],np=> .slnil
 |(i,s)::E,np=>by
  unfold hits;split
  ·exact(qz E _).cons_cons _
  ·exact(qz E _).cons _
theorem AE:∀{E:af (ah×ah)}{np:ah->aE}{i s:ah},(i,s)∈hits np E->∃A B,E=A++(i,s)::B/\np s=(cnt s A:ah)+1
 |(j,t)::E,np,i,s,h=>by
  have tail:(i,s)∈hits (jJ np t) E->∃A B,(j,t)::E=A++(i,s)::B/\np s=(cnt s A:ah)+1:=λh=>by
   refine uq (AE h) λA B cP e=>?_;subst cP;refine⟨(j,t)::A,B,rfl,?_⟩;rw[cnt_cons];unfold jJ at e;by_cases q:s=t
   ·subst q;simp at e⊢;exact air e
   ·have q':¬t=s:=λz=>q z.symm
    rw[aZ q] at e;simp[q'];exact abH e
  unfold hits at h;split at h
  ·rename_i hz
   rcases bE.mp h with e|h
   ·cases e;exact⟨[],E,rfl,by simp[cnt];exact q33 hz⟩
   ·exact tail h
  ·exact tail h
theorem xb:∀{E:af (ah×ah)}{np:ah->aE}{s:ah},1<=np s->np s=(cnt s E:ah)->∃i,(i,s)∈hits np E
 |[],np,s,h1,h2=>by simp[cnt] at h2;lia
 |(j,t)::E,np,s,h1,h2=>by
  rw[cnt_cons] at h2;unfold hits;by_cases q:t=s
  ·subst q
   by_cases z:np t-1=0
   ·rw[aP z];exact⟨j,.head _⟩
   ·rw[aZ z]
    simp at h2;exact xb (np:=jJ np t) (by simp[jJ];exact abJ z h2) (by simp[jJ];exact ais h2)
  ·have q':¬s=t:=λz=>q z.symm
   have ih:∃i,(i,s)∈hits (jJ np t) E:=xb (by simp[jJ,q'];exact abf h1) (by simp[jJ,q',q] at h2⊢;exact abI h2);refine dA ih λi hi=>?_;clear ih;split
   ·exact⟨i,.tail _ hi⟩
   ·exact⟨i,hi⟩
theorem sC:∀(E:af (ah×ah))(np Uk:ah->aE),(∀x∈E,np x.2=Uk x.2)->hits np E=hits Uk E
 |[],_,_,_=>rfl
 |(i,s)::E,np,Uk,h=>by
  have h0:=h (i,s) (.head _);simp only at h0;have:hits (jJ np s) E=hits (jJ Uk s) E:=sC E _ _ λx hx=>by unfold jJ;rw[h0,h x (.tail _ hx)]
  unfold hits;rw[h0,this]
theorem uS:∀(A B:af (ah×ah))(np:ah->aE),hits np (A++B)=hits np A++hits (λk=>np k-(cnt k A:ah)) B
 |[],B,np=>by simp[hits,cnt]
 |(i,s)::A,B,np=>by
  have e:(λk=>jJ np s k-(cnt k A:ah))=λk=>np k-(cnt k ((i,s)::A):ah):=by
   funext k;rw[cnt_cons];unfold jJ;by_cases q:k=s
   ·subst q;simp;exact Z6
   ·have q':¬s=k:=λz=>q z.symm
    simp[q,q']
  have ih:=uS A B (jJ np s);rw[e] at ih;rw[qb];simp only[hits];split
  ·rw[ih];rfl
  ·exact ih
theorem FH:∀(E:af (ah×ah))(a:AS),(E.map (·.2)).foldl AS.dec a=⟨λk=>a.np k-(cnt k E:ah),a.rd++(hits a.np E).map (·.2),a.fi⟩
 |[],a=>by simp[hits,cnt]
 |(i,s)::E,a=>by
  rw[bX,jx,FH E (a.dec s)];have e1:(λk=>(a.dec s).np k-(cnt k E:ah))=λk=>a.np k-(cnt k ((i,s)::E):ah):=by
   funext k;rw[cnt_cons];show jJ a.np s k-_=_;unfold jJ;by_cases q:k=s
   ·subst q;simp;exact Z6
   ·have q':¬s=k:=λz=>q z.symm
    simp[q,q']
  rw[e1];have e2:(a.dec s).rd++(hits (a.dec s).np E).map (·.2)=a.rd++(hits a.np ((i,s)::E)).map (·.2):=by show wR a.np a.rd s++(hits (jJ a.np s) E).map (·.2)=_;unfold wR;simp only[hits];split<;>simp
  rw[e2];rfl
noncomputable def ent(su:ah->af ah):ah->af ah->af (ah×ah)
 |_,[]=>[]
 |i,v::vs=>(su v).map (λs=>(i,s))++ent su (i+1) vs
theorem pP{su:ah->af ah}:∀{vs:af ah}{i j s:ah},(j,s)∈ent su i vs↔∃k v,vs[k]?=aa v/\j=i+k/\s∈su v
 |[],i,j,s=>by simp[ent]
 |v::vs,i,j,s=>by
  rw[ent,bK,pP (vs:=vs)];constructor
  ·rintro(h|⟨k,w,h1,h2,h3⟩)
   ·refine cv (aU.mp h) λx hx e=>?_
    cases e
    exact⟨0,v,rfl,rfl,hx⟩
   ·exact⟨k+1,w,h1,by exact aec h2,h3⟩
  ·rintro⟨k,w,h1,h2,h3⟩
   cases k with
   |zero=>cases h1;left;subst h2;exact aU.mpr ⟨s,h3,rfl⟩
   |succ k=>right;exact⟨k,w,h1,by exact akY h2,h3⟩
noncomputable def Cw(x y:ah×ah):Prop:=x.1<y.1\/(x.1=y.1/\x.2<=y.2)
theorem w7{su:ah->af ah}(h:∀v,(su v).Pairwise (· <= ·)):∀(vs:af ah)(i:ah),(ent su i vs).Pairwise Cw
 |[],_=>afy
 |v::vs,i=>by
  rw[ent,sj];refine⟨?_,w7 h vs (i+1),λx hx y hy=>?_⟩
  ·rw[lK]
   exact(h v).imp λhab=> .inr ⟨rfl,hab⟩
  ·refine cv (aU.mp hx) λs _ cP=>?_;subst cP
   obtain⟨j,t⟩:=y;refine eu (pP.mp hy) λk w _ e _=>?_;left;simp only;exact ald e
theorem CV(n:ah)(need:ah->af ah)(k:ah):(iz n need k).Pairwise (· <= ·):=by
 induction n with
 |zero=>simp[iz]
 |succ n ih=>
  rw[rB,sX,sj];refine⟨ih,?_,λa ha b hb=>?_⟩
  ·rw[List.pairwise_replicate];exact .inr (cL _)
  ·have:=(lp.mp ha).1
   rw[IJ] at hb;exact alY hb this
theorem EK(n:ah)(need:ah->af ah)(k s:ah):(iz n need k).count s=if s<n then(need s).count k else 0:=by
 induction n with
 |zero=>simp[iz]
 |succ n ih=>
  rw[rB,sX,Ml,ih,List.count_replicate];by_cases h:s<n
  ·have:¬n=s:=by exact akg h
   simp[h,show s<n+1 by exact HZ h,this]
  ·by_cases e:s=n
   ·subst e;simp
   ·have:¬n=s:=by exact akx e
    simp[h,show¬s<n+1 by exact aks h this,this]
theorem FF{n:ah}{need:ah->af ah}{s:ah}(hs:s<n):∀(vs:af ah)(i:ah),vs.Nodup->cnt s (ent (iz n need) i vs)=(need s).countP λp=>vs.contains p
 |[],i,_=>by simp[ent,cnt]
 |v::vs,i,h=>by
  rw[cQ] at h;rw[ent,cnt_append,FF hs vs (i+1) h.2];have e1:cnt s ((iz n need v).map λs=>(i,s))=(need s).count v:=by unfold cnt;rw[iJ,show((λx:ah×ah=>x.2)∘λs=>(i,s))=id from rfl,afz,EK,aP hs]
  rw[e1];generalize need s=L
  induction L with
  |nil=>rfl
  |cons a L ih=>
   rw[qO,mC,mC];by_cases q:a=v
   ·subst q
    have:a∉vs:=h.1;simp[this] at ih⊢;exact akP ih
   ·simp[q] at ih⊢
    exact alG ih
theorem nF:∀(E:af (ah×ah))(np:ah->aE),((hits np E).map (·.2)).Nodup
 |[],_=>eB
 |(i,s)::E,np=>by
  unfold hits;split
  ·rename_i hz
   rw[bX,cQ];refine⟨λh=>?_,nF E _⟩;obtain⟨⟨j,t⟩,hx,e⟩:=aU.mp h;simp only at e;subst e;refine uq (AE hx) λA B _ e=>?_;simp[jJ] at e;exact aiq hz e
  ·exact nF E _
theorem OV(l:af ah):∀(a:AS)(k:ah),(l.foldl (λa v=>AS.mark a v (-1)) a).np k=if k∈l then -1 else a.np k:=by
 induction l with
 |nil=>intro a k;simp
 |cons v l ih=>
  intro a k;rw[jx,ih];show(if k∈l then -1 else if k=v then -1 else a.np k)=_;by_cases h1:k∈l
  ·simp[h1]
  ·by_cases h2:k=v<;>simp[h1,h2]
theorem Em(a:AS)(k:ah):a.out.np k=if k∈a.rd then -1 else a.np k:=OV a.rd a k
theorem vS{su:ah->af ah}:∀(vs:af ah)(a:AS)(i:ah),(∀v∈vs,∀x∈ent su i vs,x.2≠v)->vs.Nodup->
  (∀k,(a.done su vs).np k=if k∈vs then -2 else a.np k-(cnt k (ent su i vs):ah))/\(a.done su vs).rd=a.rd++(hits a.np (ent su i vs)).map (·.2)/\(a.done su vs).fi=a.fi+vs.length
 |[],a,i,_,_=>⟨λk=>by simp[AS.done,ent,cnt],by simp[AS.done,ent,hits],by simp[AS.done]⟩
 |v::vs,a,i,h,hn=>by
  rw[cQ] at hn;have fJ:(((su v).map λs=>(i,s)).map (·.2))=su v:=by rw[iJ,show((λx:ah×ah=>x.2)∘λs=>(i,s))=id from rfl,afz]
  have e:=FH ((su v).map λs=>(i,s)) (a.mark v (-2));rw[fJ] at e;generalize hE:(su v).map (λs=>(i,s))=E1 at *;have sL:∀x∈E1,x.2≠v:=λx hx=>h v (.head _) x (by rw[ent,hE];exact aI _ hx);have ID:∀x∈ent su (i+1) vs,x.2≠v:=λx hx=>h v (.head _) x (by rw[ent];exact bw _ hx);have c0:∀E:af (ah×ah),(∀x∈E,x.2≠v)->cnt v E=0:=λE hE=>by unfold cnt;rw[tK];intro q;refine cv (aU.mp q) λx hx e=>?_;exact hE x hx e
  have ih:=vS vs (a.one su v) (i+1) (λw hw x hx=>h w (.tail _ hw) x (by rw[ent];exact bw _ hx)) hn.2;have one:a.one su v=⟨λk=>(if k=v then -2 else a.np k)-(cnt k E1:ah),a.rd++(hits (a.mark v (-2)).np E1).map (·.2),a.fi+1⟩:=by unfold AS.one AS.tick;rw[e];rfl
  refine fD ih λi1 i2 i3=>?_;clear ih;have hd:a.done su (v::vs)=(a.one su v).done su vs:=rfl;rw[hd];refine⟨λk=>?_,?_,?_⟩
  ·rw[i1 k,one,ent,hE,cnt_append]
   by_cases q1:k∈vs
   ·simp[q1]
   ·by_cases q2:k=v
    ·subst q2
     simp[q1,c0 E1 sL,c0 _ ID]
    ·simp[q1,q2];exact aiv
  ·rw[i2,one,ent,hE,uS]
   have h1:hits (a.mark v (-2)).np E1=hits a.np E1:=sC _ _ _ λx hx=>by show(if x.2=v then -2 else a.np x.2)=_;rw[aZ (sL x hx)]
   have h2:hits (λk=>(if k=v then -2 else a.np k)-(cnt k E1:ah)) (ent su (i+1) vs)=hits (λk=>a.np k-(cnt k E1:ah)) (ent su (i+1) vs):=sC _ _ _ λx hx=>by rw[aZ (ID x hx)]
   simp only;rw[h1,h2];simp
  ·rw[i3,one];simp;exact abK
theorem FV(m:aE):∀(L:af aE)(b:aE),(m=b\/m∈L)->b<=m->(∀x∈L,x<=m)->L.foldl max b=m
 |[],b,h,_,_=>by
  rcases h with h|h
  ·exact h.symm
  ·cases h
 |x::L,b,h,hb,hx=>by
  rw[jx];have:=hx x (.head _);refine FV m L (max b x) ?_ (q72 hb this:) λy hy=>hx y (.tail _ hy);rcases h with h|h
  ·left;exact abo this h
  ·rcases bE.mp h with rfl|h
   ·left;exact q57 hb
   ·exact .inr h
theorem Oo{r nd:af ah}{i p:ah}(hr:r.Nodup)(h1:r[i]?=aa p)(h2:p∈nd)(h3:∀(q k:ah),q∈nd->r[k]?=aa q->k<=i):jr r nd=i:=by
 have NV:∀(k q:ah),r[k]?=aa q->r.idxOf q=k:=λk q h=>by refine dA (bR.mp h) λhl cP=>?_;subst cP;exact hr.idxOf_getElem k hl
 unfold jr;refine FV _ _ _ (.inr ?_) (ajg:) λx hx=>?_
 ·refine aU.mpr ⟨p,jy.mpr ⟨h2,by simpa using aM h1⟩,?_⟩
  rw[NV i p h1]
 ·refine cv (aU.mp hx) λq hq cP=>?_;subst cP
  refine dQ (jy.mp hq) λhq1 hq2=>?_;have hq3:q∈r:=by simpa using hq2
  obtain⟨k,hk,e⟩:=dm hq3;have MB:r[k]?=aa q:=by rw[ao hk,e]
  have:=h3 q k hq1 MB;rw[NV k q MB];exact acj this
set_option genInjectivity false in structure WI(n:ah)(need:ah->af ah)(K last:af ah)(a:AS):Prop where
 np:∀i,i<n->a.np i=if i∈K then -2 else(((need i).countP λp=>!K.contains p:ah):aE)
 rd:pI n need K last a.rd
 cl:∀k∈K,k<n/\∀p∈need k,p∈K
 nd:K.Nodup
section
variable{n:ah}{need:ah->af ah}{K last:af ah}{a:AS}
theorem WI.start{fi:aE}:WI n need [] [] ⟨λi=>((need i).length:ah),Gs (λi=>((need i).length:ah)) n,fi⟩:=by
 refine⟨λi hi=>?_,⟨?_,?_⟩,λk hk=>(nomatch hk),eB⟩
 ·simp
 ·have:Gs (λi=>((need i).length:ah)) n=g8 n need []:=by
   unfold Gs g8;apply List.filter_congr;intro s hs;cases h:need s<;>simp[h]
   exact ajA
  rw[this]
 ·have h1:(Gs (λi=>((need i).length:ah)) n).Pairwise (· < ·):=xT _ List.pairwise_lt_range
  refine h1.imp λ{x y} h=>?_;have:∀s,jr [] (need s)=-1:=λs=>by unfold jr;rw[Dj.mpr (λp _=>by simp)];rfl
  unfold key;rw[this,this];exact ajV h
theorem WI.dis(W:WI n need K last a):∀v∈a.rd,∀x∈ent (iz n need) 0 a.rd,x.2≠v:=by intro v hv x hx e;obtain⟨j,s⟩:=x;simp only at e;subst e;refine eu (pP.mp hx) λk w h1 _ h3=>?_;have hw:=W.rd.mem.mp (aM h1);exact hw.2.1 ((W.rd.mem.mp hv).2.2 w (lp.mp h3).2)
theorem WI.step(W:WI n need K last a)(hn:n<=1000):WI n need (K++a.rd) a.rd (a.out.done (iz n need) a.rd):=by
 have hr:=W.rd.nodup;refine fD (vS a.rd a.out 0 W.dis hr) λd1 d2 d3=>?_;have Ue:∀{j s:ah},(j,s)∈ent (iz n need) 0 a.rd↔∃w,a.rd[j]?=aa w/\s<n/\w∈need s:=λ{j s}=>by
  rw[pP];constructor
  ·rintro⟨k,w,h1,h2,h3⟩
   exact⟨w,by rw[h2,cw];exact h1,lp.mp h3⟩
  ·rintro⟨w,h1,h2⟩
   exact⟨j,w,h1,by exact abX,lp.mpr h2⟩
 have cE:∀s,s<n->cnt s (ent (iz n need) 0 a.rd)=(need s).countP λp=>a.rd.contains p:=λs hs=>FF hs a.rd 0 hr;have dj:∀v∈a.rd,v∉K:=λv hv=>(W.rd.mem.mp hv).2.1;have Bb:∀L:af ah,(L.countP λp=>!K.contains p)=(L.countP λp=>!(K++a.rd).contains p)+L.countP λp=>a.rd.contains p:=by
  intro L
  induction L with
  |nil=>rfl
  |cons p L ih=>
   rw[mC,mC,mC];by_cases q1:p∈K
   ·have q2:p∉a.rd:=λq=>dj p q q1
    simp[q1,q2] at ih⊢;exact acF ih
   ·by_cases q2:p∈a.rd<;>simp[q1,q2] at ih⊢ <;>(first|exact acE ih|exact acD ih)
 have np0:∀s,s<n->s∉K->s∉a.rd->a.out.np s=(((need s).countP λp=>!K.contains p:ah):aE):=λs h1 h2 h3=>by rw[Em,aZ h3,W.np s h1,aZ h2]
 generalize hE:ent (iz n need) 0 a.rd=E at *;have srt:E.Pairwise Cw:=by rw[<-hE];exact w7 (CV n need) _ _
 have Uo:∀{j s:ah},(j,s)∈E->s∉K/\s∉a.rd:=λ{j s} h=>by refine js (Ue.mp h) λw h1 h2 h3=>?_;have hw:=dj w (aM h1);exact⟨λq=>hw ((W.cl s q).2 w h3),λq=>hw ((W.rd.mem.mp q).2.2 w h3)⟩
 have c0:∀s,(s∈K\/s∈a.rd)->cnt s E=0:=λs hs=>by unfold cnt;rw[tK];intro q;obtain⟨⟨j,t⟩,hx,e⟩:=aU.mp q;simp only at e;subst e;exact hs.elim (Uo hx).1 (Uo hx).2
 have Td:∀{i s:ah},(i,s)∈hits a.out.np E->s<n/\s∉K/\s∉a.rd/\a.out.np s=(cnt s E:ah)/\jr a.rd (need s)=i:=λ{i s} h=>by
  have Bt:=(qz E a.out.np).subset h;refine js (Ue.mp Bt) λw h1 h2 h3=>?_;refine dQ (Uo Bt) λo1 o2=>?_;refine uq (AE h) λA B e1 e2=>?_;have c1:cnt s E=cnt s A+(cnt s B+1):=by rw[e1,cnt_append,cnt_cons];simp
  have c2:=cE s h2;have c3:=np0 s h2 o1 o2;have c4:=Bb (need s);have cB:cnt s B=0:=by exact ab7 e2 c1 c2 c3 c4
  refine⟨h2,o1,o2,by exact abM e2 c1 c2 c3 c4,Oo hr h1 h3 λq k hq hk=>?_⟩;have XE:(k,s)∈E:=Ue.mpr ⟨q,hk,h2,hq⟩;rw[e1,bK,bE] at XE;rcases XE with hA|hA|hB
  ·rw[e1,sj] at srt
   have:=srt.2.2 _ hA (i,s) (.head _);unfold Cw at this;simp only at this;exact akT this
  ·cases hA;exact cL _
  ·have:0<cnt s B:=tL.mpr (aU.mpr ⟨(k,s),hB,rfl⟩)
   exact acw e2 c1 c2 c3 c4 this
 have rdE:(a.out.done (iz n need) a.rd).rd=(hits a.out.np E).map (·.2):=by rw[d2];simp[AS.out]
 refine⟨λi hi=>?_,⟨?_,?_⟩,λk hk=>?_,?_⟩
 ·rw[d1 i]
  by_cases q1:i∈a.rd
  ·simp[q1]
  ·rw[aZ q1]
   by_cases q2:i∈K
   ·rw[aP (aI _ q2),Em,aZ q1,W.np i hi,aP q2,c0 i (.inl q2)];rfl
   ·rw[aZ (λq=>(bK.mp q).elim q2 q1),np0 i hi q2 q1,cE i hi]
    have:=Bb (need i);exact akZ this
 ·rw[rdE,List.perm_ext_iff_of_nodup (nF E _) (pL _)]
  intro s;rw[ll];constructor
  ·intro h
   obtain⟨⟨i,t⟩,hx,e⟩:=aU.mp h;simp only at e;subst e;refine El (Td hx) λh1 h2 h3 h4 _=>?_;refine⟨h1,λq=>(bK.mp q).elim h2 h3,λp hp=>?_⟩;have c2:=cE t h1;have c3:=np0 t h1 h2 h3;have c4:=Bb (need t);have c5:(need t).countP (λp=>!(K++a.rd).contains p)=0:=by exact ajD h4 c2 c3 c4
   rw[sN] at c5;have:=c5 p hp;by_cases q:p∈K++a.rd
   ·exact q
   ·exact ej (by simpa using q) this
  ·rintro⟨h1,h2,h3⟩
   have q1:s∉K:=λq=>h2 (aI _ q);have q2:s∉a.rd:=λq=>h2 (bw _ q);have c2:=cE s h1;have c3:=np0 s h1 q1 q2;have c4:=Bb (need s);have c5:(need s).countP (λp=>!(K++a.rd).contains p)=0:=by rw[sN];intro p hp;have:=h3 p hp;have hc:(K++a.rd).contains p=true:=gp.mpr this;rw[hc];decide
   have c6:1<=(need s).countP λp=>!K.contains p:=by apply Mo;intro q;rw[sN] at q;exact q2 (W.rd.mem.mpr ⟨h1,q1,λp hp=>by simpa using q p hp⟩)
   refine dA (xb (E:=E) (np:=a.out.np) (s:=s) (ait c3 c6:) (aiw c2 c3 c4 c5:)) λi hi=>?_;exact aU.mpr ⟨(i,s),hi,rfl⟩
 ·rw[rdE,lK]
  have p1:(hits a.out.np E).Pairwise Cw:=srt.sublist (qz E _);have p2:=nF E a.out.np;rw[af7,lK] at p2;refine m7 (λ{x y} hx hy h=>?_) (p1.and p2);obtain⟨i,s⟩:=x;obtain⟨j,t⟩:=y;refine El (Td hx) λx1 _ _ _ x5=>?_;refine El (Td hy) λy1 _ _ _ y5=>?_;refine dQ h λh1 h2=>?_;clear h;unfold Cw at h1;simp only at h1 h2⊢;unfold key;rw[x5,y5];exact ac0 hn x1 h1 h2
 ·rcases bK.mp hk with q|q
  ·exact⟨(W.cl k q).1,λp hp=>aI _ ((W.cl k q).2 p hp)⟩
  ·refine fD (W.rd.mem.mp q) λh1 h2 h3=>?_
   exact⟨h1,λp hp=>aI _ (h3 p hp)⟩
 ·rw[gN]
  exact⟨W.nd,hr,λx hx y hy e=>dj y hy (e▸hx)⟩
theorem WI.D7(W:WI n need K last a)(hn:n<=9)(jk:∀j,(need j).length<=2):∀(k:ah) v,a.rd[k]?=aa v->(a.out.done (iz n need) (a.rd.take k)).np v=-1/\(a.out.done (iz n need) (a.rd.take k)).rd.length+(iz n need v).length<1000:=by
 intro k v hk;have hr:=W.rd.nodup;have ma:=(gM hk);have sub:∀x∈ent (iz n need) 0 (a.rd.take k),x∈ent (iz n need) 0 a.rd:=λx hx=>by
  obtain⟨j,s⟩:=x;refine eu (pP.mp hx) λm w h1 h2 h3=>?_;refine pP.mpr ⟨m,w,?_,h2,h3⟩;rw[ix] at h1;split at h1
  ·exact h1
  ·cases h1
 have hv:=aM hk;refine fD (vS (su:=iz n need) (a.rd.take k) a.out 0 (λv hv x hx=>W.dis v (List.mem_of_mem_take hv) x (sub x hx)) (hr.sublist (lL _ _))) λd1 d2 d3=>?_;have hvt:v∉a.rd.take k:=λq=>by obtain⟨m,hm,e⟩:=dm q;rw[Mm] at e;rw[ij] at hm;have h2:a.rd[k]'ma=v:=(bR.mp hk).2;have:=(i9 (h₀:=by grind) (h₁:=ma) hr).mp (e.trans h2.symm);exact aeb hm this
 constructor
 ·rw[d1 v,aZ hvt,Em,aP hv]
  have:cnt v (ent (iz n need) 0 (a.rd.take k))=0:=by unfold cnt;rw[tK];intro q;refine cv (aU.mp q) λx hx e=>?_;exact W.dis v hv x (sub x hx) e
  rw[this];rfl
 ·have hs:=xJ n need jk v
  have hb:(a.out.done (iz n need) (a.rd.take k)).rd.length<=n:=by rw[d2];show([]++_:af ah).length<=n;rw[yh];refine lj (nF _ _) λx hx=>?_;obtain⟨⟨j,s⟩,hy,e⟩:=aU.mp hx;simp only at e;subst e;refine eu (pP.mp ((qz _ _).subset hy)) λm w h1 h2 h3=>?_;exact(lp.mp h3).1
  exact alx hn hs hb
end
end fG
namespace fG
open PySem PySem.W
section
variable(kdf figf:ah->aE)(need:ah->af ah)
noncomputable def Ui(col:ah->l9)(j:ah):l9:=mM (kdf j) (figf j) (ur (kdf j) (figf j) (need j) col)
noncomputable def Bg(col:ah->l9)(j:ah):ah->l9:=λk=>if k=j then Ui kdf figf need col j else col k
end
set_option genInjectivity false in structure RS where
 rounds:af (af ah)
 K:af ah
 last:af ah
 col:ah->l9
noncomputable abbrev Ko(m8:af ah)(cx:ah->ah):af (aE×MV):=m8.map λi:ah=>((i:aE),MV.ref (cx i))
theorem F3{m8:af ah}{cx:ah->ah}{j:ah}(h:j∉m8):((Ko m8 cx).any λkv=>decide (kv.1=(j:aE)))=false:=by rw[jP];intro p hp;refine cv (aU.mp hp) λx hx cP=>?_;subst cP;have:j≠x:=λq=>h (q▸hx);simp;exact UM this
theorem Kp{m8:af ah}{cx:ah->ah}{j y:ah}(h:j∉m8):Ko (m8++[j]) (λk=>if k=j then y else cx k)=Ko m8 cx++[((j:aE),.ref y)]:=by
 unfold Ko;rw[d4];congr 1
 ·apply kJ
  intro i hi;simp only[aZ λ(q:i=j)=>h (q▸hi)]
 ·simp
theorem KD.put{H T:af av}{kd j y:ah}{m8:af ah}{cx:ah->ah}{col:ah->l9}{c:l9}{e:ah}(K:KD H kd m8 cx col)(hj:j∉m8)(hy:(H++T)[y]?=aa c.ob):
  KD ((H++T).set kd (.dict (Ko m8 cx++[((j:aE),.ref y)]) e)) kd (m8++[j]) (λk=>if k=j then y else cx k) (λk=>if k=j then c else col k):=by
 obtain⟨ep,hd⟩:=K.d;have hl:=(gM hd);have ne:∀{k:ah}{t:l9},(H++T)[k]?=aa t.ob->((H++T).set kd (.dict (Ko m8 cx++[((j:aE),.ref y)]) e))[k]?=aa t.ob:=λ{k t} h=>by rw[aC (λq=>by rw[<-q,app hd T] at h;cases h)];exact h
 refine⟨⟨e,?_⟩,λi hi=>?_⟩
 ·rw[bh (by simp;exact Ez hl)]
  have:=Kp (cx:=cx) (y:=y) hj;unfold Ko at this;rw[<-this]
 ·by_cases q:i=j
  ·subst q;simp only[kU];exact ne hy
  ·simp only[aZ q]
   have NU:i∈m8:=by simpa[q] using hi
   exact ne (app (K.c i NU) T)
theorem KD.keep{H H':af av}{kd:ah}{m8:af ah}{cx:ah->ah}{col:ah->l9}(K:KD H kd m8 cx col)(h1:H'[kd]?=H[kd]?)(h2:∀i∈m8,H'[cx i]?=H[cx i]?):KD H' kd m8 cx col:=
 let⟨ep,hd⟩:=K.d
 ⟨⟨ep,h1.trans hd⟩,λi hi=>(h2 i hi).trans (K.c i hi)⟩
theorem pK.keep{H H':af av}{sh n:ah}{rw nl:ah->ah}{kd fig:ah->aE}{need:ah->af ah}(S:pK H sh n rw nl kd fig need)(h:∀(k:ah) xs,H[k]?=aa (.list xs)\/H[k]?=aa (.tup xs)->H'[k]?=H[k]?):pK H' sh n rw nl kd fig need:=⟨(h _ _ (.inl S.row)).trans S.row,λi hi=>(h _ _ (.inr (S.tup i hi))).trans (S.tup i hi),λi hi=>(h _ _ (.inl (S.nd i hi))).trans (S.nd i hi)⟩
theorem K0{kdf figf:ah->aE}{need:ah->af ah}{col:ah->l9}{j:ah}(hs:Shape (kdf j) (figf j) (need j))(h:∀p∈need j,(col p).inR):(Ui kdf figf need col j).inR:=xQ (Gi hs h)
set_option genInjectivity false in structure WA(kdf figf:ah->aE)(need:ah->af ah)(i kd:ah)(H:af av)(l:ah->ag MV)(r K:af ah)(cx:ah->ah)(col:ah->l9)(m:ah)(st:St):Prop where
 c:∃Hd,KD st.H kd (K++r.take m) Hd ((r.take m).foldl (Bg kdf figf need) col)/\(∀p∈K,Hd p=cx p)/\∀p∈r.take m,H.length<=Hd p
 keep:∀k o,H[k]?=aa o->k≠kd->st.H[k]?=aa o
 loc:∀k,k≠i->st.l k=l k
 inR:∀p∈K++r.take m,((r.take m).foldl (Bg kdf figf need) col p).inR
 len:H.length<=st.H.length
theorem B3{kdf figf:ah->aE}{need:ah->af ah}{body:St->ag (MF×St)}{i t kd:ah}{H:af av}{l:ah->ag MV}{r K:af ah}{cx:ah->ah}{col:ah->l9}
  (K1:KD H kd K cx col) (ht:H[t]?=aa (.tup (bD r))) (hr:r.Nodup) (Xx:∀j∈r,j∉K) (m9:∀j∈r,∀p∈need j,p∈K) (hR:∀p∈K,(col p).inR) (hlen:K.length+r.length<=999) (hsh:∀j∈r,Shape (kdf j) (figf j) (need j))
  (Xs:∀G l' m8 cx c j ep,j∈r->(∀k o,H[k]?=aa o->k≠kd->G[k]?=aa o)->(∀k,k≠i->l' k=l k)->KD G kd m8 cx c->(∀p∈K,p∈m8)->(∀p∈m8,(c p).inR)->G[kd]?=aa (.dict (Ko m8 cx) ep)->m8.length<1000->j∉m8->
   ∃y T,(G++T)[y]?=aa (Ui kdf figf need c j).ob/\G.length<=y/\body ⟨G,bV l' i (.int (j:ah))⟩=aa (.next,⟨(G++T).set kd (.dict (Ko m8 cx++[((j:aE),.ref y)]) (ep+1)),bV l' i (.int (j:ah))⟩)):
  ∃bZ Hd,ph (hU t (.tup (bD r))) i body ((bD r).map .val) ⟨H,l⟩=aa (.next,bZ)/\KD bZ.H kd (K++r) Hd (r.foldl (Bg kdf figf need) col)/\(∀p∈K,Hd p=cx p)/\(∀p∈r,H.length<=Hd p)/\(∀k o,H[k]?=aa o->k≠kd->bZ.H[k]?=aa o)/\(∀k,k≠i->bZ.l k=l k)/\
   (∀p∈K++r,(r.foldl (Bg kdf figf need) col p).inR)/\H.length<=bZ.H.length:=by
 refine dA K1.d λep0 hd0=>?_;have htk:t≠kd:=λq=>by rw[q,hd0] at ht;cases ht
 refine cv (kC (chk:=hU t (.tup (bD r))) (i:=i) (body:=body) (WA kdf figf need i kd H l r K cx col)
  ((bD r).map .val) 0 ⟨H,l⟩
  ⟨⟨cx,by simpa using K1,λ_ _=>rfl,λp hp=>by simp at hp⟩,λk o h _=>h,λ_ _=>rfl,by simpa using hR,cL _⟩ (λm yy st hm hI=>by
   refine cv (qK hm) λj hj cP=>?_;subst cP;have a4:=hI.keep;have a5:=hI.loc;have a6:=hI.inR;have a7:=hI.len;refine js hI.c λHd a1 a2 a3=>?_;clear hI;rw[cw] at a1 a3 a6;obtain⟨G,l'⟩:=st;simp only at a1 a4 a5 a7;have XH:=aM hj;have hml:=(gM hj);have rj:j∉K++r.take m:=λq=>by
    rcases bK.mp q with q|q
    ·exact Xx j XH q
    ·obtain⟨x,hx,e⟩:=dm q
     rw[Mm] at e;rw[ij] at hx;have:=(i9 (h₀:=by grind) (h₁:=hml) hr).mp (e.trans (bR.mp hj).2.symm);exact aeb hx this
   refine dA a1.d λep hd=>?_;obtain⟨y,T,b1,b2,b3⟩:=Xs G l' _ Hd _ j ep XH a4 a5 a1 (λp hp=>aI _ hp) a6 hd (by rw[cK,ij];exact acz hlen) rj;refine⟨kc.mpr (a4 t _ ht htk),_,.next,b3,.inl rfl,⟨⟨λk=>if k=j then y else Hd k,?_,λp hp=>?_,λp hp=>?_⟩,λk o h1 h2=>?_,λk hk=>?_,λp hp=>?_,?_⟩⟩
   ·rw[show 0+m+1=m+1 by exact pV,take_snoc hj,iI,<-bq]
    exact a1.put rj b1
   ·have:p≠j:=λq=>Xx j XH (q▸hp)
    simp only[aZ this];exact a2 p hp
   ·rw[show 0+m+1=m+1 by exact pV,take_snoc hj] at hp
    by_cases q:p=j
    ·simp only[aP q];exact UR a7 b2
    ·simp only[aZ q]
     exact a3 p (by simpa[q] using hp)
   ·show((G++T).set kd _)[k]?=_
    rw[aC h2.symm];exact app (a4 k o h1 h2) T
   ·show bV l' i _ k=_
    simp[bV,hk,a5 k hk]
   ·rw[show 0+m+1=m+1 by exact pV,take_snoc hj] at hp⊢
    rw[iI];show(Bg kdf figf need ((r.take m).foldl (Bg kdf figf need) col) j p).inR;unfold Bg;by_cases q:p=j
    ·rw[aP q]
     exact K0 (hsh j XH) λz hz=>a6 z (aI _ (m9 j XH z hz))
    ·rw[aZ q]
     refine a6 p ?_;rw[<-bq] at hp;simpa[q] using hp
   ·show H.length<=((G++T).set kd _).length
    simp;exact ak6 a7) (λst hI=>kc.mpr (hI.keep t _ ht htk))) λbZ e1 e2=>?_
 have a4:=e2.keep;have a5:=e2.loc;have a6:=e2.inR;have a7:=e2.len;refine js e2.c λHd a1 a2 a3=>?_;clear e2;have XN:((bD r).map lM.val).length=r.length:=by simp
 rw[cw,XN,ip] at a1 a3 a6;exact⟨bZ,Hd,e1,a1,a2,a3,a4,a5,a6,a7⟩
end fG
namespace fG
open PySem PySem.W
noncomputable def RX(H:af av)(B ro:ah)(rounds:af (af ah)):Prop:=∃rx:af ah,H[ro]?=aa (.list (rx.map MV.ref))/\rx.length=rounds.length/\∀(i t:ah) r,rx[i]?=aa t->rounds[i]?=aa r->B<=t/\H[t]?=aa (.tup (bD r))
noncomputable def KX(H:af av)(B kd:ah)(K:af ah)(col:ah->l9):Prop:=∃cx,KD H kd K cx col/\∀i∈K,B<=cx i
theorem RX.keep{H H':af av}{B ro:ah}{rounds:af (af ah)}(h:RX H B ro rounds)(h1:H'[ro]?=H[ro]?)(h2:∀(t:ah) xs,B<=t->H[t]?=aa (.tup xs)->H'[t]?=aa (.tup xs)):RX H' B ro rounds:=
 let⟨rx,a1,a2,a3⟩:=h
 ⟨rx,h1.trans a1,a2,λi t r q1 q2=>⟨(a3 i t r q1 q2).1,h2 t _ (a3 i t r q1 q2).1 (a3 i t r q1 q2).2⟩⟩
theorem KX.keep{H H':af av}{B kd:ah}{K:af ah}{col:ah->l9}(h:KX H B kd K col)(h1:H'[kd]?=H[kd]?)(h2:∀(k:ah) o,B<=k->H[k]?=aa o->H'[k]?=aa o):KX H' B kd K col:=
 let⟨cx,a1,a2⟩:=h
 ⟨cx,a1.keep h1 λi hi=>by rw[a1.c i hi];exact h2 _ _ (a2 i hi) (a1.c i hi),a2⟩
theorem RX.push{H:af av}{B ro t:ah}{rounds:af (af ah)}{rx:af ah}{r:af ah}(a1:H[ro]?=aa (.list (rx.map MV.ref)))(a2:rx.length=rounds.length)(a3:∀(i t:ah) r,rx[i]?=aa t->rounds[i]?=aa r->B<=t/\H[t]?=aa (.tup (bD r)))
  (h1:B<=t) (h2:H[t]?=aa (.tup (bD r))):RX (H.set ro (.list (rx.map MV.ref++[.ref t]))) B ro (rounds++[r]):=by
 have hl:=(gM a1);have ne:∀{k:ah}{xs},H[k]?=aa (.tup xs)->(H.set ro (.list (rx.map MV.ref++[.ref t])))[k]?=aa (.tup xs):=λ{k xs} h=>by rw[aC (λq=>by rw[<-q,a1] at h;cases h)];exact h
 refine⟨rx++[t],by rw[bh hl];simp,by simp[a2],λi t' r' q1 q2=>?_⟩;by_cases e:i<rx.length
 ·rw[aA e] at q1
  rw[aA (LB a2 e:)] at q2;exact⟨(a3 i t' r' q1 q2).1,ne (a3 i t' r' q1 q2).2⟩
 ·rw[aY (O4 e:)] at q1
  rw[aY (alu a2 e:)] at q2;have e0:i-rx.length=0:=by have:=(gM q1);simp at this;exact acf this
  have e1:i-rounds.length=0:=by exact acL a2 e0
  rw[e0] at q1;rw[e1] at q2;cases q1;cases q2
  exact⟨h1,ne h2⟩
section
variable(kdf figf:ah->aE)(need:ah->af ah)(n:ah)
noncomputable def RS.add(s:RS)(r:af ah):RS:=⟨s.rounds++[r],s.K++r,r,r.foldl (Bg kdf figf need) s.col⟩
noncomputable def RS.step(s:RS):RS:=if kE n need s.K s.last=[] then s else s.add kdf figf need (kE n need s.K s.last)
noncomputable def RS.iter:ah->RS->RS
 |0,s=>s
 |k+1,s=>RS.iter k (s.step kdf figf need n)
end
set_option genInjectivity false in structure WH(sT:af av)(y:Lay)(n rl ep sh:ah)(need:ah->af ah)(N:ah)(H:af av)(l:ah->ag MV)(s:RS)(a:AS)(ps:aE):Prop where
 l0:l 0=aa (.ref y.si)
 l1:l 1=aa (.ref sh)
 l2:l 2=aa (.ref N)
 l3:l 3=aa (.ref (N+1))
 ss:SS H y n rl (iz n need) a ps ep
 fi:a.fi=ps
 sh0:∀k,k<sT.length->H[k]?=sT[k]?
 rx:RX H (N+2) N s.rounds
 kx:KX H (N+2) (N+1) s.K s.col
 wi:WI n need s.K s.last a
 rk:s.rounds.length<=s.K.length
 inR:∀p∈s.K,(s.col p).inR
 len:N+2<=H.length
section
variable{sT H:af av}{y:Lay}{n rl ep sh N:ah}{kdf figf:ah->aE}{need:ah->af ah}{l:ah->ag MV}{s:RS}{a:AS}{ps:aE}{rw nl:ah->ah}
theorem IZ(W:WI n need s.K s.last a):s.K.length<=n:=lj W.nd λx hx=>(W.cl x hx).1
theorem C4(sns:af aE)(hT:∀kind fig t,t.inR->Told kind fig t (mM kind fig t))(hS:pK sT sh n rw nl kdf figf need)(hn:n<=9)(jk:∀j,(need j).length<=2)(sD:∀j,Shape (kdf j) (figf j) (need j))
  (D2:∀k,Own y n k\/k=rl->sT.length<=k/\k<N) (hN:sT.length<=N) (W:WH sT y n rl ep sh need N H l s a ps) (rK:a.rd≠[]):
  ∃H' l',tT sns ⟨H,l⟩=aa (.next,⟨H',l'⟩)/\WH sT y n rl ep sh need N H' l' (s.add kdf figf need a.rd) (a.out.done (iz n need) a.rd) (ps+a.rd.length):=by
 have wi':=W.wi.step (vq hn:);have VY:=IZ (s:=s.add kdf figf need a.rd) wi';simp only[RS.add,cK] at VY;have Tu:∀v∈a.rd,v<n:=λv hv=>(W.wi.rd.mem.mp hv).1;refine OS (zA sns W.ss Tu) λH1 g1 g2 g3 g4 g5=>?_;have hlen:=W.len;have Wd:∀{G G':af av},hJ y n rl G G'->∀k,(k<sT.length\/N<=k)->k<G.length->G'[k]?=G[k]?:=λU k hk hl=>U.2 k hl (λq=>by have:=D2 k (.inl q);exact ad9 hk this) (λq=>by have:=D2 k (.inr q);exact ad9 hk this);refine js W.rx λrx r1 r2 r3=>?_;have r1':H1[N]?=aa (.list (rx.map MV.ref)):=(Wd g3 N (.inr (cL _)) (UJ hlen:)).trans r1;have ag8:rx.length<1000:=by have:=W.rk;have:=IZ W.wi;exact al7 hn VY r2 (by assumption)
 generalize VX:H1.set N (.list (rx.map MV.ref++[.ref H.length]))=H2;have k2:∀k,k≠N->H2[k]?=H1[k]?:=λk hk=>fC VX hk;have pq:H2.length=H1.length:=nG VX;have hr1:(N:ah)<H1.length:=by exact alX g5 hlen
 have e1:iT 0 fx (au 2) (aJ (jb (mj sns) (au 0) bG) bG) ⟨H,l⟩=aa (.none,⟨H2,l⟩):=by exact gS (aF W.l2) r1 rfl (bB (k9 (aF W.l0) W.ss.S.inst W.ss.S.attr eG g1) eG) (qF r1' (cA (show(rx.map MV.ref).length<1000 by rw[a8];exact ag8)) VX)
 have ht2:H2[H.length]?=aa (.tup (bD a.rd)):=(k2 _ (adY hlen:)).trans g4;have XU:H2[N]?=aa (.list (rx.map MV.ref++[.ref H.length])):=rp VX hr1;have RX2:RX H2 (N+2) N (s.rounds++[a.rd]):=by rw[<-VX];refine RX.push r1' r2 (λi t r q1 q2=>?_) hlen g4;refine dQ (r3 i t r q1 q2) λz1 z2=>?_;exact⟨z1,(Wd g3 t (.inr (Ey z1:)) (gM z2)).trans z2⟩
 have SS2:SS H2 y n rl (iz n need) a.out (ps+a.rd.length) ep:=by
  refine⟨g2.S.of λk hk=>k2 k (λq=>?_),(k2 rl (λq=>?_)).trans g2.R,g2.off⟩
  ·have:=D2 k (.inl hk);exact aee q this
  ·have:=D2 rl (.inr rfl);exact aee q this
 have KX2:KX H2 (N+2) (N+1) s.K s.col:=W.kx.keep ((k2 _ (UC:)).trans (Wd g3 _ (.inr (HX:)) (UI hlen:))) λk o hk ho=>((k2 k (adY hk:)).trans (Wd g3 k (.inr (Ey hk:)) (gM ho))).trans ho;have sh2:∀k,k<sT.length->H2[k]?=sT[k]?:=λk hk=>((k2 k (aei hN hk:)).trans (Wd g3 k (.inl hk) (amc hN hlen hk:))).trans (W.sh0 k hk);refine cv KX2 λcx KD2 cx2=>?_;clear KX2;have rdK:∀j∈a.rd,j∉s.K:=λj hj=>(W.wi.rd.mem.mp hj).2.1;refine YM (B3 (kdf:=kdf) (figf:=figf) (need:=need) (body:=zb sns) (i:=4) (l:=l) KD2 ht2 W.wi.rd.nodup rdK (λj hj=>(W.wi.rd.mem.mp hj).2.2) W.inR (alw hn VY:) (λj _=>sD j)
  (λG l' m8 cx c j ep hj q1 q2 q3 q4 q5 q6 q7 q8=>by
   have rj:=Tu j hj;have shG:∀k,k<sT.length->G[k]?=sT[k]?:=λk hk=>by have:∃o,H2[k]?=aa o:=⟨H2[k]'(UX hN g5 hlen pq hk:),ao (UX hN g5 hlen pq hk:)⟩;refine dA this λo ho=>?_;clear this;rw[<-sh2 k hk,q1 k o ho (aej hN hk:),ho]
   have SW:pK G sh n rw nl kdf figf need:=hS.keep λk xs h=>shG k (h.elim (λh=>(gM h)) λh=>(gM h));obtain⟨yy,T,b1,b2,b3⟩:=R9 sns hT (SW.tup j rj) (SW.nd j rj) q3 (sD j) (λp hp=>q4 p ((W.wi.rd.mem.mp hj).2.2 p hp)) (λp hp=>q5 p (q4 p ((W.wi.rd.mem.mp hj).2.2 p hp)));refine⟨yy,T,b2,b3,?_⟩;have c1:l' 1=aa (.ref sh):=(q2 1 (by decide)).trans W.l1;have c3:l' 3=aa (.ref (N+1)):=(q2 3 (by decide)).trans W.l3;have c4:=SW.row;have c5:((cO n).map λi=>MV.ref (rw i))[j]?=aa (.ref (rw j)):=by rw[b9,g7 rj];rfl
   have q6':=app q6 T;have q7':(Ko m8 cx).length<1000:=by simpa using q7
   have c7:tj (.list ((cO n).map λi=>MV.ref (rw i))) (j:ah)=aa (.ref (rw j)):=by show idx ((cO n).map λi=>MV.ref (rw i)) (j:ah)=_;rw[idx,aP (dE _),fY];exact c5
   exact(DT (cI (bB (d5 (aF (by first|rfl|exact c1|repeat' first|(with_reducible first|(show _=_;assumption)|apply c1|apply er|apply kg)|rfl)) (aF er) (gq c4 c7)) (bB (aF (by first|rfl|exact c3|repeat' first|(with_reducible first|(show _=_;assumption)|apply c3|apply er|apply kg)|rfl)) eG)) b1) (aF (by first|rfl|exact c3|repeat' first|(with_reducible first|(show _=_;assumption)|apply c3|apply er|apply kg)|rfl)) (aF er) (CS q6' (cA q7') rfl) rfl).trans (by rw[ub,F3 q8];rfl))) λst3 cx3 f1 f2 f3 f4 f5 f6 f7 f8=>?_
 obtain⟨H3,l3⟩:=st3;simp only at f1 f2 f5 f6 f7 f8;have sx:∀k,k≠N+1->k<H2.length->H3[k]?=H2[k]?:=λk hk hl=>by have:H2[k]?=aa (H2[k]'hl):=ao hl;rw[f5 k _ this hk,this]
 have SS3:SS H3 y n rl (iz n need) a.out (ps+a.rd.length) ep:=by
  refine⟨SS2.S.of λk hk=>sx k (λq=>?_) ?_,(sx rl (λq=>?_) ?_).trans SS2.R,SS2.off⟩
  ·have:=D2 k (.inl hk);exact aed q this
  ·have:=D2 k (.inl hk);exact aeq g5 hlen pq this
  ·have:=D2 rl (.inr rfl);exact aed q this
  ·have:=D2 rl (.inr rfl);exact aeq g5 hlen pq this
 have X2:∀v,v<n->∀w∈iz n need v,w<n:=λv hv w hw=>(lp.mp hw).1;refine js (Nk sns SS3 a.rd Tu (al1 hn VY:) (W.wi.D7 hn jk) X2) λH4 d1 d2 d3=>?_;have ag7:H3[N]?=aa (.list (rx.map MV.ref++[.ref H.length])):=(sx N (HW:) (aem g5 hlen pq:)).trans XU;have ht3:H3[H.length]?=aa (.tup (bD a.rd)):=(sx _ (adZ hlen:) (akW g5 pq:)).trans ht2;refine⟨H4,l3,?_,?_⟩
 ·have m0:l3 0=aa (.ref y.si):=(f6 0 (by decide)).trans W.l0
  have m2:l3 2=aa (.ref N):=(f6 2 (by decide)).trans W.l2;have i1:rL (fw (au 2) (s7 (eK (.int 1)))) ⟨H2,l⟩=aa (((bD a.rd).map lM.val,hU H.length (.tup (bD a.rd))),⟨H2,l⟩):=by exact xf (d5 (aF W.l2) (BZ aT) (gq XU (tv _ _))) ht2 rfl
  have i2:jb (Ac sns) (au 0) (rT (fw (au 2) (s7 (eK (.int 1))))) ⟨H3,l3⟩=aa (.none,⟨H4,l3⟩):=by exact k9 (aF m0) SS3.S.inst SS3.S.attr (Sq (d5 (aF m2) (BZ aT) (gq ag7 (tv _ _))) ht3) d1
  exact ke e1 (vg i1 f1 (ke i2 rfl))
 ·have up4:∀k,(k<sT.length\/N<=k)->k<H3.length->H4[k]?=H3[k]?:=λk hk hl=>Wd d3 k hk hl
  have l34:N+2<=H4.length:=fA (aep g5 hlen pq f8:) d3.1;refine⟨(f6 0 (by decide)).trans W.l0,(f6 1 (by decide)).trans W.l1,(f6 2 (by decide)).trans W.l2,(f6 3 (by decide)).trans W.l3,d2,?_,λk hk=>?_,?_,?_,wi',?_,f7,l34⟩
  ·rw[(vS a.rd a.out 0 W.wi.dis W.wi.rd.nodup).2.2]
   show a.fi+_=_;rw[W.fi]
  ·rw[up4 k (.inl hk) (amh hN g5 hlen pq f8 hk:),sx k (aej hN hk:) (UX hN g5 hlen pq hk:)];exact sh2 k hk
  ·refine RX2.keep ((up4 N (.inr (cL _)) (amg g5 hlen pq f8:)).trans (sx N (HW:) (aem g5 hlen pq:))) λt xs h1 h2=>?_
   have hl:=(gM h2);rw[up4 t (.inr (Ey h1:)) (O7 f8 hl:),sx t (adZ h1:) hl];exact h2
  ·have KX3:KX H3 (N+2) (N+1) (s.K++a.rd) (a.rd.foldl (Bg kdf figf need) s.col):=⟨cx3,f2,λi hi=>by
    rcases bK.mp hi with q|q
    ·rw[f3 i q];exact cx2 i q
    ·have:=f4 i q;exact aep g5 hlen pq this⟩
   exact KX3.keep (up4 _ (.inr (HX:)) (al9 g5 hlen pq f8:)) λk o hk ho=>(up4 k (.inr (Ey hk:)) (gM ho)).trans ho
  ·simp only[RS.add,cK,EV]
   have:=W.rk;have:0<a.rd.length:=nU.mpr rK;exact aef (by assumption) this
end
end fG
namespace fG
open PySem PySem.W
section
variable{sT H:af av}{y:Lay}{n rl ep sh N:ah}{kdf figf:ah->aE}{need:ah->af ah}{l:ah->ag MV}{s:RS}{a:AS}{ps:aE}{rw nl:ah->ah}
theorem C3(sns:af aE)(hn:n<=9)(W:WH sT y n rl ep sh need N H l s a ps):qW sns ⟨H,l⟩=aa (!a.rd.isEmpty,⟨H,l⟩):=by
 have h1:=Kd sns W.ss;rw[W.fi,show decide (ps<ps)=false by simp,Bool.false_or] at h1;have e1:Aj (jb (vR sns) (au 0) bG) ⟨H,l⟩=aa (!a.rd.isEmpty,⟨H,l⟩):=by exact FQ (k9 (aF W.l0) W.ss.S.inst W.ss.S.attr eG h1) rfl
 refine js W.rx λrx r1 r2 r3=>?_;have hl:rx.length<10:=by have:=W.rk;have:=IZ W.wi;exact alS hn r2 (by assumption) this
 have e2:dp (cS .Lt) (cJ jc (aJ (au 2) bG)) (eK (.int 10)) ⟨H,l⟩=aa (true,⟨H,l⟩):=by
  have hm:jc [.ref N] H=aa (.int (rx.length:ah),H):=by rw[tw r1,a8]
  exact cg (cI (bB (aF W.l2) eG) hm) aT (bI aa (cM (aiW hl)))
 delta qW;cases hq:a.rd with
 |nil=>rw[hq] at e1;exact cV e1 rfl
 |cons x xs=>rw[hq] at e1;exact Fy e1 e2
theorem tH(sns:af aE)(hT:∀kind fig t,t.inR->Told kind fig t (mM kind fig t))(hS:pK sT sh n rw nl kdf figf need)(hn:n<=9)(jk:∀j,(need j).length<=2)(sD:∀j,Shape (kdf j) (figf j) (need j))
  (D2:∀k,Own y n k\/k=rl->sT.length<=k/\k<N) (hN:sT.length<=N):∀(f:ah)(H:af av)(l:ah->ag MV)(s:RS)(a:AS)(ps:aE),WH sT y n rl ep sh need N H l s a ps->n-s.K.length<f->
  ∃k H' l' a' OY,iA (qW sns) (tT sns) bF f ⟨H,l⟩=aa (.next,⟨H',l'⟩)/\k+s.K.length<=n/\WH sT y n rl ep sh need N H' l' (s.iter kdf figf need n k) a' OY/\a'.rd=[]
 |0,_,_,_,_,_,_,hf=>by lia
 |f+1,H,l,s,a,ps,W,hf=>by
  have c:=C3 sns hn W;have VY:=IZ W.wi;cases hr:a.rd with
  |nil=>rw[hr] at c;exact⟨0,H,l,a,ps,ly.trans (cV c rfl),by exact aj7 VY,W,hr⟩
  |cons x xs=>
   have rK:a.rd≠[]:=by rw[hr];simp
   rw[hr] at c;refine uq (C4 sns hT hS hn jk sD D2 hN W rK) λH' l' e1 W'=>?_;have N0:kE n need s.K s.last=a.rd:=(nK (vq hn:) s.K s.last).uniq W.wi.rd;have ql:s.step kdf figf need n=s.add kdf figf need a.rd:=by unfold RS.step;rw[N0,aZ rK]
   have hK2:(s.add kdf figf need a.rd).K.length=s.K.length+a.rd.length:=by simp[RS.add]
   have xd:0<a.rd.length:=nU.mpr rK;have agU:=IZ W'.wi;refine OU (tH sns hT hS hn jk sD D2 hN f H' l' _ _ _ W' (acY hf hK2 xd agU:)) λk H2 l2 a2 ps2 b1 b2 b3 b4=>?_;refine⟨k+1,H2,l2,a2,ps2,?_,by exact amd hK2 xd b2,?_,b4⟩
   ·exact ly.trans (cV c (uK (cV e1 b1)))
   ·show WH sT y n rl ep sh need N H2 l2 ((s.step kdf figf need n).iter kdf figf need n k) a2 ps2
    rw[ql];exact b3
theorem Cj(s:RS)(h:kE n need s.K s.last=[]):∀k,s.iter kdf figf need n k=s
 |0=>rfl
 |k+1=>by
  show(s.step kdf figf need n).iter kdf figf need n k=s;have:s.step kdf figf need n=s:=by unfold RS.step;rw[aP h]
  rw[this];exact Cj s h k
theorem Ci(s:RS):∀(i j:ah),s.iter kdf figf need n (i+j)=(s.iter kdf figf need n i).iter kdf figf need n j:=by
 intro i
 induction i generalizing s with
 |zero=>intro j;rw[cw];rfl
 |succ i ih=>intro j;rw[show i+1+j=(i+j)+1 by exact aky];exact ih (s.step kdf figf need n) j
noncomputable def RS.init:RS:=⟨[],[],[],λ_=>⟨0,0,0⟩⟩
theorem Il(sns:af aE)(hT:∀kind fig t,t.inR->Told kind fig t (mM kind fig t))(hS:pK sT sh n rw nl kdf figf need)(hn:n<=9)(jk:∀j,(need j).length<=2)(sD:∀j,Shape (kdf j) (figf j) (need j))
  (D2:∀k,Own y n k\/k=rl->sT.length<=k/\k<H.length) (hN:sT.length<=H.length) (h0:∀k,k<sT.length->H[k]?=sT[k]?) (hss:SS H y n rl (iz n need) a ps ep) (hfi:a.fi=ps) (hwi:WI n need [] [] a):
  ∃H' l' a' OY t,o7 sns [.ref y.si,.ref sh] H=aa (.ref t,H')/\H'[t]?=aa (.tup [.ref H.length,.ref (H.length+1)])/\WH sT y n rl ep sh need H.length H' l' (RS.init.iter kdf figf need n n) a' OY/\a'.rd=[]:=by
 have W:WH sT y n rl ep sh need H.length (H++[.list [],.dict [] 0]) (bV (bV (λi=>[MV.ref y.si,MV.ref sh][i]?) 2 (.ref H.length)) 3 (.ref (H.length+1))) RS.init a ps:=by refine⟨rfl,rfl,rfl,rfl,hss.app _,hfi,λk hk=>?_,⟨[],by simp,rfl,λi t r q=>by simp at q⟩,⟨λ_=>0,⟨⟨0,by simp[RS.init]⟩,λi hi=>(nomatch hi)⟩,λi hi=>(nomatch hi)⟩,hwi,cL _,λp hp=>(nomatch hp),by simp⟩;rw[aA (O7 hN hk:)];exact h0 k hk
 refine OU (tH sns hT hS hn jk sD D2 hN 1000 _ _ _ _ _ W (aj4 hn:)) λk H' l' a' OY e1 e2 e3 e4=>?_;have hx:kE n need (RS.init.iter kdf figf need n k).K (RS.init.iter kdf figf need n k).last=[]:=by rw[<-e4];exact(nK (vq hn:) _ _).uniq e3.wi.rd
 have hk:k<=n:=by exact Ey e2
 have e5:RS.init.iter kdf figf need n n=RS.init.iter kdf figf need n k:=by have:=Ci (kdf:=kdf) (figf:=figf) (need:=need) (n:=n) RS.init k (n-k);rw[show k+(n-k)=n by exact aj9 hk] at this;rw[this];exact Cj _ hx _
 rw[e5];refine⟨H'++[.tup [.ref H.length,.ref (H.length+1)]],l',a',OY,H'.length,?_,by simp,?_,e4⟩
 ·refine lg rfl (l1:=l') ?_
  delta wj;refine fO (jq eG rfl) (fO eD0 (rO (m:=.next) (st1:=⟨H',l'⟩) ?_ (fR (jv (bB (aF e3.l2) (bB (aF e3.l3) eG)) rfl))));rw[bq,cK];exact e1
 ·refine⟨e3.l0,e3.l1,e3.l2,e3.l3,e3.ss.app _,e3.fi,λk hk=>?_,e3.rx.keep ?_ λt xs _ h=>app h _,e3.kx.keep ?_ λk o _ h=>app h _,e3.wi,e3.rk,e3.inR,?_⟩
  ·have:=e3.len
   rw[aA (amb hN hk this:)];exact e3.sh0 k hk
  ·have:=e3.len
   rw[aA (UJ this:)]
  ·have:=e3.len
   rw[aA (UI this:)]
  ·have:=e3.len
   simp;exact ajJ this
end
noncomputable def Ag(m:ah)(d:jg):Prop:=d.canLay0=true/\d.depth<=m/\n9 d d=true
theorem xF{m:ah}:∀{ds:af jg},(∀d∈ds,Ag m d)->Iu ds=true/\Mr ds<=m/\PU ds ds=true
 |[],_=>⟨rfl,jn _,rfl⟩
 |d::ds,h=>by refine fD (h d (.head _)) λa1 a2 a3=>?_;refine fD (xF λx hx=>h x (.tail _ hx)) λb1 b2 b3=>?_;refine⟨by simp[Iu,a1,b1],by simp only[Mr];exact ak7 a2 b2,by simp[PU,a3,b3]⟩
theorem LX(i:aE):Ag 0 (.int i):=⟨rfl,cL _,by simp[n9]⟩
theorem nc{m:ah}{ds:af jg}(h:∀d∈ds,Ag m d):Ag (m+1) (.list ds):=by refine fD (xF h) λa b c=>?_;exact⟨by simpa[ML] using a,by simp only[RA];exact adX b,by simpa[n9] using c⟩
theorem CT{m:ah}{ds:af jg}(h:∀d∈ds,Ag m d):Ag (m+1) (.tuple ds):=by refine fD (xF h) λa b c=>?_;exact⟨by simpa[ML] using a,by simp only[RA];exact adX b,by simpa[n9] using c⟩
theorem Ag.shaped{m:ah}{d:jg}(h:Ag m d)(hm:m<=64):jl d=true:=by unfold jl;rw[h.1,cM (fA h.2.1 hm)];rfl
theorem rdC{f:MV->ag jg}{x d xs ds}(h:f x=aa d)(h2:oJ f xs=aa ds):oJ f (x::xs)=aa (d::ds):=eJ h (eJ h2 rfl)
theorem rdL{m:ah}{H:af av}{t:ah}{xs ds}(h:H[t]?=aa (.list xs))(h2:oJ (rd m H) xs=aa ds):rd (m+1) H (.ref t)=aa (.list ds):=eJ h (eJ h2 rfl)
theorem rdT{m:ah}{H:af av}{t:ah}{xs ds}(h:H[t]?=aa (.tup xs))(h2:oJ (rd m H) xs=aa ds):rd (m+1) H (.ref t)=aa (.tuple ds):=eJ h (eJ h2 rfl)
theorem cDR{w a b}{H:af av}{da db:jg}{r:cj}(h:rd 3 H a=aa da)(h2:rd 3 H b=aa db)(s1:jl da=true)(s2:jl db=true)(e:(n9 da db==w)=r):cD w a b H=aa r:=eJ h (eJ h2 ((aP ⟨s1,s2⟩).trans (bI aa e)))
theorem uu{α:Type}{f:MV->ag jg}(g:α->MV)(d:α->jg):∀(l:af α),(∀x∈l,f (g x)=aa (d x))->oJ f (l.map g)=aa (l.map d)
 |[],_=>rfl
 |x::l,h=>rdC (h x (.head _)) (uu g d l λy hy=>h y (.tail _ hy))
noncomputable def rU(l:af aE):af jg:=l.map Wq
theorem lN(l:af aE):∀d∈rU l,Ag 0 d:=λd hd=>by refine cv (aU.mp hd) λi _ cP=>?_;subst cP;exact LX i
theorem Gu(m:ah)(H:af av)(l:af aE):oJ (rd m H) (l.map MV.int)=aa (rU l):=uu _ _ l λi _=>by cases m<;>rfl
theorem CE(r:af ah):bD r=(r.map λj:ah=>(j:aE)).map MV.int:=by simp[bD]
theorem vY{H:af av}{t:ah}{l:af aE}(m:ah)(h:H[t]?=aa (.tup (l.map MV.int))):rd (m+1) H (.ref t)=aa (.tuple (rU l)):=rdT h (Gu m H l)
theorem qI{H:af av}{t:ah}{l:af aE}(m:ah)(h:H[t]?=aa (.list (l.map MV.int))):rd (m+1) H (.ref t)=aa (.list (rU l)):=rdL h (Gu m H l)
theorem M7{H:af av}{i j:ah}{l:af aE}(h1:H[i]?=aa (.list (l.map MV.int)))(h2:H[j]?=aa (.list [])):cD true (.ref i) (.ref j) H=aa l.isEmpty:=by exact cDR (qI 2 h1) (qI (l:=[]) 2 h2) ((nc (lN l)).shaped (by decide)) ((nc (lN [])).shaped (by decide)) (by cases l<;>rfl)
theorem Ji{H:af av}{i j:ah}{xs:af ah}{f:ah->ah}{a b:ah->aE}(h1:H[i]?=aa (.list (xs.map λs=> .ref (f s))))(h3:∀s∈xs,H[f s]?=aa (.tup [.int (a s),.int (b s)]))(h2:H[j]?=aa (.list [])):cD false (.ref i) (.ref j) H=aa (!xs.isEmpty):=by
 have e1:rd 3 H (.ref i)=aa (.list (xs.map λs=> .tuple (rU [a s,b s]))):=rdL h1 (uu (λs=>MV.ref (f s)) (λs=>PyData.tuple (rU [a s,b s])) xs λs hs=>vY (l:=[a s,b s]) 1 (h3 s hs));have sh:jl (.list (xs.map λs=> .tuple (rU [a s,b s])))=true:=(nc (m:=1) λd hd=>by refine cv (aU.mp hd) λs _ cP=>?_;subst cP;exact CT (lN _)).shaped (by decide)
 exact cDR e1 (qI (l:=[]) 2 h2) sh ((nc (lN [])).shaped (by decide)) (by cases xs<;>rfl)
theorem zN{H:af av}{B ro:ah}{rounds:af (af ah)}(h:RX H B ro rounds):rd 3 H (.ref ro)=aa (.list (rounds.map λr=> .tuple (rU (r.map λj:ah=>(j:aE))))):=by
 refine js h λrx a1 a2 a3=>?_;clear h;have key:∀(rx:af ah)(rounds:af (af ah)),rx.length=rounds.length->(∀(i t:ah) r,rx[i]?=aa t->rounds[i]?=aa r->B<=t/\H[t]?=aa (.tup (bD r)))->oJ (rd 2 H) (rx.map MV.ref)=aa (rounds.map λr=> .tuple (rU (r.map λj:ah=>(j:aE)))):=by
  intro rx
  induction rx with
  |nil=>intro rounds h1 _;cases rounds with
   |nil=>rfl
   |cons r rs=>exact nomatch h1
  |cons t rx ih=>intro rounds h1 h2;cases rounds with
   |nil=>exact nomatch h1
   |cons r rs=>have q:=(h2 0 t r rfl rfl).2;rw[CE] at q;exact rdC (vY 1 q) (ih rs (pE h1) λi t r h3 h4=>h2 (i+1) t r h3 h4)
 exact rdL a1 (key rx rounds a2 a3)
theorem G8{H:af av}{B ro B' ro':ah}{rounds:af (af ah)}(h:RX H B ro rounds)(h':RX H B' ro' rounds):cD false (.ref ro) (.ref ro') H=aa false:=by
 have sh:=nc (m:=1) (ds:=rounds.map λr=> .tuple (rU (r.map λj:ah=>(j:aE)))) λd hd=>by refine cv (aU.mp hd) λs _ cP=>?_;subst cP;exact CT (lN _)
 exact cDR (zN h) (zN h') (sh.shaped (by decide)) (sh.shaped (by decide)) (by rw[sh.2.2];rfl)
theorem M8{H:af av}{i j:ah}(h1:H[i]?=aa (.tup []))(h2:H[j]?=aa (.tup [])):cD true (.ref i) (.ref j) H=aa true:=by exact cDR (vY (l:=[]) 2 h1) (vY (l:=[]) 2 h2) rfl rfl rfl
theorem Hf{H:af av}{B kd B' kd':ah}{K:af ah}{col:ah->l9}(h:KX H B kd K col)(h':KX H B' kd' K col):qZ (.ref kd) (.ref kd') H=aa false:=by refine cv h λcx k1 _=>?_;clear h;refine cv h' λHd k2 _=>?_;clear h';refine dA k1.d λep d1=>?_;refine dA k2.d λep' d2=>?_;refine lH (lH (vp d1 rfl (vp d2 rfl (aP ⟨by rw[a8,a8],dS.mpr λx hx=>?_⟩))));refine cv (aU.mp hx) λi hi cP=>?_;subst cP;have sh:=nc (lN [(col i).a,(col i).b,(col i).d]);exact vf ⟨_,wU hi,vf ⟨_,_,qI (l:=[(col i).a,(col i).b,(col i).d]) 1 (k1.c i hi),qI (l:=[(col i).a,(col i).b,(col i).d]) 1 (k2.c i hi),sh.shaped (by decide),sh.shaped (by decide),sh.2.2⟩⟩
theorem Qm{chk:af av->cj}{cap l ft fe}(H:af av)(q:ah->cj)(e:ah->MV)(ys:af ah)
  (hs:∀p∈ys,∀xs:af MV,ft ⟨H++[.list xs],dH [.int (p:ah)] cap l⟩=aa (q p,⟨H++[.list xs],dH [.int (p:ah)] cap l⟩)/\(q p=true->∃l',fe ⟨H++[.list xs],dH [.int (p:ah)] cap l⟩=aa (e p,⟨H++[.list xs],l'⟩)))
  (hc:∀xs:af MV,chk (H++[.list xs])=true) (hl:ys.length<=1000):iR chk iw cap l ft fe H.length ((bD ys).map .val) (H++[.list []])=aa (H++[.list ((ys.filter q).map e)]):=by
 rw[sr H (λv=>match v with |.int i=>q i.toNat|_=>false) (λv=>match v with |.int i=>e i.toNat|_=> .none) (bD ys) (λv hv xs=>by refine cv (aU.mp hv) λp hp cP=>?_;subst cP;refine dQ (hs p hp xs) λa b=>?_;exact⟨[.int (p:ah)],rfl,by simpa using a,λh=>by simpa using b (by simpa using h)⟩) hc (by simpa using hl)]
 congr 4;unfold bD;rw[List.filter_map,iJ];rfl
theorem zG(l:af ah)(f:MV->cj)(h:∀i,f (.int i)=true):(bD l).all f=true:=by rw[dS];intro x hx;refine cv (aU.mp hx) λi _ cP=>?_;subst cP;exact h i
theorem uo{p:ah}:∀(l:af ah),(bD l).findIdx? (λx=>decide (x=MV.int (p:ah)))=if p∈l then aa (l.idxOf p) else none
 |[]=>rfl
 |a::l=>by
  have ih:=uo (p:=p) l;show(MV.int (a:ah)::bD l).findIdx? _=_;rw[tN,ih,List.idxOf_cons];by_cases e:a=p
  ·subst e;simp
  ·have h1:¬(MV.int (a:ah)=MV.int (p:ah)):=λq=>e (by injection q with q;exact aa4 q)
   have h2:(a==p)=false:=by simp[e]
   have h3:¬p=a:=λq=>e q.symm;by_cases hp:p∈l<;>simp[h1,h2,h3,hp,e]
theorem R4(x:aE)(L:af aE):bestOf .Gt ((x::L).map MV.int)=aa (.int (L.foldl max x)):=by
 have h1:lu ((x::L).map MV.int)=true:=by unfold lu allI;rw[nq];left;rw[dS];intro y hy;refine cv (aU.mp hy) λi _ cP=>?_;subst cP;rfl
 rw[bX] at h1⊢;show(if lu _=true then aa (best .Gt _ _) else none)=_;rw[aP h1];congr 1;unfold best;clear h1
 induction L generalizing x with
 |nil=>rfl
 |cons y L ih=>
  rw[bX,jx,jx];have:(if ua .Gt (.int y) (.int x)=aa true then MV.int y else MV.int x)=MV.int (max x y):=by
   by_cases q:x<y
   ·exact(aP (bI aa (cM q))).trans (bI MV.int (by first|exact Q5 q|exact Q6 q))
   ·exact(aZ λw=>q (cz (aR w))).trans (bI MV.int (by first|exact Q5 q|exact Q6 q))
  rw[this];exact ih (max x y)
theorem WR(b:cj):(b==false)=!b:=by cases b<;>rfl
theorem agz(b:cj):(b==true)=b:=by cases b<;>rfl
theorem knD{K:af ah}{cx:ah->ah}{j:ah}:((K.map λi:ah=>((i:aE),MV.ref (cx i))).lookup (j:aE)).isSome=K.contains j:=by
 by_cases q:j∈K
 ·rw[wU q,gp.mpr q];rfl
 ·rw[Sk q,show K.contains j=false by simpa using q];rfl
theorem niD{K:af ah}{j:ah}:((bD K).findIdx? λx=>decide (x=MV.int (j:ah))).isSome=K.contains j:=by
 rw[uo];by_cases q:j∈K
 ·rw[aP q,gp.mpr q];rfl
 ·rw[aZ q,show K.contains j=false by simpa using q];rfl
theorem Jj{v:MV}{l:ah->ag MV}{j k:ah}(h:l j=aa (.ref k)):dH [v] (aa j) l 1=aa (.ref k):=by show ot (l j) (λa=>vX a λk=>aa (MV.ref k))=_;exact eJ h rfl
theorem agK{w n i}{H:af av}{xs:af MV}(h:H[i]?=aa (.tup xs))(ha:allI xs=true):Br w (.int n) (.ref i) H=aa ((xs.findIdx? λx=>decide (x=.int n)).isSome==w):=by
 have e:Yx n (.tup xs)=aa (xs.findIdx? λx=>decide (x=MV.int n)).isSome:=by show(if allI xs=true then _ else none)=_;exact aP ha
 exact sb (lH (eJ h (eJ e rfl)))
theorem Oy{n i j}{H:af av}{xs:af MV}(h:H[i]?=aa (.tup xs))(ha:allI xs=true)(h2:(xs.findIdx? λx=>decide (x=.int n))=aa j):AU [.ref i,.int n] H=aa (.int j,H):=I4 (jd h rfl ((aP ha).trans (eJ h2 rfl)))
theorem ap3(A:af av)(a b c:av):(((A++[a])++[b])++[c])=A++[a,b,c]:=by simp only[bq];rfl
theorem le2(A:af av)(a b:av):((A++[a])++[b]).length=A.length+2:=by simp only[cK];rfl
section
variable{G:af av}{l:ah->ag MV}{sh n M kd lt o j:ah}{rw nl:ah->ah}{kdf figf:ah->aE}{need:ah->af ah}{K last:af ah}{cx:ah->ah}{col:ah->l9}{xs:af MV}
theorem Nn(sns:af aE)(hS:pK G sh n rw nl kdf figf need)(hK:KD G kd K cx col)(h0:l 0=aa (.ref sh))(h1:l 1=aa (.ref M))(h2:l 2=aa (.ref (M+1)))(h5:l 5=aa (.ref o))(h6:l 6=aa (.int (j:ah)))(hj:j<n)(jk:(need j).length<=2)
  (c1:G[M]?=aa (.cell (aa (.ref lt)))) (c2:G[lt]?=aa (.tup (bD last))) (c3:G[M+1]?=aa (.cell (aa (.ref kd)))) (ho:G[o]?=aa (.list xs)) (hxs:xs.length<1000):
  (j∈g8 n need K->∃T t,wy sns ⟨G,l⟩=aa (.next,⟨(G++T).set o (.list (xs++[.ref t])),l⟩)/\(G++T)[t]?=aa (.tup [.int (jr last (need j)),.int (j:ah)])/\G.length<=t)/\
  (j∉g8 n need K->∃T,wy sns ⟨G,l⟩=aa (.next,⟨G++T,l⟩)):=by
 refine dA hK.d λep hd=>?_;have t1:dp (Br false) (au 6) (jK 2) ⟨G,l⟩=aa (!K.contains j,⟨G,l⟩):=by exact cg (aF h6) (mG h2 c3) ((Sa hd).trans (by rw[knD,WR]))
 have TK:∀(p:ah) X,dp (Br false) (au 0) (jK 1) ⟨G++X,dH [.int (p:ah)] (aa 2) l⟩=aa (!K.contains p,⟨G++X,dH [.int (p:ah)] (aa 2) l⟩):=λp X=>cg (aF rfl) (mG (Jj h2) (app c3 X)) ((Sa (app hd X)).trans (by rw[knD,WR]));have inL:∀(p:ah) X,dp (Br true) (au 0) (jK 1) ⟨G++X,dH [.int (p:ah)] (aa 1) l⟩=aa (last.contains p,⟨G++X,dH [.int (p:ah)] (aa 1) l⟩):=λp X=>cg (aF rfl) (mG (Jj h1) (app c1 X)) ((agK (app c2 X) (zG _ _ λ_=>rfl)).trans (by rw[niD,agz]));have ixL:∀(p:ah) X,p∈last->iT 1 AU (jK 1) (aJ (au 0) bG) ⟨G++X,dH [.int (p:ah)] (aa 1) l⟩=aa (.int (last.idxOf p:ah),⟨G++X,dH [.int (p:ah)] (aa 1) l⟩):=λp X hp=>gS (mG (Jj h1) (app c1 X)) (app c2 X) rfl (bB (aF rfl) eG) (Oy (app c2 X) (zG _ _ λ_=>rfl) ((uo _).trans (aP hp)));have ag6:=hS.row;have c5:((cO n).map λi=>MV.ref (rw i))[j]?=aa (.ref (rw j)):=by rw[b9,g7 hj];rfl
 have itn:∀X,rL (fw (fw (au 0) (au 6)) (eK (.int 1))) ⟨G++X,l⟩=aa (((bD (need j)).map lM.val,hU (nl j) (.list (bD (need j)))),⟨G++X,l⟩):=λX=>by
  have z2:tj (.list ((cO n).map λi=>MV.ref (rw i))) (j:ah)=aa (.ref (rw j)):=by show idx ((cO n).map λi=>MV.ref (rw i)) (j:ah)=_;rw[idx,aP (dE _),fY];exact c5
  exact xf (d5 (d5 (aF h0) (aF h6) (gq (app ag6 X) z2)) aT (gq (app (hS.tup j hj) X) rfl)) (app (hS.nd j hj) X) rfl
 have cp1:iS iw (aa 2) (rL (fw (fw (au 0) (au 6)) (eK (.int 1)))) (zY sns) (z0 sns) ⟨G,l⟩=aa (.ref G.length,⟨G++[.list (bD ((need j).filter λp=>!K.contains p))],l⟩):=by have i0:=itn [];rw[kR] at i0;exact w5 i0 (Qm (ft:=zY sns) (fe:=z0 sns) G (λp=>!K.contains p) (λp=> .int (p:ah)) (need j) (λp hp X=>⟨TK p [.list X],λ_=>⟨dH [.int (p:ah)] (aa 2) l,aF rfl⟩⟩) (λX=>wL (app (hS.nd j hj) _) rfl) (aaX jk:))
 have cp2:∀X,iS iw (aa 1) (rL (fw (fw (au 0) (au 6)) (eK (.int 1)))) (tS sns) (tU sns) ⟨G++X,l⟩=aa (.ref (G++X).length,⟨(G++X)++[.list (((need j).filter λp=>last.contains p).map λp=> .int (last.idxOf p:ah))],l⟩):=λX=>by exact w5 (itn X) (Qm (ft:=tS sns) (fe:=tU sns) (G++X) (λp=>last.contains p) (λp=> .int (last.idxOf p:ah)) (need j) (λp hp Y=>⟨by rw[bq];exact inL p _,λhq=>⟨dH [.int (p:ah)] (aa 1) l,by rw[bq];exact ixL p _ (gp.mp hq)⟩⟩) (λY=>by rw[bq];exact wL (app (hS.nd j hj) _) rfl) (aaX jk:))
 have t2:dp (cD true) (iS iw (aa 2) (rL (fw (fw (au 0) (au 6)) (eK (.int 1)))) (zY sns) (z0 sns)) (eList bG) ⟨G,l⟩=aa (((need j).filter λp=>!K.contains p).isEmpty,⟨G++[.list (bD ((need j).filter λp=>!K.contains p)),.list []],l⟩):=by exact(cg cp1 (jq eG rfl) (M7 (l:=((need j).filter λp=>!K.contains p).map λj:ah=>(j:aE)) (by rw[<-CE];exact jj gY) gY)).trans (by rw[bq,List.isEmpty_map];rfl)
 have hc:j∈g8 n need K↔(!K.contains j)=true/\((need j).filter λp=>!K.contains p).isEmpty=true:=by
  rw[ll];simp only[List.isEmpty_iff,Dj];constructor
  ·rintro⟨_,a,b⟩
   exact⟨by simpa using a,λp hp=>by simpa using b p hp⟩
  ·rintro⟨a,b⟩
   exact⟨hj,by simpa using a,λp hp=>by simpa using b p hp⟩
 constructor
 ·intro JS
  refine dQ (hc.mp JS) λq1 q2=>?_;rw[q1] at t1;rw[q2] at t2;generalize hA:(G++[av.list (bD ((need j).filter λp=>!K.contains p)),.list []])=A at t2;have hAG:∃X,A=G++X:=⟨_,hA.symm⟩;refine dA hAG λX hX=>?_;clear hAG;generalize hL:(((need j).filter λp=>last.contains p).map λp=>((last.idxOf p:ah):aE))=L;have hLm:(((need j).filter λp=>last.contains p).map λp=>MV.int (last.idxOf p:ah))=L.map MV.int:=by rw[<-hL,iJ];rfl
  have hLl:L.length<=2:=by rw[<-hL,a8];exact fA (jE _ _) jk
  have e1:bU bL (eList (aJ (s7 (eK (.int 1))) bG)) (iS iw (aa 1) (rL (fw (fw (au 0) (au 6)) (eK (.int 1)))) (tS sns) (tU sns)) ⟨A,l⟩=aa (.ref (A.length+2),⟨A++[.list [.int (-1)],.list (L.map MV.int),.list ((-1::L).map MV.int)],l⟩):=by
   have:=cp2 (X++[.list [.int (-1)]]);rw[<-bq,<-hX,hLm] at this;have V5:1+L.length<=1000:=by exact ai7 hLl
   exact(cF (jq (bB (BZ aT) eG) rfl) this (bLR (jj gY) gY (cA (by rw[a8];exact V5)))).trans (by rw[ap3,le2];rfl)
  have e2:jz (aJ (cJ (iG .Gt) (aJ (bU bL (eList (aJ (s7 (eK (.int 1))) bG)) (iS iw (aa 1) (rL (fw (fw (au 0) (au 6)) (eK (.int 1)))) (tS sns) (tU sns))) bG)) (aJ (au 6) bG)) ⟨A,l⟩=aa (.ref (A.length+3),⟨A++[.list [.int (-1)],.list (L.map MV.int),.list ((-1::L).map MV.int),.tup [.int (jr last (need j)),.int (j:ah)]],l⟩):=by
   have b:bestOf .Gt ((-1::L).map MV.int)=aa (.int (jr last (need j))):=by rw[R4,<-hL];rfl
   have g:(A++[av.list [.int (-1)],.list (L.map MV.int),.list ((-1::L).map MV.int)])[A.length+2]?=aa (.list ((-1::L).map MV.int)):=by simp
   exact(jv (bB (cI (bB e1 eG) (wZ g b)) (bB (aF h6) eG)) rfl).trans (by rw[bq,cK];rfl)
  refine⟨X++[.list [.int (-1)],.list (L.map MV.int),.list ((-1::L).map MV.int),.tup [.int (jr last (need j)),.int (j:ah)]],A.length+3,?_,?_,?_⟩
  ·have hoA:A[o]?=aa (.list xs):=by rw[hX];exact app ho X
   have XS:=app hoA [av.list [MV.int (-1)],av.list (L.map MV.int),av.list ((-1::L).map MV.int),av.tup [MV.int (jr last (need j)),MV.int (j:ah)]];rw[<-bq,<-hX];have e3:iT 0 fx (au 5) (aJ (jz (aJ (cJ (iG .Gt) (aJ (bU bL (eList (aJ (s7 (eK (.int 1))) bG)) (iS iw (aa 1) (rL (fw (fw (au 0) (au 6)) (eK (.int 1)))) (tS sns) (tU sns))) bG)) (aJ (au 6) bG))) bG) ⟨A,l⟩=aa (.none,⟨(A++[av.list [MV.int (-1)],av.list (L.map MV.int),av.list ((-1::L).map MV.int),av.tup [MV.int (jr last (need j)),MV.int (j:ah)]]).set o (av.list (xs++[MV.ref (A.length+3)])),l⟩):=by exact gS (aF h5) hoA rfl (bB e2 eG) (qF XS (cA hxs) rfl)
   exact kB (Fy t1 t2) rfl (gz (ke e3 (fS rfl)))
  ·rw[<-bq,<-hX];simp
  ·rw[hX];simp;exact alE
 ·intro JS
  by_cases q1:(!K.contains j)=true
  ·have q2:((need j).filter λp=>!K.contains p).isEmpty=false:=by
    by_cases q:((need j).filter λp=>!K.contains p).isEmpty=true
    ·exact ej (hc.mpr ⟨q1,q⟩) JS
    ·simpa using q
   rw[q1] at t1;rw[q2] at t2;exact⟨[.list (bD ((need j).filter λp=>!K.contains p)),.list []],iY (Fy t1 t2) rfl (fS rfl)⟩
  ·have q1':(!K.contains j)=false:=by simpa using q1
   rw[q1'] at t1;exact⟨[],by rw[kR];exact iY (cV t1 rfl) rfl (fS rfl)⟩
end
theorem zm(need:ah->af ah)(K:af ah)(j:ah):g8 (j+1) need K=g8 j need K++if j∈g8 (j+1) need K then [j] else []:=by
 have h:j∈g8 (j+1) need K↔(!K.contains j&&(need j).all λp=>K.contains p)=true:=by unfold g8;rw[jy,eP];exact⟨λh=>h.2,λh=>⟨by exact HV,h⟩⟩
 by_cases q:j∈g8 (j+1) need K
 ·rw[aP q]
  unfold g8;rw[kS,oK,qe,aP (h.mp q),PL]
 ·rw[aZ q]
  unfold g8;rw[kS,oK,qe,aZ (λz=>q (h.mpr z)),PL]
theorem FA{need:ah->af ah}{K:af ah}{j n:ah}(h:j<n):j∈g8 (j+1) need K↔j∈g8 n need K:=by rw[ll,ll];exact⟨λ⟨_,b⟩=>⟨h,b⟩,λ⟨_,b⟩=>⟨by exact HV,b⟩⟩
section
variable{G:af av}{l:ah->ag MV}{sh n M kd lt:ah}{rw nl:ah->ah}{kdf figf:ah->aE}{need:ah->af ah}{K last:af ah}{cx:ah->ah}{col:ah->l9}
theorem Ju(sns:af aE)(hS:pK G sh n rw nl kdf figf need)(hK:KD G kd K cx col)(h0:l 0=aa (.ref sh))(h1:l 1=aa (.ref M))(h2:l 2=aa (.ref (M+1)))(h5:l 5=aa (.ref G.length))(jk:∀j,(need j).length<=2)(hn:n<=9)
  (c1:G[M]?=aa (.cell (aa (.ref lt)))) (c2:G[lt]?=aa (.tup (bD last))) (c3:G[M+1]?=aa (.cell (aa (.ref kd)))):
  ∃(bZ:St)(tx:ah->ah),ph (λ_=>true) 6 (wy sns) (hY n) ⟨G++[.list []],l⟩=aa (.next,bZ)/\(∀k,k<G.length->bZ.H[k]?=G[k]?)/\G.length<bZ.H.length/\(∀k,k≠6->bZ.l k=l k)/\bZ.H[G.length]?=aa (.list ((g8 n need K).map λs=> .ref (tx s)))/\
   ∀s∈g8 n need K,bZ.H[tx s]?=aa (.tup [.int (jr last (need s)),.int (s:ah)]):=by
 obtain⟨bZ,e1,e2⟩:=kC (chk:=λ_=>true) (i:=6) (body:=wy sns)
  (λj st=>(∀k,k<G.length->st.H[k]?=G[k]?)/\G.length<st.H.length/\(∀k,k≠6->st.l k=l k)/\∃tx,st.H[G.length]?=aa (.list ((g8 j need K).map λs=> .ref (tx s)))/\∀s∈g8 j need K,st.H[tx s]?=aa (.tup [.int (jr last (need s)),.int (s:ah)])) (hY n) 0 ⟨G++[.list []],l⟩
  ⟨λk hk=>aA hk,by simp,λ_ _=>rfl,λ_=>0,by simp[g8],λs hs=>by simp[g8] at hs⟩ (λj yy st hj hI=>by
   refine dQ (lU hj) λcP rj=>?_;subst cP;refine oS hI λa1 a2 a3 eX=>?_;clear hI;refine cv eX λtx a4 a5=>?_;clear eX;rw[cw] at a4 a5;obtain⟨G',l'⟩:=st;simp only at a1 a2 a3 a4 a5;have old:∀{k:ah}{o:av},G[k]?=aa o->G'[k]?=aa o:=λ{k o} h=>(a1 k (gM h)).trans h;have Qx:pK G' sh n rw nl kdf figf need:=hS.keep λk xs h=>a1 k (h.elim (λh=>(gM h)) λh=>(gM h));have hK':KD G' kd K cx col:=hK.keep (let⟨ep,hd⟩:=hK.d;a1 kd (gM hd)) λi hi=>a1 _ (gM (hK.c i hi));have hcl:(g8 j need K).length<=j:=by have:=jE (λs=>!K.contains s&&(need s).all λp=>K.contains p) (cO j);simpa[g8] using this
   refine dQ (Nn (l:=bV l' 6 (.int (j:ah))) sns Qx hK' (by simp[bV,a3,h0]) (by simp[bV,a3,h1]) (by simp[bV,a3,h2]) (by simp[bV,a3,h5]) rfl rj (jk j) (old c1) (old c2) (old c3) a4 (by simp;exact alj hn rj hcl)) λr1 r2=>?_;refine⟨rfl,?_⟩;have lk:∀k,k≠6->bV l' 6 (.int (j:ah)) k=l k:=λk hk=>by simp[bV,hk,a3 k hk]
   by_cases q:j∈g8 n need K
   ·refine eu (r1 q) λT t b1 b2 b3=>?_
    have N3:∀k,k≠G.length->((G'++T).set G.length (.list ((g8 j need K).map (λs=>MV.ref (tx s))++[MV.ref t])))[k]?=(G'++T)[k]?:=λk hk=>aC hk.symm;have cs:=zm need K j;rw[aP ((FA rj).mpr q)] at cs;refine⟨_,.next,b1,.inl rfl,λk hk=>?_,?_,lk,λs=>if s=j then t else tx s,?_,λs hs=>?_⟩
    ·show((G'++T).set _ _)[k]?=_
     rw[N3 k (Eu hk:),aA (H8 a2 hk:)];exact a1 k hk
    ·show _<((G'++T).set _ _).length
     simp;exact Ez a2
    ·show((G'++T).set _ _)[_]?=_
     rw[bh (by simp;exact Ez a2),show 0+j+1=j+1 by exact pV,cs,d4];congr 2;congr 1
     ·apply kJ
      intro s hs;have:s≠j:=by have:=(ll.mp hs).1;exact Eu this
      simp only[aZ this]
     ·simp
    ·rw[show 0+j+1=j+1 by exact pV,cs] at hs
     show((G'++T).set _ _)[_]?=_;by_cases e:s=j
     ·subst e
      simp only[kU];rw[N3 t (alc a2 b3:)];exact b2
     ·simp only[aZ e]
      have yc:s∈g8 j need K:=by simpa[e] using hs
      have:=a5 s yc;rw[N3 _ (λz=>by rw[z,a4] at this;cases this)];exact app this T
   ·obtain⟨T,b1⟩:=r2 q
    have cs:=zm need K j;rw[aZ (λz=>q ((FA rj).mp z)),kR] at cs;refine⟨_,.next,b1,.inl rfl,λk hk=>?_,?_,lk,tx,?_,λs hs=>?_⟩
    ·show(G'++T)[k]?=_
     rw[aA (H8 a2 hk:)];exact a1 k hk
    ·show _<(G'++T).length
     simp;exact Ez a2
    ·rw[show 0+j+1=j+1 by exact pV,cs];exact app a4 T
    ·rw[show 0+j+1=j+1 by exact pV,cs] at hs;exact app (a5 s hs) T) (λ_ _=>rfl)
 obtain⟨a1,a2,a3,tx,a4,a5⟩:=e2;rw[cw,lV] at a4 a5;exact⟨bZ,tx,e1,a1,a2,a3,a4,a5⟩
theorem Ij{H:af av}{i:ah}{tx:ah->ah}(hn:n<=9)(h1:H[i]?=aa (.list ((g8 n need K).map λs=> .ref (tx s))))(h2:∀s∈g8 n need K,H[tx s]?=aa (.tup [.int (jr last (need s)),.int (s:ah)]))(rK:g8 n need K≠[]):
  pO [.ref i] H=aa (.ref H.length,H++[.list ((kE n need K last).map λs=> .ref (tx s))]):=by
 have eY:∀s∈g8 n need K,s<n:=λs hs=>(ll.mp hs).1;have hr:∀(c:af ah),(∀s∈c,H[tx s]?=aa (.tup [.int (jr last (need s)),.int (s:ah)]))->(∀s∈c,s<n)->LJ H (c.map λs=> .ref (tx s))=aa (c.map (key need last)):=by
  intro c
  induction c with
  |nil=>intro _ _;rfl
  |cons s c ih=>
   intro q1 q2;have e:xy H (.ref (tx s))=aa (key need last s):=by
    have hs:((s:ah):aE)<1000:=by have:=q2 s (.head _);exact akk hn this
    exact lH (jd (q1 s (.head _)) rfl (cV (show l2 [MV.int (jr last (need s)),.int (s:ah)]=aa (_,_) from rfl) (sb (sb (aP ⟨dE _,hs⟩)))))
   exact eJ e (eJ (ih (λx hx=>q1 x (.tail _ hx)) λx hx=>q2 x (.tail _ hx)) rfl)
 have m9:((g8 n need K).map (key need last)).Nodup:=by rw[af7,lK];refine m7 (λ{a b} ha hb h=>?_) (pL (n:=n) (need:=need) K);have:=eY a ha;have:=eY b hb;unfold key;lia
 have hl:(g8 n need K).length<64:=by
  have:=jE (λs=>!K.contains s&&(need s).all λp=>K.contains p) (cO n);have h3:(g8 n need K).length<=n:=by simpa[g8] using this
  exact akm hn h3
 have hp:0<(g8 n need K).length:=nU.mpr rK;have hs:sortBy ((g8 n need K).map (key need last)) ((g8 n need K).map λs=> .ref (tx s))=(kE n need K last).map λs=> .ref (tx s):=by unfold sortBy kE;rw[List.zip_map',<-List.map_mergeSort (r:=λx y=>decide (key need last x<=key need last y)) (λa _ b _=>rfl),iJ];rfl
 exact yp (jd h1 rfl (eJ (hr _ h2 eY) ((aP ⟨cM m9,by rw[a8];exact hp,by rw[a8];exact hl⟩).trans (by rw[hs]))))
end
set_option genInjectivity false in structure RW(n:ah)(need:ah->af ah)(s:RS):Prop where
 cl:∀k∈s.K,k<n/\∀p∈need k,p∈s.K
 nd:s.K.Nodup
 rk:s.rounds.length<=s.K.length
 inR:∀p∈s.K,(s.col p).inR
set_option genInjectivity false in structure DW(H1:af av)(sh:ah)(H:af av)(l:ah->ag MV)(s:RS):Prop where
 l0:l 0=aa (.ref sh)
 l1:l 1=aa (.ref H1.length)
 l2:l 2=aa (.ref (H1.length+1))
 l3:l 3=aa (.ref (H1.length+3))
 c1:∃lt,H[H1.length]?=aa (.cell (aa (.ref lt)))/\H1.length+4<=lt/\H[lt]?=aa (.tup (bD s.last))
 c2:H[H1.length+1]?=aa (.cell (aa (.ref (H1.length+2))))
 rx:RX H (H1.length+4) (H1.length+3) s.rounds
 kx:KX H (H1.length+4) (H1.length+2) s.K s.col
 keep:∀k,k<H1.length->H[k]?=H1[k]?
 len:H1.length+4<=H.length
section
variable{H1 H:af av}{l:ah->ag MV}{sh n:ah}{rw nl:ah->ah}{kdf figf:ah->aE}{need:ah->af ah}{s:RS}
theorem RW.le(W:RW n need s):s.K.length<=n:=lj W.nd λx hx=>(W.cl x hx).1
theorem DW.mono{H':af av}{l':ah->ag MV}(D:DW H1 sh H l s)(hl:∀k,k<4->l' k=l k)(hk:∀k,k<H.length->H'[k]?=H[k]?)(hlen:H.length<=H'.length):DW H1 sh H' l' s:=by have hln:=D.len;have g:∀{k:ah}{o:av},H[k]?=aa o->H'[k]?=aa o:=λ{k o} h=>(hk k (gM h)).trans h;refine js D.c1 λlt a1 a2 a3=>?_;exact⟨(hl 0 (by decide)).trans D.l0,(hl 1 (by decide)).trans D.l1,(hl 2 (by decide)).trans D.l2,(hl 3 (by decide)).trans D.l3,⟨lt,g a1,a2,g a3⟩,g D.c2,D.rx.keep (hk _ (acd hln:)) λt xs _ h=>g h,D.kx.keep (hk _ (UK hln:)) λk o _ h=>g h,λk MB=>(hk k (UU hln MB:)).trans (D.keep k MB),by exact al4 hlen hln⟩
theorem RW.add(hn:n<=1000)(W:RW n need s)(rK:kE n need s.K s.last≠[])(hR:∀p∈(s.add kdf figf need (kE n need s.K s.last)).K,((s.add kdf figf need (kE n need s.K s.last)).col p).inR):RW n need (s.add kdf figf need (kE n need s.K s.last)):=by
 have hx:=nK (n:=n) (need:=need) hn s.K s.last;refine⟨λk hk=>?_,?_,?_,hR⟩
 ·rcases bK.mp hk with q|q
  ·exact⟨(W.cl k q).1,λp hp=>aI _ ((W.cl k q).2 p hp)⟩
  ·refine fD (hx.mem.mp q) λh1 h2 h3=>?_
   exact⟨h1,λp hp=>aI _ (h3 p hp)⟩
 ·show(s.K++kE n need s.K s.last).Nodup
  rw[gN];exact⟨W.nd,hx.nodup,λx rY y hy e=>(hx.mem.mp hy).2.1 (e▸rY)⟩
 ·show(s.rounds++[_]).length<=(s.K++_).length
  have:=W.rk;have:=nU.mpr rK;simp only[cK,EV];exact aef (by assumption) this
noncomputable def Jt(H:af av):MV->MV
 |.ref t=>match H[t]? with
  |some (.tup [_,x])=>x
  |_=> .none
 |_=> .none
theorem Jv(sns:af aE)(hS:pK H1 sh n rw nl kdf figf need)(hn:n<=9)(jk:∀j,(need j).length<=2)(sD:∀j,Shape (kdf j) (figf j) (need j))(D:DW H1 sh H l s)(W:RW n need s):
  ∃H' l',Aa sns ⟨H,l⟩=aa (.next,⟨H',l'⟩)/\DW H1 sh H' l' (s.step kdf figf need n)/\RW n need (s.step kdf figf need n):=by
 refine js D.c1 λlt d1 d2 d3=>?_;refine cv D.kx λcx Yl kd2=>?_;have hlen:=D.len;have afc:∀{X:af av},(∀k,k<H1.length->X[k]?=H1[k]?)->pK X sh n rw nl kdf figf need:=λ{X} h=>hS.keep λk xs q=>h k (q.elim (λq=>(gM q)) λq=>(gM q));have hSH:=afc D.keep;refine OT (Ju (l:=bV l 5 (.ref H.length)) sns hSH Yl (by first|rfl|exact D.l0|repeat' first|(with_reducible first|(show _=_;assumption)|apply D.l0|apply er|apply kg)|rfl) (by first|rfl|exact D.l1|repeat' first|(with_reducible first|(show _=_;assumption)|apply D.l1|apply er|apply kg)|rfl) (by first|rfl|exact D.l2|repeat' first|(with_reducible first|(show _=_;assumption)|apply D.l2|apply er|apply kg)|rfl) rfl jk hn d1 d3 D.c2) λst tx e1 e2 e3 e4 e5 e6=>?_;obtain⟨A,l'⟩:=st;simp only at e2 e3 e4 e5 e6;have m5:l' 5=aa (.ref H.length):=(e4 5 (by decide)).trans rfl;have lk:∀k,k<4->l' k=l k:=λk hk=>(e4 k (ai1 hk:)).trans (aZ λq=>ej (q▸hk) (by decide));have NZ:((n:ah):aE)<=1000:=by exact UB hn
 have row:=hSH.row;have it1:mI (cJ jc (aJ (au 0) bG)) ⟨H++[.list []],bV l 5 (.ref H.length)⟩=aa ((hY n,λ_=>true),⟨H++[.list []],bV l 5 (.ref H.length)⟩):=by
  have q:=cI (bB (aF (l:=bV l 5 (.ref H.length)) (by first|rfl|exact D.l0|repeat' first|(with_reducible first|(show _=_;assumption)|apply D.l0|apply er|apply kg)|rfl)) eG) (tw (app row [.list []]))
  rw[a8,fq] at q;exact ue q ⟨dE _,NZ⟩
 have cmp:dp (cD false) (au 5) (eList bG) ⟨A,l'⟩=aa (!(g8 n need s.K).isEmpty,⟨A++[.list []],l'⟩):=by have:=Ji (H:=A++[.list []]) (i:=H.length) (j:=A.length) (f:=tx) (a:=λx=>jr s.last (need x)) (b:=λx=>(x:ah)) (app e5 _) (λx hx=>app (e6 x hx) _) gY;exact cg (aF m5) (jq eG rfl) this
 have start:Aa sns ⟨H,l⟩=aO (je (dp (cD false) (au 5) (eList bG)) (aO (mw 1 (cJ uk (aJ (iS (mh 2) none (rL (cJ pO (aJ (au 5) bG))) kH (z9 sns)) bG))) (aO (kF (iT 0 fx (au 3) (aJ (jK 1) bG))) (aO (mT 6 (rL (jK 1)) (Dt sns)) bF))) bF) bF ⟨A,l'⟩:=by exact fO (jq eG rfl) (vg it1 e1 rfl)
 rw[start];by_cases hc:g8 n need s.K=[]
 ·have N0:kE n need s.K s.last=[]:=by unfold kE;rw[hc];simp
  have ql:s.step kdf figf need n=s:=by unfold RS.step;rw[aP N0]
  rw[hc] at cmp;rw[ql];refine⟨A++[.list []],l',iY cmp rfl rfl,D.mono lk (λk hk=>?_) (by simp;exact ajY e3),W⟩;rw[aA (H8 e3 hk:)];exact e2 k hk
 ·have hx:=nK (n:=n) (need:=need) (vq hn:) s.K s.last
  have N0:kE n need s.K s.last≠[]:=λq=>hc (by have:=hx.1;rw[q] at this;exact this.symm.eq_nil);have ql:s.step kdf figf need n=s.add kdf figf need (kE n need s.K s.last):=by unfold RS.step;rw[aZ N0]
  rw[ql];have hce:(!(g8 n need s.K).isEmpty)=true:=by simpa using hc
  rw[hce] at cmp;generalize hr:kE n need s.K s.last=r at *;generalize rW:A++[av.list []]=A1 at *;have a1:∀{k:ah}{o:av},A[k]?=aa o->A1[k]?=aa o:=λh=>Hp rW h;have A1l:A1.length=A.length+1:=vU rW;have so:pO [.ref H.length] A1=aa (.ref A1.length,A1++[.list (r.map λs=> .ref (tx s))]):=by rw[<-hr];exact Ij hn (a1 e5) (λx hx=>a1 (e6 x hx)) hc
  have rc:∀x∈r,x∈g8 n need s.K:=λx rY=>hx.1.subset rY;have itS:rL (cJ pO (aJ (au 5) bG)) ⟨A1,l'⟩=aa (((r.map λs=>MV.ref (tx s)).map lM.val,hU A1.length (.list (r.map λs=> .ref (tx s)))),⟨A1++[.list (r.map λs=> .ref (tx s))],l'⟩):=by exact xf (cI (bB (aF m5) eG) so) gY rfl
  generalize hA2:A1++[av.list (r.map λs=> .ref (tx s))]=A2 at *;have VT:A2.length=A.length+2:=(vU hA2).trans (bI (· +1) A1l);have a2:∀{k:ah}{o:av},A[k]?=aa o->A2[k]?=aa o:=λh=>Hp hA2 (a1 h);have uh:r.length<=9:=by have:=lj (n:=n) hx.nodup λx rY=>(hx.mem.mp rY).1;exact alB hn this
  have hm:((r.map λs=>MV.ref (tx s)).filter λ_=>true).map (Jt A2)=bD r:=by
   rw[sO.mpr (λ_ _=>rfl),iJ];apply kJ;intro x rY;unfold Jt Function.comp
   dsimp only
   rw[a2 (e6 x (rc x rY))]
  have cq:=sr (chk:=hU A1.length (.list (r.map λs=> .ref (tx s)))) (tf:=mh 2) (cap:=none) (l:=l') (ft:=kH) (fe:=z9 sns) A2 (λ_=>true) (Jt A2) (r.map λs=>MV.ref (tx s)) (λv hv xs=>by
    refine cv (aU.mp hv) λx rY e=>?_;subst e;have q:=a2 (e6 x (rc x rY));have qd:Jt A2 (.ref (tx x))=.int (x:ah):=by unfold Jt;dsimp only;rw[q]
    exact⟨_,w6 (jj q) rfl,rfl,λ_=>⟨_,by rw[qd];exact aF rfl⟩⟩)
    (λxs=>kc.mpr (jj (D3 hA2))) (by rw[a8];exact vq uh)
  rw[hm] at cq;have cp:=w5 itS cq;have tp:cJ uk (aJ (iS (mh 2) none (rL (cJ pO (aJ (au 5) bG))) kH (z9 sns)) bG) ⟨A1,l'⟩=aa (.ref (A2.length+1),⟨A2++[.list (bD r),.tup (bD r)],l'⟩):=by have q:=cI (bB cp eG) (QO gY);rw[bq,cK] at q;exact q
  generalize hA4:A2++[av.list (bD r),av.tup (bD r)]=A4 at *;have A4l:A4.length=A.length+4:=(NM hA4).trans (bI (· +2) VT);have a4:∀{k:ah}{o:av},A[k]?=aa o->A4[k]?=aa o:=λh=>Hp hA4 (a2 h);have ON:∀k,k<H.length->A4[k]?=H[k]?:=λk hk=>by have h1:A[k]?=aa (A[k]'(H8 e3 hk:)):=ao (H8 e3 hk:);rw[a4 h1,<-h1];exact e2 k hk
  have aoV:A4[A2.length+1]?=aa (.tup (bD r)):=S4 hA4;generalize hA5:A4.set H1.length (.cell (aa (.ref (A2.length+1))))=A5 at *;have n5:∀k,k≠H1.length->A5[k]?=A4[k]?:=λk hk=>fC hA5 hk;have A5l:A5.length=A.length+4:=(nG hA5).trans A4l;have c1':l' 1=aa (.ref H1.length):=(lk 1 (by decide)).trans D.l1;have c1q:A4[H1.length]?=aa (.cell (aa (.ref lt))):=(ON _ (ajO hlen:)).trans d1;refine js D.rx λrx r1 r2 r3=>?_;have Qk:A5[H1.length]?=aa (.cell (aa (.ref (A2.length+1)))):=rp hA5 (al5 hlen e3 A4l:);have rx5:A5[H1.length+3]?=aa (.list (rx.map MV.ref)):=(n5 _ (aa0:)).trans ((ON _ (acd hlen:)).trans r1);have rxl:rx.length<1000:=by have:=W.rk;have:=W.le;exact alT hn r2 (by assumption) this
  have afm:A5[A2.length+1]?=aa (.tup (bD r)):=(n5 _ (ame hlen e3 VT:)).trans aoV;have q3:l' 3=aa (.ref (H1.length+3)):=(lk 3 (by decide)).trans D.l3;have NN:lZ (rx.map MV.ref).length 1000=true:=by rw[a8];exact cA rxl
  have RX6:RX (A5.set (H1.length+3) (.list (rx.map MV.ref++[.ref (A2.length+1)]))) (H1.length+4) (H1.length+3) (s.rounds++[r]):=RX.push rx5 r2 (λi t r' q1 q2=>by refine dQ (r3 i t r' q1 q2) λz1 z2=>?_;exact⟨z1,(n5 t (Ew z1:)).trans ((ON t (gM z2)).trans z2)⟩) (aen hlen e3 VT:) afm
  generalize hA6:A5.set (H1.length+3) (av.list (rx.map MV.ref++[MV.ref (A2.length+1)]))=A6 at *;have n6:∀k,k≠H1.length+3->A6[k]?=A5[k]?:=λk hk=>fC hA6 hk;have VU:A6.length=A.length+4:=(nG hA6).trans A5l;have OO:∀k,k<H.length->k≠H1.length->k≠H1.length+3->A6[k]?=H[k]?:=λk hk q1 q2=>((n6 k q2).trans (n5 k q1)).trans (ON k hk);have KD6:KD A6 (H1.length+2) s.K cx s.col:=Yl.keep (OO _ (UK hlen:) (aaZ:) (UE:)) λi hi=>OO _ (gM (Yl.c i hi)) (by have:=kd2 i hi;exact Ew this) (by have:=kd2 i hi;exact Ex this);have Vz:A6[A2.length+1]?=aa (.tup (bD r)):=(n6 _ (alP hlen e3 VT:)).trans afm;have Ql:A6[H1.length]?=aa (.cell (aa (.ref (A2.length+1)))):=(n6 _ (O2:)).trans Qk;have Jk:A6[H1.length+1]?=aa (.cell (aa (.ref (H1.length+2)))):=(OO _ (ajK hlen:) (UC:) (UD:)).trans D.c2;have sh6:∀k,k<H1.length->A6[k]?=H1[k]?:=λk hk=>(OO k (UU hlen hk:) (Eu hk:) (A3 hk:)).trans (D.keep k hk);have hKr:s.K.length+r.length<=999:=by have:=W.le;exact aly hn uh this
  refine YM (B3 (kdf:=kdf) (figf:=figf) (need:=need) (body:=Dt sns) (i:=6) (l:=l') KD6 Vz hx.nodup (λj hj=>(hx.mem.mp hj).2.1) (λj hj=>(hx.mem.mp hj).2.2) W.inR hKr (λj _=>sD j)
   (λG m' m8 cx c j ep hj q1 q2 q3 q4 q5 q6 q7 q8=>by
    have rj:=(hx.mem.mp hj).1;have shG:∀k,k<H1.length->G[k]?=H1[k]?:=λk hk=>by have ho:A6[k]?=aa (A6[k]'(O8 hlen e3 VU hk:)):=ao (O8 hlen e3 VU hk:);rw[<-sh6 k hk,q1 k _ ho (A3 hk:),ho]
    have SW:=afc shG;obtain⟨yy,T,b1,b2,b3⟩:=L6 sns (SW.tup j rj) (SW.nd j rj) q3 (sD j) (λp hp=>q4 p ((hx.mem.mp hj).2.2 p hp));refine⟨yy,T,b2,b3,?_⟩;have c0:bV m' 6 (.int (j:ah)) 0=aa (.ref sh):=by simp[bV];exact((q2 0 (by decide)).trans (lk 0 (by decide))).trans D.l0
    have c2:bV m' 6 (.int (j:ah)) 2=aa (.ref (H1.length+1)):=by simp[bV];exact((q2 2 (by decide)).trans (lk 2 (by decide))).trans D.l2
    have c6:bV m' 6 (.int (j:ah)) 6=aa (.int (j:ah)):=rfl;have ck:G[H1.length+1]?=aa (.cell (aa (.ref (H1.length+2)))):=q1 _ _ Jk (O0:);have c5:((cO n).map λi=>MV.ref (rw i))[j]?=aa (.ref (rw j)):=by rw[b9,g7 rj];rfl
    have c7:idx ((cO n).map λi=>MV.ref (rw i)) (j:ah)=aa (.ref (rw j)):=by simp only[idx,dE,kU,fY,c5]
    have q6':=app q6 T;have ck':=app ck T;have q7':(Ko m8 cx).length<1000:=by simpa using q7
    exact(DT (cI (bB (d5 (aF c0) (aF c6) (gq SW.row c7)) (bB (mG c2 ck) eG)) b1) (mG c2 ck') (aF c6) (CS q6' (cA q7') rfl) rfl).trans (by rw[ub,F3 q8];rfl))) λst7 cx7 f1 f2 f3 f4 f5 f6 f7 f8=>?_
  obtain⟨A7,l7⟩:=st7;simp only at f1 f2 f5 f6 f7 f8;have n7:∀{k:ah}{o:av},A6[k]?=aa o->k≠H1.length+2->A7[k]?=aa o:=λ{k o} h q=>f5 k o h q;refine⟨A7,l7,?_,?_,?_⟩
  ·exact kB cmp rfl (gz (wV tp c1' c1q hA5 (gz (ke (gS (aF q3) rx5 rfl (bB (mG c1' Qk) eG) (qF rx5 NN hA6)) (gz (vg (xf (mG c1' Ql) Vz rfl) f1 rfl))))))
  ·refine⟨(f6 0 (by decide)).trans ((lk 0 (by decide)).trans D.l0),(f6 1 (by decide)).trans ((lk 1 (by decide)).trans D.l1),(f6 2 (by decide)).trans ((lk 2 (by decide)).trans D.l2),(f6 3 (by decide)).trans ((lk 3 (by decide)).trans D.l3),⟨A2.length+1,n7 Ql (O1:),by exact aen hlen e3 VT,n7 Vz (amf hlen e3 VT:)⟩,n7 Jk (O0:),?_,⟨cx7,f2,λi hi=>?_⟩,λk hk=>?_,by exact aeo hlen e3 VU f8⟩
   ·refine js RX6 λx z1 z2 z3=>?_;clear RX6
    exact⟨x,n7 z1 (aa2:),z2,λi t r' q1 q2=>⟨(z3 i t r' q1 q2).1,n7 (z3 i t r' q1 q2).2 (by have:=(z3 i t r' q1 q2).1;exact UL this)⟩⟩
   ·rcases bK.mp hi with q|q
    ·rw[f3 i q];exact kd2 i q
    ·have:=f4 i q;exact aeo hlen e3 VU this
   ·have ho:A6[k]?=aa (A6[k]'(O8 hlen e3 VU hk:)):=ao (O8 hlen e3 VU hk:)
    rw[n7 ho (A3 hk:),<-ho];exact sh6 k hk
  ·have:=RW.add (kdf:=kdf) (figf:=figf) (vq hn:) W (by rw[hr];exact N0)
   rw[hr] at this;exact this f7
end
end fG
namespace fG
open PySem PySem.W
section
variable{H1 H:af av}{l:ah->ag MV}{sh n:ah}{rw nl:ah->ah}{kdf figf:ah->aE}{need:ah->af ah}{s:RS}
theorem ga(X:af av)(k:ah):(H++X)[H.length+k]?=X[k]?:=by rw[aY (d8 _ _),gR]
theorem sa(X:af av)(k:ah)(o:av):(H++X).set (H.length+k) o=H++X.set k o:=by rw[rD _ _ (d8 _ _),gR]
theorem Sl(sns:af aE)(hS:pK H sh n rw nl kdf figf need)(hn:n<=9)(jk:∀j,(need j).length<=2)(sD:∀j,Shape (kdf j) (figf j) (need j)):
  ∃H' l' t,zd sns [.ref sh] H=aa (.ref t,H')/\H'[t]?=aa (.tup [.ref (H.length+2),.ref (H.length+3)])/\DW H sh H' l' (RS.init.iter kdf figf need n n)/\RW n need (RS.init.iter kdf figf need n n):=by
 have row:=hS.row;have NZ:((n:ah):aE)<=1000:=by exact UB hn
 have D0:DW H sh (H++[.cell (aa (.ref (H.length+4))),.cell (aa (.ref (H.length+2))),.dict [] 0,.list [],.tup []]) (bV (λi=>if i<1 then [MV.ref sh][i]? else if i=1 then aa (MV.ref H.length) else if i=2 then aa (MV.ref (H.length+1)) else none) 3 (.ref (H.length+3))) RS.init:=by refine⟨rfl,rfl,rfl,rfl,⟨H.length+4,by simp,by exact akC,by simp[RS.init]⟩,by simp,⟨[],by simp,rfl,λi t r q=>by simp at q⟩,⟨λ_=>0,⟨⟨0,by simp[RS.init]⟩,λi hi=>(nomatch hi)⟩,λi hi=>(nomatch hi)⟩,λk hk=>aA hk,by simp⟩
 have W0:RW n need RS.init:=⟨λk hk=>(nomatch hk),eB,cL _,λk hk=>(nomatch hk)⟩;refine js (kC (chk:=λ_=>true) (i:=4) (body:=Aa sns)
  (λk st=>DW H sh st.H st.l (RS.init.iter kdf figf need n k)/\RW n need (RS.init.iter kdf figf need n k)) (hY n) 0 ⟨H++[.cell (aa (.ref (H.length+4))),.cell (aa (.ref (H.length+2))),.dict [] 0,.list [],.tup []],bV (λi=>if i<1 then [MV.ref sh][i]? else if i=1 then aa (MV.ref H.length) else if i=2 then aa (MV.ref (H.length+1)) else none) 3 (.ref (H.length+3))⟩ ⟨D0,W0⟩ (λj yy st hj hI=>by
   obtain⟨rfl,rj⟩:=lU hj;obtain⟨a1,a2⟩:=hI;rw[cw] at a1 a2;obtain⟨G,m⟩:=st;simp only at a1;have a1':DW H sh G (bV m 4 (.int (j:ah))) (RS.init.iter kdf figf need n j):=a1.mono (λk hk=>by simp[bV];lia) (λ_ _=>rfl) (cL _);obtain⟨G',m',b1,b2,b3⟩:=Jv sns hS hn jk sD a1' a2;have hi:RS.init.iter kdf figf need n (0+j+1)=(RS.init.iter kdf figf need n j).step kdf figf need n:=by rw[cw,Ci];rfl
   refine⟨rfl,⟨G',m'⟩,.next,b1,.inl rfl,?_,?_⟩
   ·rw[hi];exact b2
   ·rw[hi];exact b3) (λ_ _=>rfl)) λbZ e1 e2 e3=>?_
 rw[cw,lV] at e2 e3;obtain⟨A,m⟩:=bZ;simp only at e2;have hA:=e2.len;refine⟨A++[.tup [.ref (H.length+2),.ref (H.length+3)]],m,A.length,?_,by simp,e2.mono (λ_ _=>rfl) (λk hk=>aA hk) (by simp),e3⟩;have m2:=e2.l2;have m3:=e2.l3;have mc:=e2.c2;have hm:∀X:af av,jc [.ref sh] (H++X)=aa (.int (n:ah),H++X):=λX=>by rw[tw (app row X),a8,fq]
 have f1:∀l,sv ⟨H++[.cell none,.cell none],l⟩=aa (.ref (H.length+2),⟨H++[.cell none,.cell none,.dict [] 0],l⟩):=λl=>eD0.trans (by rw[bq,cK];rfl);have f2:∀l a b c,eList bG ⟨H++[a,b,c],l⟩=aa (.ref (H.length+3),⟨H++[a,b,c,.list []],l⟩):=λl a b c=>(jq eG rfl).trans (by rw[bq,cK];rfl);have f3:∀l a b c d,jz bG ⟨H++[a,b,c,d],l⟩=aa (.ref (H.length+4),⟨H++[a,b,c,d,.tup []],l⟩):=λl a b c d=>(jv eG rfl).trans (by rw[bq,cK];rfl);refine B2 rfl (l1:=m) ?_;delta IV;exact wV (f1 _) rfl (ga _ 1) (sa _ 1 _) (fO (f2 _ _ _ _) (wV (f3 _ _ _ _ _) rfl (ga _ 0) (sa _ 0 _) (vg (ue (cI (bB (aF rfl) eG) (hm _)) ⟨dE _,NZ⟩) e1 (fR (jv (bB (mG m2 mc) (bB (aF m3) eG)) rfl)))))
theorem zO(W:RW n need s)(apa:∀i,i<s.rounds.length->True)(ag4:∀C:af ah,(∀c∈C,c<n/\∃p∈C,p∈need c)->∀c∈C,c∉s.K)(h:Ring (iz n need) n):s.K.length<n:=by
 refine cv h λC rK hC=>?_;clear h;refine dA (List.exists_mem_of_ne_nil C rK) λc hc=>?_;have Tr:=ag4 C (λc hc=>⟨(hC c hc).1,let⟨p,hp,hq⟩:=(hC c hc).2;⟨p,hp,(lp.mp hq).2⟩⟩) c hc;have:=lj (n:=n) (seen:=c::s.K) (cQ.mpr ⟨Tr,W.nd⟩) λx hx=>by
  rcases bE.mp hx with rfl|q
  ·exact(hC x hc).1
  ·exact(W.cl x q).1
 simp at this;exact Et this
theorem xi{C:af ah}(hn:n<=1000)(hC:∀c∈C,c<n/\∃p∈C,p∈need c):∀(k:ah)(s:RS),(∀c∈C,c∉s.K)->∀c∈C,c∉(s.iter kdf figf need n k).K
 |0,s,h=>h
 |k+1,s,h=>by
  refine xi hn hC k (s.step kdf figf need n) λc hc=>?_;unfold RS.step;split
  ·exact h c hc
  ·intro q
   rcases bK.mp q with q|q
   ·exact h c hc q
   ·refine cv ((hC c hc).2) λp hp hq=>?_
    exact h p hp (((nK hn s.K s.last).mem.mp q).2.2 p hq)
theorem zH(W:RW n need s)(hn:n<=1000)(jk:∀j,j<n->∀p∈need j,p<n)(hx:kE n need s.K s.last=[]){fin:af ah}(lO:∀i,i<n->i∈fin)(ho:qp (iz n need) fin):s.K.length=n:=by
 have key:∀(m:ah)(a b:af ah),a.length=m->fin=a++b->∀u,u<n->u∉b->u∈s.K:=by
  intro m
  induction m with
  |zero=>intro a b ha hf u hu hb;have:a=[]:=xV ha;subst this;rw[yh] at hf;exact ej (hf▸lO u hu) hb
  |succ m ih=>
   intro a b ha hf u hu hb;obtain⟨a',x,rfl⟩:∃a' x,a=a'++[x]:=⟨a.dropLast,a.getLast (by intro q;rw[q] at ha;simp at ha),(List.dropLast_concat_getLast _).symm⟩;rw[bq,List.singleton_append] at hf;have QH:=ih a' (x::b) (by simpa using ha) hf;by_cases e:u=x
   ·subst e
    have hp:∀p∈need u,p∈s.K:=λp hp=>by
     refine QH p (jk u hu p hp) λq=>?_;have hus:u∈iz n need p:=lp.mpr ⟨hu,hp⟩;refine aid (List.append_of_mem q) λc d Cd=>?_;have hd:u∈d:=ho (a'++c) p d (by rw[hf,Cd,bq]) u hus;cases c with
     |nil=>rw[yh] at Cd;cases Cd;exact hb hd
     |cons z c=>
      rw[qb] at Cd;cases Cd
      exact hb (bw _ (.tail _ hd))
    by_cases q:u∈s.K
    ·exact q
    ·have:=((nK hn s.K s.last).mem (s:=u)).mpr ⟨hu,q,hp⟩
     rw[hx] at this;cases this
   ·exact QH u hu (λq=>(bE.mp q).elim e hb)
 have h1:=W.le;have h2:(cO n).length<=s.K.length:=v8.length_le_of_subset λx hx=>key fin.length fin [] rfl (by simp) x (eP.mp hx) (by simp);rw[fq] at h2;exact aj5 h1 h2
end
section
variable{H H1 H2 H3:af av}{l l1 l2 l3:ah->ag MV}{v z w:MV}{f:St->ag (MV×St)}{k:St->ag (MF×St)}{t t':St->ag (cj×St)}{i j:ah}{b:cj}
theorem Qo{R}(h:f ⟨H,l⟩=aa (v,⟨H1,l1⟩))(h2:mh 2 v H1=aa [z,w])(h3:k ⟨H1,bV (bV l1 i z) j w⟩=R):aO (iO [i,j] f) k ⟨H,l⟩=R:=cV (cV h (eJ h2 rfl)) h3
theorem agy{st st1:St}{r}(h:t st=aa (false,st1))(h2:t' st1=r):VW t t' st=r:=cV h h2
theorem Qn{st st1:St}(h:t st=aa (b,st1)):s8 t st=aa (.bool b,st1):=cV h rfl
theorem Yv{es ep}(h:H[i]?=aa (.dict es ep)):jc [.ref i] H=aa (.int (es.length:ah),H):=yp (eJ h (eJ (a:=es.length) rfl rfl))
theorem Sv{bf bx fs d as r}(h:f ⟨H,l⟩=aa (.ref i,⟨H1,l1⟩))(h2:H1[i]?=aa (.inst d))(h3:H1[d]?=aa (.attrs as))(h4:bf [.ref i] H1=aa (v,H2))(h5:k ⟨H2,l1⟩=r):aO (zQ bf bx f fs) k ⟨H,l⟩=r:=rO (m:=.next) (nM h (jd h2 rfl (jd h3 rfl (by show @ji (MV×af av) (λ_=>ag (MF×St)) _ _ (bf [.ref i] H1)=_;rw[h4])))) h5
theorem Su{bf bx fs d as r}(h:f ⟨H,l⟩=aa (.ref i,⟨H1,l1⟩))(h2:H1[i]?=aa (.inst d))(h3:H1[d]?=aa (.attrs as))(h4:bf [.ref i] H1=none)(h5:bx [.ref i] H1=aa H2)(h6:fs ⟨H2,l1⟩=aa (.next,⟨H3,l3⟩))(h7:k ⟨H3,l3⟩=r):aO (zQ bf bx f fs) k ⟨H,l⟩=r:=rO (m:=.next) (nM h (jd h2 rfl (jd h3 rfl (by show @ji (MV×af av) (λ_=>ag (MF×St)) _ _ (bf [.ref i] H1)=_;rw[h4];exact eJ h5 h6)))) h7
end
theorem Kx(sns:af aE)(hT:∀kind fig t,t.inR->Told kind fig t (mM kind fig t)){H1 H:af av}{l:ah->ag MV}{sh n ep:ah}{rw nl:ah->ah}{kdf figf:ah->aE}{need:ah->af ah}{y:Lay}
  (hS:pK H1 sh n rw nl kdf figf need) (hn:n<=9) (jk:∀j,j<n->∀p∈need j,p<n) (hlen:∀j,(need j).length<=2) (sD:∀j,Shape (kdf j) (figf j) (need j))
  (l1:l 1=aa (.ref sh)) (l2:l 2=aa (.ref y.si)) (S:SA H y n (λi=>((need i).length:ah)) (iz n need) .none 0 0 ep) (hl:H1.length<=H.length) (h0:∀k,k<H1.length->H[k]?=H1[k]?) (D8:∀k,Own y n k->H1.length<=k):
  ∃bZ,(aO (ba 4 (eK (.bool false)))
 (aO (zQ (tV sns) (wD sns) (au 2) (aO (ba 4 (eK (.bool true)))
 bF))
 (aO (iO [5,6] (cJ (o7 sns) (aJ (au 2) (aJ (au 1) bG))))
 (aO (iO [7,8] (cJ (zd sns) (aJ (au 1) bG)))
 (aO (je (VW (dp (cD false) (au 5) (au 8)) (dp qZ (au 6) (au 7))) (aO (gA (eK (.bool false)))
 bF) bF)
 (aO (gA (s8 (Ai (dp (cS .Eq) (au 4) (s8 (dp (cS .Lt) (cJ jc (aJ (au 7) bG)) (cJ jc (aJ (au 1) bG))))) (dp (cD true) (jb (mj sns) (au 2) bG) (jz bG)))))
 bF)))))) ⟨H,l⟩=aa (.ret (.bool true),bZ):=by
 refine js (OX sns S (λu hu w hw=>(lp.mp hw).1) (λu hu=>by have:=xJ n need hlen u;exact akl hn this) hn) λH2 p1 p2 p3=>?_;have VX:H.length<=H2.length:=p2.1;have rlt:H.length<H2.length:=(gM p1.R);have D2:∀k,Own y n k\/k=H.length->H1.length<=k/\k<H2.length:=λk hk=>by
  rcases hk with q|q
  ·refine⟨D8 k q,?_⟩
   refine dA (p1.S.there q) λo e=>?_;exact(gM e)
  ·exact alN hl rlt q
 have h02:∀k,k<H1.length->H2[k]?=H1[k]?:=λk hk=>(p2.2 k (O7 hl hk:) (λq=>by have:=D8 k q;exact adE hk this) (aei hl hk:)).trans (h0 k hk);refine OU (Il sns hT hS hn hlen sD D2 (ak8 hl rlt:) h02 p1 rfl WI.start) λH3 l3 a3 ps3 t3 w1 w2 w3 w4=>?_;have hS3:pK H3 sh n rw nl kdf figf need:=hS.keep λk xs q=>w3.sh0 k (q.elim (λq=>(gM q)) λq=>(gM q));refine CJ (Sl sns hS3 hn hlen sD) λH4 l4 t4 u1 u2 u3 u4=>?_;generalize hs:RS.init.iter kdf figf need n n=s at *;have afo:=w3.len;have apd:=u3.len;have k34:∀{k:ah}{o:av},H3[k]?=aa o->H4[k]?=aa o:=λ{k o} h=>(u3.keep k (gM h)).trans h;have N0:kE n need s.K s.last=[]:=by rw[<-w4];exact(nK (vq hn:) _ _).uniq w3.wi.rd
 have RX4:RX H4 (H2.length+2) H2.length s.rounds:=w3.rx.keep (u3.keep _ (UJ afo:)) λt xs _ h=>k34 h;have KX4:KX H4 (H2.length+2) (H2.length+1) s.K s.col:=w3.kx.keep (u3.keep _ (UI afo:)) λk o _ h=>k34 h;have SS4:SS H4 y n H.length (iz n need) a3 ps3 ep:=by refine⟨w3.ss.S.of λk hk=>u3.keep k ?_,k34 w3.ss.R,w3.ss.off⟩;refine dA (w3.ss.S.there hk) λo e=>?_;exact(gM e)
 refine OS (zA sns SS4 (by rw[w4];intro v hv;cases hv)) λH5 g1 g2 g3 g4 g5=>?_
 rw[w4] at g4;have c1:=G8 RX4 u3.rx;have c2:=Hf KX4 u3.kx;have fin:=M8 (H:=H5++[.tup []]) (i:=H4.length) (j:=H5.length) (by rw[aA g5];exact g4) (by simp);have left:∀b:cj,(b=true↔Ring (iz n need) n)->(b=true\/∃fin,(∀i,i<n->i∈fin)/\qp (iz n need) fin)->(b==decide (((s.K.length:ah):aE)<((n:ah):aE)))=true:=λb hb hor=>by
  cases b with
  |true=>
   have:=zO u4 (λ_ _=>trivial) (λC hC=>by rw[<-hs];exact xi (vq hn:) hC n RS.init (λ_ _ q=>(nomatch q))) (hb.mp rfl);have h2:((s.K.length:ah):aE)<((n:ah):aE):=by exact ajW this
   simp[h2]
  |false=>
   rcases hor with q|⟨fin,q1,q2⟩
   ·cases q
   ·have:=zH u4 (vq hn:) jk N0 q1 q2
    rw[this];simp
 refine cv u3.kx λcx Yl _=>?_;refine dA Yl.d λep4 kd4=>?_;have aoM:=k34 hS3.row;have tail:∀b:cj,(b==decide (((s.K.length:ah):aE)<((n:ah):aE)))=true->∃bZ,(aO (iO [5,6] (cJ (o7 sns) (aJ (au 2) (aJ (au 1) bG))))
   (aO (iO [7,8] (cJ (zd sns) (aJ (au 1) bG)))
   (aO (je (VW (dp (cD false) (au 5) (au 8)) (dp qZ (au 6) (au 7))) (aO (gA (eK (.bool false))) bF) bF)
   (aO (gA (s8 (Ai (dp (cS .Eq) (au 4) (s8 (dp (cS .Lt) (cJ jc (aJ (au 7) bG)) (cJ jc (aJ (au 1) bG))))) (dp (cD true) (jb (mj sns) (au 2) bG) (jz bG))))) bF)))) ⟨H2,bV l 4 (.bool b)⟩=aa (.ret (.bool true),bZ):=λb hb=>by
  refine⟨⟨H5++[.tup []],qJ (qJ (bV l 4 (.bool b)) [5,6] [.ref H2.length,.ref (H2.length+1)]) [7,8] [.ref (H3.length+2),.ref (H3.length+3)]⟩,?_⟩;have i4:=SS4.S.inst;have t4':=SS4.S.attr;have hl7:jc [.ref (H3.length+2)] H4=aa (.int (s.K.length:ah),H4):=by rw[Yv kd4,a8]
  have NY:jc [.ref sh] H4=aa (.int (n:ah),H4):=by rw[tw aoM,a8,fq]
  have hz:cS .Eq (.bool b) (.bool (decide (((s.K.length:ah):aE)<((n:ah):aE)))) H4=aa true:=(bI aa hb:aa (b==decide (((s.K.length:ah):aE)<((n:ah):aE)))=aa true);exact Qo (cI (bB (aF (by first|rfl|exact l2|repeat' first|(with_reducible first|(show _=_;assumption)|apply l2|apply er|apply kg)|rfl)) (bB (aF (by first|rfl|exact l1|repeat' first|(with_reducible first|(show _=_;assumption)|apply l1|apply er|apply kg)|rfl)) eG)) w1) (w6 w2 rfl) (Qo (cI (bB (aF (by first|rfl|exact l1|repeat' first|(with_reducible first|(show _=_;assumption)|apply l1|apply er|apply kg)|rfl)) eG) u1) (w6 u2 rfl) (iY (agy (cg (aF (by first|rfl|repeat' first|(with_reducible first|(show _=_;assumption)|apply er|apply kg)|rfl)) (aF (by first|rfl|repeat' first|(with_reducible first|(show _=_;assumption)|apply er|apply kg)|rfl)) c1) (cg (aF (by first|rfl|repeat' first|(with_reducible first|(show _=_;assumption)|apply er|apply kg)|rfl)) (aF (by first|rfl|repeat' first|(with_reducible first|(show _=_;assumption)|apply er|apply kg)|rfl)) c2)) rfl (fS (fR (Qn (Fy (cg (aF (by first|rfl|repeat' first|(with_reducible first|(show _=_;assumption)|apply er|apply kg)|rfl)) (Qn (cg (cI (bB (aF (by first|rfl|repeat' first|(with_reducible first|(show _=_;assumption)|apply er|apply kg)|rfl)) eG) hl7) (cI (bB (aF (by first|rfl|exact l1|repeat' first|(with_reducible first|(show _=_;assumption)|apply l1|apply er|apply kg)|rfl)) eG) NY) rfl)) hz) (cg (k9 (aF (by first|rfl|exact l2|repeat' first|(with_reducible first|(show _=_;assumption)|apply l2|apply er|apply kg)|rfl)) i4 t4' eG g1) (jv eG rfl) fin)))))))
 rcases p3 with⟨q1,fi,q2,q3⟩|⟨q1,q2,q3⟩
 ·have XQ:¬Ring (iz n need) n:=λhr=>by
   have a1:=zO u4 (λ_ _=>trivial) (λC hC=>by rw[<-hs];exact xi (vq hn:) hC n RS.init (λ_ _ q=>(nomatch q))) hr;have a2:=zH u4 (vq hn:) jk N0 q2 q3;exact ajR a1 a2
  refine dA (tail false (left false ⟨λq=>(nomatch q),λq=>ej q XQ⟩ (.inr ⟨fi,q2,q3⟩))) λbZ e=>?_;refine⟨bZ,?_⟩;exact fO aT (Sv (aF l2) S.inst S.attr q1 e)
 ·refine dA (tail true (left true ⟨λ_=>q3,λ_=>rfl⟩ (.inl rfl))) λbZ e=>?_
  refine⟨bZ,?_⟩;have z3:bV (bV l 4 (.bool false)) 4 (.bool true)=bV l 4 (.bool true):=by funext k;simp only[bV];split<;>rfl
  exact fO aT (Su (aF l2) S.inst S.attr q1 q2 (fO aT rfl) (z3.symm▸e))
theorem Lm(hT:∀kind fig t,t.inR->Told kind fig t (mM kind fig t))(ns:af aE)(h:ns.length<=63):∃H',Fs ns [.old] []=aa (.bool true,H'):=by
 refine aih (LY ns h) λH1 sh rw nl e1 hS=>?_;have hl:=F6 ns;refine aij (Jh (l:=bV (λi=>[MV.old][i]?) 1 (.ref sh)) ns hS (aeh hl:) (λj hj=>F9 hj) (λj=>CD j) rfl
  (aO (ba 4 (eK (.bool false)))
 (aO (zQ (tV ns) (wD ns) (au 2) (aO (ba 4 (eK (.bool true)))
 bF))
 (aO (iO [5,6] (cJ (o7 ns) (aJ (au 2) (aJ (au 1) bG))))
 (aO (iO [7,8] (cJ (zd ns) (aJ (au 1) bG)))
 (aO (je (VW (dp (cD false) (au 5) (au 8)) (dp qZ (au 6) (au 7))) (aO (gA (eK (.bool false)))
 bF) bF)
 (aO (gA (s8 (Ai (dp (cS .Eq) (au 4) (s8 (dp (cS .Lt) (cJ jc (aJ (au 7) bG)) (cJ jc (aJ (au 1) bG))))) (dp (cD true) (jb (mj ns) (au 2) bG) (jz bG)))))
 bF))))))) λH2 y ep l2 b1 b2 b3 b4 b5 b6 b7=>?_
 refine dA (Kx ns hT hS (aeh hl:) (λj hj=>F9 hj) (λj=>CD j) (λj=>Eh _ j) (b2.trans rfl) b3 b4 b5 b6 b7) λbZ e=>?_;refine⟨bZ.H,?_⟩;exact lg rfl (l1:=bZ.l) (fO (cI (bB (aF rfl) eG) e1) (b1.trans e))
end fG
namespace fG
open PySem PySem.W
open PySem.Float64 (val Right V dist sgn decode)
noncomputable def Fi(x:aW):Prop:=∃a m e,decode x=.fin a m e
theorem WJ:∀(k g:ah),g<2^53->∃t,V t=g*2^k
 |0,g,h=>⟨0*2^52+g,PI (vD h) (.inr rfl)⟩
 |k+1,g,h=>by
  by_cases q:2^52<=g
  ·exact⟨(k+1)*2^52+g,PI (vD h) (.inl q)⟩
  ·refine dA (WJ k (2*g) (by lia)) λt e=>?_
   exact⟨t,by rw[e,afC];rw[l8 2 g,iW,l8 2]⟩
theorem KZ{a b c d e:ah}(h0:b-a+(a-b)<=b-d+(d-b))(h1:d+e=b)(h2:e<c):a<=b+c/\b<=a+c:=by
 have k:b-d+(d-b)=e:=by rw[<-h1,gR,rQ (d8 d e)];rfl
 rw[k] at h0;exact⟨EN.mp (fA (fA (Rw _ _) h0) (vD h2)),EN.mp (fA (fA (d8 _ _) h0) (vD h2))⟩
theorem pW{x:aW}{neg:cj}{W D:ah}(h:Right x neg W D)(hD:0<D)(hW:W<2^1079*D):Fi x/\∃v:ah,val x=sgn neg v/\D*v<=W+D*2^1026/\W<=D*v+D*2^1026:=by
 refine lT h λt cP h1 h2 h3=>?_;clear h;subst cP;have ht:t<Float64.infMag:=by
  rcases Nat.lt_or_eq_of_le h1 with q|q
  ·exact q
  ·have:=h2.mp q
   have h4:D*2^1080<=D*((2^54-1)*2^2045):=Nat.mul_le_mul_left _ (by decide);have h5:2^1079*D*2=D*2^1080:=by rw[l8 (2^1079) D,iW,<-afC]
   omega
 refine uq (Di neg ht) λm e hd hv=>?_;refine⟨⟨neg,m,e,hd⟩,V t,Iq neg ht,?_⟩;generalize hP:(2:ah)^1026=P;have hP0:0<D*P:=Nat.mul_pos hD (by rw[<-hP];exact iK _);have hg:W/(D*P)<2^53:=by
  rw[Nat.div_lt_iff_lt_mul hP0];have:2^53*(D*P)=2^1079*D:=by rw[<-hP,l8 D,<-iW,<-pD]
  lia
 refine dA (WJ 1026 _ hg) λt' MD=>?_;rw[hP] at MD;have hn:=(h3 ht t').1;rw[MD] at hn;have h6:D*(W/(D*P)*P)=D*P*(W/(D*P)):=by rw[l8 (W/(D*P)),iW]
 rw[h6] at hn;have h7:=rE W (D*P);have h8:=Mn W hP0;unfold dist at hn;exact KZ hn h7 h8
noncomputable def rv(x:aW):aV:=(val x:aV)/2^1074
noncomputable def zw:aV:=1/2^48
theorem GB:((2:aV)^1074)>0:=Rat.pow_pos (by decide)
theorem vT(b:cj):Fi (m6 b)/\val (m6 b)=0:=by have h:=Di b (t:=0) (by decide);refine uq h λm e h1 h2=>?_;clear h;refine⟨⟨b,m,e,h1⟩,?_⟩;have:=Iq b (t:=0) (by decide);unfold m6;rw[this,Float64.V_zero];cases b<;>rfl
theorem CC{x:aW}{i:aE}(h:Right x (decide (i<0)) i.natAbs 1)(hi:i.natAbs<2^1079):Fi x/\(val x-i).natAbs<=2^1026:=by
 obtain⟨h1,v,h2,h3,h4⟩:=pW h (by decide) (aiu hi:);refine⟨h1,?_⟩;rw[h2];generalize(2:ah)^1026=P at *;by_cases q:i<0
 ·rw[cM q];simp only[sgn,kU];exact ab5 h3 h4 q
 ·rw[dO q];simp only[sgn];simp only[cR,iv];exact ab6 h3 h4 q
theorem add_int{x y:aW}(hx:Fi x)(hy:Fi y)(h:(val x+val y).natAbs<2^1079):Fi (bP x y)/\(val (bP x y)-(val x+val y)).natAbs<=2^1026:=by
 obtain⟨a,m,e,hx⟩:=hx;obtain⟨b,k,f,hy⟩:=hy;have r:=Float64.add_right hx hy;by_cases q:val x+val y=0
 ·rw[r.1 q]
  refine⟨(vT _).1,?_⟩;rw[(vT _).2,q];exact jn _
 ·exact CC (r.2 q) h
theorem sub_int{x y:aW}(hx:Fi x)(hy:Fi y)(h:(val x-val y).natAbs<2^1079):Fi (aL x y)/\(val (aL x y)-(val x-val y)).natAbs<=2^1026:=by
 obtain⟨a,m,e,hx⟩:=hx;obtain⟨b,k,f,hy⟩:=hy;have r:=Float64.sub_right hx hy;by_cases q:val x-val y=0
 ·rw[r.1 q]
  refine⟨(vT _).1,?_⟩;rw[(vT _).2,q];exact jn _
 ·exact CC (r.2 q) h
theorem pX(a:cj)(m:ah):sgn a m=(if a then -1 else 1)*(m:aE):=by cases a<;>simp[sgn]
theorem mul_int{x y:aW}(hx:Fi x)(hy:Fi y)(h:(val x*val y).natAbs<2^1079*2^1074):Fi (bJ x y)/\(val (bJ x y)*2^1074-val x*val y).natAbs<=2^1074*2^1026:=by
 obtain⟨a,m,e,hx⟩:=hx;obtain⟨b,k,f,hy⟩:=hy;have r:=Float64.mul_right hx hy;rw[Int.natAbs_mul] at h;refine dQ (pW r (iK _) h) λh1 eX=>?_;refine js eX λv h2 h3 h4=>?_;clear eX;refine⟨h1,?_⟩;have e1:val x*val y=sgn (a !=b) ((val x).natAbs*(val y).natAbs):=by rw[kM hx,kM hy,jO hx,jO hy,pX,pX,pX];generalize m*2^(e+1074).toNat=A;generalize k*2^(f+1074).toNat=B;cases a<;>cases b<;>simp[kl,Int.mul_neg]
 rw[e1,h2,pX,pX];have hc:((2:aE)^1074)=((2^1074:ah):aE):=by rw[jB];rfl
 rw[hc];generalize(2:ah)^1074=C at *;generalize(2:ah)^1026=P at *;generalize(val x).natAbs*(val y).natAbs=W at *;have h5:((C*v:ah):aE)=(v:aE)*(C:aE):=by rw[jA,qM]
 cases(a !=b)
 ·simp only[cR,iv,km];rw[<-h5];exact ak3 h3 h4
 ·simp only[kU,kl,km];rw[<-h5];exact ak4 h3 h4
theorem gu{c:aV}(hc:0<c){a b:aV}(h:a<b):a*c<b*c:=Rat.mul_lt_mul_of_pos_right h hc
theorem gT(x:aW):(val x:aV)=rv x*2^1074:=by unfold rv;rw[uB (Rat.ne_of_gt GB)]
theorem pS{i:aE}{N:ah}(h1:-(N:aV)<(i:aV))(h2:(i:aV)<(N:aV)):i.natAbs<N:=by
 have a:-(N:aE)<i:=by rw[<-dz,rF,du];exact h1
 have b:i<(N:aE):=by rw[<-dz,du];exact h2
 exact abG a b
theorem mY{i:aE}{N:ah}(h:i.natAbs<=N):-(N:aV)<=(i:aV)/\(i:aV)<=(N:aV):=by
 have a:-(N:aE)<=i:=by exact ab4 h
 have b:i<=(N:aE):=by exact YU h
 rw[<-dy] at a b;rw[rF,du] at a;rw[du] at b;exact⟨a,b⟩
theorem mu(a b c:aV):(a-b)*c=a*c-b*c:=by exact aay
theorem i7:(0:aV)<2^1074:=GB
theorem FU:zw*2^1074=((2^1026:ah):aV):=∅
theorem xK:(32:aV)*2^1074=((2^1079:ah):aV):=∅
noncomputable def Nr(x r:aV):Prop:=-zw<=x-r/\x-r<=zw
theorem BR{i:aE}{r:aV}(e:(i:aV)=r*2^1074)(h1:-32<r)(h2:r<32):i.natAbs<2^1079:=by
 refine pS ?_ ?_
 ·rw[e,<-xK,<-fH];exact gu i7 h1
 ·rw[e,<-xK];exact gu i7 h2
theorem F8{i j:aE}{r s:aV}(e:(i:aV)=r*2^1074)(f:(j:aV)=s*2^1074)(h:(j-i).natAbs<=2^1026):Nr s r:=by
 refine dQ (mY h) λa b=>?_;rw[eW,e,f,<-FU] at a b;have g:s*2^1074-r*2^1074=(s-r)*2^1074:=by rw[mu]
 rw[g] at a b;rw[<-fH] at a;exact⟨bb a i7,bb b i7⟩
theorem I7{x y:aW}(hx:Fi x)(hy:Fi y)(h1:-32<rv x+rv y)(h2:rv x+rv y<32):Fi (bP x y)/\Nr (rv (bP x y)) (rv x+rv y):=by
 have e:((val x+val y:aE):aV)=(rv x+rv y)*2^1074:=by rw[dg,gT,gT,Iv]
 refine dQ (add_int hx hy (BR e h1 h2)) λa b=>?_;exact⟨a,F8 e (gT _) b⟩
theorem Vw{x y:aW}(hx:Fi x)(hy:Fi y)(h1:-32<rv x-rv y)(h2:rv x-rv y<32):Fi (aL x y)/\Nr (rv (aL x y)) (rv x-rv y):=by
 have e:((val x-val y:aE):aV)=(rv x-rv y)*2^1074:=by rw[eW,gT,gT,mu]
 refine dQ (sub_int hx hy (BR e h1 h2)) λa b=>?_;exact⟨a,F8 e (gT _) b⟩
theorem KU{x y:aW}(hx:Fi x)(hy:Fi y)(h1:-32<rv x*rv y)(h2:rv x*rv y<32):Fi (bJ x y)/\Nr (rv (bJ x y)) (rv x*rv y):=by
 have e:((val x*val y:aE):aV)=(rv x*rv y*2^1074)*2^1074:=by rw[gc,gT,gT];exact aeJ
 have hb:(val x*val y).natAbs<2^1079*2^1074:=by
  have c2:((2^1079*2^1074:ah):aV)=32*2^1074*2^1074:=by rw[xK,iL,RC 2 1074];rfl
  refine pS ?_ ?_
  ·rw[e,c2,<-fH,<-fH];exact gu i7 (gu i7 h1)
  ·rw[e,c2];exact gu i7 (gu i7 h2)
 refine dQ (mul_int hx hy hb) λa b=>?_;refine⟨a,?_⟩;refine dQ (mY b) λp q=>?_;have c3:((2^1074*2^1026:ah):aV)=zw*2^1074*2^1074:=by rw[FU,iL,RC 2 1074,EY];rfl
 have c4:((val (bJ x y)*2^1074-val x*val y:aE):aV)=((rv (bJ x y)-rv x*rv y)*2^1074)*2^1074:=by rw[eW,e,gc,gT,nW];generalize rv (bJ x y)=M;rw[mu,mu];rfl
 rw[c3,c4] at p q;rw[<-fH,<-fH] at p;exact⟨bb (bb p i7) i7,bb (bb q i7) i7⟩
theorem pin{a n C:ah}(hC:0<C)(h1:n*C<=a*C)(h2:a*C<(n+1)*C):a=n:=by have:=Bl h1 hC;have:=Bm h2;exact akq (by assumption) this
theorem CY{y:aW}{sg:cj}{m:ah}{e:aE}{n:ah}(h:decode y=.fin sg m e)(h1:(n:aE)*2^1074<=val y)(h2:val y<((n:aE)+1)*2^1074):iB sg m e=n:=by
 have hv:=jO h;have he:=GH h;have hc:((2:aE)^1074)=((2^1074:ah):aE):=by rw[jB];rfl
 have SU:0<(2:ah)^1074:=iK _;have Df:((n*2^1074:ah):aE)<=val y:=by rw[jA,<-hc];exact h1
 have NH:val y<(((n+1)*2^1074:ah):aE):=by rw[jA,<-hc];exact h2
 cases sg with
 |true=>
  have:m*2^(e+1074).toNat=0/\n*2^1074=0:=by rw[hv] at Df;simp only[sgn,kU] at Df;generalize n*2^1074=A at *;generalize m*2^(e+1074).toNat=B at *;exact aca Df
  have hm:m=0:=(yO.mp this.1).resolve_right (vG (iK _));have hn:n=0:=(yO.mp this.2).resolve_right (vG SU);subst hm;subst hn;simp[iB,Float64.ceilOf,IH,sgn]
 |false=>
  rw[hv] at Df NH;simp only[sgn,cR,iv] at Df NH;have g1:n*2^1074<=m*2^(e+1074).toNat:=fy.mp Df;have g2:m*2^(e+1074).toNat<(n+1)*2^1074:=EU.mp NH;unfold iB IH;simp only[cR,iv,sgn];by_cases q:0<=e
  ·rw[aP q]
   have:(e+1074).toNat=e.toNat+1074:=by exact abe q
   rw[this,pD,<-iW] at g1 g2;have:=pin SU g1 g2;rw[<-this,jA,jB];rfl
  ·rw[aZ q]
   have k:(2:ah)^1074=2^(-e).toNat*2^(e+1074).toNat:=by rw[<-pD];congr 1;exact aa6 he q
   rw[k,<-iW] at g1 g2;have p0:=iK (e+1074).toNat;have g3:=Bl g1 p0;have g4:=Bm g2;have:((2:aE)^(-e).toNat)=((2^(-e).toNat:ah):aE):=by rw[jB];rfl
   rw[this,oV _ (dE _),<-Int.natCast_ediv];congr 1;exact Nat.div_eq_of_lt_le g3 g4
theorem tc{x:aW}(h:jX x=true):Fi x:=by
 unfold jX at h;split at h
 ·rename_i a m e q;exact⟨a,m,e,q⟩
 ·cases h
theorem Hh:zw<=1/1000000:=∅
theorem pN:0<=zw:=∅
theorem ahg:Fi 4602723855168920617/\(5049:aV)/10000<=rv 4602723855168920617/\rv 4602723855168920617<=5051/10000:=by refine⟨tc ∅,∅,∅⟩
theorem k16:Fi (cu 16)/\rv (cu 16)=16:=⟨tc ∅,∅⟩
theorem zB{y:aW}{n:ah}(h1:(n:aV)<=rv y)(h2:rv y<(n:aV)+1):(n:aE)*2^1074<=val y/\val y<((n:aE)+1)*2^1074:=by
 constructor
 ·rw[<-dy,gc,gT,nW,du]
  exact gC h1 (afD i7)
 ·rw[<-dz,gc,gT,nW,dg,du]
  exact gu i7 h2
theorem Qs{x:aW}{n:ah}(hx:Fi x)(hn:n<=16)(h1:(n:aV)-504/1000<=16*rv x)(h2:16*rv x<=(n:aV)+494/1000):wk x n:=by
 have rJ:(n:aV)<=16:=by have:(n:aV)<=((16:ah):aV):=EZ.mpr hn;exact this
 have hn0:(0:aV)<=(n:aV):=gD;refine dQ k16 λf16 v16=>?_;refine fD ahg λf5 l5 u5=>?_;have es:=Hh;have ep:=pN;refine fD (KU hx f16 (by rw[v16];exact amL h1) (by rw[v16];exact amK h2 rJ)) λa1 a2 a3=>?_;rw[v16] at a2 a3;refine fD (I7 a1 f5 (aah h1 l5 es a2:) (aaH h2 rJ u5 es a3:)) λb1 b2 b3=>?_;refine Li b1 λsg m e hd=>?_;clear b1;refine dQ (zB (y:=bP (bJ x (cu 16)) 4602723855168920617) (n:=n) (amn h1 l5 es a2 b2:) (amS h2 u5 es a3 b3:)) λc1 c2=>?_;exact⟨sg,m,e,hd,CY hd c1 c2⟩
noncomputable def wM(x:aW):aW:=if(bQ x 0==aa e9)=true then 0 else x
noncomputable def zo(x:aW):aW:=if(bQ x 4607182418800017408==aa oE)=true then 4607182418800017408 else x
theorem Ii{l:ah->ag MV}{k:ah}{v:MV}(h:l k=aa v):bV l k v=l:=by
 funext i;unfold bV;split
 ·rename_i q;rw[q,h]
 ·rfl
theorem uc{op:kL}{x y:aW}{b:cj}{H:af av}{l:ah->ag MV}{k:ah}{K:St->ag (MF×St)}{R}(h:l k=aa (.bO x))(hc:cS op (.bO x) (.bO y) H=aa b)(h2:K ⟨H,bV l k (.bO (if b=true then y else x))⟩=R):aO (je (dp (cS op) (au k) (eK (.bO y))) (aO (ba k (eK (.bO y))) bF) bF) K ⟨H,l⟩=R:=by
 cases b with
 |true=>exact kB (cg (aF h) aT hc) rfl (gz (fO aT (fS h2)))
 |false=>exact iY (cg (aF h) aT hc) rfl (fS ((bI (λl=>K ⟨H,l⟩) (Ii h).symm).trans h2))
noncomputable def yR(u i q:aW):aW:=bP (bP u (bJ 4606703976345377586 i)) (bJ 4603791717925830846 q)
noncomputable def yG(u i q:aW):aW:=aL (aL u (bJ 4598621754083818298 i)) (bJ 4603901015759978483 q)
noncomputable def yB(u i q:aW):aW:=bP (aL u (bJ 4607671262177584182 i)) (bJ 4610375502138591871 q)
theorem VI(sns:af aE)(u i q:aW)(H:af av):BK sns [.bO u,.bO i,.bO q] H=aa (.ref H.length,H++[.tup [.bO (zo (wM (yR u i q))),.bO (zo (wM (yG u i q))),.bO (zo (wM (yB u i q)))]]):=by refine lg (l1:=bV (bV (bV (bV (bV (bV (bV (bV (bV (λj=>[MV.bO u,.bO i,.bO q][j]?) 3 (.bO (yR u i q))) 4 (.bO (yG u i q))) 5 (.bO (yB u i q))) 3 (.bO (wM (yR u i q)))) 4 (.bO (wM (yG u i q)))) 5 (.bO (wM (yB u i q)))) 3 (.bO (zo (wM (yR u i q))))) 4 (.bO (zo (wM (yG u i q))))) 5 (.bO (zo (wM (yB u i q))))) rfl ?_;delta IX;exact fO (cF (cF (aF rfl) (cF aT (aF rfl) rfl) rfl) (cF aT (aF rfl) rfl) rfl) (fO (cF (cF (aF rfl) (cF aT (aF rfl) rfl) rfl) (cF aT (aF rfl) rfl) rfl) (fO (cF (cF (aF rfl) (cF aT (aF rfl) rfl) rfl) (cF aT (aF rfl) rfl) rfl) (uc rfl rfl (uc rfl rfl (uc rfl rfl (uc rfl rfl (uc rfl rfl (uc rfl rfl (fR (jv (bB (aF rfl) (bB (aF rfl) (bB (aF rfl) eG))) rfl))))))))))
noncomputable def yY(r g b:aW):aW:=bP (bP (bJ 4599075939470750515 r) (bJ 4603489467105573601 g)) (bJ 4592590756007337001 b)
noncomputable def yI(r b y:aW):aW:=aL (bJ 4604840546993784750 (aL r y)) (bJ 4598535507515466056 (aL b y))
noncomputable def yQ(r b y:aW):aW:=bP (bJ 4602318531202457272 (aL r y)) (bJ 4601057523306793533 (aL b y))
theorem Vf(sns:af aE)(r g b:aW)(H:af av):BJ sns [.bO r,.bO g,.bO b] H=aa (.ref H.length,H++[.tup [.bO (yY r g b),.bO (yI r b (yY r g b)),.bO (yQ r b (yY r g b))]]):=by refine lg (l1:=bV (bV (bV (λj=>[MV.bO r,.bO g,.bO b][j]?) 3 (.bO (yY r g b))) 4 (.bO (yI r b (yY r g b)))) 5 (.bO (yQ r b (yY r g b)))) rfl ?_;delta IW;exact fO (cF (cF (cF aT (aF rfl) rfl) (cF aT (aF rfl) rfl) rfl) (cF aT (aF rfl) rfl) rfl) (fO (cF (cF aT (cF (aF rfl) (aF rfl) rfl) rfl) (cF aT (cF (aF rfl) (aF rfl) rfl) rfl) rfl) (fO (cF (cF aT (cF (aF rfl) (aF rfl) rfl) rfl) (cF aT (cF (aF rfl) (aF rfl) rfl) rfl) rfl) (fR (jv (bB (aF rfl) (bB (aF rfl) (bB (aF rfl) eG))) rfl))))
theorem Sz:∀a:Fin 17,jX (fl ((a.val:ah):aE))=true/\rv (fl ((a.val:ah):aE))*16=((a.val:ah):aV):=∅
theorem Uh{x:aW}(h:Fi x):Fi (i8 x)/\rv (i8 x)=-rv x:=by obtain⟨a,m,e,h⟩:=h;refine⟨⟨_,_,_,Float64.neg_decode h⟩,?_⟩;unfold rv;rw[Float64.neg_val h,rF,yk,yk,fH]
theorem xC{x y:aW}:val x<val y↔rv x<rv y:=by rw[<-dz,gT,gT];exact Rat.mul_lt_mul_right i7
theorem Sd{x:aW}(h:Fi x):Fi (wM x)/\((rv x<0/\rv (wM x)=0)\/(0<=rv x/\rv (wM x)=rv x)):=by
 have f0:Fi 0:=tc ∅;have v0:rv 0=0:=∅;obtain⟨b,k,f,h0⟩:=f0;have hx:=h;obtain⟨a,m,e,h⟩:=h;have hc:=lz h h0;unfold wM;rw[hc];by_cases q:val x<val 0
 ·have:compare (val x) (val 0)=.lt:=iM.mpr q
  rw[this,aP (show(aa e9==aa e9)=true from rfl)];exact⟨⟨b,k,f,h0⟩,.inl ⟨v0▸xC.mp q,v0⟩⟩
 ·have:compare (val x) (val 0)≠ .lt:=λz=>q (iM.mp z)
  rw[aZ (by simpa using this)];exact⟨hx,.inr ⟨iX.mp λz=>q (xC.mpr (v0.symm▸z)),rfl⟩⟩
theorem Se{x:aW}(h:Fi x):Fi (zo x)/\((1<rv x/\rv (zo x)=1)\/(rv x<=1/\rv (zo x)=rv x)):=by
 have f0:Fi 4607182418800017408:=tc ∅;have v0:rv 4607182418800017408=1:=∅;refine Li f0 λb k f h0=>?_;clear f0;have hx:=h;obtain⟨a,m,e,h⟩:=h;have hc:=lz h h0;unfold zo;rw[hc];by_cases q:val 4607182418800017408<val x
 ·have:compare (val x) (val 4607182418800017408)=.gt:=jR.mpr q
  rw[this,aP (show(aa oE==aa oE)=true from rfl)];exact⟨⟨b,k,f,h0⟩,.inl ⟨v0▸xC.mp q,v0⟩⟩
 ·have:compare (val x) (val 4607182418800017408)≠ .gt:=λz=>q (jR.mp z)
  rw[aZ (by simpa using this)];exact⟨hx,.inr ⟨iX.mp λz=>q (xC.mpr (v0.symm▸z)),rfl⟩⟩
noncomputable def Ap(x:aW)(X e:aV):Prop:=Fi x/\ -e<=rv x-X/\rv x-X<=e
theorem w8:zw<=1/100000000000000:=∅
theorem Ap.to{x:aW}{X Y e f:aV}(h:Ap x X e)(h1:-(f-e)<=X-Y)(h2:X-Y<=f-e):Ap x Y f:=by refine fD h λa b c=>?_;clear h;refine⟨a,?_,?_⟩<;>(first|exact ado h1 b|exact adF h2 c)
theorem k8{p q P Q:aV}(h1:-P<=p)(h2:p<=P)(h3:-Q<=q)(h4:q<=Q):-(P*Q)<=p*q/\p*q<=P*Q:=by have a1:=oW (show 0<=P-p by exact Pg h2) (show 0<=Q+q by exact Gn h3);have a2:=oW (show 0<=P+p by exact Gn h1) (show 0<=Q-q by exact Pg h4);have a3:=oW (show 0<=P-p by exact Pg h2) (show 0<=Q-q by exact Pg h4);have a4:=oW (show 0<=P+p by exact Gn h1) (show 0<=Q+q by exact Gn h3);constructor<;>grind
theorem Ap.add{x y:aW}{X Y e f g:aV}(hx:Ap x X e)(hy:Ap y Y f)(hg:e+f+1/100000000000000<=g)(FY:g<=1)(h1:-16<=X+Y)(h2:X+Y<=16):Ap (bP x y) (X+Y) g:=by refine fD hx λa b c=>?_;clear hx;refine fD hy λa' b' c'=>?_;clear hy;have:=w8;have:=pN;refine fD (I7 a a' (adM hg FY h1 b b':) (aoJ hg FY h2 c c':)) λp q r=>?_;refine⟨p,?_,?_⟩<;>(first|exact adN hg b b' (by assumption) q|exact adQ hg c c' (by assumption) r)
theorem Ap.sub{x y:aW}{X Y e f g:aV}(hx:Ap x X e)(hy:Ap y Y f)(hg:e+f+1/100000000000000<=g)(FY:g<=1)(h1:-16<=X-Y)(h2:X-Y<=16):Ap (aL x y) (X-Y) g:=by refine fD hx λa b c=>?_;clear hx;refine fD hy λa' b' c'=>?_;clear hy;have:=w8;have:=pN;refine fD (Vw a a' (aoI hg FY h1 b c':) (aoK hg FY h2 c b':)) λp q r=>?_;refine⟨p,?_,?_⟩<;>(first|exact adO hg b c' (by assumption) q|exact adP hg c b' (by assumption) r)
theorem Ap.mul{x y:aW}{X Y e f g:aV}(A B:aV)(hx:Ap x X e)(hy:Ap y Y f)(hA:-A<=X)(SR:X<=A)(hB:-B<=Y)(hB':Y<=B)(hg:(A+e)*f+B*e+1/100000000000000<=g)(FY:g<=1)(hAB:A*B<=16):Ap (bJ x y) (X*Y) g:=by
 refine fD hx λa b c=>?_;clear hx;refine fD hy λa' b' c'=>?_;clear hy;have:=w8;have:=pN;have m1:=k8 (p:=rv x) (P:=A+e) (q:=rv y-Y) (Q:=f) (aoq hA b:) (aox SR c:) b' c';have m2:=k8 (p:=Y) (P:=B) (q:=rv x-X) (Q:=e) hB hB' b c;have m3:=k8 hA SR hB hB';have e1:rv x*rv y-X*Y=rv x*(rv y-Y)+Y*(rv x-X):=by exact aoB
 have e2:-g<=rv x*rv y-X*Y+zw/\rv x*rv y-X*Y+zw<=g/\ -g<=rv x*rv y-X*Y-zw:=by rw[e1];generalize rv x*(rv y-Y)=u at *;generalize Y*(rv x-X)=v at *;generalize(A+e)*f=s at *;generalize B*e=t at *;clear m3 hAB e1;refine⟨?_,?_,?_⟩<;>(first|exact adJ this m1.1 m2.1 hg|exact adK (by assumption) m1.2 m2.2 hg|exact adL (by assumption) m1.1 m2.1 hg)
 generalize hM:rv x*rv y=M at *;generalize hN:X*Y=N at *;generalize A*B=C at *;refine fD (KU a a' (by rw[hM];clear m1 m2 e1;exact aoF FY e2.1 e2.2.2 hAB m3.1) (by rw[hM];clear m1 m2 e1;exact aoE FY this e2.2.1 hAB m3.2)) λp q r=>?_;rw[hM] at q r;clear m1 m2 e1;refine⟨p,?_,?_⟩<;>(first|exact ady e2.2.1 r|grind)
theorem Ap.neg{x:aW}{X e:aV}(hx:Ap x X e):Ap (i8 x) (-X) e:=by refine fD hx λa b c=>?_;clear hx;refine dQ (Uh a) λp q=>?_;refine⟨p,?_,?_⟩<;>rw[q]<;>(first|exact adj c|exact adi b)
theorem iy{x:aW}{X e:aV}(h:jX x=true)(h1:-e<=rv x-X)(h2:rv x-X<=e):Ap x X e:=⟨tc h,h1,h2⟩
theorem WN{a:aE}(h:0<=a/\a<=16):Fi (fl a)/\rv (fl a)=(a:aV)/16:=by
 refine dQ (Sz ⟨a.toNat,by exact q26 h⟩) λp q=>?_;rw[show((a.toNat:ah):aE)=a by exact q44 h] at p q;refine⟨tc p,?_⟩;have:((a.toNat:ah):aV)=(a:aV):=by rw[<-du,show((a.toNat:ah):aE)=a by exact q44 h]
 rw[this] at q;exact gW (anv q) (aex q)
theorem tZ{a:aE}(h:0<=a/\a<=16):Ap (fl a) ((a:aV)/16) 0:=by refine dQ (WN h) λp q=>?_;refine⟨p,?_,?_⟩<;>rw[q]<;>(first|exact ac8|exact ac9)
noncomputable abbrev e0:aV:=1/1000000000000
noncomputable abbrev e1:aV:=1/10000000000
noncomputable abbrev e2:aV:=1/1000000000
noncomputable abbrev e3:aV:=1/100000000
theorem c30:Ap 4599075939470750515 (30/100) e0:=iy ∅ ∅ ∅
theorem c59:Ap 4603489467105573601 (59/100) e0:=iy ∅ ∅ ∅
theorem c11:Ap 4592590756007337001 (11/100) e0:=iy ∅ ∅ ∅
theorem c74:Ap 4604840546993784750 (74/100) e0:=iy ∅ ∅ ∅
theorem c27:Ap 4598535507515466056 (27/100) e0:=iy ∅ ∅ ∅
theorem c48:Ap 4602318531202457272 (48/100) e0:=iy ∅ ∅ ∅
theorem c41:Ap 4601057523306793533 (41/100) e0:=iy ∅ ∅ ∅
theorem c94:Ap 4606703976345377586 (4100/4330) e0:=iy ∅ ∅ ∅
theorem c62:Ap 4603791717925830846 (2700/4330) e0:=iy ∅ ∅ ∅
theorem agG:Ap 4607671262177584182 (4800/4330) e0:=iy ∅ ∅ ∅
theorem agH:Ap 4610375502138591871 (7400/4330) e0:=iy ∅ ∅ ∅
theorem agI:Ap 4598621754083818298 (70200/255470) e0:=iy ∅ ∅ ∅
theorem c63:Ap 4603901015759978483 (162400/255470) e0:=iy ∅ ∅ ∅
section
variable{r g b:aW}{R G B:aV}(hr:Ap r R 0)(hg:Ap g G 0)(hb:Ap b B 0)(r0:0<=R)(r1:R<=1)(g0:0<=G)(g1:G<=1)(b0:0<=B)(b1:B<=1)
include hr hg hb r0 r1 g0 g1 b0 b1
theorem afu:Ap (yY r g b) (30/100*R+59/100*G+11/100*B) e1:=by have m1:=Ap.mul (g:=2*e0) (30/100) 1 c30 hr ∅ ∅ (LC r0:) (by grind) ∅ ∅ ∅;have m2:=Ap.mul (g:=2*e0) (59/100) 1 c59 hg ∅ ∅ (LC g0:) (by grind) ∅ ∅ ∅;have m3:=Ap.mul (g:=2*e0) (11/100) 1 c11 hb ∅ ∅ (LC b0:) (by grind) ∅ ∅ ∅;have m4:=Ap.add (g:=5*e0) m1 m2 ∅ ∅ (amZ r0 g0:) (anz r1 g1:);exact Ap.add m4 m3 ∅ ∅ (aaj r0 g0 b0:) (aoa r1 g1 b1:)
theorem afr{y:aW}{Y:aV}(hy:Ap y Y e1)(y0:0<=Y)(y1:Y<=1):Ap (yI r b y) (74/100*(R-Y)-27/100*(B-Y)) e2:=by have s1:=Ap.sub (g:=2*e1) hr hy ∅ ∅ (Pd r0 y1:) (Gp r1 y0:);have s2:=Ap.sub (g:=2*e1) hb hy ∅ ∅ (Pd b0 y1:) (Gp b1 y0:);have m1:=Ap.mul (g:=3*e1) (74/100) 1 c74 s1 ∅ ∅ (Gk r0 y1:) (Pf r1 y0:) ∅ ∅ ∅;have m2:=Ap.mul (g:=3*e1) (27/100) 1 c27 s2 ∅ ∅ (Gk b0 y1:) (Pf b1 y0:) ∅ ∅ ∅;exact Ap.sub m1 m2 ∅ ∅ (anU r0 b1 y1:) (an9 r1 b0 y0:)
theorem afs{y:aW}{Y:aV}(hy:Ap y Y e1)(y0:0<=Y)(y1:Y<=1):Ap (yQ r b y) (48/100*(R-Y)+41/100*(B-Y)) e2:=by have s1:=Ap.sub (g:=2*e1) hr hy ∅ ∅ (Pd r0 y1:) (Gp r1 y0:);have s2:=Ap.sub (g:=2*e1) hb hy ∅ ∅ (Pd b0 y1:) (Gp b1 y0:);have m1:=Ap.mul (g:=3*e1) (48/100) 1 c48 s1 ∅ ∅ (Gk r0 y1:) (Pf r1 y0:) ∅ ∅ ∅;have m2:=Ap.mul (g:=3*e1) (41/100) 1 c41 s2 ∅ ∅ (Gk b0 y1:) (Pf b1 y0:) ∅ ∅ ∅;exact Ap.add m1 m2 ∅ ∅ (anR r0 b0 y1:) (aob r1 b1 y0:)
end
section
variable{u i q:aW}{U I Q:aV}(hu:Ap u U e2)(hi:Ap i I e2)(hq:Ap q Q e2)(u0:-2<=U)(u1:U<=2)(i0:-2<=I)(i1:I<=2)(q0:-2<=Q)(q1:Q<=2)
include hu hi hq u0 u1 i0 i1 q0 q1
theorem aft:Ap (yR u i q) (U+4100/4330*I+2700/4330*Q) e3:=by have m1:=Ap.mul (g:=2*e2) 1 2 c94 hi ∅ ∅ (zK i0:) (zL i1:) ∅ ∅ ∅;have m2:=Ap.mul (g:=2*e2) 1 2 c62 hq ∅ ∅ (zK q0:) (zL q1:) ∅ ∅ ∅;have m3:=Ap.add (g:=4*e2) hu m1 ∅ ∅ (amV u0 i0:) (anE u1 i1:);exact Ap.add m3 m2 ∅ ∅ (anP u0 i0 q0:) (aar u1 i1 q1:)
theorem afq:Ap (yG u i q) (U-70200/255470*I-162400/255470*Q) e3:=by have m1:=Ap.mul (g:=2*e2) 1 2 agI hi ∅ ∅ (zK i0:) (zL i1:) ∅ ∅ ∅;have m2:=Ap.mul (g:=2*e2) 1 2 c63 hq ∅ ∅ (zK q0:) (zL q1:) ∅ ∅ ∅;have m3:=Ap.sub (g:=4*e2) hu m1 ∅ ∅ (amX u0 i1:) (anD u1 i0:);exact Ap.sub m3 m2 ∅ ∅ (anQ u0 i1 q1:) (aoc u1 i0 q0:)
theorem afp:Ap (yB u i q) (U-4800/4330*I+7400/4330*Q) e3:=by have m1:=Ap.mul (g:=3*e2) 2 2 agG hi ∅ ∅ (zK i0:) (zL i1:) ∅ ∅ ∅;have m2:=Ap.mul (g:=3*e2) 2 2 agH hq ∅ ∅ (zK q0:) (zL q1:) ∅ ∅ ∅;have m3:=Ap.sub (g:=5*e2) hu m1 ∅ ∅ (amW u0 i1:) (anC u1 i0:);exact Ap.add m3 m2 ∅ ∅ (aai u0 i1 q0:) (aod u1 i0 q1:)
end
set_option maxHeartbeats 4000000 in
theorem WS{x:aW}{X e:aV}(h:Ap x X e):Fi (zo (wM x))/\(X<=0->-e<=rv (zo (wM x))/\rv (zo (wM x))<=e)/\(1<=X->-e<=rv (zo (wM x))-1/\rv (zo (wM x))-1<=e)/\(0<=X->X<=1->-e<=rv (zo (wM x))-X/\rv (zo (wM x))-X<=e):=by
 refine fD h λa b c=>?_;clear h;refine dQ (Sd a) λp q=>?_;refine dQ (Se p) λp' q'=>?_;refine⟨p',λ_=>?_,λ_=>?_,λ_ _=>?_⟩
 all_goals rcases q with⟨q1,q2⟩|⟨q1,q2⟩<;>rcases q' with⟨q3,q4⟩|⟨q3,q4⟩<;>constructor<;>(first|exact adk q2 q3|exact ads b c q2 q4|exact adw b c q2 q4|exact adB c (by assumption) q2 q3 q4|exact adC c (by assumption) q2 q3 q4|exact adA c (by assumption) q1 q2 q4|exact adD c (by assumption) q2 q4|exact ao2 q2 q3|exact adl q2 q3|exact adp b (by assumption) q1 q2 q4|exact adv b (by assumption) q1 q2 q4|exact adm b c q4|exact adn b c q4|exact adq b (by assumption) q2 q4|exact adx b c q3 q4|exact ao3 q2 q3|exact adt b q1 q2 q4|exact adz b (by assumption) q1 q2 q4|exact adI c (by assumption) q2 q3 q4|exact adG c q2 q3 q4|exact adu b q2 q4|exact adH c q2 q4|grind)
theorem Ma{x:aW}{c:aE}(h:Ap x ((c:aV)/1600) (1/10000)):wk (zo (wM x)) ((min (max c 0) 1600*10+505).fdiv 1000):=by
 refine oS (WS h) λp q1 q2 q3=>?_;rw[oV _ (by decide)];generalize hC:min (max c 0) 1600=C;have SU:0<=C/\C<=1600:=by exact abl hC
 obtain⟨n,hn⟩:∃n:ah,(C*10+505)/1000=(n:aE):=⟨((C*10+505)/1000).toNat,by exact abc SU⟩;rw[hn];have b1:100*(n:aE)-50<=C:=by exact ab0 hn
 have b2:C<=100*(n:aE)+49:=by exact abE hn
 have b3:n<=16:=by exact abZ SU hn
 have r1:(100:aV)*(n:aV)-50<=(C:aV):=by have:=dy.mpr b1;rw[eW,gc,du] at this;exact this
 have r2:(C:aV)<=(100:aV)*(n:aV)+49:=by have:=dy.mpr b2;rw[dg,gc,du] at this;exact this
 have key:(C:aV)/100-2/1000<=16*rv (zo (wM x))/\16*rv (zo (wM x))<=(C:aV)/100+2/1000:=by
  by_cases k1:c<=0
  ·have:C=0:=by exact q59 hC k1
   subst this;have c0:(c:aV)<=0:=by have:=dy.mpr k1;exact this
   have z:((0:aE):aV)=0:=rfl;rw[z];refine dQ (q1 (amz c0:)) λu v=>?_;constructor<;>(first|exact ac4 u|exact ac6 v)
  ·by_cases k2:1600<=c
   ·have:C=1600:=by exact q58 hC k2
    subst this;have c0:(1600:aV)<=(c:aV):=by have:=dy.mpr k2;exact this
    have z:((1600:aE):aV)=1600:=rfl;rw[z];refine dQ (q2 (amy c0:)) λu v=>?_;constructor<;>(first|exact ac3 u|exact ac5 v)
   ·have:C=c:=by exact q76 hC k1 k2
    subst this;have c0:(0:aV)<=(C:aV):=by have:=dy.mpr SU.1;exact this
    have c1:(C:aV)<=1600:=by have:=dy.mpr SU.2;exact this
    refine dQ (q3 (amo c0:) (amH c1:)) λu v=>?_;constructor<;>(first|exact adf u|exact adg v)
 exact Qs p b3 (Y2 r1 key.1:) (amR r2 key.2:)
theorem o9(a b d x:aE):((2*(30*a+59*b+11*d)-100*x:aE):aV)=2*(30*(a:aV)+59*(b:aV)+11*(d:aV))-100*(x:aV):=by simp only[eW,gc,dg];rfl
theorem TJ{a:aE}(h:0<=a/\a<=16):(0:aV)<=(a:aV)/16/\(a:aV)/16<=1:=by
 have c0:(0:aV)<=(a:aV):=by have:=dy.mpr h.1;exact this
 have c1:(a:aV)<=16:=by have:=dy.mpr h.2;exact this
 constructor<;>(first|exact ac2 c0|exact ac7 c1)
theorem afj(fig:aE)(t:l9)(h:t.inR)(sns:af aE):∃u i q x y z,(∀H,BJ sns [.bO (fl t.a),.bO (fl t.b),.bO (fl t.d)] H=aa (.ref H.length,H++[.tup [.bO u,.bO i,.bO q]]))/\
  (∀H,BK sns [.bO u,.bO (i8 i),.bO (i8 q)] H=aa (.ref H.length,H++[.tup [.bO x,.bO y,.bO z]]))/\GO x y z (mM 3 fig t):=by
 refine fD h λha hb hd=>?_;clear h;obtain⟨a,b,d⟩:=t;simp only at ha hb hd;have pa:=tZ ha;have pb:=tZ hb;have pd:=tZ hd;refine dQ (TJ ha) λa0 a1=>?_;refine dQ (TJ hb) λb0 b1=>?_;refine dQ (TJ hd) λd0 d1=>?_;have wY:=afu pa pb pd a0 a1 b0 b1 d0 d1;have wI:=(afr pa pb pd a0 a1 b0 b1 d0 d1 wY (aeE a0 b0 d0:) (aeF a1 b1 d1:)).neg;have wQ:=(afs pa pb pd a0 a1 b0 b1 d0 d1 wY (aeE a0 b0 d0:) (aeF a1 b1 d1:)).neg;have wY':Ap _ _ e2:=wY.to (Y:=30/100*((a:aV)/16)+59/100*((b:aV)/16)+11/100*((d:aV)/16)) (aaE:) (aav:);have xR:=aft wY' wI wQ (U7 a0 b0 d0:) (Vb a1 b1 d1:) (Va a1 b0 d0:) (U9 a0 b1 d1:) (Lq a1 b0 d1:) (U8 a0 b1 d0:);have xG:=afq wY' wI wQ (U7 a0 b0 d0:) (Vb a1 b1 d1:) (Va a1 b0 d0:) (U9 a0 b1 d1:) (Lq a1 b0 d1:) (U8 a0 b1 d0:);have xB:=afp wY' wI wQ (U7 a0 b0 d0:) (Vb a1 b1 d1:) (Va a1 b0 d0:) (U9 a0 b1 d1:) (Lq a1 b0 d1:) (U8 a0 b1 d0:);refine⟨_,_,_,_,_,_,λH=>Vf sns _ _ _ H,λH=>VI sns _ _ _ H,?_,?_,?_⟩
 ·exact Ma (c:=2*(30*a+59*b+11*d)-100*a) (xR.to (by rw[o9];exact aaz) (by rw[o9];exact aau))
 ·exact Ma (c:=2*(30*a+59*b+11*d)-100*b) (xG.to (by rw[o9];exact aaB) (by rw[o9];exact aax))
 ·exact Ma (c:=2*(30*a+59*b+11*d)-100*d) (xB.to (by rw[o9];exact aaA) (by rw[o9];exact aaw))
theorem xh{x:aW}(h:Fi x):cG x=true↔val x=0:=by
 obtain⟨a,m,e,h⟩:=h;rw[jO h];unfold cG;rw[h,pX];constructor
 ·intro q
  split at q
  ·rename_i q';cases q';simp
  ·cases q
 ·intro q
  have:((m*2^(e+1074).toNat:ah):aE)=0:=by
   cases a
   ·simpa using q
   ·simpa using q
  have h3:m*2^(e+1074).toNat=0:=by exact_mod_cast this
  have hm:m=0:=(yO.mp h3).resolve_right (vG (iK _));subst hm;rfl
theorem CF{x:aW}(h:Fi x)(h0:0<rv x):cG x=false:=by
 cases q:cG x
 ·rfl
 ·have:=(xh h).mp q
  unfold rv at h0;rw[this] at h0;rw[yk] at h0;simp at h0
theorem GC{x:aW}(h:0<rv x):0<val x:=by have:=gu i7 h;rw[<-gT,vJ] at this;have h2:((0:aE):aV)<(val x:aV):=this;exact dz.mp h2
theorem Nj{x y:aW}(hx:Fi x)(hy:Fi y)(h0:0<val y)(h:(val x).natAbs*2^1074<2^1079*(val y).natAbs):Fi (bk x y)/\(val (bk x y)*val y-val x*2^1074).natAbs<=(val y).natAbs*2^1026:=by
 obtain⟨a,m,e,hx⟩:=hx;obtain⟨b,k,f,hy⟩:=hy;have vy:=jO hy;have hk:k≠0:=by intro q;subst q;rw[vy,Nat.zero_mul,pX] at h0;simp at h0
 have hb:b=false:=by
  cases b
  ·rfl
  ·rw[vy] at h0;simp only[sgn,kU] at h0;omega
 subst hb;have r:=Float64.div_right hx hy hk;refine dQ (pW r (by lia) h) λh1 eX=>?_;refine js eX λv h2 h3 h4=>?_;clear eX;refine⟨h1,?_⟩;have ex:val x=sgn a (val x).natAbs:=by rw[kM hx,jO hx]
 rw[h2];generalize(val x).natAbs=N at *;rw[ex,pX,pX];have hc:((2:aE)^1074)=((2^1074:ah):aE):=by rw[jB];rfl
 rw[hc];obtain⟨D,hD⟩:∃D:ah,val y=(D:aE):=⟨(val y).toNat,by exact q21 h0⟩;rw[hD] at h3 h4⊢;rw[uy] at *;generalize(2:ah)^1074=C at *;generalize(2:ah)^1026=P at *;have h5:((D*v:ah):aE)=(v:aE)*(D:aE):=by rw[jA,qM]
 have h6:((N*C:ah):aE)=(N:aE)*(C:aE):=jA _ _;cases a
 ·simp only[Ro,cR,iv,km];rw[<-h5,<-h6];exact alk h4 h3
 ·simp only[Ro,kU,kl,km];rw[<-h5,<-h6];exact alm h4 h3
theorem Sj{x y:aW}(hx:Fi x)(hy:Fi y)(h0:0<rv y)(h1:-(32*rv y)<rv x)(h2:rv x<32*rv y):Fi (bk x y)/\ -(rv y*zw)<=rv (bk x y)*rv y-rv x/\rv (bk x y)*rv y-rv x<=rv y*zw:=by
 have hv:=GC h0;obtain⟨D,hD⟩:∃D:ah,val y=(D:aE):=⟨(val y).toNat,by exact q21 hv⟩;have hD':(D:aV)=rv y*2^1074:=by rw[<-gT,hD,du]
 have hb:(val x).natAbs<32*D:=by
  refine pS ?_ ?_
  ·rw[gT,iL,hD',<-tP,<-fH];exact gu i7 h1
  ·rw[gT,iL,hD',<-tP];exact gu i7 h2
 refine dQ (Nj hx hy hv (by
  rw[hD,uy];have:=Nat.mul_lt_mul_of_pos_right hb (iK 1074);have e:32*D*2^1074=2^1079*D:=by rw[l8 32 D,iW,l8,show(32:ah)*2^1074=2^1079 from∅]
  rw[<-e];exact this)) λa b=>?_
 refine⟨a,?_⟩;refine dQ (mY b) λp q=>?_;have c3:(((val y).natAbs*2^1026:ah):aV)=rv y*zw*2^1074*2^1074:=by rw[hD,uy,iL,hD',<-FU];generalize(2:aV)^1074=C;exact aeJ
 have c4:((val (bk x y)*val y-val x*2^1074:aE):aV)=((rv (bk x y)*rv y-rv x)*2^1074)*2^1074:=by rw[eW,gc,gc,gT,gT,gT,nW];generalize rv (bk x y)=M;rw[mu,mu];have:(((2:aE):aV)^1074)=(2:aV)^1074:=rfl;rw[this];generalize(2:aV)^1074=C;exact aoA
 rw[c3,c4] at p q;rw[<-fH,<-fH] at p;exact⟨bb (bb p i7) i7,bb (bb q i7) i7⟩
theorem Ap.div{x y:aW}{X Y Z e f g:aV}(A c:aV)(hx:Ap x X e)(hy:Ap y Y f)(hZ:Z*Y=X)(hA:-A<=Z)(SR:Z<=A)(hA8:A<=8)(hc:0<c)(hcy:c<=Y-f)(hg:e+A*f<=(g-1/100000000000000)*c)(FY:g<=1)(hg0:1/100000000000000<=g)(hf:0<=f):Ap (bk x y) Z g:=by
 refine fD hx λa b d=>?_;clear hx;refine fD hy λa' b' d'=>?_;clear hy;have N5:c<=rv y:=by exact aot hcy b'
 have z1:=k8 hA SR (q:=Y-rv y) (Q:=f) (aoi d':) (an4 b':);have z2:Z*rv y=X-Z*(Y-rv y):=by exact aos hZ
 have z3:=ym N5 (show 0<=g-1/100000000000000 by exact amt hg0);have z4:=gC SR (show 0<=rv y by exact CP hc N5);have z5:=gC hA (show 0<=rv y by exact CP hc N5);have z6:=gC hA8 (show 0<=rv y by exact CP hc N5);have z7:=gC FY (show 0<=rv y by exact CP hc N5);have:=w8;have:=pN;have z8:=ym w8 (show 0<=rv y by exact CP hc N5);have k1:-(9*rv y)<=rv x/\rv x<=9*rv y:=by constructor<;>grind
 refine fD (Sj a a' (U3 hc N5:) (aoC hc hcy b' k1.1:) (aoD hc hcy b' k1.2:)) λp q r=>?_;refine⟨p,?_,?_⟩
 ·refine bb (c:=rv y) ?_ (U3 hc N5:)
  grind
 ·refine bb (c:=rv y) ?_ (U3 hc N5:)
  exact aoL hZ hg d z1 z3 z8 r
noncomputable abbrev K1:aW:=4607182418800017408
noncomputable def lQ(x:aW):aW:=(jN x K1).snd
theorem WU:decode K1=.fin false (2^52) (-52):=()
theorem OC(x:aW):lQ x=if cG (fM x K1)=true then 0 else if sH (fM x K1) 0=true then bP (fM x K1) K1 else fM x K1:=by have h1:Float64.copysign (m6 false) K1=0:=∅;have h2:sH K1 (m6 false)=false:=∅;have h3:m6 false=0:=∅;unfold lQ jN;generalize fM x K1=m;rw[h3] at h1 h2;simp only[h3];rw[h1,h2];cases cG m<;>cases sH m 0<;>rfl
theorem L4{a b:aE}(h:0<=a)(h':0<=b):a.toNat+b.toNat=(a+b).toNat:=(Int.toNat_add h h').symm
theorem DX{x:aW}{a:cj}{m:ah}{e:aE}(hx:decode x=.fin a m e):Right (fM x K1) a ((val x).natAbs % 2^1074) 1:=by
 have he:=GH hx;have h:fM x K1=Float64.ofBin a (m*2^(e-min e (-52)).toNat % (2^52*2^(-52-min e (-52)).toNat)) (min e (-52)):=by unfold fM;rw[hx,WU];simp only;rw[aZ (by decide)];unfold Float64.align;simp only[sgn,cR,iv,fY]
 rw[h,kM hx];generalize hg:min e (-52)=g;have FY:-1074<=g:=by exact q40 he hg
 have r:=Float64.ofBin_right (neg:=a) (M:=m*2^(e-g).toNat % (2^52*2^(-52-g).toNat)) FY;have e1:(m*2^(e-g).toNat % (2^52*2^(-52-g).toNat))*2^(g+1074).toNat=m*2^(e+1074).toNat % 2^1074:=by
  rw[<-Nat.mul_mod_mul_right,iW,<-pD,iW,<-pD,<-pD];congr 3
  ·rw[L4 (VK.mpr (hg▸rC ..)) (Q4 FY:)];congr 1;exact abq
  ·rw[L4 (VK.mpr (hg▸qi ..)) (Q4 FY:),show(-52-g+(g+1074):aE)=1022 by exact abj];rfl
 rw[e1] at r;exact r
theorem aoY:val K1=2^1074:=∅
theorem fi1:Fi K1:=⟨_,_,_,WU⟩
theorem fi0:Fi 0:=tc ∅
theorem PB:val 0=0:=∅
theorem lt_iff{x y:aW}(hx:Fi x)(hy:Fi y):sH x y=true↔val x<val y:=by
 obtain⟨a,m,e,hx⟩:=hx;obtain⟨b,k,f,hy⟩:=hy;unfold sH;rw[lz hx hy];constructor
 ·intro q;exact iM.mp (by simpa using q)
 ·intro q;rw[iM.mpr q];rfl
theorem mi0{X y:aE}{W E C:ah}(hr:X=(W:aE))(hy:y=0)(h:W<=E)(hl:W<C)(hE:E<=C):(y-X).natAbs<=2*E/\ -(2*(E:aE))<=y/\y<=(C:aE)+2*(E:aE):=by subst hr;subst hy;exact acG h
theorem mi1{X y:aE}{W E C v:ah}(hr:X=(W:aE))(hy:y=(v:aE))(h3:v<=W+E)(h4:W<=v+E)(hl:W<C):(y-X).natAbs<=2*E/\ -(2*(E:aE))<=y/\y<=(C:aE)+2*(E:aE):=by subst hr;subst hy;exact acQ h3 h4 hl
theorem mi2{X y:aE}{W E C:ah}(hr:X=-(W:aE))(hy:y=0)(h:W<=E)(hl:W<C)(hE:E<=C):(y-X).natAbs<=2*E/\ -(2*(E:aE))<=y/\y<=(C:aE)+2*(E:aE):=by subst hr;subst hy;exact acH h
theorem mi3{y:aE}{W E C v:ah}(hy:y=-(v:aE))(h3:v<=W+E)(hl:W<C)(hE:E<=C):(y+(C:aE)).natAbs<32*C:=by subst hy;exact acS h3 hl hE
theorem mi4{X y:aE}{W E C v:ah}(hr:X=(C:aE)-(W:aE))(hy:(y-(-(v:aE)+(C:aE))).natAbs<=E)(h3:v<=W+E)(h4:W<=v+E)(hl:W<C):(y-X).natAbs<=2*E/\ -(2*(E:aE))<=y/\y<=(C:aE)+2*(E:aE):=by subst hr;exact abL hy h3 h4 hl
theorem mod_int{x:aW}(hx:Fi x):Fi (lQ x)/\∃k:aE,(val (lQ x)-(val x-k*2^1074)).natAbs<=2*2^1026/\ -(2*2^1026)<=val (lQ x)/\val (lQ x)<=2^1074+2*2^1026:=by
 obtain⟨a,m,e,hx⟩:=hx;have r:=DX hx;have eY:(val x).natAbs % 2^1074<2^1074:=Mn _ (iK _);refine dQ (pW r (by decide) (vE eY (by rw[Nat.mul_one];exact Nat.pow_lt_pow_right (by decide) (by decide)))) λf eX=>?_;refine js eX λv h2 h3 h4=>?_;clear eX;have ex:val x=sgn a (val x).natAbs:=by rw[kM hx,jO hx]
 have hdm:=rE (val x).natAbs (2^1074);have hz:=xh f;have hl:=lt_iff f fi0;have Cc:(val (fM x K1)+val K1).natAbs<2^1079->Fi (bP (fM x K1) K1)/\(val (bP (fM x K1) K1)-(val (fM x K1)+val K1)).natAbs<=2^1026:=λh=>add_int f fi1 h;rw[PB] at hl;have hc:((2:aE)^1074)=((2^1074:ah):aE):=by rw[jB];rfl
 rw[aoY,hc] at Cc;have S5:((2:aE)^1026)=((2^1026:ah):aE):=by rw[jB];rfl
 have hb:(2:ah)^1079=32*2^1074:=∅;have NO:(2:ah)^1026<=2^1074:=∅;rw[hb] at Cc;rw[hc,S5];rw[OC];generalize(val x).natAbs/2^1074=Q at *;generalize(val x).natAbs % 2^1074=W at *;generalize(2:ah)^1074=C at *;generalize(2:ah)^1026=E at *;generalize fM x K1=M at *;rw[<-hdm] at ex;have hQ:((C*Q:ah):aE)=(Q:aE)*(C:aE):=by rw[jA,qM]
 rw[yj,yj] at h3;rw[yj,yj] at h4;cases a with
 |false=>
  simp only[sgn,cR,iv] at ex h2;have hr:val x-(Q:aE)*(C:aE)=(W:aE):=by rw[ex,<-hQ,yN];clear Cc;exact acp
  by_cases q:cG M=true
  ·rw[aP q]
   have v0:v=0:=Int.ofNat.inj (h2.symm.trans (hz.mp q));exact⟨fi0,(Q:aE),mi0 hr (by rw[PB]) (by rw[v0,cw] at h4;exact h4) eY NO⟩
  ·rw[aZ q,aZ (λz=>qN.mpr (by rw[h2];exact dE v) (hl.mp z))]
   exact⟨f,(Q:aE),mi1 hr h2 h3 h4 eY⟩
 |true=>
  simp only[sgn,kU] at ex h2;by_cases q:cG M=true
  ·rw[aP q]
   have v0:v=0:=by have:=h2.symm.trans (hz.mp q);clear Cc;lia
   have hr:val x- -(Q:aE)*(C:aE)=-(W:aE):=by rw[ex,kl,<-hQ,yN];clear Cc;exact acr
   exact⟨fi0,-(Q:aE),mi2 hr (by rw[PB]) (by rw[v0,cw] at h4;exact h4) eY NO⟩
  ·have hv:v≠0:=λz=>q (hz.mpr (by rw[h2,z];rfl))
   rw[aZ q,aP (hl.mpr (by rw[h2];clear Cc;lia))];refine dQ (Cc (mi3 h2 h3 eY NO)) λf' g=>?_;have hr:val x-(-(Q:aE)-1)*(C:aE)=(C:aE)-(W:aE):=by rw[ex,Int.sub_mul,kl,<-hQ,km,yN];clear Cc;exact acO
   rw[h2] at g;exact⟨f',-(Q:aE)-1,mi4 hr g h3 h4 eY⟩
theorem KR{x:aW}(hx:Fi x):Fi (lQ x)/\∃k:aE,-(2*zw)<=rv (lQ x)-(rv x-(k:aV))/\rv (lQ x)-(rv x-(k:aV))<=2*zw/\ -(2*zw)<=rv (lQ x)/\rv (lQ x)<=1+2*zw:=by
 refine dQ (mod_int hx) λf eX=>?_;refine js eX λk h1 h2 h3=>?_;clear eX;refine dQ (mY h1) λp q=>?_;rw[<-dy] at h2 h3;have e1:((val (lQ x)-(val x-k*2^1074):aE):aV)=(rv (lQ x)-(rv x-(k:aV)))*2^1074:=by rw[eW,eW,gc,gT,gT,nW,mu,mu];rfl
 have e2:((2*2^1026:ah):aV)=2*zw*2^1074:=by rw[tP,FU,iL];rfl
 have e3:((-(2*2^1026):aE):aV)=-(2*zw)*2^1074:=by rw[fH,<-e2,rF];rfl
 have e4:((2^1074+2*2^1026:aE):aV)=(1+2*zw)*2^1074:=by rw[Iv,<-e2,dg,sI];rfl
 rw[e1,e2] at p q;rw[gT,e3] at h2;rw[gT,e4] at h3;rw[<-fH] at p;exact⟨f,k,bb p i7,bb q i7,bb h2 i7,bb h3 i7⟩
noncomputable def T(n:ah)(p:aV):aV:=if n % 6=0 then 1 else if n % 6=1 then 1-p else if n % 6=2 then 0 else if n % 6=3 then 0 else if n % 6=4 then p else 1
theorem T0{n:ah}{p:aV}(h:n % 6=0):T n p=1:=by unfold T;simp only[h];rfl
theorem T1{n:ah}{p:aV}(h:n % 6=1):T n p=1-p:=by unfold T;simp only[h];rfl
theorem T2{n:ah}{p:aV}(h:n % 6=2):T n p=0:=by unfold T;simp only[h];rfl
theorem T3{n:ah}{p:aV}(h:n % 6=3):T n p=0:=by unfold T;simp only[h];rfl
theorem T4{n:ah}{p:aV}(h:n % 6=4):T n p=p:=by unfold T;simp only[h];rfl
theorem T5{n:ah}{p:aV}(h:n % 6=5):T n p=1:=by unfold T;simp only[h];rfl
theorem six(n:ah):n % 6=0\/n % 6=1\/n % 6=2\/n % 6=3\/n % 6=4\/n % 6=5:=by exact abV
theorem Fv{n m:ah}{p:aV}(h:n % 6=m % 6):T n p=T m p:=by unfold T;rw[h]
theorem KV{a b:ah}(h:(a:aV)<(b:aV)):a<b:=Rat.natCast_lt_natCast.mp h
theorem xo(a:ah):((a+1:ah):aV)=(a:aV)+1:=by rw[gh];rfl
theorem rz(a:ah):((a+2:ah):aV)=(a:aV)+2:=by rw[gh];rfl
theorem I3{i N:ah}{f p δ:aV}(f0:-δ<=f)(f1:f<=1+δ)(p0:0<=p)(p1:p<=1)(d0:0<=δ)(d1:δ<=1/4)(h1:-δ<=(i:aV)+f-((N:aV)+p))(h2:(i:aV)+f-((N:aV)+p)<=δ):-(3*δ)<=T i f-T N p/\T i f-T N p<=3*δ:=by
 have k1:i<N+2:=KV (by rw[rz];exact Y0 f0 p1 d1 h2);have k2:N<i+2:=KV (by rw[rz];exact amj f1 p0 d1 h1);have k3:i=N\/i=N+1\/N=i+1:=by exact acg k1 k2
 rcases k3 with rfl|rfl|rfl
 ·rcases six i with q|q|q|q|q|q
  ·rw[T0 q,T0 q];exact⟨O9 d0,Gr d0⟩
  ·rw[T1 q,T1 q];exact⟨aok h1 h2,aeL h1 h2⟩
  ·rw[T2 q,T2 q];exact⟨Gj d0,AZ d0⟩
  ·rw[T3 q,T3 q];exact⟨Gj d0,AZ d0⟩
  ·rw[T4 q,T4 q];exact⟨aol h1 h2,aeM h1 h2⟩
  ·rw[T5 q,T5 q];exact⟨O9 d0,Gr d0⟩
 ·rw[xo] at h1 h2
  generalize(N:aV)=n at *;rcases six N with q|q|q|q|q|q
  ·rw[T0 q,T1 (show(N+1) % 6=1 by exact um q)];exact⟨aom f0 p1 h2,aeN f0 p1 h2⟩
  ·rw[T1 q,T2 (show(N+1) % 6=2 by exact um q)];exact⟨aoo f0 p1 h2,aeP f0 p1 h2⟩
  ·rw[T2 q,T3 (show(N+1) % 6=3 by exact um q)];exact⟨Gj d0,AZ d0⟩
  ·rw[T3 q,T4 (show(N+1) % 6=4 by exact um q)];exact⟨aon f0 p1 h2,aeO f0 p1 h2⟩
  ·rw[T4 q,T5 (show(N+1) % 6=5 by exact um q)];exact⟨aop f0 p1 h2,aeQ f0 p1 h2⟩
  ·rw[T5 q,T0 (show(N+1) % 6=0 by exact um q)];exact⟨O9 d0,Gr d0⟩
 ·rw[xo] at h1 h2
  generalize(i:aV)=n at *;rcases six i with q|q|q|q|q|q
  ·rw[T0 q,T1 (show(i+1) % 6=1 by exact um q)];exact⟨aow f1 p0 h1,aeT f1 p0 h1⟩
  ·rw[T1 q,T2 (show(i+1) % 6=2 by exact um q)];exact⟨aaN f1 p0 h1,Uy f1 p0 h1⟩
  ·rw[T2 q,T3 (show(i+1) % 6=3 by exact um q)];exact⟨Gj d0,AZ d0⟩
  ·rw[T3 q,T4 (show(i+1) % 6=4 by exact um q)];exact⟨aov f1 p0 h1,aeS f1 p0 h1⟩
  ·rw[T4 q,T5 (show(i+1) % 6=5 by exact um q)];exact⟨aou f1 p0 h1,aeR f1 p0 h1⟩
  ·rw[T5 q,T0 (show(i+1) % 6=0 by exact um q)];exact⟨O9 d0,Gr d0⟩
theorem Sf:∀a b:Fin 17,bQ (fl ((a.val:ah):aE)) (fl ((b.val:ah):aE))=aa (compare ((a.val:ah):aE) ((b.val:ah):aE)):=∅
theorem Jm{a b:aE}(ha:0<=a/\a<=16)(hb:0<=b/\b<=16):bQ (fl a) (fl b)=aa (compare a b):=by have:=Sf ⟨a.toNat,by exact q26 ha⟩ ⟨b.toNat,by exact q26 hb⟩;rwa[show((a.toNat:ah):aE)=a by exact q44 ha,show((b.toNat:ah):aE)=b by exact q44 hb] at this
noncomputable abbrev K2:aW:=4611686018427387904
noncomputable abbrev K4:aW:=4616189618054758400
noncomputable abbrev K6:aW:=4618441417868443648
noncomputable def h1F(r g b mx rg:aW):aW:=
 if(bQ r mx==aa cZ)=true then aL (bk (aL mx b) rg) (bk (aL mx g) rg)
 else if(bQ g mx==aa cZ)=true then aL (bP K2 (bk (aL mx r) rg)) (bk (aL mx b) rg)
 else aL (bP K4 (bk (aL mx g) rg)) (bk (aL mx r) rg)
noncomputable def X5(r g b mx rg:aW):aW:=lQ (bk (h1F r g b mx rg) K6)
theorem z6:cG K6=false:=∅
theorem z1:cG K1=false:=∅
theorem z2:cG K2=false:=∅
section
variable(sns:af aE){r g b mx mn:aW}(hM:bestOf .Gt [.bO r,.bO g,.bO b]=aa (.bO mx))(hm:bestOf .Lt [.bO r,.bO g,.bO b]=aa (.bO mn))(H:af av)
include hM hm
theorem LF(he:(bQ mn mx==aa cZ)=true):ze sns [.bO r,.bO g,.bO b] H=aa (.ref H.length,H++[.tup [.bO 0,.bO 0,.bO mx]]):=by
 apply lg rfl;delta Fe
 repeat' first|fail|(with_reducible first|(show _=_;assumption)|apply fO|apply fR|apply gz|apply aF|apply aT|apply cF|apply ki|apply cg|apply cI|apply bB|apply jv|apply wX)|((with_reducible apply kB);(focus repeat' first|fail|(with_reducible first|(show _=_;assumption)|apply cI|apply bB|apply aF|apply aT|apply cF|apply ki|apply cg)|exact rfl);first|assumption|with_reducible rfl)|(intro _)|exact rfl
theorem Vd(he:(bQ mn mx==aa cZ)=false)(hz:cG mx=false)(hr:cG (aL mx mn)=false):
  ze sns [.bO r,.bO g,.bO b] H=aa (.ref H.length,H++[.tup [.bO (X5 r g b mx (aL mx mn)),.bO (bk (aL mx mn) mx),.bO mx]]):=by
 have z6:=z6;have z1:=z1;apply jD
 ·apply lg rfl
  delta Fe
  repeat' first|fail|(with_reducible first|(show _=_;assumption)|apply fO|apply fR|apply fS|apply aF|apply aT|apply cF|apply ki|apply FK|apply FP|apply cg|apply cI|apply bB|apply jv|apply wX)|((with_reducible apply iY);(focus repeat' first|fail|(with_reducible first|(show _=_;assumption)|apply cI|apply bB|apply aF|apply aT|apply cF|apply ki|apply cg)|exact rfl);first|assumption|with_reducible rfl)|(with_reducible first|apply Nq)|(intro _)|exact rfl
 ·rfl
end
noncomputable abbrev KH:aW:=4602678819172646912
noncomputable abbrev KS:aW:=4595172819793696085
noncomputable abbrev KT:aW:=4604180019048437077
noncomputable abbrev K3:aW:=4599676419421066581
noncomputable def KA(x y:aW):cj:=bQ x y==aa e9||Float64.cmp x y==aa cZ
noncomputable def Ih(c2 ch mx mn:aW):aW:=
 if KA (bk (bP mx mn) c2) ch=true then bk (aL mx mn) (bP mx mn)
 else bk (aL mx mn) (aL (aL c2 mx) mn)
noncomputable def NG(c2 c4 r g b mx rg:aW):aW:=
 if(bQ r mx==aa cZ)=true then aL (bk (aL mx b) rg) (bk (aL mx g) rg)
 else if(bQ g mx==aa cZ)=true then aL (bP c2 (bk (aL mx r) rg)) (bk (aL mx b) rg)
 else aL (bP c4 (bk (aL mx g) rg)) (bk (aL mx r) rg)
section
variable(sns:af aE){r g b mx mn:aW}(hM:bestOf .Gt [.bO r,.bO g,.bO b]=aa (.bO mx))(hm:bestOf .Lt [.bO r,.bO g,.bO b]=aa (.bO mn))(H:af av)
include hM hm
theorem LG{c2:aW}(hc:c2=4611686018427387904)(z2:cG c2=false)(he:(bQ mn mx==aa cZ)=true):zf sns [.bO r,.bO g,.bO b] H=aa (.ref H.length,H++[.tup [.bO 0,.bO (bk (bP mx mn) c2),.bO 0]]):=by
 subst hc;apply lg rfl;delta BA
 repeat' first|fail|(with_reducible first|(show _=_;assumption)|apply fO|apply fR|apply gz|apply aF|apply aT|apply cF|apply ki|apply FK|apply cg|apply cI|apply bB|apply jv|apply wX)|((with_reducible apply kB);(focus repeat' first|fail|(with_reducible first|(show _=_;assumption)|apply cI|apply bB|apply aF|apply aT|apply cF|apply ki|apply cg)|exact rfl);first|assumption|with_reducible rfl)|(intro _)|exact rfl
theorem Ve{c1 c2 c4 c6 ch:aW}(Qy:c1=4607182418800017408)(hc2:c2=4611686018427387904)(hc4:c4=4616189618054758400)(Xt:c6=4618441417868443648)(Xv:ch=4602678819172646912)(z1:cG c1=false)(z2:cG c2=false)(z6:cG c6=false)
  (he:(bQ mn mx==aa cZ)=false) (hz:cG (bP mx mn)=false) (V9:KA (bk (bP mx mn) c2) ch=false->cG (aL (aL c2 mx) mn)=false) (hr:cG (aL mx mn)=false):
  zf sns [.bO r,.bO g,.bO b] H=aa (.ref H.length,H++[.tup [.bO (jN (bk (NG c2 c4 r g b mx (aL mx mn)) c6) c1).snd,.bO (bk (bP mx mn) c2),.bO (Ih c2 ch mx mn)]]):=by
 subst Qy hc2 hc4 Xt Xv;cases q3:KA (bk (bP mx mn) 4611686018427387904) 4602678819172646912
 ·have V9:=V9 q3
  rw[show Ih _ _ mx mn=_ from aZ (by rw[q3];exact tJ)];unfold KA at q3;apply jD
  ·apply lg rfl
   delta BA
   repeat' first|fail|(with_reducible first|(show _=_;assumption)|apply fO|apply fR|apply fS|apply gz|apply aF|apply aT|apply cF|apply ki|apply FK|apply FP|apply cg|apply cI|apply bB|apply jv|apply wX)|((with_reducible apply kB);(focus repeat' first|fail|(with_reducible first|(show _=_;assumption)|apply cI|apply bB|apply aF|apply aT|apply cF|apply ki|apply cg)|exact rfl);first|assumption|with_reducible rfl)|((with_reducible apply iY);(focus repeat' first|fail|(with_reducible first|(show _=_;assumption)|apply cI|apply bB|apply aF|apply aT|apply cF|apply ki|apply cg)|exact rfl);first|assumption|with_reducible rfl)|(with_reducible first|apply Nq)|(intro _)|exact rfl
  ·rfl
 ·clear V9
  rw[show Ih _ _ mx mn=_ from aP q3];unfold KA at q3;apply jD
  ·apply lg rfl
   delta BA
   repeat' first|fail|(with_reducible first|(show _=_;assumption)|apply fO|apply fR|apply fS|apply gz|apply aF|apply aT|apply cF|apply ki|apply FK|apply FP|apply cg|apply cI|apply bB|apply jv|apply wX)|((with_reducible apply kB);(focus repeat' first|fail|(with_reducible first|(show _=_;assumption)|apply cI|apply bB|apply aF|apply aT|apply cF|apply ki|apply cg)|exact rfl);first|assumption|with_reducible rfl)|((with_reducible apply iY);(focus repeat' first|fail|(with_reducible first|(show _=_;assumption)|apply cI|apply bB|apply aF|apply aT|apply cF|apply ki|apply cg)|exact rfl);first|assumption|with_reducible rfl)|(with_reducible first|apply Nq)|(intro _)|exact rfl
  ·rfl
end
noncomputable def vP(c6 ch cs ct m1 m2 x:aW):aW:=
 if(bQ x cs==aa e9)=true then bP m1 (bJ (bJ (aL m2 m1) x) c6)
 else if(bQ x ch==aa e9)=true then m2
 else if(bQ x ct==aa e9)=true then bP m1 (bJ (bJ (aL m2 m1) (aL ct x)) c6)
 else m1
noncomputable def vF(m1 m2 h:aW):aW:=vP K6 KH KS KT m1 m2 (lQ h)
theorem aoZ(sns:af aE)(m1 m2 h:aW)(H:af av){c1 c6 ch cs ct:aW}(Qy:c1=4607182418800017408)(Xt:c6=4618441417868443648)(Xv:ch=4602678819172646912)(hcs:cs=4595172819793696085)(hct:ct=4604180019048437077)(z1:cG c1=false):Dx sns [.bO m1,.bO m2,.bO h] H=aa (.bO (vP c6 ch cs ct m1 m2 (jN h c1).snd),H):=by
 subst Qy Xt Xv hcs hct;apply jD
 ·apply lg rfl
  delta RG
  repeat' first|fail|(with_reducible first|(show _=_;assumption)|apply fO|apply fR|apply aF|apply aT|apply cF|apply ki|apply FP|apply cg)|(with_reducible first|apply agO)|(intro _)|exact rfl
 ·rfl
theorem afn(sns:af aE)(m1 m2 h:aW)(H:af av):Dx sns [.bO m1,.bO m2,.bO h] H=aa (.bO (vF m1 m2 h),H):=aoZ sns m1 m2 h H rfl rfl rfl rfl rfl z1
noncomputable def ME(c1 ch l s:aW):aW:=if KA l ch=true then bJ l (bP c1 s) else aL (bP l s) (bJ l s)
noncomputable def QL(c1 c2 ch l s:aW):aW:=aL (bJ c2 l) (ME c1 ch l s)
theorem Kv(sns:af aE)(h l s:aW)(H:af av){c0:aW}(hc:c0=0)(hs:(bQ s c0==aa cZ)=true):wB sns [.bO h,.bO l,.bO s] H=aa (.ref H.length,H++[.tup [.bO l,.bO l,.bO l]]):=by
 subst hc;apply lg rfl;delta Fc
 repeat' first|fail|(with_reducible first|(show _=_;assumption)|apply fR|apply gz|apply aF|apply aT|apply cg|apply bB|apply jv)|((with_reducible apply kB);(focus repeat' first|fail|(with_reducible first|(show _=_;assumption)|apply bB|apply aF|apply aT|apply cg)|exact rfl);first|assumption|with_reducible rfl)|(intro _)|exact rfl
theorem Yp(sns:af aE)(h l s:aW)(H:af av){c0 c1 c2 ch ct:aW}(hc0:c0=0)(Qy:c1=4607182418800017408)(hc2:c2=4611686018427387904)(Xv:ch=4602678819172646912)(hct:ct=4599676419421066581)(vv:af MV->af av->ag (MV×af av))(hvv:vv=Dx sns)(w:aW->aW->aW->aW)(hv:∀m1 m2 h H,vv [.bO m1,.bO m2,.bO h] H=aa (.bO (w m1 m2 h),H))
  (hs:(bQ s c0==aa cZ)=false):wB sns [.bO h,.bO l,.bO s] H=aa (.ref H.length,H++[.tup [.bO (w (QL c1 c2 ch l s) (ME c1 ch l s) (bP h ct)),.bO (w (QL c1 c2 ch l s) (ME c1 ch l s) h),.bO (w (QL c1 c2 ch l s) (ME c1 ch l s) (aL h ct))]]):=by
 subst hc0 Qy hc2 Xv hct hvv;apply jD
 ·apply lg rfl
  delta Fc
  repeat' first|fail|(with_reducible first|(show _=_;assumption)|apply hv|apply fO|apply fR|apply fS|apply aF|apply aT|apply cF|apply ki|apply cg|apply cI|apply bB|apply jv)|((with_reducible apply iY);(focus repeat' first|fail|(with_reducible first|(show _=_;assumption)|apply cI|apply bB|apply aF|apply aT|apply cF|apply ki|apply cg)|exact rfl);first|assumption|with_reducible rfl)|(with_reducible first|apply Nq)|(intro _)|exact rfl
 ·rfl
theorem T9(sns:af aE)(h l s:aW)(H:af av)(hs:(bQ s 0==aa cZ)=false):wB sns [.bO h,.bO l,.bO s] H=aa (.ref H.length,H++[.tup [.bO (vF (QL K1 K2 KH l s) (ME K1 KH l s) (bP h K3)),.bO (vF (QL K1 K2 KH l s) (ME K1 KH l s) h),.bO (vF (QL K1 K2 KH l s) (ME K1 KH l s) (aL h K3))]]):=Yp sns h l s H rfl rfl rfl rfl rfl _ rfl vF (afn sns) hs
noncomputable def sel{α:Type}(n:ah)(v p q t:α):α:=if n % 6=0 then v else if n % 6=1 then q else if n % 6=2 then p else if n % 6=3 then p else if n % 6=4 then t else v
theorem JO(sns:af aE)(h s v:aW)(H:af av){c0:aW}(hc:c0=0)(hs:(bQ s c0==aa cZ)=true):wA sns [.bO h,.bO s,.bO v] H=aa (.ref H.length,H++[.tup [.bO v,.bO v,.bO v]]):=by
 subst hc;apply lg rfl;delta E9
 repeat' first|fail|(with_reducible first|(show _=_;assumption)|apply fR|apply gz|apply aF|apply aT|apply cg|apply bB|apply jv)|((with_reducible apply kB);(focus repeat' first|fail|(with_reducible first|(show _=_;assumption)|apply bB|apply aF|apply aT|apply cg)|exact rfl);first|assumption|with_reducible rfl)|(intro _)|exact rfl
theorem qh{α:Type}{n m:ah}{v p q t:α}(h:n % 6=m):sel n v p q t=if m=0 then v else if m=1 then q else if m=2 then p else if m=3 then p else if m=4 then t else v:=by subst h;rfl
theorem JP(H:af av)(i:ah)(v p q t:aW)(l':ah->ag MV)(h2:l' 2=aa (.bO v))(h5:l' 5=aa (.bO p))(h6:l' 6=aa (.bO q))(h7:l' 7=aa (.bO t))(h3:l' 3=aa (.int ((i:aE).fmod 6))):
 (aO (je (dp (cS .Eq) (au 3) (eK (.int 0))) (aO (gA (jz (aJ (au 2) (aJ (au 7) (aJ (au 5) bG)))))
 bF) bF)
 (aO (je (dp (cS .Eq) (au 3) (eK (.int 1))) (aO (gA (jz (aJ (au 6) (aJ (au 2) (aJ (au 5) bG)))))
 bF) bF)
 (aO (je (dp (cS .Eq) (au 3) (eK (.int 2))) (aO (gA (jz (aJ (au 5) (aJ (au 2) (aJ (au 7) bG)))))
 bF) bF)
 (aO (je (dp (cS .Eq) (au 3) (eK (.int 3))) (aO (gA (jz (aJ (au 5) (aJ (au 6) (aJ (au 2) bG)))))
 bF) bF)
 (aO (je (dp (cS .Eq) (au 3) (eK (.int 4))) (aO (gA (jz (aJ (au 7) (aJ (au 5) (aJ (au 2) bG)))))
 bF) bF)
 (aO (je (dp (cS .Eq) (au 3) (eK (.int 5))) (aO (gA (jz (aJ (au 2) (aJ (au 5) (aJ (au 6) bG)))))
 bF) bF)
 bF)))))) ⟨H,l'⟩=aa (.ret (.ref H.length),⟨H++[.tup [.bO (sel i v p q t),.bO (sel (i+4) v p q t),.bO (sel (i+2) v p q t)]],l'⟩):=by
 have hf:(i:aE).fmod 6=((i % 6:ah):aE):=by rw[Int.fmod_eq_emod_of_nonneg _ (by decide)];rfl
 rw[hf] at h3;rcases six i with q1|q1|q1|q1|q1|q1
 ·rw[show sel i v p q t=v from qh q1,show sel (i+4) v p q t=t from qh (m:=4) (um q1:),show sel (i+2) v p q t=p from qh (m:=2) (um q1:)]
  rw[q1] at h3
  repeat' first|fail|(with_reducible first|(show _=_;assumption)|apply fR|apply fS|apply gz|apply aF|apply aT|apply cg|apply bB|apply jv)|((with_reducible apply kB);(focus repeat' first|fail|(with_reducible first|(show _=_;assumption)|apply bB|apply aF|apply aT|apply cg)|exact rfl);first|assumption|rfl)|((with_reducible apply iY);(focus repeat' first|fail|(with_reducible first|(show _=_;assumption)|apply bB|apply aF|apply aT|apply cg)|exact rfl);first|assumption|rfl)|(intro _)|exact rfl
 ·rw[show sel i v p q t=q from qh q1,show sel (i+4) v p q t=v from qh (m:=5) (um q1:),show sel (i+2) v p q t=p from qh (m:=3) (um q1:)]
  rw[q1] at h3
  repeat' first|fail|(with_reducible first|(show _=_;assumption)|apply fR|apply fS|apply gz|apply aF|apply aT|apply cg|apply bB|apply jv)|((with_reducible apply kB);(focus repeat' first|fail|(with_reducible first|(show _=_;assumption)|apply bB|apply aF|apply aT|apply cg)|exact rfl);first|assumption|rfl)|((with_reducible apply iY);(focus repeat' first|fail|(with_reducible first|(show _=_;assumption)|apply bB|apply aF|apply aT|apply cg)|exact rfl);first|assumption|rfl)|(intro _)|exact rfl
 ·rw[show sel i v p q t=p from qh q1,show sel (i+4) v p q t=v from qh (m:=0) (um q1:),show sel (i+2) v p q t=t from qh (m:=4) (um q1:)]
  rw[q1] at h3
  repeat' first|fail|(with_reducible first|(show _=_;assumption)|apply fR|apply fS|apply gz|apply aF|apply aT|apply cg|apply bB|apply jv)|((with_reducible apply kB);(focus repeat' first|fail|(with_reducible first|(show _=_;assumption)|apply bB|apply aF|apply aT|apply cg)|exact rfl);first|assumption|rfl)|((with_reducible apply iY);(focus repeat' first|fail|(with_reducible first|(show _=_;assumption)|apply bB|apply aF|apply aT|apply cg)|exact rfl);first|assumption|rfl)|(intro _)|exact rfl
 ·rw[show sel i v p q t=p from qh q1,show sel (i+4) v p q t=q from qh (m:=1) (um q1:),show sel (i+2) v p q t=v from qh (m:=5) (um q1:)]
  rw[q1] at h3
  repeat' first|fail|(with_reducible first|(show _=_;assumption)|apply fR|apply fS|apply gz|apply aF|apply aT|apply cg|apply bB|apply jv)|((with_reducible apply kB);(focus repeat' first|fail|(with_reducible first|(show _=_;assumption)|apply bB|apply aF|apply aT|apply cg)|exact rfl);first|assumption|rfl)|((with_reducible apply iY);(focus repeat' first|fail|(with_reducible first|(show _=_;assumption)|apply bB|apply aF|apply aT|apply cg)|exact rfl);first|assumption|rfl)|(intro _)|exact rfl
 ·rw[show sel i v p q t=t from qh q1,show sel (i+4) v p q t=p from qh (m:=2) (by lia),show sel (i+2) v p q t=v from qh (m:=0) (by lia)]
  rw[q1] at h3
  repeat' first|fail|(with_reducible first|(show _=_;assumption)|apply fR|apply fS|apply gz|apply aF|apply aT|apply cg|apply bB|apply jv)|((with_reducible apply kB);(focus repeat' first|fail|(with_reducible first|(show _=_;assumption)|apply bB|apply aF|apply aT|apply cg)|exact rfl);first|assumption|rfl)|((with_reducible apply iY);(focus repeat' first|fail|(with_reducible first|(show _=_;assumption)|apply bB|apply aF|apply aT|apply cg)|exact rfl);first|assumption|rfl)|(intro _)|exact rfl
 ·rw[show sel i v p q t=v from qh q1,show sel (i+4) v p q t=p from qh (m:=3) (um q1:),show sel (i+2) v p q t=q from qh (m:=1) (um q1:)]
  rw[q1] at h3
  repeat' first|fail|(with_reducible first|(show _=_;assumption)|apply fR|apply fS|apply gz|apply aF|apply aT|apply cg|apply bB|apply jv)|((with_reducible apply kB);(focus repeat' first|fail|(with_reducible first|(show _=_;assumption)|apply bB|apply aF|apply aT|apply cg)|exact rfl);first|assumption|rfl)|((with_reducible apply iY);(focus repeat' first|fail|(with_reducible first|(show _=_;assumption)|apply bB|apply aF|apply aT|apply cg)|exact rfl);first|assumption|rfl)|(intro _)|exact rfl
theorem Xh(sns:af aE)(h s v:aW)(H:af av){c0 c1 c6:aW}(hc0:c0=0)(Qy:c1=4607182418800017408)(Xt:c6=4618441417868443648)(hs:(bQ s c0==aa cZ)=false)
  {sg:cj} {m:ah} {e:aE} {i:ah} (hd:jM (bJ h c6)=.fin sg m e) (ht:iB sg m e=(i:aE)) (hi:dD (cu (i:aE))=false) {f p q t:aW}
  (hf:aL (bJ h c6) (cu (i:aE))=f) (hp:bJ v (aL c1 s)=p) (hq:bJ v (aL c1 (bJ s f))=q) (hh:bJ v (aL c1 (bJ s (aL c1 f)))=t):
  wA sns [.bO h,.bO s,.bO v] H=aa (.ref H.length,H++[.tup [.bO (sel i v p q t),.bO (sel (i+4) v p q t),.bO (sel (i+2) v p q t)]]):=by
 subst hc0 Qy Xt hf hp hq hh;apply lg rfl;delta E9
 repeat' first|fail|(with_reducible first|(show _=_;assumption)|apply JP|apply fO|apply fS|apply aF|apply aT|apply cF|apply ki|apply Sr|apply cg|apply cI|apply bB|apply FO)|((with_reducible apply iY);(focus repeat' first|fail|(with_reducible first|(show _=_;assumption)|apply cI|apply bB|apply aF|apply aT|apply cF|apply ki|apply cg)|exact rfl);first|assumption|with_reducible rfl)|(intro _)|exact rfl
theorem QY{y b:aE}(hy:0<=y/\y<=16)(hb:0<=b/\b<=16):(if ua .Gt (.bO (fl y)) (.bO (fl b))=aa true then MV.bO (fl y) else MV.bO (fl b))=.bO (fl (max b y)):=by
 have e:ua .Gt (.bO (fl y)) (.bO (fl b))=aa (aa (compare y b)==aa oE):=bI (λo=>aa (o==aa oE)) (Jm hy hb);by_cases q:b<y
 ·rw[show max b y=y by exact q53 q];exact aP (e.trans (by rw[jR.mpr q];rfl))
 ·rw[show max b y=b by exact YT q];exact aZ λz=>q (jR.mp (aR (eq_of_beq (aR (e.symm.trans z)))))
theorem QZ{y b:aE}(hy:0<=y/\y<=16)(hb:0<=b/\b<=16):(if ua .Lt (.bO (fl y)) (.bO (fl b))=aa true then MV.bO (fl y) else MV.bO (fl b))=.bO (fl (min b y)):=by
 have e:ua .Lt (.bO (fl y)) (.bO (fl b))=aa (aa (compare y b)==aa e9):=bI (λo=>aa (o==aa e9)) (Jm hy hb);by_cases q:y<b
 ·rw[show min b y=y by exact q56 q];exact aP (e.trans (by rw[iM.mpr q];rfl))
 ·rw[show min b y=b by exact abm q];exact aZ λz=>q (iM.mp (aR (eq_of_beq (aR (e.symm.trans z)))))
theorem QP{a b d:aE}(ha:0<=a/\a<=16)(hb:0<=b/\b<=16)(hd:0<=d/\d<=16):bestOf .Gt [.bO (fl a),.bO (fl b),.bO (fl d)]=aa (.bO (fl (max (max a b) d))):=by have n:lu [.bO (fl a),.bO (fl b),.bO (fl d)]=true:=rfl;show(if lu [.bO (fl a),.bO (fl b),.bO (fl d)]=true then aa (best .Gt (.bO (fl a)) [.bO (fl b),.bO (fl d)]) else none)=_;rw[aP n];refine bI aa ?_;show(if ua .Gt _ (if ua .Gt _ _=aa true then _ else _)=aa true then _ else(if ua .Gt _ _=aa true then _ else _))=_;rw[QY hb ha,QY hd (abn ha hb:)]
theorem QQ{a b d:aE}(ha:0<=a/\a<=16)(hb:0<=b/\b<=16)(hd:0<=d/\d<=16):bestOf .Lt [.bO (fl a),.bO (fl b),.bO (fl d)]=aa (.bO (fl (min (min a b) d))):=by have n:lu [.bO (fl a),.bO (fl b),.bO (fl d)]=true:=rfl;show(if lu [.bO (fl a),.bO (fl b),.bO (fl d)]=true then aa (best .Lt (.bO (fl a)) [.bO (fl b),.bO (fl d)]) else none)=_;rw[aP n];refine bI aa ?_;show(if ua .Lt _ (if ua .Lt _ _=aa true then _ else _)=aa true then _ else(if ua .Lt _ _=aa true then _ else _))=_;rw[QZ hb ha,QZ hd (q69 ha hb:)]
theorem Sw{a b:aE}(ha:0<=a/\a<=16)(hb:0<=b/\b<=16):(bQ (fl a) (fl b)==aa cZ)=decide (a=b):=by
 rw[Jm ha hb];by_cases q:a=b
 ·rw[vz.mpr q,cM q];rfl
 ·rw[dO q]
  have:compare a b≠ .eq:=λz=>q (vz.mp z);simpa using this
theorem Kh:Ap K1 1 0:=iy ∅ ∅ ∅
theorem Oa:Ap K2 2 0:=iy ∅ ∅ ∅
theorem ahf:Ap K4 4 0:=iy ∅ ∅ ∅
theorem Ob:Ap K6 6 0:=iy ∅ ∅ ∅
set_option genInjectivity false in structure At(n:ah)(p wa wb wd:aV):Prop where
 p0:0<=p
 p1:p<=1
 n5:5<=n
 Wc:n<=10
 ta:T n p=wa
 tb:T (n+4) p=wb
 td:T (n+2) p=wd
theorem Xe{r g b mx rg:aW}{wa wb wd:aV}(pa:Ap (bk (aL mx r) rg) (1-wa) e1)(pb:Ap (bk (aL mx g) rg) (1-wb) e1)(pd:Ap (bk (aL mx b) rg) (1-wd) e1)
  (a0:0<=wa) (a1:wa<=1) (b0:0<=wb) (b1:wb<=1) (d0:0<=wd) (d1:wd<=1) (hz:wa=0\/wb=0\/wd=0)
  (ca:(bQ r mx==aa cZ)=true->wa=1) (cb:(bQ g mx==aa cZ)=true->wb=1) (cd:(bQ r mx==aa cZ)=false->(bQ g mx==aa cZ)=false->wd=1):
  ∃n p,At n p wa wb wd/\Ap (NG K2 K4 r g b mx rg) ((n:aV)+p-6) e2:=by
 have c5:((5:ah):aV)=5:=rfl;have c6:((6:ah):aV)=6:=rfl;have c7:((7:ah):aV)=7:=rfl;have c8:((8:ah):aV)=8:=rfl;have c9:((9:ah):aV)=9:=rfl;have c10:((10:ah):aV)=10:=rfl;unfold NG;by_cases q1:(bQ r mx==aa cZ)=true
 ·rw[aP q1]
  have w1:=ca q1;have s:=Ap.sub (g:=3*e1) pd pb ∅ ∅ (am4 b0 d1:) (anG b1 d0:);rcases hz with z|z|z
  ·grind
  ·refine⟨5,1-wd,⟨by exact U0 d1,by exact Ia d0,by decide,by decide,?_,?_,?_⟩,?_⟩
   ·rw[T5 rfl,w1]
   ·rw[T3 rfl,z]
   ·rw[T1 rfl];grind
   ·rw[c5];exact s.to (ZN b0:) (Z5 z:)
  ·refine⟨6,wb,⟨by exact Lv b0,by grind,by decide,by decide,?_,?_,?_⟩,?_⟩
   ·rw[T0 rfl,w1]
   ·rw[T4 rfl]
   ·rw[T2 rfl,z]
   ·rw[c6];exact s.to (ZX z:) (ZK d0:)
 ·rw[aZ q1]
  have q1':(bQ r mx==aa cZ)=false:=by simpa using q1
  by_cases q2:(bQ g mx==aa cZ)=true
  ·rw[aP q2]
   have w1:=cb q2;have s0:=Ap.add (g:=2*e1) Oa pa ∅ ∅ (amA a1:) (amr a0:);have s:=Ap.sub (g:=4*e1) s0 pd ∅ ∅ (anx a1 d0:) (am0 a0 d1:);rcases hz with z|z|z
   ·refine⟨8,wd,⟨by exact Lv d0,by grind,by decide,by decide,?_,?_,?_⟩,?_⟩
    ·rw[T2 rfl,z]
    ·rw[T0 rfl,w1]
    ·rw[T4 rfl]
    ·rw[c8];exact s.to (ZY z:) (ZL a0:)
   ·grind
   ·refine⟨7,1-wa,⟨by exact U0 a1,by exact Ia a0,by decide,by decide,?_,?_,?_⟩,?_⟩
    ·rw[T1 rfl];grind
    ·rw[T5 rfl,w1]
    ·rw[T3 rfl,z]
    ·rw[c7];exact s.to (ZO d0:) (Z7 z:)
  ·rw[aZ q2]
   have q2':(bQ g mx==aa cZ)=false:=by simpa using q2
   have w1:=cd q1' q2';have s0:=Ap.add (g:=2*e1) ahf pb ∅ ∅ (amB b1:) (ams b0:);have s:=Ap.sub (g:=4*e1) s0 pa ∅ ∅ (am5 a0 b1:) (anH a1 b0:);rcases hz with z|z|z
   ·refine⟨9,1-wb,⟨by exact U0 b1,by exact Ia b0,by decide,by decide,?_,?_,?_⟩,?_⟩
    ·rw[T3 rfl,z]
    ·rw[T1 rfl];grind
    ·rw[T5 rfl,w1]
    ·rw[c9];exact s.to (ZP a0:) (Z8 z:)
   ·refine⟨10,wa,⟨by exact Lv a0,by grind,by decide,by decide,?_,?_,?_⟩,?_⟩
    ·rw[T4 rfl]
    ·rw[T2 rfl,z]
    ·rw[T0 rfl,w1]
    ·rw[c10];exact s.to (ZZ z:) (ZM b0:)
   ·grind
theorem vV{a b:ah}(h:a<=b):(a:aV)<=(b:aV):=EZ.mpr h
theorem TA{x:aW}{n:ah}{p wa wb wd:aV}(A:At n p wa wb wd)(hx:Ap x ((n:aV)+p-6) e2):Fi (lQ (bk x K6))/\ -e3<=rv (lQ (bk x K6))/\rv (lQ (bk x K6))<=1+e3/\∃k:ah,k<=1/\ -e3<=6*(rv (lQ (bk x K6))+(k:aV))-((n:aV)+p)/\6*(rv (lQ (bk x K6))+(k:aV))-((n:aV)+p)<=e3:=by
 have n5:(5:aV)<=(n:aV):=vV A.n5;have Wc:(n:aV)<=10:=vV A.Wc;have p0:=A.p0;have p1:=A.p1;have s:=Ap.div (g:=e2) 1 5 hx Ob (Z:=((n:aV)+p-6)/6) (gW (Y1) (Uv):) (amk p0:) (amm Wc p1:) ∅ ∅ ∅ ∅ ∅ ∅ ∅;refine fD s λf s1 s2=>?_;clear s;refine dQ (KR f) λf' eX=>?_;refine lT eX λk k1 k2 k3 k4=>?_;clear eX;have:=w8;have:=pN;refine⟨f',by exact ZU k3 (by assumption),by exact Z0 k4 (by assumption),?_⟩;have b1:(-2:aV)<(k:aV):=by exact ZI n5 p0 s1 k1 k4 (by assumption)
 have b2:(k:aV)<1:=by exact ZJ Wc p1 s2 k2 k3 (by assumption)
 have b1':-2<k:=dz.mp b1;have b2':k<1:=dz.mp b2;have hk:k=-1\/k=0:=by exact aa7 b1' b2'
 rcases hk with rfl|rfl
 ·have:((-1:aE):aV)=-1:=rfl
  rw[this] at k1 k2;refine⟨0,by decide,?_,?_⟩
  ·have:((0:ah):aV)=0:=rfl
   rw[this];exact ZE s1 (by assumption) k1
  ·have:((0:ah):aV)=0:=rfl
   rw[this];exact ZG s2 (by assumption) k2
 ·have:((0:aE):aV)=0:=rfl
  rw[this] at k1 k2;refine⟨1,by decide,?_,?_⟩
  ·have:((1:ah):aV)=1:=rfl
   rw[this];exact ZF s1 (by assumption) k1
  ·have:((1:ah):aV)=1:=rfl
   rw[this];exact ZH s2 (by assumption) k2
end fG
namespace fG
open PySem PySem.W
open PySem.Float64 (val Right V dist sgn decode)
noncomputable abbrev e4:aV:=1/10000000
theorem ahj:Ap KS (1/6) e0:=iy ∅ ∅ ∅
theorem TS:Ap KH (1/2) 0:=iy ∅ ∅ ∅
theorem Ym:Ap KT (2/3) e0:=iy ∅ ∅ ∅
theorem Ya:Ap K3 (1/3) e0:=iy ∅ ∅ ∅
theorem ltF{x y:aW}(hx:Fi x)(hy:Fi y):(bQ x y==aa e9)=true↔rv x<rv y:=by rw[<-xC];exact lt_iff hx hy
theorem Ub{x y:aW}(hx:Fi x)(hy:Fi y)(h:¬(bQ x y==aa e9)=true):rv y<=rv x:=by rw[ltF hx hy] at h;exact iX.mp h
theorem AO{x y:aW}(hx:Fi x)(hy:Fi y):KA x y=true↔rv x<=rv y:=by
 have h1:=@xC x y;have h2:=@xC y x;obtain⟨a,m,e,hx⟩:=hx;obtain⟨b,k,f,hy⟩:=hy;unfold KA;rw[lz hx hy];constructor
 ·intro q
  refine iX.mp λz=>?_;have z:=h2.mpr z;have:compare (val x) (val y)=.gt:=jR.mpr z;rw[this] at q;cases q
 ·intro q
  have z:¬val y<val x:=λz=>iX.mpr q (h2.mp z);rcases Int.lt_or_eq_of_le (qN.mp z) with z|z
  ·rw[iM.mpr z];rfl
  ·rw[vz.mpr z];rfl
theorem KC{x y:aW}(hx:Fi x)(hy:Fi y)(h:¬KA x y=true):rv y<rv x:=by rw[AO hx hy] at h;exact uC.mp h
theorem GR{K N i j:ah}{y p:aV}(hj:j=i+4)(p0:0<=p)(p1:p<=1)(y0:(i:aV)-e4<=6*y)(y1:6*y<=(i:aV)+1+e4)(h1:-e4<=6*(y+(K:aV))-((N:aV)+p))(h2:6*(y+(K:aV))-((N:aV)+p)<=e4):
  -(3*e4)<=T j (6*y-(i:aV))-T (N+4) p/\T j (6*y-(i:aV))-T (N+4) p<=3*e4:=by
 have c1:((i+6*K+4:ah):aV)=(i:aV)+6*(K:aV)+4:=by rw[gh,gh,iL];rfl
 have c2:((N+4:ah):aV)=(N:aV)+4:=by rw[gh];rfl
 have:=I3 (i:=i+6*K+4) (N:=N+4) (f:=6*y-(i:aV)) (p:=p) (δ:=e4) (anN y0:) (amP y1:) p0 p1 ∅ ∅ (by rw[c1,c2];exact amO h1) (by rw[c1,c2];exact ami h2);rw[Fv (show(i+6*K+4) % 6=j % 6 by lia)] at this;exact this
theorem wt{K N:ah}{y p:aV}(p0:0<=p)(p1:p<=1)(y0:-(1/100000000)<=y)(y1:y<=1+1/100000000)(h1:-e4<=6*(y+(K:aV))-((N:aV)+p))(h2:6*(y+(K:aV))-((N:aV)+p)<=e4):
  (y<=1/6+1/100000000->-(3*e4)<=6*y-T (N+4) p/\6*y-T (N+4) p<=3*e4)/\
  (1/6-1/100000000<=y->y<=1/2->-(3*e4)<=1-T (N+4) p/\1-T (N+4) p<=3*e4)/\
  (1/2<=y->y<=2/3+1/100000000->-(3*e4)<=4-6*y-T (N+4) p/\4-6*y-T (N+4) p<=3*e4)/\
  (2/3-1/100000000<=y->-(3*e4)<=0-T (N+4) p/\0-T (N+4) p<=3*e4):=by
 have c0:((0:ah):aV)=0:=rfl;have c1:((1:ah):aV)=1:=rfl;have c2:((2:ah):aV)=2:=rfl;have c3:((3:ah):aV)=3:=rfl;have c4:((4:ah):aV)=4:=rfl;have c5:((5:ah):aV)=5:=rfl;refine⟨λq=>?_,λq q'=>?_,λq q'=>?_,λq=>?_⟩
 ·have:=GR (i:=0) (j:=4) rfl p0 p1 (by rw[c0];exact Zb y0) (by rw[c0];exact Zd q) h1 h2
  rw[T4 rfl,c0] at this;constructor<;>(first|exact ade this.1|exact adb this.2)
 ·by_cases k:6*y<=2
  ·have:=GR (i:=1) (j:=5) rfl p0 p1 (by rw[c1];exact Y5 q) (by rw[c1];exact Y7 k) h1 h2
   rw[T5 rfl] at this;exact this
  ·have:=GR (i:=2) (j:=6) rfl p0 p1 (by rw[c2];exact Zi (uC.mp k)) (by rw[c2];exact Zc q') h1 h2
   rw[T0 rfl] at this;exact this
 ·have:=GR (i:=3) (j:=7) rfl p0 p1 (by rw[c3];exact Y4 q) (by rw[c3];exact Zh q') h1 h2
  rw[T1 rfl,c3] at this;constructor<;>(first|exact ada this.1|grind)
 ·by_cases k:6*y<=5
  ·have:=GR (i:=4) (j:=8) rfl p0 p1 (by rw[c4];exact Y6 q) (by rw[c4];exact Y8 k) h1 h2
   rw[T2 rfl] at this;exact this
  ·have:=GR (i:=5) (j:=9) rfl p0 p1 (by rw[c5];exact Zj (uC.mp k)) (by rw[c5];exact Ze y1) h1 h2
   rw[T3 rfl] at this;exact this
theorem VA{m1 m2 x:aW}{A B p:aV}{c N:ah}(hA:Ap m1 A e3)(hB:Ap m2 B e3)(A0:0<=A)(AB:A<=B)(B1:B<=1)(hx:Fi x)(p0:0<=p)(p1:p<=1)(hN:3<=N)
  (h1:-(5*e3)<=6*(rv x+(c:aV))-((N:aV)+p)) (h2:6*(rv x+(c:aV))-((N:aV)+p)<=5*e3):Ap (vF m1 m2 x) (A+(B-A)*T (N+4) p) (1/100000):=by
 refine dQ (KR hx) λf eX=>?_;refine lT eX λk k1 k2 k3 k4=>?_;clear eX;have:=w8;have:=pN;have hN':(3:aV)<=(N:aV):=vV hN;obtain⟨K,hK⟩:∃K:ah,(K:aV)=(c:aV)+(k:aV):=by
  have b:(-1:aV)<(((c:aE)+k:aE):aV):=by rw[dg,du];exact Y3 p0 h1 k1 k4 (by assumption) hN'
  have b':-1<(c:aE)+k:=dz.mp b;refine⟨((c:aE)+k).toNat,?_⟩;rw[<-du,show((((c:aE)+k).toNat:ah):aE)=(c:aE)+k by exact ajC b',dg,du]
 refine oS (wt (K:=K) (N:=N) (y:=rv (lQ x)) p0 p1 (by exact anu k3 (by assumption)) (by exact anw k4 (by assumption)) (by rw[hK];exact ZD h1 k1 (by assumption)) (by rw[hK];exact ZC h2 k2 (by assumption))) λw1 w2 w3 w4=>?_;unfold vF vP;generalize lQ x=y at *;generalize T (N+4) p=w at *;have ay:Ap y (rv y) 0:=⟨f,by exact Pb,by exact Pc⟩;have F7:∀u,-(3*e4)<=u-w->u-w<=3*e4->-(3*e4)<=(B-A)*u-(B-A)*w/\(B-A)*u-(B-A)*w<=3*e4:=λu q1 q2=>by have:=k8 (p:=B-A) (P:=1) (q:=u-w) (Q:=3*e4) (CQ AB:) (LD A0 B1:) q1 q2;constructor<;>grind
 refine fD ahj λfs s1 s2=>?_;refine fD TS λfh hh1 hh2=>?_;refine fD Ym λft t1 t2=>?_;by_cases q1:(bQ y KS==aa e9)=true
 ·rw[aP q1]
  have q1:=(ltF f fs).mp q1;refine dQ (w1 (Z3 s2 q1:)) λu1 u2=>?_;have d:=Ap.sub (g:=3*e3) hB hA ∅ ∅ (aeC AB:) (aeu A0 B1:);have m:=Ap.mul (g:=4*e3) 1 (11/10) d ay (CQ AB:) (LD A0 B1:) (by exact aez (by assumption) k3) (by exact aeB (by assumption) k4) ∅ ∅ ∅;have b:=k8 (p:=B-A) (P:=1) (q:=rv y) (Q:=11/10) (CQ AB:) (LD A0 B1:) (by exact aez (by assumption) k3) (by exact aeB (by assumption) k4);have m':=Ap.mul (g:=30*e3) (11/10) 6 m Ob (aao b.1:) (an2 b.2:) ∅ ∅ ∅ ∅ ∅;have s:=Ap.add (g:=32*e3) hA m' ∅ ∅ (anT A0 b.1:) (aof AB B1 b.2:);refine dQ (F7 _ u1 u2) λz1 z2=>?_;exact s.to (aaM z1:) (aaK z2:)
 ·rw[aZ q1]
  have q1:=Ub f fs q1;by_cases q2:(bQ y KH==aa e9)=true
  ·rw[aP q2]
   have q2:=(ltF f fh).mp q2;refine dQ (w2 (ZV s1 q1:) (Z2 hh2 q2:)) λu1 u2=>?_;refine dQ (F7 _ u1 u2) λz1 z2=>?_;exact hB.to (aap z1:) (aal z2:)
  ·rw[aZ q2]
   have q2:=Ub f fh q2;by_cases q3:(bQ y KT==aa e9)=true
   ·rw[aP q3]
    have q3:=(ltF f ft).mp q3;refine dQ (w3 (amT hh1 q2:) (Z4 t2 q3:)) λu1 u2=>?_;have d:=Ap.sub (g:=3*e3) hB hA ∅ ∅ (aeC AB:) (aeu A0 B1:);have d':=Ap.sub (g:=2*e0) Ym ay ∅ ∅ (by exact anF (by assumption) k4) (amU hh1 q2:);have m:=Ap.mul (g:=4*e3) 1 1 d d' (CQ AB:) (LD A0 B1:) (by exact aeA (by assumption) k4) (aet hh1 q2:) ∅ ∅ ∅;have b:=k8 (p:=B-A) (P:=1) (q:=2/3-rv y) (Q:=1) (CQ AB:) (LD A0 B1:) (by exact aeA (by assumption) k4) (aet hh1 q2:);have m':=Ap.mul (g:=30*e3) 1 6 m Ob (an1 b.1:) (aan b.2:) ∅ ∅ ∅ ∅ ∅;have s:=Ap.add (g:=32*e3) hA m' ∅ ∅ (anS A0 b.1:) (aoe AB B1 b.2:);refine dQ (F7 _ u1 u2) λz1 z2=>?_;exact s.to (aaL z1:) (by grind)
   ·rw[aZ q3]
    have q3:=Ub f ft q3;refine dQ (w4 (ZW t1 q3:)) λu1 u2=>?_;refine dQ (F7 _ u1 u2) λz1 z2=>?_;exact hA.to (aaq z1:) (aam z2:)
theorem p7{a b:aE}(h:a<=b):(a:aV)<=(b:aV):=dy.mpr h
theorem VC{a m M:aE}(h1:m<=a)(h2:a<=M)(h:m<M):∃w:aV,w*((M:aV)-(m:aV))=(a:aV)-(m:aV)/\0<=w/\w<=1:=by
 have hR:(1:aV)<=(M:aV)-(m:aV):=by
  have:=p7 (show m+1<=M by exact q51 h);rw[dg] at this;have z:((1:aE):aV)=1:=rfl
  grind
 have b1:=p7 h1;have b2:=p7 h2;have e:((a:aV)-(m:aV))/((M:aV)-(m:aV))*((M:aV)-(m:aV))=(a:aV)-(m:aV):=uB (anj hR:);refine⟨((a:aV)-(m:aV))/((M:aV)-(m:aV)),e,?_,?_⟩
 ·refine bb (c:=(M:aV)-(m:aV)) ?_ (aev hR:)
  rw[e];exact aas b1
 ·refine bb (c:=(M:aV)-(m:aV)) ?_ (aev hR:)
  rw[e];exact aog b2
theorem w_is{w u R:aV}(hR:1<=R)(h:w*R=u*R):w=u:=by have h1:w<=u:=bb (c:=R) (by rw[h];exact yl) (Q0 hR:);have h2:u<=w:=bb (c:=R) (by rw[h];exact yl) (Q0 hR:);exact gW (Z1 h1) (Uw h2)
set_option genInjectivity false in structure WK(a b d M m:aE)(n:ah)(p:aV)(h:aW)(k:ah):Prop where
 p0:0<=p
 p1:p<=1
 n5:5<=n
 Wc:n<=10
 ta:T n p*((M:aV)-(m:aV))=(a:aV)-(m:aV)
 tb:T (n+4) p*((M:aV)-(m:aV))=(b:aV)-(m:aV)
 td:T (n+2) p*((M:aV)-(m:aV))=(d:aV)-(m:aV)
 fi:Fi h
 h0:-e3<=rv h
 h1:rv h<=1+e3
 k1:k<=1
 l1:-e3<=6*(rv h+(k:aV))-((n:aV)+p)
 l2:6*(rv h+(k:aV))-((n:aV)+p)<=e3
section
variable{a b d M m:aE}(ha:0<=a/\a<=16)(hb:0<=b/\b<=16)(hd:0<=d/\d<=16)(hM:M=max (max a b) d)(hm:m=min (min a b) d)(eY:m<M)
include ha hb hd hM hm eY
theorem xA:Ap (aL (fl M) (fl m)) ((M:aV)/16-(m:aV)/16) e0/\(1:aV)<=(M:aV)-(m:aV)/\(0:aV)<=(m:aV)/\(M:aV)<=16:=by
 have hR:(1:aV)<=(M:aV)-(m:aV):=by
  have:=p7 (show m+1<=M by exact q51 eY);rw[dg] at this;have z:((1:aE):aV)=1:=rfl
  grind
 have m0:(0:aV)<=(m:aV):=p7 (show 0<=m by exact aby ha hb hd hm);have M1:(M:aV)<=16:=p7 (show M<=16 by exact q93 ha hb hd hM);exact⟨Ap.sub (tZ (Vc ha hb hd hM:)) (tZ (q94 ha hb hd hm:)) ∅ ∅ (ani hR:) (am6 m0 M1:),hR,m0,M1⟩
theorem AY{x:aE}(hx:m<=x/\x<=M){w:aV}(hw:w*((M:aV)-(m:aV))=(x:aV)-(m:aV))(w0:0<=w)(w1:w<=1):Ap (bk (aL (fl M) (fl x)) (aL (fl M) (fl m))) (1-w) e1:=by refine oS (xA ha hb hd hM hm eY) λr hR m0 M1=>?_;have x0:=p7 hx.1;have x1:=p7 hx.2;have s:Ap (aL (fl M) (fl x)) ((M:aV)/16-(x:aV)/16) e0:=Ap.sub (tZ (Vc ha hb hd hM:)) (tZ (abB ha hb hd hM hm hx:)) ∅ ∅ (anL x1:) (anW m0 M1 x0:);refine Ap.div 1 (1/17) s r ?_ (Pa w1:) (Ia w0:) ∅ ∅ (ZS hR:) ∅ ∅ ∅ ∅;exact aor hw
theorem Rm:∃n p k,WK a b d M m n p (lQ (bk (NG K2 K4 (fl a) (fl b) (fl d) (fl M) (aL (fl M) (fl m))) K6)) k:=by
 refine oS (xA ha hb hd hM hm eY) λr hR m0 M1=>?_;refine js (VC (a:=a) (m:=m) (M:=M) (abt hm:) (q87 hM:) eY) λwa a1 a2 a3=>?_;refine js (VC (a:=b) (m:=m) (M:=M) (abu hm:) (q88 hM:) eY) λwb b1 b2 b3=>?_;refine js (VC (a:=d) (m:=m) (M:=M) (abv hm:) (abw hM:) eY) λwd d1 d2 d3=>?_;have one:∀{w:aV}{x:aE},w*((M:aV)-(m:aV))=(x:aV)-(m:aV)->x=M->w=1:=λ{w x} e q=>w_is hR (by rw[e,q];grind);have zero:∀{w:aV}{x:aE},w*((M:aV)-(m:aV))=(x:aV)-(m:aV)->x=m->w=0:=λ{w x} e q=>w_is hR (by rw[e,q];exact gW (anM) (aeD));refine uq (Xe (r:=fl a) (g:=fl b) (b:=fl d) (mx:=fl M) (rg:=aL (fl M) (fl m)) (AY ha hb hd hM hm eY (q98 hM hm:) a1 a2 a3) (AY ha hb hd hM hm eY (abA hM hm:) b1 b2 b3) (AY ha hb hd hM hm eY (aim hM hm:) d1 d2 d3) a2 a3 b2 b3 d2 d3
  (by
   rcases(show a=m\/b=m\/d=m by exact abx hm) with q|q|q
   ·exact .inl (zero a1 q)
   ·exact .inr (.inl (zero b1 q))
   ·exact .inr (.inr (zero d1 q)))
  (λq=>by rw[Sw (Gq ha:) (Vc ha hb hd hM:)] at q;exact one a1 (cz q))
  (λq=>by rw[Sw (Gq hb:) (Vc ha hb hd hM:)] at q;exact one b1 (cz q))
  (λq q'=>by rw[Sw (by(first|exact Gq ha|exact Gq hb)) (Vc ha hb hd hM:)] at q q';have:=VO q;have:=VO q';exact one d1 (by lia))) λn p A hx=>?_
 refine oS (TA A hx) λf f1 f2 eX=>?_;refine js eX λk k1 k2 k3=>?_;clear eX;exact⟨n,p,k,A.p0,A.p1,A.n5,A.Wc,by rw[A.ta,a1],by rw[A.tb,b1],by rw[A.td,d1],f,f1,f2,k1,k2,k3⟩
end
theorem uf{x:aW}{c:aE}(hx:Fi x)(hc:0<=c/\c<=16)(h1:(c:aV)-2/5<=16*rv x)(h2:16*rv x<=(c:aV)+2/5):wk x c:=by obtain⟨n,rfl⟩:∃n:ah,c=(n:aE):=⟨c.toNat,by exact q45 hc⟩;rw[du] at h1 h2;exact Qs hx (abN hc:) (aml h1:) (amJ h2:)
theorem FT(a b d:aE):(⟨a,b,d⟩:l9).ends=min (min a b) d+max (max a b) d:=by unfold l9.ends;simp only;rw[Wo,Wn]
end fG
namespace fG
open PySem PySem.W
open PySem.Float64 (val Right V dist sgn decode)
theorem YA{s:aW}(h:Fi s)(h0:0<rv s):(bQ s 0==aa cZ)=false:=by have hv:=GC h0;obtain⟨a,m,e,h⟩:=h;obtain⟨b,k,f,g⟩:=fi0;rw[lz h g,PB,jR.mpr hv];rfl
theorem ahW:Ap (cu 1) 1 0:=iy ∅ ∅ ∅
theorem W5:(bQ 0 0==aa cZ)=true:=∅
theorem Cy{M m:aE}(hM:0<=M/\M<=16)(hm:0<=m/\m<=16):Ap (bP (fl M) (fl m)) ((M:aV)/16+(m:aV)/16) e0/\Ap (bk (bP (fl M) (fl m)) K2) (((M:aV)+(m:aV))/32) (2*e0)/\Ap (aL (cu 1) (bk (bP (fl M) (fl m)) K2)) (1-((M:aV)+(m:aV))/32) (3*e0):=by have m0:(0:aV)<=(m:aV):=p7 hm.1;have m1:(m:aV)<=16:=p7 hm.2;have M0:(0:aV)<=(M:aV):=p7 hM.1;have M1:(M:aV)<=16:=p7 hM.2;have s:Ap (bP (fl M) (fl m)) ((M:aV)/16+(m:aV)/16) e0:=Ap.add (tZ hM) (tZ hm) ∅ ∅ (am2 m0 M0:) (anK m1 M1:);have d:Ap (bk (bP (fl M) (fl m)) K2) (((M:aV)+(m:aV))/32) (2*e0):=Ap.div 1 1 s Oa (gW (aaa) (Ux):) (am1 m0 M0:) (anJ m1 M1:) ∅ ∅ ∅ ∅ ∅ ∅ ∅;exact⟨s,d,Ap.sub ahW d ∅ ∅ (anI m1 M1:) (am3 m0 M0:)⟩
theorem RP{X Y:aV}(h1:1<=X)(h2:X<=Y)(h3:Y<=32):∃S:aV,S*Y=X/\1/32<=S/\S<=1:=by
 have e:X/Y*Y=X:=uB (anl h1 h2:);refine⟨X/Y,e,?_,?_⟩
 ·refine bb (c:=Y) ?_ (aew h1 h2:)
  rw[e];exact ank h1 h3
 ·refine bb (c:=Y) ?_ (aew h1 h2:)
  rw[e];exact adh h2
section
variable{a b d M m:aE}(ha:0<=a/\a<=16)(hb:0<=b/\b<=16)(hd:0<=d/\d<=16)(hM:M=max (max a b) d)(hm:m=min (min a b) d)(eY:m<M)
include ha hb hd hM hm eY
theorem Gv:Ap (aL (aL K2 (fl M)) (fl m)) (2-(M:aV)/16-(m:aV)/16) (2*e0):=by refine oS (xA ha hb hd hM hm eY) λr hR m0 M1=>?_;have s:Ap (aL K2 (fl M)) (2-(M:aV)/16) e0:=Ap.sub Oa (tZ (Vc ha hb hd hM:)) ∅ ∅ (amE M1:) (ane hR m0:);exact Ap.sub s (tZ (q94 ha hb hd hm:)) ∅ ∅ (ang hR M1:) (anc hR m0:)
theorem Vq:∃S:aV,Ap (Ih K2 KH (fl M) (fl m)) S e1/\1/32<=S/\S<=1/\((M+m<=16/\S*((M:aV)+(m:aV))=(M:aV)-(m:aV))\/(16<=M+m/\S*(32-(M:aV)-(m:aV))=(M:aV)-(m:aV))):=by
 refine oS (xA ha hb hd hM hm eY) λr hR m0 M1=>?_;refine fD (Cy (M:=M) (m:=m) (Vc ha hb hd hM:) (q94 ha hb hd hm:)) λs l _=>?_;have rs:=Gv ha hb hd hM hm eY;refine fD TS λfh h1 h2=>?_;unfold Ih;by_cases q:KA (bk (bP (fl M) (fl m)) K2) KH=true
 ·rw[aP q]
  have q:=(AO l.1 fh).mp q;refine fD l λf l1 l2=>?_;clear l;have hle:M+m<17:=by rw[<-dz,dg];have z:((17:aE):aV)=17:=rfl;rw[z];exact aaO h2 q l1
  refine js (RP (X:=(M:aV)-(m:aV)) (Y:=(M:aV)+(m:aV)) hR (am8 m0:) (anh hR M1:)) λS S1 S2 S3=>?_;refine⟨S,Ap.div 1 (1/17) r s (an8 S1:) (A8 S2:) (by grind) ∅ ∅ (ZQ hR m0:) ∅ ∅ ∅ ∅,S2,S3,.inl ⟨by exact q50 hle,S1⟩⟩
 ·rw[aZ q]
  have q:=KC l.1 fh q;refine fD l λf l1 l2=>?_;clear l;have hle:15<M+m:=by rw[<-dz,dg];have z:((15:aE):aV)=15:=rfl;rw[z];exact aaJ h1 q l2
  refine js (RP (X:=(M:aV)-(m:aV)) (Y:=32-(M:aV)-(m:aV)) hR (anB M1:) (anf hR m0:)) λS S1 S2 S3=>?_;refine⟨S,Ap.div 1 (1/17) r rs (an7 S1:) (A8 S2:) (by grind) ∅ ∅ (ZR hR M1:) ∅ ∅ ∅ ∅,S2,S3,.inr ⟨by exact q48 hle,S1⟩⟩
theorem Yt{l s:aW}{S:aV}(hl:Ap l (1-((M:aV)+(m:aV))/32) (3*e0))(hs:Ap s S e1)(S0:1/32<=S)(S1:S<=1)(hS:(M+m<=16/\S*((M:aV)+(m:aV))=(M:aV)-(m:aV))\/(16<=M+m/\S*(32-(M:aV)-(m:aV))=(M:aV)-(m:aV))):
  Ap (ME K1 KH l s) (1-(m:aV)/16) (5*e1)/\Ap (QL K1 K2 KH l s) (1-(M:aV)/16) e3:=by
 refine oS (xA ha hb hd hM hm eY) λr hR m0 M1=>?_;refine fD TS λfh h1 h2=>?_;have key:Ap (ME K1 KH l s) (1-(m:aV)/16) (5*e1):=by
  unfold ME;by_cases q:KA l KH=true
  ·rw[aP q]
   have q:=(AO hl.1 fh).mp q;have l1:=hl.2.1;have l2:=hl.2.2;have hle:15<M+m:=by rw[<-dz,dg];have z:((15:aE):aV)=15:=rfl;rw[z];exact aaP h2 q l1
   have Qx:S*(32-(M:aV)-(m:aV))=(M:aV)-(m:aV):=by
    rcases hS with⟨u,v⟩|⟨u,v⟩
    ·have:M+m=16:=by exact q47 hle u
     have:(M:aV)+(m:aV)=16:=by rw[<-dg,this];rfl
     rw[show 32-(M:aV)-(m:aV)=(M:aV)+(m:aV) by exact gW (aey this) (Q9 this)];exact v
    ·exact v
   have s1:=Ap.add (g:=2*e1) Kh hs ∅ ∅ (amu S0:) (amC S1:);have x:=Ap.mul (g:=3*e1) 1 2 hl s1 (Gm hR M1:) (Pe hR m0:) (amv S0:) (amD S1:) ∅ ∅ ∅;have e:(1-((M:aV)+(m:aV))/32)*(1+S)=1-(m:aV)/16:=by exact aoh Qx
   rw[e] at x;exact x.to (Zo:) (Zl:)
  ·rw[aZ q]
   have q:=KC hl.1 fh q;have l1:=hl.2.1;have l2:=hl.2.2;have hle:M+m<17:=by rw[<-dz,dg];have z:((17:aE):aV)=17:=rfl;rw[z];exact aaI h1 q l2
   have Qx:S*((M:aV)+(m:aV))=(M:aV)-(m:aV):=by
    rcases hS with⟨u,v⟩|⟨u,v⟩
    ·exact v
    ·have:M+m=16:=by exact q49 hle u
     have:(M:aV)+(m:aV)=16:=by rw[<-dg,this];rfl
     rw[<-show 32-(M:aV)-(m:aV)=(M:aV)+(m:aV) by exact gW (aey this) (Q9 this)];exact v
   have x:=Ap.mul (g:=2*e1) 1 1 hl hs (Gm hR M1:) (Pe hR m0:) (A8 S0:) (by grind) ∅ ∅ ∅;have s1:=Ap.add (g:=2*e1) hl hs ∅ ∅ (anY S0 hR M1:) (aoj S1 hR m0:);have b:=k8 (p:=1-((M:aV)+(m:aV))/32) (P:=1) (q:=S) (Q:=1) (Gm hR M1:) (Pe hR m0:) (A8 S0:) (by grind);have y:=Ap.sub (g:=5*e1) s1 x ∅ ∅ (anZ hR M1 Qx:) (anV m0 Qx:);have e:(1-((M:aV)+(m:aV))/32)+S-(1-((M:aV)+(m:aV))/32)*S=1-(m:aV)/16:=by grind
   rw[e] at y;exact y
 refine⟨key,?_⟩;unfold QL;have x:=Ap.mul (g:=e1) 2 1 Oa hl (q0:) (q10:) (Gm hR M1:) (Pe hR m0:) ∅ ∅ ∅;have y:=Ap.sub (g:=7*e1) x key ∅ ∅ (anA M1:) (anb hR m0:);exact y.to (aac:) (Z9:)
end
theorem JC{A m M T v:aV}(ta:T*(M-m)=A-m)(h:-(1/100000)<=v-((1-M/16)+((1-m/16)-(1-M/16))*T)):A+16-(m+M)-2/5<=16*v:=by grind
theorem JD{A m M T v:aV}(ta:T*(M-m)=A-m)(h:v-((1-M/16)+((1-m/16)-(1-M/16))*T)<=1/100000):16*v<=A+16-(m+M)+2/5:=by grind
theorem afi(fig:aE)(t:l9)(h:t.inR)(sns:af aE):∃h l s x y z,(∀H,zf sns [.bO (fl t.a),.bO (fl t.b),.bO (fl t.d)] H=aa (.ref H.length,H++[.tup [.bO h,.bO l,.bO s]]))/\
  (∀H,wB sns [.bO h,.bO (aL (cu 1) l),.bO s] H=aa (.ref H.length,H++[.tup [.bO x,.bO y,.bO z]]))/\GO x y z (mM 2 fig t):=by
 have Bt:=xQ (kind:=2) (fig:=fig) h;refine fD h λha hb hd=>?_;clear h;obtain⟨a,b,d⟩:=t;simp only at ha hb hd;unfold mM at Bt⊢;rw[aZ (by decide),aP rfl,FT] at Bt⊢;have bM:=QP ha hb hd;have bm:=QQ ha hb hd;generalize hM:max (max a b) d=M at *;generalize hm:min (min a b) d=m at *;refine fD Bt λi1 i2 i3=>?_;clear Bt;simp only at i1 i2 i3;have rM:0<=M/\M<=16:=by exact q95 ha hb hd hM
 have rm:0<=m/\m<=16:=by exact q96 ha hb hd hm
 refine fD (Cy rM rm) λla lb lc=>?_;have cs:∀x:aE,((x+16-(m+M):aE):aV)=(x:aV)+16-((m:aV)+(M:aV)):=λx=>by rw[eW,dg,dg];rfl
 by_cases eY:m<M
 ·refine Li (Rm ha hb hd hM.symm hm.symm eY) λn p k W=>?_
  refine lT (Vq ha hb hd hM.symm hm.symm eY) λS sa S0 S1 hS=>?_;refine oS (xA ha hb hd hM.symm hm.symm eY) λr hR m0 M1=>?_;have rs:=Gv ha hb hd hM.symm hm.symm eY;refine dQ (Yt ha hb hd hM.symm hm.symm eY lc sa S0 S1 hS) λx2 x1=>?_;have x2:Ap _ (1-(m:aV)/16) e3:=x2.to (Zn:) (Zk:);have sp:0<rv (Ih K2 KH (fl M) (fl m)):=by have:=sa.2.1;exact Q1 S0 this
  refine⟨_,_,_,_,_,_,λH=>Ve sns bM bm H rfl rfl rfl rfl rfl z1 z2 z6 (by rw[Sw rm rM,dO (q54 eY:)]) (CF la.1 (by have:=la.2.1;exact aak hR m0 this)) (λ_=>CF rs.1 (by have:=rs.2.1;grind)) (CF r.1 (by have:=r.2.1;exact Q2 hR this)),λH=>T9 sns _ _ _ H (YA sa.1 sp),?_⟩;have e3h:(lQ (bk (NG K2 K4 (fl a) (fl b) (fl d) (fl M) (aL (fl M) (fl m))) K6))=(jN (bk (NG 4611686018427387904 4616189618054758400 (fl a) (fl b) (fl d) (fl M) (aL (fl M) (fl m))) 4618441417868443648) 4607182418800017408).snd:=rfl;rw[<-e3h];generalize lQ (bk (NG K2 K4 (fl a) (fl b) (fl d) (fl M) (aL (fl M) (fl m))) K6)=hu at *;have hh:Ap hu (rv hu) 0:=⟨W.fi,by exact Pb,by exact Pc⟩;have w0:=W.h0;have w1:=W.h1;have wl1:=W.l1;have wl2:=W.l2;have hp:=Ap.add (g:=2*e0) hh Ya ∅ ∅ (Y9 w0:) (Zf w1:);have hq:=Ap.sub (g:=2*e0) hh Ya ∅ ∅ (Za w0:) (Zg w1:);have n2:((n+2:ah):aV)=(n:aV)+2:=rz n;have n5:=W.n5;obtain⟨N,hN⟩:∃N,n=N+2:=⟨n-2,by exact abP n5⟩;have n2':(n:aV)=(N:aV)+2:=by rw[hN];exact rz N
  have va:=VA x1 x2 (U1 M1:) (U6 hR:) (UZ m0:) hp.1 W.p0 W.p1 (c:=k) (N:=n+2) (aj0 hN:) (by have:=hp.2.1;rw[n2];exact Zx wl1 this) (by have:=hp.2.2;rw[n2];exact Zw wl2 this);have vb:=VA x1 x2 (U1 M1:) (U6 hR:) (UZ m0:) hh.1 W.p0 W.p1 (c:=k) (N:=n) (aiG n5:) (Zv wl1:) (Zu wl2:);have vd:=VA x1 x2 (U1 M1:) (U6 hR:) (UZ m0:) hq.1 W.p0 W.p1 (c:=k) (N:=N) (ajH n5 hN:) (by have:=hq.2.1;exact Zz wl1 n2' this) (by have:=hq.2.2;exact Zy wl2 n2' this);rw[Fv (show(n+2+4) % 6=n % 6 from Nat.add_mod_right n 6)] at va;rw[Fv (show(N+4) % 6=(n+2) % 6 by exact akh hN)] at vd;have ta:=W.ta;have tb:=W.tb;have td:=W.td;refine⟨?_,?_,?_⟩
  ·exact uf va.1 i1 (by rw[cs];exact JC ta va.2.1) (by rw[cs];exact JD ta va.2.2)
  ·exact uf vb.1 i2 (by rw[cs];exact JC tb vb.2.1) (by rw[cs];exact JD tb vb.2.2)
  ·exact uf vd.1 i3 (by rw[cs];exact JC td vd.2.1) (by rw[cs];exact JD td vd.2.2)
 ·have:a=M/\b=M/\d=M/\m=M:=by exact YS hM hm eY
  refine oS this λJ3 J4 Ts Tt=>?_;clear this;subst J3;subst J4;subst Ts;subst Tt;refine⟨_,_,_,_,_,_,λH=>LG sns bM bm H rfl z2 (by rw[Sw rm rM,cM rfl]),λH=>Kv sns _ _ _ H rfl W5,?_⟩;have l1:=lc.2.1;have l2:=lc.2.2;have q:=uf lc.1 i1 (by rw[cs];grind) (by rw[cs];grind);exact⟨q,q,q⟩
theorem DB(n:ah)(p:aV):T (n+3) p=1-T n p:=by
 rcases six n with q|q|q|q|q|q
 ·rw[T0 q,T3 (um q:)];exact q5
 ·rw[T1 q,T4 (by lia)];exact gW (amI) (aes)
 ·rw[T2 q,T5 (um q:)];grind
 ·rw[T3 q,T0 (um q:)];grind
 ·rw[T4 q,T1 (um q:)]
 ·rw[T5 q,T2 (um q:)];exact q5
noncomputable def On(t:l9)(M m:aE)(n:ah)(p:aV):Prop:=T n p*((M:aV)-(m:aV))=(t.a:aV)-(m:aV)/\T (n+4) p*((M:aV)-(m:aV))=(t.b:aV)-(m:aV)/\T (n+2) p*((M:aV)-(m:aV))=(t.d:aV)-(m:aV)
theorem On.Vh{t:l9}{M m:aE}{n:ah}{p:aV}(h:On t M m n p):On (Vh (m+M) t) M m (n+1) p:=by
 refine fD h λh1 h2 h3=>?_;clear h;unfold fG.Vh;refine⟨?_,?_,?_⟩
 ·have:=DB (n+1) p
  rw[show n+1+3=n+4 by exact ajp] at this;simp only[eW,dg];exact aoH h2 this
 ·have:=DB (n+2) p
  rw[show n+2+3=n+1+4 by exact ajr] at this;simp only[eW,dg];exact aeU h3 this
 ·have:=DB n p
  rw[show n+3=n+1+2 by exact abW] at this;simp only[eW,dg];exact aeU h1 this
theorem On.nS{t:l9}{M m:aE}{n:ah}{p:aV}(h:On t M m n p):∀k,On (nS (m+M) k t) M m (n+k) p
 |0=>h
 |k+1=>by have:=(On.nS h k).Vh;rw[show n+(k+1)=n+k+1 by exact ad1];exact this
theorem B5:∀(N:ah)(x:aV),0<=x->x<(N:aV)->∃i:ah,i<N/\(i:aV)<=x/\x<(i:aV)+1
 |0,x,h1,h2=>by have:((0:ah):aV)=0:=rfl;rw[this] at h2;grind
 |N+1,x,h1,h2=>by
  by_cases q:x<(N:aV)
  ·refine cv (B5 N x h1 q) λi a b=>?_
   exact⟨i,by exact HZ a,b⟩
  ·rw[xo] at h2
   exact⟨N,by exact HV,iX.mp q,h2⟩
theorem aia:∀i:Fin 13,jX (cu ((i.val:ah):aE))=true/\dD (cu ((i.val:ah):aE))=false/\rv (cu ((i.val:ah):aE))=((i.val:ah):aV):=∅
theorem Pw:∀k:Fin 5,jX (mQ (1+(k.val:ah):aE) 6)=true/\ -e0<=rv (mQ (1+(k.val:ah):aE) 6)-(1+((k.val:ah):aV))/6/\rv (mQ (1+(k.val:ah):aE) 6)-(1+((k.val:ah):aV))/6<=e0:=∅
theorem EG{n:ah}{v p q t:aW}{V S F:aV}(hv:Ap v V 0)(hp:Ap p (V*(1-S)) e3)(hq:Ap q (V*(1-S*F)) e3)(ht:Ap t (V*(1-S*(1-F))) e3):Ap (sel n v p q t) (V*(1-S*(1-T n F))) e3:=by
 unfold sel;have IC:Ap v V e3:=hv.to (Zm:) (Zp:);rcases six n with k|k|k|k|k|k
 ·rw[aP k,T0 k];exact IC.to (aeH:) (aeK:)
 ·rw[aZ (aiI k:),aP k,T1 k];exact hq.to (aoy:) (aoz:)
 ·rw[aZ (aiJ k:),aZ (aiK k:),aP k,T2 k];exact hp.to (aeG:) (aeI:)
 ·rw[aZ (aiL k:),aZ (abR k:),aZ (aiM k:),aP k,T3 k];exact hp.to (aeG:) (aeI:)
 ·rw[aZ (aiN k:),aZ (aiO k:),aZ (aiP k:),aZ (aiQ k:),aP k,T4 k];exact ht
 ·rw[aZ (aiR k:),aZ (aiS k:),aZ (aiT k:),aZ (aiU k:),aZ (abS k:),T5 k];exact IC.to (aeH:) (aeK:)
theorem Sb{x:aW}{M m c:aE}{S w u:aV}(hx:Ap x ((M:aV)/16*(1-S*(1-w))) e3)(hS:S*(M:aV)=(M:aV)-(m:aV))(R1:(M:aV)-(m:aV)<=16)(R0:0<=(M:aV)-(m:aV))(w1:-(3*e4)<=w-u)(w2:w-u<=3*e4)(hc:u*((M:aV)-(m:aV))=(c:aV)-(m:aV))(Bt:0<=c/\c<=16):wk x c:=by
 have e:16*((M:aV)/16*(1-S*(1-w)))=(m:aV)+((M:aV)-(m:aV))*w:=by grind
 have b:=k8 (p:=(M:aV)-(m:aV)) (P:=16) (q:=w-u) (Q:=3*e4) (amY R0:) R1 w1 w2;refine fD hx λf h1 h2=>?_;clear hx;generalize(M:aV)/16*(1-S*(1-w))=X at *;have z:((M:aV)-(m:aV))*w-((c:aV)-(m:aV))=((M:aV)-(m:aV))*(w-u):=by exact aoG hc
 generalize((M:aV)-(m:aV))*(w-u)=y at *;generalize((M:aV)-(m:aV))*w=y' at *;clear hS hc;exact uf f Bt (aaQ h1 b.1 e z:) (aaR h2 b.2 e z:)
theorem afh(fig:aE)(t:l9)(h:t.inR)(sns:af aE):∃h s v x y z,(∀H,ze sns [.bO (fl t.a),.bO (fl t.b),.bO (fl t.d)] H=aa (.ref H.length,H++[.tup [.bO h,.bO s,.bO v]]))/\
  (∀H,wA sns [.bO (bP h (mQ (1+(fig.fdiv 1200).fmod 5) 6)),.bO s,.bO v] H=aa (.ref H.length,H++[.tup [.bO x,.bO y,.bO z]]))/\GO x y z (mM 1 fig t):=by
 have Bt:=xQ (kind:=1) (fig:=fig) h;refine fD h λha hb hd=>?_;clear h;obtain⟨a,b,d⟩:=t;simp only at ha hb hd;unfold mM at Bt⊢;rw[aP rfl,FT] at Bt⊢;have bM:=QP ha hb hd;have bm:=QQ ha hb hd;generalize hM:max (max a b) d=M at *;generalize hm:min (min a b) d=m at *;have rM:0<=M/\M<=16:=by exact q95 ha hb hd hM
 have rm:0<=m/\m<=16:=by exact q96 ha hb hd hm
 have hk0:0<=(fig.fdiv 1200).fmod 5:=dw _ (by decide);have hk5:(fig.fdiv 1200).fmod 5<5:=eU _ (by decide);obtain⟨j,hj⟩:∃j:ah,(fig.fdiv 1200).fmod 5=(j:aE):=⟨((fig.fdiv 1200).fmod 5).toNat,(n4 (dw _ (by decide))).symm⟩;rw[hj] at hk0 hk5 Bt⊢;rw[show((1+(j:aE)).toNat)=1+j by exact aje] at Bt⊢;have j5:j<5:=by exact aiH hk5
 by_cases eY:m<M
 ·refine Li (Rm ha hb hd hM.symm hm.symm eY) λn p k W=>?_
  refine oS (xA ha hb hd hM.symm hm.symm eY) λr hR m0 M1=>?_;have on:On ⟨a,b,d⟩ M m n p:=⟨W.ta,W.tb,W.td⟩;refine fD (on.nS (1+j)) λoa ob od=>?_;refine fD Bt λi1 i2 i3=>?_;clear Bt;generalize nS (m+M) (1+j) ⟨a,b,d⟩=t' at *;refine fD (Pw ⟨j,j5⟩) λff kk1 kk2=>?_;have vj:Ap (mQ (1+(j:aE)) 6) ((1+(j:aV))/6) e0:=⟨tc ff,kk1,kk2⟩;have vM:=tZ rM;refine js (RP (X:=(M:aV)-(m:aV)) (Y:=(M:aV)) hR (am7 m0:) (amG M1:)) λS S1 S2 S3=>?_;have sa:Ap (bk (aL (fl M) (fl m)) (fl M)) S e1:=Ap.div 1 (1/17) r vM (by grind) (A8 S2:) (by grind) ∅ ∅ (ana hR m0:) ∅ ∅ ∅ ∅;have rK:(bQ (fl m) (fl M)==aa cZ)=false:=by rw[Sw rm rM,dO (q54 eY:)]
  have hzr:cG (aL (fl M) (fl m))=false:=CF r.1 (by have:=r.2.1;exact Q2 hR this);have hzM:cG (fl M)=false:=CF vM.1 (by have:=vM.2.1;exact an0 hR m0 this);have hu:X5 (fl a) (fl b) (fl d) (fl M) (aL (fl M) (fl m))=lQ (bk (NG K2 K4 (fl a) (fl b) (fl d) (fl M) (aL (fl M) (fl m))) K6):=rfl;have ok:=λH=>Vd sns bM bm H rK hzM hzr;rw[hu] at ok;generalize lQ (bk (NG K2 K4 (fl a) (fl b) (fl d) (fl M) (aL (fl M) (fl m))) K6)=hx at *;generalize bk (aL (fl M) (fl m)) (fl M)=s at *;have hh:Ap hx (rv hx) 0:=⟨W.fi,by exact Pb,by exact Pc⟩;have w0:=W.h0;have w1:=W.h1;have wl1:=W.l1;have wl2:=W.l2;have j0:(0:aV)<=(j:aV):=gD;have j4:(j:aV)<=4:=vV (show j<=4 by exact abQ hk5);have hp:=Ap.add (g:=2*e0) hh vj ∅ ∅ (Zq w0:) (Zs w1 j4:);generalize FX:bP hx (mQ (1+(j:aE)) 6)=h' at *;have hz:=Ap.mul (g:=e1) 2 6 hp Ob (Zr w0:) (Zt w1 j4:) (q1:) (q11:) ∅ ∅ ∅;refine fD hz λfz z1 z2=>?_;clear hz;refine js (B5 12 (rv (bJ h' K6)) (aae w0 z1:) (by have:((12:ah):aV)=12:=rfl;rw[this];exact aag w1 j4 z2)) λi ib il iu=>?_;refine fD (aia ⟨i,by exact aiZ ib⟩) λi1' i2' i3'=>?_;simp only at i1' i2' i3';have vi:Ap (cu (i:aE)) (i:aV) 0:=⟨tc i1',by rw[i3'];exact ajf,by rw[i3'];exact ajm⟩;have hzz:Ap (bJ h' K6) (rv (bJ h' K6)) 0:=⟨fz,by exact Pb,by exact Pc⟩;refine Li fz λsg mm ee Xw=>?_;clear fz;refine dQ (zB il iu) λt1 t2=>?_;have htr:=CY Xw t1 t2;have hf:=Ap.sub (g:=e0) hzz vi ∅ ∅ (amM il:) (amN iu:);generalize hF:rv (bJ h' K6)-(i:aV)=F at *;have F0:0<=F:=by exact amQ il hF
  have F1:F<=1:=by exact anO iu hF
  have aib:=Ap.sub (g:=2*e1) Kh sa ∅ ∅ (aer S3:) (amx S2:);have V0:(0:aV)<=(M:aV)/16:=by exact am9 hR m0
  have V1:(M:aV)/16<=1:=by exact amF M1
  have pp:=Ap.mul (g:=3*e1) 1 1 vM aib (UY V0:) (Lp V1:) (Pa S3:) (amw S2:) ∅ ∅ ∅;have sf:=Ap.mul (g:=3*e1) 1 1 sa hf (A8 S2:) (by grind) (LC F0:) (by grind) ∅ ∅ ∅;have b1:=k8 (p:=S) (P:=1) (q:=F) (Q:=1) (A8 S2:) (by grind) (LC F0:) (by grind);have osf:=Ap.sub (g:=4*e1) Kh sf ∅ ∅ (anr b1.2:) (ant b1.1:);have qq:=Ap.mul (g:=5*e1) 1 2 vM osf (UY V0:) (Lp V1:) (ans b1.2:) (ZT b1.1:) ∅ ∅ ∅;have onf:=Ap.sub (g:=2*e0) Kh hf ∅ ∅ (aer F1:) (amq F0:);have sf':=Ap.mul (g:=3*e1) 1 1 sa onf (A8 S2:) (by grind) (Pa F1:) (Ia F0:) ∅ ∅ ∅;have b2:=k8 (p:=S) (P:=1) (q:=1-F) (Q:=1) (A8 S2:) (by grind) (Pa F1:) (Ia F0:);have aic:=Ap.sub (g:=4*e1) Kh sf' ∅ ∅ (anm b2.2:) (anp b2.1:);have tt:=Ap.mul (g:=5*e1) 1 2 vM aic (UY V0:) (Lp V1:) (ano b2.2:) (anq b2.1:) ∅ ∅ ∅;have pp':Ap _ _ e3:=pp.to (Y:=(M:aV)/16*(1-S)) (aab:) (aad:);have qq':Ap _ _ e3:=qq.to (Y:=(M:aV)/16*(1-S*F)) (aaD:) (aaG:);have tt':Ap _ _ e3:=tt.to (Y:=(M:aV)/16*(1-S*(1-F))) (aaC:) (aaF:);have sp:0<rv s:=by have:=sa.2.1;exact Q1 S2 this
  refine⟨_,_,_,_,_,_,ok,λH=>(bI (λu=>wA sns [.bO u,.bO s,.bO (fl M)] H) FX).trans (Xh sns h' s (fl M) H rfl rfl rfl (YA sa.1 sp) Xw htr i2' rfl rfl rfl rfl),?_⟩;have tn:∀c,-(3*e4)<=T (i+c) F-T (n+(1+j)+c) p/\T (i+c) F-T (n+(1+j)+c) p<=3*e4:=λc=>by
   have c1:((i+6*k+c:ah):aV)=(i:aV)+6*(k:aV)+(c:aV):=by rw[gh,gh,iL];rfl
   have c2:((n+(1+j)+c:ah):aV)=(n:aV)+(1+(j:aV))+(c:aV):=by rw[gh,gh,gh];rfl
   have:=I3 (i:=i+6*k+c) (N:=n+(1+j)+c) (f:=F) (p:=p) (δ:=e4) (ZA il hF:) (aaf iu hF:) W.p0 W.p1 ∅ ∅ (by rw[c1,c2];exact YZ wl1 z1 hF) (by rw[c1,c2];exact YY wl2 z2 hF);rw[Fv (show(i+6*k+c) % 6=(i+c) % 6 by rw[Nat.add_right_comm,Nat.add_mul_mod_self_left])] at this;exact this
  refine⟨?_,?_,?_⟩
  ·exact Sb (EG (n:=i) vM pp' qq' tt') S1 (U4 m0 M1:) (U5 hR:) (tn 0).1 (tn 0).2 oa i1
  ·exact Sb (EG (n:=i+4) vM pp' qq' tt') S1 (U4 m0 M1:) (U5 hR:) (tn 4).1 (tn 4).2 ob i2
  ·exact Sb (EG (n:=i+2) vM pp' qq' tt') S1 (U4 m0 M1:) (U5 hR:) (tn 2).1 (tn 2).2 od i3
 ·have:a=M/\b=M/\d=M/\m=M:=by exact YS hM hm eY
  refine oS this λJ3 J4 Ts Tt=>?_;clear this;subst J3;subst J4;subst Ts;subst Tt;have gr:∀q,nS (m+m) q ⟨m,m,m⟩=⟨m,m,m⟩:=λq=>by
   induction q with
   |zero=>rfl
   |succ q ih=>unfold nS;rw[ih];unfold Vh;simp only;congr 1<;>exact q39
  have vd:=tZ hd;have v1:=vd.2.1;have v2:=vd.2.2;rw[gr];refine⟨_,_,_,_,_,_,λH=>LF sns bM bm H (by rw[Sw rm rM,cM rfl]),λH=>JO sns _ _ _ H rfl W5,?_⟩;have q:=uf vd.1 hd (by grind) (by grind);exact⟨q,q,q⟩
theorem told(kind fig:aE)(t:l9)(h:t.inR):Told kind fig t (mM kind fig t):=λsns=>⟨λe=>by subst e;exact afh fig t h sns,λe=>by subst e;exact afi fig t h sns,λe=>by subst e;exact afj fig t h sns⟩
theorem plain(ns:af aE)(h:ns.length<=63):∃H',Fs ns [.old] []=aa (.bool true,H'):=Lm told ns h
end fG
namespace fG
open PySem PySem.W PyProof.Rows
set_option maxHeartbeats 0
noncomputable def vals:af (dv×WData):=[(ic "ONE_THIRD",E2 4599676419421066581),(ic "ONE_SIXTH",E2 4595172819793696085),(ic "TWO_THIRD",E2 4604180019048437077)]
noncomputable def loo:af dv:=[ic "_NodeInfo",ic "ONE_THIRD",ic "ONE_SIXTH",ic "TWO_THIRD"]
noncomputable def vw:kp:=view pg [0,2,3,4,5,6,8,9,10,11,12,13,14,15,16,17,19,20,21,22,23,24,25]
theorem left:LeftO PySem.Challenge.rw_mj0284_01.row.prog vw loo (λs=>xlAt vw vals s&&recOk (RowW.records PySem.Challenge.rw_mj0284_01.row.toRowW) s) (λs=>asK.map s.heap.get?) (λw=>(KK w.params).map λp=>aa p.2) 3212:=λw=>()
theorem K8(P:df):eA (KK P) aK (S "law")=aa (aa (.ref 227)):=()
theorem Ky:(PySem.Challenge.rw_mj0284_01).wellSaid=true:=∅
theorem Ja(P:df):asK=(KK P).map (·.1):=rfl
theorem OP:(chainsOk vw&&opensWell PySem.Challenge.rw_mj0284_01.row.prog&&(frees PySem.Challenge.rw_mj0284_01.row.toRowW&&PySem.Challenge.rw_mj0284_01.row.within.isEmpty))=true:=∅
theorem MZ:PySem.Challenge.rw_mj0284_01.row.prog.bare:=⟨rfl,rfl,rfl,rfl,rfl,∅⟩
theorem CN:PySem.Challenge.rw_mj0284_01.row.toRowW.promised:=by w_witness2
end fG
open PySem PySem.W PyProof.Rows
set_option maxHeartbeats 0
open fG
theorem PySem.Challenge.cw_mj0284_01_holds : PySem.Challenge.rw_mj0284_01.Holds := by
 w_on
 refine holds_law Ky λae9=>?_;refine holds_open (q:=vw) (loose:=loo) (XP:=XL vw vals) (YP:=InK KK) left (InK.of Ja) InK.keeps (λs e=>xl_of s (GG.mp e).1) XL.keeps (by rfl) (by rfl) (by rfl) (λs e=>recFacts_of (GG.mp e).2) (by rfl) ae9 OP MZ CN ?hc;intro w apc bC mg mb G Y fa o pm cd doc dV kV ho hd Cd hD hmg hg args vals as ag5 agX hrd hwl Tf;have KX:=kIn_of (e:=Ja) Y;clear hd Cd hD ae9;refine Ground.open G ?_;intro T B D TE TW
 wrow_args ag5 agX hrd hwl Tf
 refine enter_call ?_;rename_i ns hs ao1 hL0 hr V5 as1 as2 a vs as3 hL ra w1 r0 hI hr2 Qy hc2;refine codeAny_mono ?_ (λ_ _ g=>GoodW.toG g);have e1:=mg_of KX T.g (K8 w.params);have e2:mg (S "law")=aa (.ref fa):=hmg;rw[e1] at e2;obtain rfl:(227:aX)=fa:=by cases(e2);rfl
 obtain⟨H',hp⟩:=fG.plain ns (by omega);refine Kw KX T hL hI hp λs' k1 k2 k3=>⟨.inl ⟨.bool true,.bool true,[],rfl,?_,?_,?_,?_⟩,k1,k2,k3.trans hg⟩
 ·exactλ_=>rfl
 ·first|rfl|exact⟨rfl,rfl⟩|constructor|simp[ReadsW]
 ·first|kernel_rfl|decide+kernel
 ·exactλ_=>⟨eB,λ_ h=>nomatch h⟩
